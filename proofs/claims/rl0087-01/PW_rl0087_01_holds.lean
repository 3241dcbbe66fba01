import PyProof.Rows.All
import Flt.RightMore
import Flt.RightSqrt
import KE.KLam
import KE.KSortKey
import KE.KRevSl
import KE.KSetDisp
import Wide.FinOn
import OpenK.AllK
import Wide.All
import PySem.Challenge.RW_rl0087_01
set_option Elab.async false
set_option maxRecDepth 100000
set_option linter.all false
namespace Mine
section
section -- MBase
open PySem PySem.W PySem.Calls PyProof.Rows
noncomputable abbrev prog : Program := PySem.Challenge.pw_rl0087_01
/-- the i-th def of the text -/
noncomputable def fnName (i : Nat) : Str := match prog.main.body[i]? with | some (.FunctionDef n _ _ _ _ _ _ _ _ _) => n | _ => Str.empty
noncomputable def fnBody (i : Nat) : List Stmt := match prog.main.body[i]? with | some (.FunctionDef _ _ b _ _ _ _ _ _ _) => b | _ => []
noncomputable def fnScope (i : Nat) : Scope := match prog.main.body[i]? with | some (.FunctionDef _ _ _ _ _ _ sc _ _ _) => sc | _ => prog.main.scope
noncomputable def fnParams (i : Nat) : Arguments := match prog.main.body[i]? with | some (.FunctionDef _ a _ _ _ _ _ _ _ _) => a | _ => ⟨[], [], none, [], [], none, []⟩
/-- a def of the text stands at an address -/
noncomputable def FnAt (h : Heap) (a : Nat) (i : Nat) : Prop :=
  ∃ o pm cd doc, h.get? a = some o ∧ o.data = .func (docDef (fnName i) (fnParams i) (fnBody i) (fnScope i) pm cd doc) ∧ h.CodeRec cd (fnName i)
theorem FnAt.keeps {h h' : Heap} {a : Nat} {i : Nat} (x : FnAt h a i) (hk : ∀ b o, h.get? b = some o → h'.get? b = some o) : FnAt h' a i := by
  obtain ⟨o, pm, cd, doc, h1, h2, h3⟩ := x; exact ⟨o, pm, cd, doc, hk _ _ h1, h2, h3.keeps hk⟩
theorem alone_name (n : Nat) (x : Str) (p : Pos) : constantsAlone n (.Name x p) = (x == ("__debug__" : Str)) := by cases n <;> rfl
theorem exLt {h : Heap} {a : Nat} {P : Obj → Prop} (x : ∃ o, h.get? a = some o ∧ P o) : a < h.objs.size := by obtain ⟨o, ho, _⟩ := x; exact Heap.lt_size ho
theorem exMv {h h' : Heap} {a : Nat} {P : Obj → Prop} (x : ∃ o, h.get? a = some o ∧ P o) (k : ∀ o, h.get? a = some o → h'.get? a = some o) : ∃ o, h'.get? a = some o ∧ P o := by obtain ⟨o, ho, r⟩ := x; exact ⟨o, k o ho, r⟩
/-- a frame's names as a list -/
noncomputable def lk (l : List (Str × Value)) (x : Str) : Option Value := match l with
  | [] => none
  | (y, v) :: r => if x = y then some v else lk r x
theorem lk_hit {x : Str} {v : Value} {r : List (Str × Value)} : lk ((x, v) :: r) x = some v := by simp [lk]
theorem lk_miss {x y : Str} {v : Value} {r : List (Str × Value)} {u : Option Value} (h : decide (x = y) = false) (e : lk r x = u) : lk ((y, v) :: r) x = u := by
  have : x ≠ y := of_decide_eq_false h
  simp [lk, this, e]
/-- the list with a name set, in its place where it stands already -/
theorem lk_cons (l : List (Str × Value)) (x : Str) (v : Value) : (fun y => if y = x then some v else lk l y) = lk ((x, v) :: l) := by
  funext y; rfl
theorem ifT {P Q : Prop} (h : P) : if true = true then P else Q := by rw [if_pos rfl]; exact h
theorem ifF {P Q : Prop} (h : Q) : if false = true then P else Q := by rw [if_neg (by decide)]; exact h
theorem ifB {b : Bool} {P Q : Prop} (h1 : b = true → P) (h2 : b = false → Q) : if b = true then P else Q := by cases b <;> simp_all
/-- all stays but what X names -/
structure Kp (X : List Nat) (s s' : Shared) : Prop where
  same : ∃ h tk, s' = { s with heap := h, toks := tk }
  keep : ∀ b o, b ∉ X → s.heap.get? b = some o → s'.heap.get? b = some o
theorem Kp.refl {X : List Nat} {s : Shared} : Kp X s s := ⟨⟨s.heap, s.toks, rfl⟩, fun _ _ _ e => e⟩
theorem Kp.trans {X : List Nat} {s s₁ s₂ : Shared} (a : Kp X s s₁) (b : Kp X s₁ s₂) : Kp X s s₂ :=
  ⟨by obtain ⟨h, tk, rfl⟩ := a.same; obtain ⟨h', tk', rfl⟩ := b.same; exact ⟨h', tk', rfl⟩, fun x o hx e => b.keep x o hx (a.keep x o hx e)⟩
theorem Kp.mono {X Y : List Nat} {s s' : Shared} (a : Kp X s s') (h : ∀ x ∈ X, x ∈ Y) : Kp Y s s' := ⟨a.same, fun b o hb e => a.keep b o (fun q => hb (h b q)) e⟩
theorem Kp.tok {X : List Nat} {s s' : Shared} (a : Kp X s s') (n : Nat) : Kp X s { s' with toks := n } :=
  ⟨by obtain ⟨h, tk, rfl⟩ := a.same; exact ⟨h, n, rfl⟩, a.keep⟩
theorem Kp.keeps {s s' : Shared} (a : Kp [] s s') : Keeps s s' := by
  obtain ⟨h, tk, rfl⟩ := a.same
  exact ⟨h, tk, rfl, fun b o e => a.keep b o (by simp) e⟩
theorem Kp.of_keeps {s s' : Shared} (a : Keeps s s') : Kp [] s s' := by
  obtain ⟨h, tk, rfl, k⟩ := a
  exact ⟨⟨h, tk, rfl⟩, fun b o _ e => k b o e⟩
theorem Kp.size {X : List Nat} {s s' : Shared} (a : Kp X s s') {b : Nat} {o : Obj} (hb : b ∉ X) (e : s.heap.get? b = some o) : b < s'.heap.objs.size := Heap.lt_size (a.keep b o hb e)
/-- the frame at hand: its names, what is known of the things made -/
structure Fm (s₀ : Shared) (X : List Nat) (L : Nat) (l : List (Str × Value)) (news : List (Nat × Obj)) (s : Shared) : Prop where
  kp : Kp X s₀ s
  ns : s.heap.Ns L (lk l)
  objs : ∀ p ∈ news, s.heap.get? p.1 = some p.2
  off : ∀ p ∈ news, p.1 ≠ L
section
variable {M : Model} {w : World} {A : Around} {E : Value → Shared → Prop} {s s₀ : Shared} {X : List Nat} {L : Nat} {l : List (Str × Value)} {news : List (Nat × Obj)} {env : Env}
theorem Fm.tok (F : Fm s₀ X L l news s) (n : Nat) : Fm s₀ X L l news { s with toks := n } := ⟨F.kp.tok n, F.ns, F.objs, F.off⟩
theorem Fm.rebase (F : Fm s₀ X L l news s) (Y : List Nat) : Fm s Y L l news s := ⟨.refl, F.ns, F.objs, F.off⟩
theorem Fm.trans {s₁ : Shared} (K : Kp X s₀ s₁) (F : Fm s₁ X L l news s) : Fm s₀ X L l news s := ⟨K.trans F.kp, F.ns, F.objs, F.off⟩
theorem Fm.sub {news' : List (Nat × Obj)} (F : Fm s₀ X L l news s) (h : ∀ p ∈ news', p ∈ news) : Fm s₀ X L l news' s := ⟨F.kp, F.ns, fun p hp => F.objs p (h p hp), fun p hp => F.off p (h p hp)⟩
theorem Fm.tl {p : Nat × Obj} (F : Fm s₀ X L l (p :: news) s) : Fm s₀ X L l news s := F.sub fun _ h => List.mem_cons_of_mem _ h
theorem Fm.wide {Y : List Nat} (F : Fm s₀ X L l news s) (h : ∀ x ∈ X, x ∈ Y) : Fm s₀ Y L l news s := ⟨F.kp.mono h, F.ns, F.objs, F.off⟩
theorem Fm.names {l' : List (Str × Value)} (F : Fm s₀ X L l news s) (h : lk l = lk l') : Fm s₀ X L l' news s := ⟨F.kp, h ▸ F.ns, F.objs, F.off⟩
theorem Fm.more {a : Nat} {o : Obj} (F : Fm s₀ X L l news s) (h : s.heap.get? a = some o) (ha : a ≠ L) : Fm s₀ X L l ((a, o) :: news) s :=
  ⟨F.kp, F.ns, (fun p hp => by rcases List.mem_cons.mp hp with rfl | hp; exact h; exact F.objs p hp), fun p hp => by rcases List.mem_cons.mp hp with rfl | hp; exact ha; exact F.off p hp⟩
/-- after a step that keeps all -/
theorem Fm.kept {s' : Shared} (F : Fm s₀ X L l news s) (k : Keeps s s') : Fm s₀ X L l news s' := by
  obtain ⟨h, tk, rfl, k⟩ := k
  exact ⟨F.kp.trans ⟨⟨h, tk, rfl⟩, fun b o _ e => k b o e⟩, F.ns.keeps k, fun p hp => k _ _ (F.objs p hp), F.off⟩
theorem Fm.keptX {s' : Shared} {Y : List Nat} (F : Fm s₀ X L l news s) (k : Kp Y s s') (hX : ∀ y ∈ Y, y ∈ X) (hL : L ∉ Y) (hn : ∀ p ∈ news, p.1 ∉ Y) : Fm s₀ X L l news s' := by
  refine ⟨F.kp.trans (k.mono hX), ?_, fun p hp => k.keep _ _ (hn p hp) (F.objs p hp), F.off⟩
  obtain ⟨o, es, ep, ho, r⟩ := F.ns
  exact ⟨o, es, ep, k.keep _ _ hL ho, r⟩
theorem Fm.push (F : Fm s₀ X L l news s) (o : Obj) : Fm s₀ X L l news { s with heap := s.heap.push o } :=
  F.kept ⟨_, _, rfl, fun _ _ e => Heap.get?_push_of_some _ e⟩
theorem Fm.lt (F : Fm s₀ X L l news s) : L < s.heap.objs.size := F.ns.lt
theorem Fm.ltN (F : Fm s₀ X L l news s) {p : Nat × Obj} (hp : p ∈ news) : p.1 < s.heap.objs.size := Heap.lt_size (F.objs p hp)
/-- a made thing onto the ledger -/
theorem Fm.pushN (F : Fm s₀ X L l news s) (o : Obj) (hfree : o.isFreed = false) : Fm s₀ X L l ((s.heap.objs.size, o) :: news) { s with heap := s.heap.push o } :=
  (F.push o).more (Heap.get?_push_size _ hfree) (Nat.ne_of_gt F.lt)
theorem Fm.keeps (F : Fm s₀ [] L l news s) : Keeps s₀ s := F.kp.keeps
theorem Fm.of_ns (hn : s.heap.Ns L (lk l)) : Fm s X L l [] s := ⟨.refl, hn, (fun _ h => nomatch h), fun _ h => nomatch h⟩
theorem get_above {h : Heap} {b : Nat} (hb : h.objs.size ≤ b) : h.get? b = none := by
  cases e : h.get? b with
  | none => rfl
  | some o => exact absurd (Heap.lt_size e) (Nat.not_lt.mpr hb)
/-- back at the call: what stood stands -/
theorem Fm.back {sc : Shared} (F : Fm s₀ X L l news s) (k : Keeps sc s₀) (hX : ∀ b ∈ X, sc.heap.get? b = none) : Keeps sc s := by
  obtain ⟨h', tk', rfl, kk⟩ := k
  obtain ⟨h3, tk3, rfl⟩ := F.kp.same
  exact ⟨h3, tk3, rfl, fun b o e => F.kp.keep b o (fun q => by rw [hX b q] at e; cases e) (kk b o e)⟩
theorem ldL {x : Str} {pos : Pos} {v : Value} {Q : Value → Shared → Prop} (F : Fm s₀ X env.locals l news s) (hv : lk l x = some v) (h : Q v s)
    (hl : env.kindOf x = some .local) (hk : env.scope.kind = .function) (hd : (x == ("__debug__" : Str)) = false) : wpAny M A (eval (.Name x pos) env) Q E s := by
  with_reducible exact wpAny_Name (wpAny_loadName_local hk hl F.ns hv h) hd
theorem ldnL {x : Str} {v : Value} {Q : Value → Shared → Prop} (F : Fm s₀ X env.locals l news s) (hv : lk l x = some v) (h : Q v s)
    (hl : env.kindOf x = some .local) (hk : env.scope.kind = .function) : wpAny M A (loadName env x) Q E s := by
  with_reducible exact wpAny_loadName_local hk hl F.ns hv h
/-- a name stored -/
theorem stL {x : Str} {v : Value} {Q : Unit → Shared → Prop} (F : Fm s₀ X env.locals l news s) (hX : env.locals ∈ X)
    (h : ∀ s', Fm s₀ X env.locals ((x, v) :: l) news s' → Kp [env.locals] s s' → Q () s') (hl : env.kindOf x = some .local) (hk : env.scope.kind = .function) : wpAny M A (storeName env x v) Q E s := by
  refine wpAny_storeName_local hl F.ns (fun h' hn' hs => ?_) (by rw [hk]; rfl)
  rw [lk_cons] at hn'
  have k : Kp [env.locals] s { s with heap := h', toks := s.toks + 1 } := ⟨⟨h', _, rfl⟩, fun b o hb e => hs.extBut b o (by simpa using hb) e⟩
  exact h _ ⟨F.kp.trans (k.mono (by simpa using hX)), hn', (fun p hp => hs.extBut _ _ (F.off p hp) (F.objs p hp)), F.off⟩ k
theorem kInt {i : Int} {k : Nat} {pos : Pos} {Q : Value → Shared → Prop} (F : Fm s₀ X L l news s) (h : ∀ t s', Fm s₀ X L l news s' → Q (.int i t) s') : wpAny M A (eval (.Constant (.int i) k pos) env) Q E s := by
  with_reducible exact wpAny_Constant_int (h _ _ (F.tok _))
theorem kStr {x : Str} {k : Nat} {pos : Pos} {Q : Value → Shared → Prop} (F : Fm s₀ X L l news s) (h : ∀ t s', Fm s₀ X L l news s' → Q (.str x t) s') : wpAny M A (eval (.Constant (.str x) k pos) env) Q E s := by
  with_reducible exact wpAny_Constant_str (h _ _ (F.tok _))
theorem kFlt {x : UInt64} {k : Nat} {pos : Pos} {Q : Value → Shared → Prop} (F : Fm s₀ X L l news s) (h : ∀ t s', Fm s₀ X L l news s' → Q (.float x t) s') : wpAny M A (eval (.Constant (.float x) k pos) env) Q E s :=
  (fun _ _ _ => h _ _ (F.tok _) : wpAny M A (mkFloat x) Q E s)
end
section
variable {w : World} {A : Around} {E : Value → Shared → Prop} {s s₀ : Shared} {X : List Nat} {L : Nat} {l : List (Str × Value)} {news : List (Nat × Obj)} {Q : Value → Shared → Prop} {a b : Int} {ta tb : Tok}
theorem kAdd (F : Fm s₀ X L l news s) (h : ∀ t s', Fm s₀ X L l news s' → Q (.int (a + b) t) s') : wpAny (model prog w) A (binaryOp .Add (.int a ta) (.int b tb)) Q E s := by with_reducible exact add_int (h _ _ (F.tok _))
theorem iAdd (F : Fm s₀ X L l news s) (h : ∀ t s', Fm s₀ X L l news s' → Q (.int (a + b) t) s') : wpAny (model prog w) A (inplaceOp .Add (.int a ta) (.int b tb)) Q E s := by with_reducible exact PyProof.Rows.iadd_int (h _ _ (F.tok _))
theorem kSub (F : Fm s₀ X L l news s) (h : ∀ t s', Fm s₀ X L l news s' → Q (.int (a - b) t) s') : wpAny (model prog w) A (binaryOp .Sub (.int a ta) (.int b tb)) Q E s := by with_reducible exact sub_int (h _ _ (F.tok _))
theorem iSub (F : Fm s₀ X L l news s) (h : ∀ t s', Fm s₀ X L l news s' → Q (.int (a - b) t) s') : wpAny (model prog w) A (inplaceOp .Sub (.int a ta) (.int b tb)) Q E s := by with_reducible exact PyProof.Rows.isub_int (h _ _ (F.tok _))
theorem kMod (F : Fm s₀ X L l news s) (hb : b ≠ 0) (h : ∀ t s', Fm s₀ X L l news s' → Q (.int (a.fmod b) t) s') : wpAny (model prog w) A (binaryOp .Mod (.int a ta) (.int b tb)) Q E s := by with_reducible exact mod_int' hb (h _ _ (F.tok _))
theorem iMod (F : Fm s₀ X L l news s) (hb : b ≠ 0) (h : ∀ t s', Fm s₀ X L l news s' → Q (.int (a.fmod b) t) s') : wpAny (model prog w) A (inplaceOp .Mod (.int a ta) (.int b tb)) Q E s := by with_reducible exact imod_int hb (h _ _ (F.tok _))
theorem kBitAnd (F : Fm s₀ X L l news s) (h : ∀ t s', Fm s₀ X L l news s' → Q (.int (Builtin.bitAnd a b) t) s') : wpAny (model prog w) A (binaryOp .BitAnd (.int a ta) (.int b tb)) Q E s := by with_reducible exact and_int (h _ _ (F.tok _))
theorem iBitAnd (F : Fm s₀ X L l news s) (h : ∀ t s', Fm s₀ X L l news s' → Q (.int (Builtin.bitAnd a b) t) s') : wpAny (model prog w) A (inplaceOp .BitAnd (.int a ta) (.int b tb)) Q E s := by with_reducible exact iand_int (h _ _ (F.tok _))
theorem kBitOr (F : Fm s₀ X L l news s) (h : ∀ t s', Fm s₀ X L l news s' → Q (.int (Builtin.bitOr a b) t) s') : wpAny (model prog w) A (binaryOp .BitOr (.int a ta) (.int b tb)) Q E s := by with_reducible exact or_int (h _ _ (F.tok _))
theorem iBitOr (F : Fm s₀ X L l news s) (h : ∀ t s', Fm s₀ X L l news s' → Q (.int (Builtin.bitOr a b) t) s') : wpAny (model prog w) A (inplaceOp .BitOr (.int a ta) (.int b tb)) Q E s := by with_reducible exact ior_int (h _ _ (F.tok _))
theorem kMult (F : Fm s₀ X L l news s) (hm : IntMulOk a b) (h : ∀ t s', Fm s₀ X L l news s' → Q (.int (a * b) t) s') : wpAny (model prog w) A (binaryOp .Mult (.int a ta) (.int b tb)) Q E s := by with_reducible exact mul_int (h _ _ (F.tok _)) hm
theorem kFloorDiv (F : Fm s₀ X L l news s) (hb : b ≠ 0) (hp : Builtin.divisionGoesByPylong a b = false) (h : ∀ t s', Fm s₀ X L l news s' → Q (.int (a.fdiv b) t) s') : wpAny (model prog w) A (binaryOp .FloorDiv (.int a ta) (.int b tb)) Q E s := by with_reducible exact floordiv_int hb (h _ _ (F.tok _)) (.inl hp)
theorem kPow (F : Fm s₀ X L l news s) (h0 : 0 ≤ b) (h1 : b ≤ 1000000) (ha : a.natAbs < 2 ^ 64) (h : ∀ t s', Fm s₀ X L l news s' → Q (.int (a ^ b.toNat) t) s') : wpAny (model prog w) A (binaryOp .Pow (.int a ta) (.int b tb)) Q E s := by with_reducible exact pow_int_small h0 h1 ha (h _ _ (F.tok _))
theorem iLShift (F : Fm s₀ X L l news s) (h0 : 0 ≤ b) (h1 : b ≤ 1000) (ha : a.natAbs < 2 ^ 128) (h : ∀ t s', Fm s₀ X L l news s' → Q (.int (a * 2 ^ b.toNat) t) s') : wpAny (model prog w) A (inplaceOp .LShift (.int a ta) (.int b tb)) Q E s :=
  ilshift_int h0 (by have := intBits_le ha; have : (2 : Int) ^ 27 = 134217728 := by decide
                     lia) (h _ _ (F.tok _))
end
end
section -- MLoop
open PySem PySem.W PySem.Calls PyProof.Rows
section
variable {w : World} {A : Around} {E : Value → Shared → Prop} {s s₀ : Shared} {X : List Nat} {L : Nat} {l : List (Str × Value)} {news : List (Nat × Obj)} {env : Env}
/-- what a turn's end must show -/
noncomputable def TurnEnd (s₁ : Shared) (X : List Nat) (L : Nat) (J : List (Str × Value) → List (Nat × Obj) → Prop) (Q : Flow → Shared → Prop) (f : Flow) (s₃ : Shared) : Prop :=
  match f with
  | .next | .cont => ∃ l₂ news₂, Fm s₁ X L l₂ news₂ s₃ ∧ J l₂ news₂
  | .brk => Q .next s₃
  | .ret v => Q (.ret v) s₃
/-- a for by its iterator, from the iterator on -/
theorem forWalk {Q : Flow → Shared → Prop} {target : Expr} {body : List Stmt} {I : Nat} {fp wr : List Nat} {n : Nat} {P : Nat → Value → Prop} {St : Nat → Heap → Prop}
    (W : Walks prog w A I fp wr n P St) (F : Fm s₀ X env.locals l news s) (hst : St 0 s.heap) (hfX : ∀ b ∈ fp, b ∉ X) (hLf : env.locals ∉ fp) (hnew : ∀ b ∈ wr, s₀.heap.get? b = none)
    (J : Nat → List (Str × Value) → List (Nat × Obj) → Prop) (hJn : ∀ i l₁ news₁, J i l₁ news₁ → ∀ p ∈ news₁, p.1 ∉ wr) (h0 : J 0 l news)
    (turn : ∀ i v s₁ l₁ news₁ E', i < n → P i v → J i l₁ news₁ → Fm s₁ X env.locals l₁ news₁ s₁ → Kp X s₀ s₁ → St (i + 1) s₁.heap →
      wpAny (model prog w) A (assign target env v) (fun _ s₂ => wpAny (model prog w) A (execs body env) (TurnEnd s₁ X env.locals (J (i + 1)) Q) E' s₂) E' s₁)
    (done : ∀ l₁ news₁ s₁, J n l₁ news₁ → Fm s₀ X env.locals l₁ news₁ s₁ → Q .next s₁) (ht : ∀ v, letOwnedTupleGo target (.ref I) v = pure ()) {Er : Value → Shared → Prop} :
    codeAny (model prog w) A (.forLoop target (.ref I) body [] env) (fun r s' => match r with | .ok f => Q f s' | .error e => Er e s') s := by
  have hLw : env.locals ∉ wr := fun h => hLf (W.sub _ h)
  refine codeAny_forLoop (fun k s' => ∃ i l₁ news₁, Fm s₀ X env.locals l₁ news₁ s' ∧ J i l₁ news₁ ∧ St i s'.heap ∧ i ≤ n ∧ k = n + 1 - i) ?_ (n + 1)
    ⟨0, l, news, F, h0, hst, Nat.zero_le _, rfl⟩ ht
  rintro k s' ⟨i, l₁, news₁, F₁, hJ, hsti, hi, rfl⟩
  by_cases hlt : i < n
  · refine W.item i _ _ _ hlt hsti fun v h₁ tk₁ hP hst₁ hk₁ => ?_
    have K1 : Kp wr s' { s' with heap := h₁, toks := tk₁ } := ⟨⟨h₁, tk₁, rfl⟩, hk₁⟩
    have F2 : Fm { s' with heap := h₁, toks := tk₁ } X env.locals l₁ news₁ { s' with heap := h₁, toks := tk₁ } := by
      refine ⟨.refl, ?_, (fun p hp => hk₁ _ _ (hJn i l₁ news₁ hJ p hp) (F₁.objs p hp)), F₁.off⟩
      obtain ⟨o, es, ep, ho, r⟩ := F₁.ns
      exact ⟨o, es, ep, hk₁ _ _ hLw ho, r⟩
    have K2 : Kp X s₀ { s' with heap := h₁, toks := tk₁ } := by
      obtain ⟨ha, ta, e⟩ := F₁.kp.same
      refine ⟨⟨h₁, tk₁, by rw [e]⟩, fun b o hb e => hk₁ b o (fun q => ?_) (F₁.kp.keep b o hb e)⟩
      rw [hnew b q] at e; cases e
    refine wpAny_mono (turn i v _ l₁ news₁ _ hlt hP hJ F2 K2 hst₁) (fun _ s₂ h₂ => wpAny_mono h₂ (fun f s₃ h₃ => ?_) fun _ _ e => e) fun _ _ e => e
    have fin : (∃ l₂ news₂, Fm { s' with heap := h₁, toks := tk₁ } X env.locals l₂ news₂ s₃ ∧ J (i + 1) l₂ news₂) → ∃ m, m < n + 1 - i ∧ ∃ i l₁ news₁, Fm s₀ X env.locals l₁ news₁ s₃ ∧ J i l₁ news₁ ∧ St i s₃.heap ∧ i ≤ n ∧ m = n + 1 - i := by
      rintro ⟨l₂, news₂, F3, hJ3⟩
      refine ⟨n + 1 - (i + 1), by lia, i + 1, l₂, news₂, F3.trans K2, hJ3, ?_, hlt, rfl⟩
      exact W.frame _ _ _ hst₁ fun b hb o e => F3.kp.keep b o (hfX b hb) e
    cases f with
    | next => exact fin h₃
    | cont => exact fin h₃
    | brk => exact h₃
    | ret v => exact h₃
  · have hin : i = n := by lia
    subst hin
    refine W.done _ _ _ hsti fun h₁ tk₁ hk₁ => wpAny_execs_nil ?_
    refine done l₁ news₁ _ hJ ⟨?_, ?_, (fun p hp => hk₁ _ _ (hJn i l₁ news₁ hJ p hp) (F₁.objs p hp)), F₁.off⟩
    · obtain ⟨ha, ta, e⟩ := F₁.kp.same
      refine ⟨⟨h₁, tk₁, by rw [e]⟩, fun b o hb e => hk₁ b o (fun q => ?_) (F₁.kp.keep b o hb e)⟩
      rw [hnew b q] at e; cases e
    · obtain ⟨o, es, ep, ho, r⟩ := F₁.ns
      exact ⟨o, es, ep, hk₁ _ _ hLw ho, r⟩
/-- the same, the target a name -/
theorem forWalkN {Q : Flow → Shared → Prop} {x : Str} {px : Pos} {body : List Stmt} {I : Nat} {fp wr : List Nat} {n : Nat} {P : Nat → Value → Prop} {St : Nat → Heap → Prop}
    (W : Walks prog w A I fp wr n P St) (F : Fm s₀ X env.locals l news s) (hst : St 0 s.heap) (hfX : ∀ b ∈ fp, b ∉ X) (hnew : ∀ b ∈ wr, s₀.heap.get? b = none)
    (hLX : env.locals ∈ X)
    (J : Nat → List (Str × Value) → List (Nat × Obj) → Prop) (hJn : ∀ i l₁ news₁, J i l₁ news₁ → ∀ p ∈ news₁, p.1 ∉ wr) (h0 : J 0 l news)
    (turn : ∀ i v s₁ l₁ news₁ E', i < n → P i v → J i l₁ news₁ → Fm s₁ X env.locals ((x, v) :: l₁) news₁ s₁ → Kp X s₀ s₁ →
      wpAny (model prog w) A (execs body env) (TurnEnd s₁ X env.locals (J (i + 1)) Q) E' s₁)
    (done : ∀ l₁ news₁ s₁, J n l₁ news₁ → Fm s₀ X env.locals l₁ news₁ s₁ → Q .next s₁)
    (hl' : env.kindOf x = some .local) (hk : env.scope.kind = .function) {Er : Value → Shared → Prop} :
    codeAny (model prog w) A (.forLoop (.Name x px) (.ref I) body [] env) (fun r s' => match r with | .ok f => Q f s' | .error e => Er e s') s := by
  refine forWalk W F hst hfX (fun h => hfX _ h hLX) hnew J hJn h0 ?_ done (fun _ => rfl)
  intro i v s₁ l₁ news₁ E' hlt' hP hJ F₁ K₁ _
  refine wpAny_assign_Name (stL F₁ hLX (fun s' F2 k2 => ?_) hl' hk)
  have K12 : Kp X s₁ s' := k2.mono (by intro z hz; rw [List.mem_singleton.mp hz]; exact hLX)
  refine wpAny_mono (turn i v s' l₁ news₁ E' hlt' hP hJ (F2.rebase X) (K₁.trans K12)) (fun f s₃ h₃ => ?_) fun _ _ e => e
  cases f with
  | next => obtain ⟨l₂, news₂, a, b⟩ := h₃; exact ⟨l₂, news₂, a.trans K12, b⟩
  | cont => obtain ⟨l₂, news₂, a, b⟩ := h₃; exact ⟨l₂, news₂, a.trans K12, b⟩
  | brk => exact h₃
  | ret v => exact h₃
theorem Fm.sizeNew (F : Fm s₀ X L l news s) (hX : ∀ b ∈ X, b < s.heap.objs.size) : s₀.heap.get? s.heap.objs.size = none := by
  cases e : s₀.heap.get? s.heap.objs.size with
  | none => rfl
  | some o =>
    by_cases q : s.heap.objs.size ∈ X
    · exact absurd (hX _ q) (Nat.lt_irrefl _)
    · exact absurd (Heap.lt_size (F.kp.keep _ _ q e)) (Nat.lt_irrefl _)
theorem Fm.noneAbove (F : Fm s₀ X L l news s) (hX : ∀ b ∈ X, b < s.heap.objs.size) {b : Nat} (hb : s.heap.objs.size ≤ b) : s₀.heap.get? b = none := by
  cases e : s₀.heap.get? b with
  | none => rfl
  | some o =>
    by_cases q : b ∈ X
    · exact absurd (hX _ q) (Nat.not_lt.mpr hb)
    · exact absurd (Heap.lt_size (F.kp.keep _ _ q e)) (Nat.not_lt.mpr hb)
/-- a for over a list, from pyIter on -/
theorem forList {Q : Flow → Shared → Prop} {x : Str} {px : Pos} {body : List Stmt} {a : Nat} {items : Array Value}
    (hh : A.handled = none) (F : Fm s₀ X env.locals l news s) (hl : s.heap.IsList a items) (haX : a ∉ X)
    (hLX : env.locals ∈ X) (hX : ∀ b ∈ X, b < s.heap.objs.size)
    (J : Nat → List (Str × Value) → List (Nat × Obj) → Prop) (hJn : ∀ i l₁ news₁, J i l₁ news₁ → ∀ p ∈ news₁, p.1 < s.heap.objs.size) (h0 : J 0 l news)
    (turn : ∀ i v s₁ l₁ news₁ E', items[i]? = some v → J i l₁ news₁ → Fm s₁ X env.locals ((x, v) :: l₁) news₁ s₁ → Kp X s₀ s₁ →
      wpAny (model prog w) A (execs body env) (TurnEnd s₁ X env.locals (J (i + 1)) Q) E' s₁)
    (done : ∀ l₁ news₁ s₁, J items.size l₁ news₁ → Fm s₀ X env.locals l₁ news₁ s₁ → Q .next s₁)
    (hl' : env.kindOf x = some .local) (hk : env.scope.kind = .function) {Er : Value → Shared → Prop} :
    wpAny (model prog w) A (pyIter (.ref a)) (fun it s₂ => codeAny (model prog w) A (.forLoop (.Name x px) it body [] env) (fun r s' => match r with | .ok f => Q f s' | .error e => Er e s') s₂) E s := by
  refine wpAny_pyIter_list hl ?_
  have hlt : a < s.heap.objs.size := exLt hl
  have F' := F.push (s := s) { cls := .type "list_iterator", data := .fields #[.ref a, .int 0 0] }
  refine forWalkN (l := l) (news := news) (Walks.list hh s.heap.objs.size a (Nat.ne_of_lt hlt) items) F' ⟨⟨_, Heap.get?_push_size _ rfl, rfl, rfl⟩, hl.push _⟩ ?_ ?_ hLX J ?_ h0 (fun i v s₁ l₁ n₁ E' _ => turn i v s₁ l₁ n₁ E') done hl' hk
  · intro b hb hbX
    rcases List.mem_cons.mp hb with rfl | hb
    · exact Nat.lt_irrefl _ (hX _ hbX)
    · rw [List.mem_singleton.mp hb] at hbX; exact haX hbX
  · intro b hb
    rw [List.mem_singleton.mp hb]
    exact F.sizeNew hX
  · intro i l₁ news₁ hJ p hp
    exact fun hw => absurd (hJn i l₁ news₁ hJ p hp) (by rw [List.mem_singleton.mp hw]; exact Nat.lt_irrefl _)
/-- a for over a tuple, from pyIter on -/
theorem forTuple {Q : Flow → Shared → Prop} {x : Str} {px : Pos} {body : List Stmt} {a : Nat} {items : Array Value}
    (hh : A.handled = none) (F : Fm s₀ X env.locals l news s) (hl : s.heap.IsTuple a items) (haX : a ∉ X)
    (hLX : env.locals ∈ X) (hX : ∀ b ∈ X, b < s.heap.objs.size)
    (J : Nat → List (Str × Value) → List (Nat × Obj) → Prop) (hJn : ∀ i l₁ news₁, J i l₁ news₁ → ∀ p ∈ news₁, p.1 < s.heap.objs.size) (h0 : J 0 l news)
    (turn : ∀ i v s₁ l₁ news₁ E', items[i]? = some v → J i l₁ news₁ → Fm s₁ X env.locals ((x, v) :: l₁) news₁ s₁ → Kp X s₀ s₁ →
      wpAny (model prog w) A (execs body env) (TurnEnd s₁ X env.locals (J (i + 1)) Q) E' s₁)
    (done : ∀ l₁ news₁ s₁, J items.size l₁ news₁ → Fm s₀ X env.locals l₁ news₁ s₁ → Q .next s₁)
    (hl' : env.kindOf x = some .local) (hk : env.scope.kind = .function) {Er : Value → Shared → Prop} :
    wpAny (model prog w) A (pyIter (.ref a)) (fun it s₂ => codeAny (model prog w) A (.forLoop (.Name x px) it body [] env) (fun r s' => match r with | .ok f => Q f s' | .error e => Er e s') s₂) E s := by
  refine wpAny_pyIter_tuple hl ?_
  have hlt : a < s.heap.objs.size := exLt hl
  have F' := F.push (s := s) { cls := .type "tuple_iterator", data := .fields #[.ref a, .int 0 0] }
  refine forWalkN (l := l) (news := news) (Walks.tuple hh s.heap.objs.size a (Nat.ne_of_lt hlt) items) F' ⟨⟨_, Heap.get?_push_size _ rfl, rfl, rfl⟩, hl.push _⟩ ?_ ?_ hLX J ?_ h0 (fun i v s₁ l₁ n₁ E' _ => turn i v s₁ l₁ n₁ E') done hl' hk
  · intro b hb hbX
    rcases List.mem_cons.mp hb with rfl | hb
    · exact Nat.lt_irrefl _ (hX _ hbX)
    · rw [List.mem_singleton.mp hb] at hbX; exact haX hbX
  · intro b hb
    rw [List.mem_singleton.mp hb]
    exact F.sizeNew hX
  · intro i l₁ news₁ hJ p hp
    exact fun hw => absurd (hJn i l₁ news₁ hJ p hp) (by rw [List.mem_singleton.mp hw]; exact Nat.lt_irrefl _)
end
end
section -- MCall
open PySem PySem.W PySem.Calls PyProof.Rows
section
variable {w : World} {A : Around} {E : Value → Shared → Prop} {s s₀ : Shared} {X : List Nat} {L : Nat} {l : List (Str × Value)} {news : List (Nat × Obj)} {env : Env}
theorem lookup_lk (l : List (Str × Value)) : (fun x => l.lookup x) = lk l := by
  funext x
  induction l with
  | nil => rfl
  | cons p r ih =>
    obtain ⟨y, v⟩ := p
    simp only [List.lookup_cons, lk]
    by_cases h : x = y
    · subst h; simp
    · simp only [if_neg h, beq_eq_false_iff_ne.mpr h]; exact ih
/-- room for a call -/
structure Room (A : Around) : Prop where
  depth : A.depth < 900
  handled : A.handled = none
  units : A.units + 100 < cLine
/-- a call of one of the text's defs -/
theorem callFn {i : Nat} {a : Nat} {args : List Value} {Q : Value → Shared → Prop} (bs : List (Str × Value)) (hA : A.depth < 900) (hl : s.heap.NoLimit) (hf : FnAt s.heap a i)
    (hbind : ∀ pm cd doc, bindArgs (docDef (fnName i) (fnParams i) (fnBody i) (fnScope i) pm cd doc) ⟨args, []⟩ = pure bs.reverse)
    (hloc : (bs.all fun x => decide ((fnScope i).names.lookup x.1 = some .local)) = true)
    (h : ∀ cd s₁, Keeps s s₁ → s.heap.get? s.heap.objs.size = none → Fm s₁ [s.heap.objs.size] s.heap.objs.size bs [] s₁ →
      wpAny (model prog w) (A.deeper (envOf (fnName i) (fnScope i) s.heap.objs.size a cd)) (execs (fnBody i) (envOf (fnName i) (fnScope i) s.heap.objs.size a cd))
        (fun f s' => Q (match f with | .ret v => v | _ => .none) s') (fun _ _ => False) s₁)
    (hco : (fnScope i).isCoroutine = false) (hgen : (fnScope i).isGenerator = false) (hk : (fnScope i).kind = .function) (hcell : ∀ x ∈ (fnScope i).names, x.2 ≠ .cell) :
    wpAny (model prog w) A (call (.ref a) args) Q E s := by
  obtain ⟨o, pm, cd, doc, h1, h2, h3⟩ := hf
  refine wpAny_call (call_plain_ret (binds := bs.reverse) (by unfold recursionLimit; lia) h1 h2 hl h3 (hbind _ _ _) (fun x hx => of_decide_eq_true (List.all_eq_true.mp hloc x (List.mem_reverse.mp hx))) (fun h₁ Fr0 => ?_) hco hgen hk hcell)
  have hns := Fr0.ns
  rw [List.reverse_reverse, lookup_lk] at hns
  refine wpAny_mono (h cd _ ⟨h₁, s.toks + bs.reverse.length, rfl, Fr0.keep⟩ ?_ (Fm.of_ns hns)) (fun f s' q => ?_) fun _ _ x => x
  · cases e : s.heap.get? s.heap.objs.size with
    | none => rfl
    | some o => exact absurd (Heap.lt_size e) (Nat.lt_irrefl _)
  · cases f <;> exact q
/-- the same, the tokens' count told -/
theorem callFnT {i : Nat} {a : Nat} {args : List Value} {Q : Value → Shared → Prop} (bs : List (Str × Value)) (hA : A.depth < 900) (hl : s.heap.NoLimit) (hf : FnAt s.heap a i)
    (hbind : ∀ pm cd doc, bindArgs (docDef (fnName i) (fnParams i) (fnBody i) (fnScope i) pm cd doc) ⟨args, []⟩ = pure bs.reverse)
    (hloc : (bs.all fun x => decide ((fnScope i).names.lookup x.1 = some .local)) = true)
    (h : ∀ cd s₁, s.toks ≤ s₁.toks → Keeps s s₁ → s.heap.get? s.heap.objs.size = none → Fm s₁ [s.heap.objs.size] s.heap.objs.size bs [] s₁ →
      wpAny (model prog w) (A.deeper (envOf (fnName i) (fnScope i) s.heap.objs.size a cd)) (execs (fnBody i) (envOf (fnName i) (fnScope i) s.heap.objs.size a cd))
        (fun f s' => Q (match f with | .ret v => v | _ => .none) s') (fun _ _ => False) s₁)
    (hco : (fnScope i).isCoroutine = false) (hgen : (fnScope i).isGenerator = false) (hk : (fnScope i).kind = .function) (hcell : ∀ x ∈ (fnScope i).names, x.2 ≠ .cell) :
    wpAny (model prog w) A (call (.ref a) args) Q E s := by
  obtain ⟨o, pm, cd, doc, h1, h2, h3⟩ := hf
  refine wpAny_call (call_plain_ret (binds := bs.reverse) (by unfold recursionLimit; lia) h1 h2 hl h3 (hbind _ _ _) (fun x hx => of_decide_eq_true (List.all_eq_true.mp hloc x (List.mem_reverse.mp hx))) (fun h₁ Fr0 => ?_) hco hgen hk hcell)
  have hns := Fr0.ns
  rw [List.reverse_reverse, lookup_lk] at hns
  refine wpAny_mono (h cd _ (Nat.le_add_right _ _) ⟨h₁, s.toks + bs.reverse.length, rfl, Fr0.keep⟩ ?_ (Fm.of_ns hns)) (fun f s' q => ?_) fun _ _ x => x
  · cases e : s.heap.get? s.heap.objs.size with
    | none => rfl
    | some o => exact absurd (Heap.lt_size e) (Nat.lt_irrefl _)
  · cases f <;> exact q
end
end
section -- MGlob
open PySem PySem.W PySem.Calls PyProof.Rows
/-- the text's own names that the defs read, as the top leaves them -/
noncomputable def ownVals : List (Str × Value) := [(Str.ofString "_parse_varint", .ref 21), (Str.ofString "rgb_to_hsv", .ref 28), (Str.ofString "hsv_to_rgb", .ref 35), (Str.ofString "b1_set", .ref 43), (Str.ofString "in_table_b1", .ref 53), (Str.ofString "b3_exceptions", .ref 54), (Str.ofString "map_table_b3", .ref 99), (Str.ofString "_law_heaps", .ref 106), (Str.ofString "_law_codes", .ref 111), (Str.ofString "_law_typed", .ref 118), (Str.ofString "_law_number", .ref 125), (Str.ofString "_law_paint", .ref 132), (Str.ofString "_law_run", .ref 137)]
/-- the built-in names that they read -/
noncomputable def blts : List (Str × Value) := [(Str.ofString "next", .builtin "next"), (Str.ofString "max", .builtin "max"), (Str.ofString "min", .builtin "min"), (Str.ofString "ord", .builtin "ord"), (Str.ofString "chr", .builtin "chr"), (Str.ofString "len", .builtin "len"), (Str.ofString "iter", .builtin "iter"), (Str.ofString "sorted", .builtin "sorted"), (Str.ofString "int", .type "int"), (Str.ofString "list", .type "list"), (Str.ofString "range", .type "range"), (Str.ofString "enumerate", .type "enumerate"), (Str.ofString "StopIteration", .type "StopIteration")]
/-- the defs: address, place in the text -/
noncomputable def fns : List (Nat × Nat) := [(21, 1), (28, 3), (35, 4), (53, 7), (99, 9), (106, 11), (111, 12), (118, 13), (125, 14), (132, 15), (137, 16)]
noncomputable def FnB (h : Heap) (a : Nat) (i : Nat) : Prop :=
  ∃ o pm c oc vs t doc, a < 138 ∧ c < 138 ∧ h.get? a = some o ∧ o.data = .func (docDef (fnName i) (fnParams i) (fnBody i) (fnScope i) pm (.ref c) doc) ∧ h.get? c = some oc ∧ oc.data = .fields vs ∧ vs[1]? = some (.str (fnName i) t)
structure TopOK (H : Heap) : Prop where
  g : ∃ mg, H.Ns mainGlobals mg ∧ (∀ p ∈ ownVals, mg p.1 = some p.2) ∧ ∀ p ∈ blts, mg p.1 = none
  b : ∃ mb, H.Ns builtinsNs mb ∧ ∀ p ∈ blts, mb p.1 = some p.2
  lim : H.NoLimit
  told : ∃ mc, H.Ns cStatics mc ∧ mc sharingNotToldKey = none
  fn : ∀ p ∈ fns, FnB H p.1 p.2
  last : ∃ o, H.get? 137 = some o
/-- the top's things stand in h -/
structure GL (H h : Heap) : Prop where
  ok : TopOK H
  kp : ∀ b o, b < 138 → H.get? b = some o → h.get? b = some o
section
variable {H h h' : Heap} {M : Model} {w : World} {A : Around} {E : Value → Shared → Prop} {s s₀ s' : Shared} {X : List Nat} {L : Nat} {l : List (Str × Value)} {news : List (Nat × Obj)} {env : Env}
theorem GL.size (G : GL H h) : 138 ≤ h.objs.size := by obtain ⟨_, e⟩ := G.ok.last; exact Heap.lt_size (G.kp _ _ (by decide) e)
theorem GL.keeps (G : GL H h) (k : ∀ b o, h.get? b = some o → h'.get? b = some o) : GL H h' := ⟨G.ok, fun b o hb e => k b o (G.kp b o hb e)⟩
theorem GL.kept (G : GL H s.heap) (k : Keeps s s') : GL H s'.heap := by obtain ⟨h', tk, rfl, k⟩ := k; exact G.keeps k
theorem GL.keptX (G : GL H s.heap) (k : Kp X s s') (hX : ∀ b ∈ X, 138 ≤ b) : GL H s'.heap :=
  ⟨G.ok, fun b o hb e => k.keep b o (fun q => absurd (hX b q) (Nat.not_le.mpr hb)) (G.kp b o hb e)⟩
theorem Ns.low {a : Nat} {m : Str → Option Value} (hn : H.Ns a m) (G : GL H h) (ha : a < 138) : h.Ns a m := by obtain ⟨o, es, ep, ho, r⟩ := hn; exact ⟨o, es, ep, G.kp _ _ ha ho, r⟩
theorem GL.lim (G : GL H h) : h.NoLimit := by obtain ⟨mc, h1, h2⟩ := G.ok.lim; exact ⟨mc, Ns.low h1 G (by decide), h2⟩
theorem GL.told (G : GL H h) : ∃ mc, h.Ns cStatics mc ∧ mc sharingNotToldKey = none := by obtain ⟨mc, h1, h2⟩ := G.ok.told; exact ⟨mc, Ns.low h1 G (by decide), h2⟩
theorem GL.fn (G : GL H h) {a : Nat} {i : Nat} (hm : (a, i) ∈ fns) : FnAt h a i := by
  obtain ⟨o, pm, c, oc, vs, t, doc, h1, h2, h3, h4, h5, h6, h7⟩ := G.ok.fn _ hm
  exact ⟨o, pm, .ref c, doc, G.kp _ _ h1 h3, h4, c, oc, vs, t, rfl, G.kp _ _ h2 h5, h6, h7⟩
/-- a global name of the text -/
theorem ldG {x : Str} {pos : Pos} {v : Value} {Q : Value → Shared → Prop} (G : GL H s₀.heap) (F : Fm s₀ X L l news s) (hX : ∀ b ∈ X, 138 ≤ b) (hm : (x, v) ∈ ownVals) (h : Q v s)
    (hx : env.kindOf x = some .globalImplicit) (hk : env.scope.kind = .function) (hg : env.globals = mainGlobals) (hd : (x == ("__debug__" : Str)) = false) : wpAny M A (eval (.Name x pos) env) Q E s := by
  obtain ⟨mg, h1, h2, _⟩ := G.ok.g
  exact Name_function_global hk hx (loadGlobal_global (by rw [hg]; exact Ns.low h1 (G.keptX F.kp hX) (by decide)) (h2 _ hm) h) hd
/-- a built-in name -/
theorem ldB {x : Str} {pos : Pos} {v : Value} {Q : Value → Shared → Prop} (G : GL H s₀.heap) (F : Fm s₀ X L l news s) (hX : ∀ b ∈ X, 138 ≤ b) (hm : (x, v) ∈ blts) (h : Q v s)
    (hx : env.kindOf x = some .globalImplicit) (hk : env.scope.kind = .function) (hg : env.globals = mainGlobals) (hb : env.builtins = builtinsNs) (hd : (x == ("__debug__" : Str)) = false) : wpAny M A (eval (.Name x pos) env) Q E s := by
  obtain ⟨mg, h1, _, h2⟩ := G.ok.g
  obtain ⟨mb, h3, h4⟩ := G.ok.b
  exact Name_function_global hk hx (loadGlobal_builtin (by rw [hg]; exact Ns.low h1 (G.keptX F.kp hX) (by decide)) (h2 _ hm) (by rw [hb]; exact Ns.low h3 (G.keptX F.kp hX) (by decide)) (h4 _ hm) h) hd
/-- a call of a built-in function -/
theorem callB {p pos : Pos} {x : Str} {id : String} {e : Expr} {args : List Expr} {Q : Value → Shared → Prop}
    (hn : ∀ Q', Q' (.builtin id) s → wpAny M A (eval (.Name x p) env) Q' E s) (hplain : ∃ t rest, backTo pos (starEach (e :: args) env) = (false, t) :: rest ∧ ((false, t) :: rest).any (·.1) = false)
    (h : wpAny M A (spliced (backTo pos (starEach (e :: args) env))) (fun vs s₁ => wpAny M A (call (.builtin id) vs) Q E s₁) E s) : wpAny M A (eval (.Call (.Name x p) (e :: args) [] pos) env) Q E s := by
  obtain ⟨t, rest, e1, e2⟩ := hplain
  rw [e1] at h
  exact Call_Name e1 (hn _ (callWith_builtin e2 (evalArgs_plain h)))
/-- a call of a built-in class -/
theorem callY {p pos : Pos} {x : Str} {T : String} {e : Expr} {args : List Expr} {Q : Value → Shared → Prop}
    (hn : ∀ Q', Q' (.type T) s → wpAny M A (eval (.Name x p) env) Q' E s) (hplain : ∃ t rest, backTo pos (starEach (e :: args) env) = (false, t) :: rest ∧ ((false, t) :: rest).any (·.1) = false)
    (h : wpAny M A (spliced (backTo pos (starEach (e :: args) env))) (fun vs s₁ => wpAny M A (call (.type T) vs) Q E s₁) E s) : wpAny M A (eval (.Call (.Name x p) (e :: args) [] pos) env) Q E s := by
  obtain ⟨t, rest, e1, e2⟩ := hplain
  rw [e1] at h
  exact Call_Name e1 (hn _ (PySem.callWith_type e2 (evalArgs_plain h)))
/-- a call of a def of the text -/
theorem callD {p pos : Pos} {x : Str} {a : Nat} {i : Nat} {e : Expr} {args : List Expr} {Q : Value → Shared → Prop} (G : GL H s₀.heap) (hX : ∀ b ∈ X, 138 ≤ b) (hm : (a, i) ∈ fns)
    (hn : ∀ Q', Q' (.ref a) s → wpAny M A (eval (.Name x p) env) Q' E s) (hplain : ∃ t rest, backTo pos (starEach (e :: args) env) = (false, t) :: rest)
    (h : wpAny M A (spliced (backTo pos (starEach (e :: args) env))) (fun vs s₁ => Kp X s₀ s₁ ∧ wpAny M A (call (.ref a) vs) Q E s₁) E s) : wpAny M A (eval (.Call (.Name x p) (e :: args) [] pos) env) Q E s := by
  obtain ⟨t, rest, e1⟩ := hplain
  rw [e1] at h
  obtain ⟨o, pm, c, oc, vs, tt, doc, h1, h2, h3, h4, h5, h6, h7⟩ := G.ok.fn _ hm
  exact Call_Name e1 (hn _ (callWith_function (o := o) (evalArgs_plain (wpAny_mono h (fun vs s₁ q => ⟨⟨(G.keptX q.1 hX).kp _ _ h1 h3, h4⟩, q.2⟩) fun _ _ x => x))))
end
section
variable {w : World} {A : Around} {E : Value → Shared → Prop} {s s₀ : Shared} {X : List Nat} {L : Nat} {l : List (Str × Value)} {news : List (Nat × Obj)} {Q : Value → Shared → Prop} {a b c : Int} {ta tb tc : Tok}
theorem kMin2 (F : Fm s₀ X L l news s) (hh : A.handled = none) (h : ∀ t s', Fm s₀ X L l news s' → Q (.int (min a b) t) s') : wpAny (model prog w) A (call (.builtin "min") [.int a ta, .int b tb]) Q E s := by
  refine min_two_ints hh fun h' tk k => ?_
  have F' := F.kept ⟨h', tk, rfl, k⟩
  by_cases q : b < a
  · rw [if_pos q, show b = min a b by lia]; exact h _ _ F'
  · rw [if_neg q]; have := h ta _ F'; rwa [show min a b = a by lia] at this
theorem kMax2 (F : Fm s₀ X L l news s) (hh : A.handled = none) (h : ∀ t s', Fm s₀ X L l news s' → Q (.int (max a b) t) s') : wpAny (model prog w) A (call (.builtin "max") [.int a ta, .int b tb]) Q E s := by
  refine max_two_ints hh fun h' tk k => ?_
  have F' := F.kept ⟨h', tk, rfl, k⟩
  by_cases q : b > a
  · rw [if_pos q, show b = max a b by lia]; exact h _ _ F'
  · rw [if_neg q]; have := h ta _ F'; rwa [show max a b = a by lia] at this
theorem kMin3 (F : Fm s₀ X L l news s) (hh : A.handled = none) (h : ∀ t s', Fm s₀ X L l news s' → Q (.int (min a (min b c)) t) s') : wpAny (model prog w) A (call (.builtin "min") [.int a ta, .int b tb, .int c tc]) Q E s := by
  refine min_three_ints hh fun h' tk k => ?_
  have F' := F.kept ⟨h', tk, rfl, k⟩
  repeat' split
  · have := h tc _ F'; rwa [show min a (min b c) = c by lia] at this
  · have := h tb _ F'; rwa [show min a (min b c) = b by lia] at this
  · have := h tc _ F'; rwa [show min a (min b c) = c by lia] at this
  · have := h ta _ F'; rwa [show min a (min b c) = a by lia] at this
theorem kMax3 (F : Fm s₀ X L l news s) (hh : A.handled = none) (h : ∀ t s', Fm s₀ X L l news s' → Q (.int (max a (max b c)) t) s') : wpAny (model prog w) A (call (.builtin "max") [.int a ta, .int b tb, .int c tc]) Q E s := by
  refine max_three_ints hh fun h' tk k => ?_
  have F' := F.kept ⟨h', tk, rfl, k⟩
  repeat' split
  · have := h tc _ F'; rwa [show max a (max b c) = c by lia] at this
  · have := h tb _ F'; rwa [show max a (max b c) = b by lia] at this
  · have := h tc _ F'; rwa [show max a (max b c) = c by lia] at this
  · have := h ta _ F'; rwa [show max a (max b c) = a by lia] at this
end
end
section -- MObj
open PySem PySem.W PySem.Calls PyProof.Rows
/-- a list, a tuple, as things -/
noncomputable abbrev lo (vs : List Value) (n : Nat) : Obj := { cls := .type "list", data := .seq vs.toArray n }
noncomputable abbrev tu (vs : List Value) : Obj := { cls := .type "tuple", data := .seq vs.toArray }
section
variable {w : World} {A : Around} {E : Value → Shared → Prop} {s s₀ : Shared} {X : List Nat} {L : Nat} {l : List (Str × Value)} {news : List (Nat × Obj)} {env : Env}
/-- a new address is above what stands -/
noncomputable def Above (a : Nat) (s : Shared) : Prop := s.heap.objs.size ≤ a
theorem Above.lt {a b : Nat} {o : Obj} (h : Above a s) (e : s.heap.get? b = some o) : b < a := Nat.lt_of_lt_of_le (Heap.lt_size e) h
theorem Fm.ltA {a : Nat} (F : Fm s₀ X L l news s) (h : Above a s) : L < a := Nat.lt_of_lt_of_le F.lt h
theorem Fm.ltB {a : Nat} (F : Fm s₀ X L l news s) (h : Above a s) {p : Nat × Obj} (hp : p ∈ news) : p.1 < a := h.lt (F.objs p hp)
/-- a thing is made of values -/
noncomputable def Mk (o : List Value → Obj) (Q : Value → Shared → Prop) (vs : List Value) (s : Shared) : Prop := vs.length ≤ sizeLine ∧ Q (.ref s.heap.objs.size) { s with heap := s.heap.push (o vs) }
theorem kTuple {M : Model} {elts : List Expr} {k : Nat} {pos : Pos} {Q : Value → Shared → Prop} (h : wpAny M A (spliced (backTo pos (starEach elts env))) (Mk tu Q) E s) : wpAny M A (eval (.Tuple elts k pos) env) Q E s := wpAny_Tuple h
theorem kList {M : Model} {elts : List Expr} {pos : Pos} {Q : Value → Shared → Prop} (h : wpAny M A (spliced (backTo pos (starEach elts env))) (Mk (lo · 0) Q) E s) : wpAny M A (eval (.List elts pos) env) Q E s := wpAny_List h
theorem mkT {vs : List Value} {Q : Value → Shared → Prop} (F : Fm s₀ X L l news s) (hl : vs.length ≤ sizeLine) (h : ∀ a s', Above a s → L < a → (∀ p ∈ news, p.1 < a) → Fm s₀ X L l ((a, tu vs) :: news) s' → Q (.ref a) s') : Mk tu Q vs s :=
  ⟨hl, h _ _ (Nat.le_refl _) F.lt (fun _ hp => F.ltN hp) (F.pushN _ rfl)⟩
theorem mkL {vs : List Value} {Q : Value → Shared → Prop} (F : Fm s₀ X L l news s) (hl : vs.length ≤ sizeLine) (h : ∀ a s', Above a s → L < a → (∀ p ∈ news, p.1 < a) → Fm s₀ X L l ((a, lo vs 0) :: news) s' → Q (.ref a) s') : Mk (lo · 0) Q vs s :=
  ⟨hl, h _ _ (Nat.le_refl _) F.lt (fun _ hp => F.ltN hp) (F.pushN _ rfl)⟩
theorem Fm.isList {a : Nat} {vs : List Value} {n : Nat} (F : Fm s₀ X L l news s) (h : (a, lo vs n) ∈ news) : s.heap.IsList a vs.toArray := ⟨_, F.objs _ h, rfl, n, rfl⟩
theorem Fm.isTuple {a : Nat} {vs : List Value} (F : Fm s₀ X L l news s) (h : (a, tu vs) ∈ news) : s.heap.IsTuple a vs.toArray := ⟨_, F.objs _ h, rfl, 0, rfl⟩
/-- an append to a list of the frame's own, the ledger's first -/
theorem appendL {a : Nat} {vs : List Value} {n : Nat} {x : Value} {Q : Value → Shared → Prop} (F : Fm s₀ X L l ((a, lo vs n) :: news) s) (haX : a ∈ X) (hn : ∀ p ∈ news, p.1 ≠ a) (hsz : vs.length ≤ sizeLine)
    (h : ∀ s', Fm s₀ X L l ((a, lo (vs ++ [x]) (n + 1)) :: news) s' → Q .none s') : wpAny (model prog w) A (call (.builtin "list.append") [.ref a, x]) Q E s := by
  have ho := F.objs _ (.head _)
  have haL : a ≠ L := F.off _ (.head _)
  refine wpAny_call_entry slot_list_append ⟨_, ho, rfl⟩ entry_list_append ?_ (args_list_append _ _)
  show wpAny _ _ (updateSeq a (·.push x) >>= fun _ => ret .none) _ _ s
  refine wpAny_bind ?_
  refine wpAny_updateSeq ho rfl (wpAny_pure ⟨.none, rfl, ?_⟩) (by simpa using hsz)
  have hs : Heap.SameBut a s.heap (s.heap.update a (Obj.mapSeq (·.push x))) := Heap.SameBut.update ..
  refine h _ ⟨F.kp.trans ⟨⟨_, _, rfl⟩, fun b o hb e => hs.extBut b o (fun q => hb (q ▸ haX)) e⟩, F.ns.sameBut hs (Ne.symm haL), (fun p hp => ?_), fun p hp => ?_⟩
  rotate_left
  · rcases List.mem_cons.mp hp with rfl | hp
    · exact haL
    · exact F.off p (List.mem_cons_of_mem _ hp)
  rcases List.mem_cons.mp hp with rfl | hp
  · have : Obj.mapSeq (·.push x) (lo vs n) = lo (vs ++ [x]) (n + 1) := by rw [show lo vs n = { cls := .type "list", data := .seq vs.toArray n } from rfl, Obj.mapSeq_push_plain]; simp [lo]
    show (s.heap.update a (Obj.mapSeq (·.push x))).get? a = some (lo (vs ++ [x]) (n + 1))
    rw [Heap.get?_update_self _ ho (by rw [this]; rfl), this]
  · exact hs.extBut _ _ (hn p hp) (F.objs p (List.mem_cons_of_mem _ hp))
/-- d.append(e) -/
theorem kAppend {x : Str} {p apos pos : Pos} {elt : Expr} {a : Nat} {vs : List Value} {n : Nat} {Q : Value → Shared → Prop} (F : Fm s₀ X env.locals l news s) (hv : lk l x = some (.ref a)) (hm : (a, lo vs n) ∈ news)
    (h : wpAny (model prog w) A (eval elt env) (fun y s₂ => wpAny (model prog w) A (call (.builtin "list.append") [.ref a, y]) Q E s₂) E s)
    (hl : env.kindOf x = some .local) (hk : env.scope.kind = .function) (hd : (x == ("__debug__" : Str)) = false)
    (hbase : attributeBase (.Name x p) "append" env (eval (.Name x p) env) = eval (.Name x p) env)
    (hfew : ((backTo pos (starEach [elt] env)).all (fun x => !x.1) && (backToKw pos (keywordEach [] env)).all (fun x => x.1.isSome)
      && decide (([elt] : List Expr).length + ([] : List Keyword).length + (if ([] : List Keyword).isEmpty then 0 else 1) < 30)) = true)
    (hline : (apos.endLine == pos.line) = true)
    (htrees : backTo pos (starEach [elt] env) = [(false, eval elt env)]) :
    wpAny (model prog w) A (eval (.Call (.Attribute (.Name x p) "append" apos) [elt] [] pos) env) Q E s :=
  wpAny_Call_append hbase hfew hline htrees (ldL F hv ⟨a, _, rfl, ⟨_, n, F.objs _ hm, rfl, rfl, rfl⟩, h⟩ hl hk hd)
end
end
section -- MIter
open PySem PySem.W PySem.Calls PyProof.Rows
/-- a list's iterator as a thing -/
noncomputable abbrev itO (a i : Nat) : Obj := { cls := .type "list_iterator", data := .fields #[.ref a, .int i 0] }
section
variable {w : World} {A : Around} {E : Value → Shared → Prop} {s s₀ : Shared} {X : List Nat} {L : Nat} {l : List (Str × Value)} {news : List (Nat × Obj)} {env : Env}
theorem nextArgs (a : Value) : argsOk "next" ⟨[a], []⟩ := by unfold argsOk; kernel_rfl
theorem nextEntry : entryFor table "next" = some Builtin.«next» := entryFor_of_fast (by kernel_rfl)
/-- next(it), an item is left -/
theorem kNext {I a i : Nat} {vs : List Value} {x : Value} {Q : Value → Shared → Prop} (F : Fm s₀ X L l ((I, itO a i) :: news) s) (hl : s.heap.IsList a vs.toArray) (hx : vs[i]? = some x) (hIX : I ∈ X) (hn : ∀ p ∈ news, p.1 ≠ I)
    (h : ∀ s', Fm s₀ X L l ((I, itO a (i + 1)) :: news) s' → Kp [I] s s' → Q x s') : wpAny (model prog w) A (call (.builtin "next") [.ref I]) Q E s := by
  have ho := F.objs _ (.head _)
  have hit : s.heap.IsListIter I a i := ⟨_, ho, rfl, rfl⟩
  obtain ⟨ol, hol, _, nl, hdl⟩ := hl
  refine call_function_entry (by decide +kernel) (by decide +kernel) nextEntry (nextArgs _) ?_
  unfold Builtin.«next»
  refine wpAny_bind (m := someArgs "next" 1 2 _) (wpAny_of_eq (a := [Value.ref I]) (by first | rfl | kernel_rfl!) ?_)
  dsimp only
  refine wpAny_bind (wpAny_specialOf (name := Str.ofString "__next__") hit.typeIs slot_listiter_next.lookup ?_)
  refine wpAny_ite_split (fun hab => absurd hab (by decide)) (fun _ => ?_)
  refine wpAny_bind (wpAny_callSpecial?_slot (name := Str.ofString "__next__") hit.typeIs slot_listiter_next
    (wpAny_call_entry slot_listiter_next hit.typeIs entry_listiter_next ?_ (args_listiter_next _)))
  show wpAny _ _ (field (.ref I) 0 >>= _) _ _ s
  refine wpAny_bind (wpAny_field ho rfl (x := .ref a) rfl ?_)
  show wpAny _ _ (if (Value.ref a == Value.none) = true then _ else _) _ _ s
  rw [if_neg (show ¬ ((Value.ref a == Value.none) = true) from Bool.false_ne_true)]
  show wpAny _ _ (field (.ref I) 1 >>= _) _ _ s
  refine wpAny_bind (wpAny_field ho rfl (x := .int i 0) rfl ?_)
  show wpAny _ _ (seqItems? (.ref a) >>= _) _ _ s
  refine wpAny_bind (wpAny_seqItems hol hdl ?_)
  have hx' : vs.toArray[i]? = some x := by simpa using hx
  simp only [Int.toNat_natCast, hx']
  refine wpAny_bind (wpAny_setField ho rfl (by simp) (wpAny_pure ⟨x, rfl, wpAny_pure ⟨x, rfl, ?_⟩⟩))
  have hs : Heap.SameBut I s.heap (s.heap.update I (Obj.mapFields (·.setIfInBounds 1 (rawInt ((i : Int) + 1))))) := Heap.SameBut.update ..
  have k : Kp [I] s { s with heap := s.heap.update I (Obj.mapFields (·.setIfInBounds 1 (rawInt ((i : Int) + 1)))) } := ⟨⟨_, _, rfl⟩, fun b o hb e => hs.extBut b o (by simpa using hb) e⟩
  have hIL : I ≠ L := F.off _ (.head _)
  refine h _ ⟨F.kp.trans (k.mono (by simpa using hIX)), F.ns.sameBut hs (Ne.symm hIL), fun p hp => ?_, fun p hp => ?_⟩ k
  · rcases List.mem_cons.mp hp with rfl | hp
    · refine (Heap.get?_update_self _ ho rfl).trans ?_
      simp [Obj.mapFields, itO, rawInt]
    · exact hs.extBut _ _ (hn p hp) (F.objs p (List.mem_cons_of_mem _ hp))
  · rcases List.mem_cons.mp hp with rfl | hp
    · exact hIL
    · exact F.off p (List.mem_cons_of_mem _ hp)
end
end
section -- MEnum
open PySem PySem.W PySem.Calls PyProof.Rows
section
variable {w : World} {A : Around} {E : Value → Shared → Prop} {s s₀ : Shared} {X : List Nat} {L : Nat} {l : List (Str × Value)} {news : List (Nat × Obj)} {env : Env}
/-- for i, v in enumerate(list), from the iterator on -/
theorem forEnum {Q : Flow → Shared → Prop} {xi xv : Str} {pi pv pt : Pos} {x1 : Nat} {body : List Stmt} {e it a : Nat} {items : Array Value}
    (hh : A.handled = none) (F : Fm s₀ X env.locals l news s) (he : IsEnum s.heap e it 0 .none) (hit : s.heap.IsListIter it a 0) (hl : s.heap.IsList a items)
    (hei : e ≠ it) (hae : a ≠ e) (hai : a ≠ it) (heX : e ∉ X) (hiX : it ∉ X) (haX : a ∉ X) (hLX : env.locals ∈ X) (he0 : s₀.heap.get? e = none) (hi0 : s₀.heap.get? it = none)
    (J : Nat → List (Str × Value) → List (Nat × Obj) → Prop) (hJn : ∀ i l₁ news₁, J i l₁ news₁ → ∀ p ∈ news₁, p.1 ≠ e ∧ p.1 ≠ it) (h0 : J 0 l news)
    (turn : ∀ i v tk s₁ l₁ news₁ E', items[i]? = some v → J i l₁ news₁ → Fm s₁ X env.locals ((xv, v) :: (xi, .int (i : Nat) tk) :: l₁) news₁ s₁ → Kp X s₀ s₁ →
      wpAny (model prog w) A (execs body env) (TurnEnd s₁ X env.locals (J (i + 1)) Q) E' s₁)
    (done : ∀ l₁ news₁ s₁, J items.size l₁ news₁ → Fm s₀ X env.locals l₁ news₁ s₁ → Q .next s₁)
    (hxi : env.kindOf xi = some .local) (hxv : env.kindOf xv = some .local) (hk : env.scope.kind = .function) {Er : Value → Shared → Prop} :
    codeAny (model prog w) A (.forLoop (.Tuple [.Name xi pi, .Name xv pv] x1 pt) (.ref e) body [] env) (fun r s' => match r with | .ok f => Q f s' | .error e => Er e s') s := by
  refine codeAny_forLoop_any (fun k s' => ∃ i l₁ news₁ old, Fm s₀ X env.locals l₁ news₁ s' ∧ J i l₁ news₁ ∧ IsEnum s'.heap e it ((i : Nat) : Int) old ∧ s'.heap.IsListIter it a i ∧ s'.heap.IsList a items ∧ i ≤ items.size ∧ k = items.size + 1 - i) ?_ (items.size + 1)
    ⟨0, l, news, .none, F, h0, he, hit, hl, Nat.zero_le _, rfl⟩
  have heL : e ≠ env.locals := fun q => heX (q ▸ hLX)
  have hiL : it ≠ env.locals := fun q => hiX (q ▸ hLX)
  rintro k s' ⟨i, l₁, news₁, old, F₁, hJ, he', hit', hl', hi, rfl⟩
  cases hv : items[i]? with
  | none =>
    have hsz : i = items.size := Nat.le_antisymm hi (by simpa using hv)
    refine wpAny_pyNext_enum_end hh he' hit' hl' hv fun h₁ he₁ => wpAny_execs_nil ?_
    have k1 : Kp [it] s' { s' with heap := h₁ } := ⟨⟨h₁, s'.toks, rfl⟩, fun b o hb x => he₁ b o (by simpa using hb) x⟩
    subst hsz
    refine done l₁ news₁ _ hJ ⟨?_, ?_, (fun p hp => he₁ _ _ (hJn _ l₁ news₁ hJ p hp).2 (F₁.objs p hp)), F₁.off⟩
    · obtain ⟨ha, ta, q⟩ := F₁.kp.same
      refine ⟨⟨h₁, s'.toks, by rw [q]⟩, fun b o hb x => he₁ b o (fun q => ?_) (F₁.kp.keep b o hb x)⟩
      rw [q, hi0] at x; cases x
    · obtain ⟨o, es, ep, ho, r⟩ := F₁.ns
      exact ⟨o, es, ep, he₁ _ _ (Ne.symm hiL) ho, r⟩
  | some v =>
    have hlt : i < items.size := (Array.getElem?_eq_some_iff.mp hv).1
    refine wpAny_pyNext_enum_item he' hit' hl' hv hei fun h₁ heo hit₁ ht₁ hz₁ hk₁ => ?_
    refine wpAny_letOwnedTupleGo_enum heo fun h₂ he₂ hs₂ => ?_
    replace hs₂ : Heap.SameBut e h₁ h₂ := hs₂
    have heH : e < s'.heap.objs.size := Heap.lt_size he'
    have ht₂ : h₂.IsTuple s'.heap.objs.size #[.int i s'.toks, v] := ⟨_, (hs₂.2 _ (Nat.ne_of_gt heH)).trans ht₁, rfl, _, rfl⟩
    have hz₂ : h₂.objs.size = s'.heap.objs.size + 1 := hs₂.1.trans hz₁
    refine wpAny_assign_Tuple hh ht₂ rfl rfl fun h₃ hx₃ => ?_
    replace hx₃ : Heap.ExtBut h₂.objs.size h₂ h₃ := hx₃
    have up : ∀ b o, b ≠ e → b ≠ it → s'.heap.get? b = some o → h₃.get? b = some o := fun b o hbe hbi x =>
      hx₃ b o (by rw [hz₂]; exact Nat.ne_of_lt (Nat.lt_succ_of_lt (Heap.lt_size x))) (hs₂.extBut b o hbe (hk₁ b o hbe hbi x))
    have he₃ : IsEnum h₃ e it ((i : Int) + 1) v := hx₃ _ _ (by rw [hz₂]; exact Nat.ne_of_lt (Nat.lt_succ_of_lt heH)) he₂
    have hit₃ : h₃.IsListIter it a (i + 1) := by
      obtain ⟨o, ho, r⟩ := hit'
      have hiH : it < s'.heap.objs.size := Heap.lt_size ho
      obtain ⟨o', ho', r'⟩ := hit₁.extBut hs₂.extBut (Ne.symm hei)
      exact ⟨o', hx₃ _ _ (by rw [hz₂]; exact Nat.ne_of_lt (Nat.lt_succ_of_lt hiH)) ho', r'⟩
    have hl₃ : h₃.IsList a items := by obtain ⟨o, ho, r⟩ := hl'; exact ⟨o, up a o hae hai ho, r⟩
    have F3 : Fm { s' with heap := h₃, toks := s'.toks + 1 } X env.locals l₁ news₁ { s' with heap := h₃, toks := s'.toks + 1 } := by
      refine ⟨.refl, ?_, (fun p hp => up _ _ (hJn i l₁ news₁ hJ p hp).1 (hJn i l₁ news₁ hJ p hp).2 (F₁.objs p hp)), F₁.off⟩
      obtain ⟨o, es, ep, ho, r⟩ := F₁.ns
      exact ⟨o, es, ep, up _ _ (Ne.symm heL) (Ne.symm hiL) ho, r⟩
    have K3 : Kp X s₀ { s' with heap := h₃, toks := s'.toks + 1 } := by
      obtain ⟨ha, ta, q⟩ := F₁.kp.same
      refine ⟨⟨h₃, s'.toks + 1, by rw [q]⟩, fun b o hb x => up b o (fun q => ?_) (fun q => ?_) (F₁.kp.keep b o hb x)⟩
      · rw [q, he0] at x; cases x
      · rw [q, hi0] at x; cases x
    show wpAny _ A (do holding [v] (assign (.Name xi pi) env (.int i s'.toks)); do holding [] (assign (.Name xv pv) env v); pure ()) _ _ _
    refine wpAny_bind (wpAny_holding (wpAny_assign_Name (stL F3 hLX (fun s₄ F4 k4 => ?_) hxi hk)))
    refine wpAny_bind (wpAny_holding (wpAny_assign_Name (stL F4 hLX (fun s₅ F5 k5 => wpAny_pure ?_) hxv hk)))
    have K35 : Kp X { s' with heap := h₃, toks := s'.toks + 1 } s₅ := F5.kp
    refine wpAny_mono (turn i v s'.toks s₅ l₁ news₁ _ hv hJ (F5.rebase X) (K3.trans K35)) (fun f s₆ h₆ => ?_) fun _ _ x => x
    have fin : (∃ l₂ news₂, Fm s₅ X env.locals l₂ news₂ s₆ ∧ J (i + 1) l₂ news₂) → ∃ m, m < items.size + 1 - i ∧ ∃ i l₁ news₁ old, Fm s₀ X env.locals l₁ news₁ s₆ ∧ J i l₁ news₁ ∧ IsEnum s₆.heap e it ((i : Nat) : Int) old ∧ s₆.heap.IsListIter it a i ∧ s₆.heap.IsList a items ∧ i ≤ items.size ∧ m = items.size + 1 - i := by
      rintro ⟨l₂, news₂, F6, hJ6⟩
      have K6 := K35.trans F6.kp
      refine ⟨items.size + 1 - (i + 1), by lia, i + 1, l₂, news₂, v, F6.trans (K3.trans K35), hJ6, ?_, ?_, ?_, hlt, rfl⟩
      · have : ((i + 1 : Nat) : Int) = (i : Int) + 1 := by push_cast; rfl
        rw [this]; exact K6.keep _ _ heX he₃
      · obtain ⟨o, ho, r⟩ := hit₃; exact ⟨o, K6.keep _ _ hiX ho, r⟩
      · obtain ⟨o, ho, r⟩ := hl₃; exact ⟨o, K6.keep _ _ haX ho, r⟩
    cases f with
    | next => exact fin h₆
    | cont => exact fin h₆
    | brk => exact h₆
    | ret v => exact h₆
end
end
section -- MSub
open PySem PySem.W PySem.Calls PyProof.Rows
section
variable {w : World} {A : Around} {E : Value → Shared → Prop} {s s₀ : Shared} {X : List Nat} {L : Nat} {l : List (Str × Value)} {news : List (Nat × Obj)} {env : Env}
/-- a list's item -/
theorem getL {a : Nat} {vs : List Value} {k : Int} {t : Tok} {x : Value} {Q : Value → Shared → Prop} (hl : s.heap.IsList a vs.toArray) (h0 : 0 ≤ k) (h1 : k < 2 ^ 60) (hx : vs[k.toNat]? = some x) (h : Q x s) :
    wpAny (model prog w) A (getItem (.ref a) (.int k t)) Q E s := by with_reducible exact wpAny_getItem_list hl h0 (by lia) (by simpa using hx) h
theorem tailL {value slice : Expr} {a : Nat} {vs : List Value} {k : Int} {t : Tok} {x : Value} {Q : Value → Shared → Prop} (hl : s.heap.IsList a vs.toArray) (h0 : 0 ≤ k) (h1 : k < 2 ^ 60) (hx : vs[k.toNat]? = some x) (h : Q x s)
    (hs : subscripted slice false (.ref a) (.int k t) = operate [.ref a, .int k t] (getItem (.ref a) (.int k t))) : wpAny (model prog w) A (subscriptTail value slice (.ref a) (.int k t)) Q E s := by
  with_reducible exact tail_any hl.typeIs slot_list_getitem.lookup (getL hl h0 h1 hx h) hs
/-- the last item -/
theorem tailLast {value slice : Expr} {a : Nat} {vs : List Value} {t : Tok} {x : Value} {Q : Value → Shared → Prop} (hl : s.heap.IsList a vs.toArray) (hx : vs.getLast? = some x) (h : Q x s)
    (hs : subscripted slice false (.ref a) (.int (-1) t) = operate [.ref a, .int (-1) t] (getItem (.ref a) (.int (-1) t))) : wpAny (model prog w) A (subscriptTail value slice (.ref a) (.int (-1) t)) Q E s := by
  have hn : 0 < vs.length := by cases vs with | nil => simp at hx | cons => simp
  refine tail_any hl.typeIs slot_list_getitem.lookup (wpAny_getItem_list_neg hl (by decide) (by simp; lia) (by decide) ?_ h) hs
  have e : ((-1 : Int) + (vs.toArray.size : Nat)).toNat = vs.length - 1 := by simp; lia
  rw [e, ← hx, List.getLast?_eq_getElem?]; simp
theorem tailT {value slice : Expr} {a : Nat} {vs : List Value} {k : Int} {t : Tok} {x : Value} {Q : Value → Shared → Prop} (hl : IsTup s.heap a vs.toArray) (h0 : 0 ≤ k) (h1 : k < 2 ^ 60) (hx : vs[k.toNat]? = some x) (h : Q x s)
    (hs : subscripted slice false (.ref a) (.int k t) = operate [.ref a, .int k t] (getItem (.ref a) (.int k t))) : wpAny (model prog w) A (subscriptTail value slice (.ref a) (.int k t)) Q E s := by
  have hlt : k.toNat < vs.length := by rcases Nat.lt_or_ge k.toNat vs.length with q | q; exact q; rw [List.getElem?_eq_none q] at hx; cases hx
  refine item_tupleT hl (by lia) (by lia) (j := k.toNat) ?_ hx h hs
  unfold seqIndex?
  simp only [show ¬ (k < 0) by lia, if_false]
  rw [if_pos (by simp only [Bool.and_eq_true, decide_eq_true_eq]; lia)]
theorem obj_set (vs : List Value) (n j : Nat) (v : Value) : Obj.mapSeq (·.setIfInBounds j v) (lo vs n) = lo (vs.set j v) n := by
  simp [Obj.mapSeq, lo]
/-- an item of a list of the frame's own set, at the place j -/
theorem setAt {a j : Nat} {vs : List Value} {n : Nat} {v : Value} {Q : Unit → Shared → Prop} (F : Fm s₀ X L l ((a, lo vs n) :: news) s) (haX : a ∈ X) (hn : ∀ p ∈ news, p.1 ≠ a)
    (h : ∀ s', Fm s₀ X L l ((a, lo (vs.set j v) n) :: news) s' → Q () s') : Q () { s with heap := s.heap.update a (Obj.mapSeq (·.setIfInBounds j v)) } := by
  have ho := F.objs _ (.head _)
  have haL : a ≠ L := F.off _ (.head _)
  have hs : Heap.SameBut a s.heap (s.heap.update a (Obj.mapSeq (·.setIfInBounds j v))) := Heap.SameBut.update ..
  refine h _ ⟨F.kp.trans ⟨⟨_, _, rfl⟩, fun b o hb e => hs.extBut b o (fun q => hb (q ▸ haX)) e⟩, F.ns.sameBut hs (Ne.symm haL), (fun p hp => ?_), fun p hp => ?_⟩
  · rcases List.mem_cons.mp hp with rfl | hp
    · show (s.heap.update a (Obj.mapSeq (·.setIfInBounds j v))).get? a = some (lo (vs.set j v) n)
      rw [Heap.get?_update_self _ ho (by rw [obj_set]; rfl), obj_set]
    · exact hs.extBut _ _ (hn p hp) (F.objs p (List.mem_cons_of_mem _ hp))
  · rcases List.mem_cons.mp hp with rfl | hp
    · exact haL
    · exact F.off p (List.mem_cons_of_mem _ hp)
theorem setL {a : Nat} {vs : List Value} {n : Nat} {k : Int} {t : Tok} {v : Value} {Q : Unit → Shared → Prop} (F : Fm s₀ X L l ((a, lo vs n) :: news) s) (haX : a ∈ X) (hn : ∀ p ∈ news, p.1 ≠ a) (h0 : 0 ≤ k) (h1 : k < 2 ^ 60) (hk : k.toNat < vs.length)
    (h : ∀ s', Fm s₀ X L l ((a, lo (vs.set k.toNat v) n) :: news) s' → Q () s') : wpAny (model prog w) A (setItem (.ref a) (.int k t) v) Q E s := by
  have hl := F.isList (List.Mem.head _)
  have ho := F.objs _ (List.Mem.head _)
  unfold setItem
  try with_reducible refine wpAny_holding ?_
  first | refine wpAny_bind (wpAny_pure ?_) | skip
  refine wpAny_bind (wpAny_sequenceKey hl.typeIs (by decide) ?_)
  refine wpAny_bind (wpAny_callSpecial?_slot (name := Str.ofString "__setitem__") hl.typeIs slot_list_setitem
    (wpAny_call_entry slot_list_setitem hl.typeIs entry_list_setitem ?_ (args_list_setitem _ _ _)))
  show wpAny _ _ (Builtin.List.listSubscript? (.int k t) >>= _) _ _ s
  refine wpAny_bind (wpAny_listSubscript_int (fitsIndex_of h0 (by lia)) ?_)
  obtain ⟨j, rfl⟩ := Int.eq_ofNat_of_zero_le h0
  have hj : j < vs.length := by simpa using hk
  have hx' : vs.toArray[j]? = some vs[j] := by simp [hj]
  show wpAny _ _ ((seqItemAt a j >>= fun r => pure (r.map (j, ·))) >>= _) _ _ s
  refine wpAny_bind (wpAny_bind (wpAny_seqItemAt ho rfl (wpAny_pure ?_)))
  rw [hx']
  show wpAny _ _ (setSeqItemAt a j v >>= _) _ _ s
  refine wpAny_bind (wpAny_setSeqItemAt ho rfl ?_)
  first
    | exact wpAny_bind (wpAny_pure (wpAny_pure ⟨.none, rfl, wpAny_pure (setAt F haX hn h)⟩))
    | exact wpAny_pure ⟨.none, rfl, wpAny_pure (setAt F haX hn h)⟩
/-- the last item set -/
theorem setLast {a : Nat} {vs : List Value} {n : Nat} {t : Tok} {v : Value} {Q : Unit → Shared → Prop} (F : Fm s₀ X L l ((a, lo vs n) :: news) s) (haX : a ∈ X) (hn : ∀ p ∈ news, p.1 ≠ a) (hk : 0 < vs.length)
    (h : ∀ s', Fm s₀ X L l ((a, lo (vs.set (vs.length - 1) v) n) :: news) s' → Q () s') : wpAny (model prog w) A (setItem (.ref a) (.int (-1) t) v) Q E s := by
  have hl := F.isList (List.Mem.head _)
  have ho := F.objs _ (List.Mem.head _)
  unfold setItem
  try with_reducible refine wpAny_holding ?_
  first | refine wpAny_bind (wpAny_pure ?_) | skip
  refine wpAny_bind (wpAny_sequenceKey hl.typeIs (by decide) ?_)
  refine wpAny_bind (wpAny_callSpecial?_slot (name := Str.ofString "__setitem__") hl.typeIs slot_list_setitem
    (wpAny_call_entry slot_list_setitem hl.typeIs entry_list_setitem ?_ (args_list_setitem _ _ _)))
  show wpAny _ _ (Builtin.List.listSubscript? (.int (-1) t) >>= _) _ _ s
  refine wpAny_bind (wpAny_listSubscript_int (fitsIndex_neg (by decide) (by decide)) ?_)
  have hidx : seqIndex? (-1) vs.toArray.size = some (vs.length - 1) := by
    rw [seqIndex_neg (by decide) (by simp; omega)]
    congr 1; simp; omega
  have hx : vs.toArray[vs.length - 1]? = some (vs[vs.length - 1]'(by omega)) := by simp
  show wpAny _ _ ((Builtin.List.listItems (.ref a) >>= fun xs => pure ((seqIndex? (Int.negSucc 0) xs.size).bind fun i => xs[i]?.map (i, ·))) >>= _) _ _ s
  refine wpAny_bind (wpAny_bind ?_)
  show wpAny _ _ (seqItems? (.ref a) >>= _) _ _ s
  refine wpAny_bind (wpAny_seqItems ho rfl (wpAny_pure (wpAny_pure ?_)))
  rw [show Int.negSucc 0 = -1 from rfl, hidx]
  simp only [Option.bind_some, hx, Option.map_some]
  refine wpAny_bind (wpAny_setSeqItemAt ho rfl ?_)
  first
    | exact wpAny_bind (wpAny_pure (wpAny_pure ⟨.none, rfl, wpAny_pure (setAt F haX hn h)⟩))
    | exact wpAny_pure ⟨.none, rfl, wpAny_pure (setAt F haX hn h)⟩
theorem kNeg {a : Int} {t : Tok} {Q : Value → Shared → Prop} (F : Fm s₀ X L l news s) (h : ∀ t s', Fm s₀ X L l news s' → Q (.int (-a) t) s') : wpAny (model prog w) A (unaryOp .USub (.int a t)) Q E s := by with_reducible exact neg_int (h _ _ (F.tok _))
/-- the end of xs[:k] -/
noncomputable def SliceEnd (a : Nat) (Q : Value → Shared → Prop) (k : Nat) (u : Value) (s₂ : Shared) : Prop :=
  ∃ (t : Tok) (vs : List Value) (s₀ : Shared) (X : List Nat) (L : Nat) (l : List (Str × Value)) (news : List (Nat × Obj)), u = .int k t ∧ s₂.heap.IsList a vs.toArray ∧ vs.length ≤ sizeLine ∧ Fm s₀ X L l news s₂ ∧
    ∀ D s', Above D s₂ → L < D → (∀ p ∈ news, p.1 < D) → Fm s₀ X L l ((D, lo (vs.take k) 0) :: news) s' → Q (.ref D) s'
theorem SliceEnd.intro {a k : Nat} {vs : List Value} {t : Tok} {Q : Value → Shared → Prop} (F : Fm s₀ X L l news s) (hl : s.heap.IsList a vs.toArray) (hsz : vs.length ≤ sizeLine)
    (h : ∀ D s', Above D s → L < D → (∀ p ∈ news, p.1 < D) → Fm s₀ X L l ((D, lo (vs.take k) 0) :: news) s' → Q (.ref D) s') : SliceEnd a Q k (.int k t) s := ⟨t, vs, s₀, X, L, l, news, rfl, hl, hsz, F, h⟩
/-- xs[:k], xs read -/
theorem sliceTo {value e : Expr} {p : Pos} {a : Nat} (k : Nat) {Q : Value → Shared → Prop}
    (h : wpAny (model prog w) A (eval e env) (SliceEnd a Q k) E s)
    (hs : ∀ o i, subscripted (.Slice none (some e) none p) false o i = operate [i, o] (getItem o i)) :
    wpAny (model prog w) A (eval (.Slice none (some e) none p) env) (fun i s₂ => wpAny (model prog w) A (subscriptTail value (.Slice none (some e) none p) (.ref a) i) Q E s₂) E s := by
  refine wpAny_Slice (wpAny_pure (wpAny_mono h (fun u s₂ h₂ => ?_) fun _ _ x => x))
  obtain ⟨t, vs, s₀, X, L, l, news, rfl, hl, hsz, F, hQ⟩ := h₂
  refine wpAny_pure ?_
  refine tail_any (Heap.IsList.typeIs (s := { s₂ with heap := s₂.heap.push _ }) (hl.push _)) list_getitem_lookup (wpAny_getItem_list_slice (hl.push _) (Heap.IsSliceOf.new ..) .none (.int _ t) .none (by simp) ?_ (by simpa using hsz)) (hs _ _)
  have e1 : slicePick vs.toArray none (some (k : Int)) none = (vs.take k).toArray := by rw [slicePick_upto']
  rw [e1]
  have F1 := F.push { cls := .type "slice", data := .fields #[.none, .int k t, .none] }
  have F2 := F1.pushN (lo (vs.take k) 0) rfl
  exact hQ _ _ (by show s₂.heap.objs.size ≤ _; rw [Heap.size_push]; exact Nat.le_succ _) F1.lt (fun p hp => F1.ltN hp) F2
end
end
section -- MComp
open PySem PySem.W PySem.Calls PyProof.Rows
section
variable {w : World} {A : Around} {E : Value → Shared → Prop} {R : Result → Shared → Prop} {s s₀ : Shared} {X : List Nat} {L : Nat} {l : List (Str × Value)} {news : List (Nat × Obj)} {env : Env}
/-- the tests of a clause -/
noncomputable abbrev compTests (ifs : List Expr) (env : Env) : Sem Bool := forIn ifs true fun c r => if r = true then do let ok ← isTrue c env (eval c env); pure (ForInStep.yield ok) else pure (ForInStep.yield r)
/-- the last clause of a list comprehension, turn by turn -/
theorem compLoopE {elt : Expr} {gens : List Comprehension} {scope : Scope} {pos : Pos} {depth : Nat} {it acc : Value} {target iter : Expr} {ifs : List Expr} (hg : gens[depth]? = some ⟨target, iter, ifs, 0⟩) (hn : gens[depth + 1]? = none)
    (I : Nat → Shared → Prop)
    (turn : ∀ n s, I n s → wpAny (model prog w) A (pyNext it) (fun r s₁ => match r with
      | none => R (.ok .next) s₁
      | some v => wpAny (model prog w) A (assign target env v) (fun _ s₂ =>
          wpAny (model prog w) A (compTests ifs env) (fun ok s₃ =>
            if ok = true then wpAny (model prog w) A (eval elt env) (fun x s₄ =>
              wpAny (model prog w) A (call (.builtin "list.append") [acc, x]) (fun _ s₅ => ∃ m, m < n ∧ I m s₅) (notedBy (model prog w) A env fun e s' => R (.error e) s') s₄) (notedBy (model prog w) A env fun e s' => R (.error e) s') s₃
            else ∃ m, m < n ∧ I m s₃) (notedBy (model prog w) A env fun e s' => R (.error e) s') s₂) (notedBy (model prog w) A env fun e s' => R (.error e) s') s₁) (notedBy (model prog w) A env fun e s' => R (.error e) s') s)
    (n : Nat) (h : I n s) (ht : ∀ v, letOwnedTupleGo target it v = pure ()) :
    codeAny (model prog w) A (.compLoop (.ListComp elt gens scope pos) depth it acc env) R s := by
  refine codeAny_loop rfl I (fun n s hI => ?_) n h
  show wpAny _ A ((compTurn (.ListComp elt gens scope pos) depth it acc env).onRaise (fun x => do noteFrame x env; theTreesLotGoes x)) _ _ s
  refine wpAny_noted ?_
  unfold compTurn
  simp only [hg, hn]
  refine wpAny_bind (wpAny_standAt ?_)
  rw [if_neg (by decide)]
  refine wpAny_bind (wpAny_mono (turn n s hI) (fun r s₁ h₁ => ?_) fun _ _ h' => h')
  cases r with
  | none => exact wpAny_pure h₁
  | some v =>
    refine wpAny_bind (wpAny_of_eq (ht v) ?_)
    refine wpAny_bind (wpAny_mono h₁ (fun _ s₂ h₂ => wpAny_bind (wpAny_mono h₂ (fun ok s₃ h₃ => ?_) fun _ _ h' => h')) fun _ _ h' => h')
    cases ok with
    | false => exact wpAny_pure ⟨rfl, h₃⟩
    | true =>
      exact wpAny_bind (wpAny_bind (wpAny_mono h₃ (fun x s₄ h₄ => wpAny_bind (wpAny_mono h₄ (fun _ s₅ h₅ => wpAny_pure (wpAny_pure ⟨rfl, h₅⟩)) fun _ _ h' => h')) fun _ _ h' => h'))
/-- a clause with another behind it -/
theorem compLoopN {elt : Expr} {gens : List Comprehension} {scope : Scope} {pos : Pos} {depth : Nat} {it acc : Value} {target iter t' iter' : Expr} {ifs' : List Expr} (hg : gens[depth]? = some ⟨target, iter, [], 0⟩) (hn : gens[depth + 1]? = some ⟨t', iter', ifs', 0⟩)
    (I : Nat → Shared → Prop)
    (turn : ∀ n s, I n s → wpAny (model prog w) A (pyNext it) (fun r s₁ => match r with
      | none => R (.ok .next) s₁
      | some v => wpAny (model prog w) A (assign target env v) (fun _ s₂ =>
          wpAny (model prog w) A (eval iter' env) (fun x s₃ => wpAny (model prog w) A (pyIter x) (fun it' s₄ =>
            codeAny (model prog w) A (.compStart (.ListComp elt gens scope pos) (depth + 1) it' acc env) (fun r s₅ => r = .ok .next ∧ ∃ m, m < n ∧ I m s₅) s₄)
              (notedBy (model prog w) A env fun e s' => R (.error e) s') s₃) (notedBy (model prog w) A env fun e s' => R (.error e) s') s₂) (notedBy (model prog w) A env fun e s' => R (.error e) s') s₁) (notedBy (model prog w) A env fun e s' => R (.error e) s') s)
    (n : Nat) (h : I n s) (ht : ∀ v, letOwnedTupleGo target it v = pure ()) (hs : ∀ x, foldedSetIterable iter' env x = pure x) :
    codeAny (model prog w) A (.compLoop (.ListComp elt gens scope pos) depth it acc env) R s := by
  refine codeAny_loop rfl I (fun n s hI => ?_) n h
  show wpAny _ A ((compTurn (.ListComp elt gens scope pos) depth it acc env).onRaise (fun x => do noteFrame x env; theTreesLotGoes x)) _ _ s
  refine wpAny_noted ?_
  unfold compTurn
  simp only [hg, hn]
  refine wpAny_bind (wpAny_standAt ?_)
  rw [if_neg (by decide)]
  refine wpAny_bind (wpAny_mono (turn n s hI) (fun r s₁ h₁ => ?_) fun _ _ h' => h')
  cases r with
  | none => exact wpAny_pure h₁
  | some v =>
    refine wpAny_bind (wpAny_of_eq (ht v) ?_)
    refine wpAny_bind (wpAny_mono h₁ (fun _ s₂ h₂ => ?_) fun _ _ h' => h')
    rw [List.forIn_nil]
    refine wpAny_bind (wpAny_pure ?_)
    rw [if_pos rfl]
    refine wpAny_bind (wpAny_mono h₂ (fun x s₃ h₃ => wpAny_bind (wpAny_standAt ?_)) fun _ _ h' => h')
    rw [if_neg (by decide)]
    refine wpAny_bind (wpAny_of_eq (hs x) ?_)
    rw [if_neg (by decide)]
    refine wpAny_bind (wpAny_holding (wpAny_mono h₃ (fun it' s₄ h₄ => ?_) fun _ _ h' => h'))
    refine wpAny_bind (wpAny_runOwn (codeAny_mono h₄ fun r s₅ h₅ => ?_))
    obtain ⟨rfl, h₅⟩ := h₅
    exact wpAny_pure ⟨rfl, h₅⟩
/-- a comprehension's clause begins -/
theorem compStartG {elt : Expr} {gens : List Comprehension} {scope : Scope} {pos : Pos} {depth I : Nat} {acc : Value} {target iter : Expr} {ifs : List Expr} (hg : gens[depth]? = some ⟨target, iter, ifs, 0⟩)
    {fp wr : List Nat} {n i : Nat} {P : Nat → Value → Prop} {St : Nat → Heap → Prop} (W : Walks prog w A I fp wr n P St) (hst : St i s.heap)
    (h : codeAny (model prog w) A (.compLoop (.ListComp elt gens scope pos) depth (.ref I) acc env) R s) : codeAny (model prog w) A (.compStart (.ListComp elt gens scope pos) depth (.ref I) acc env) R s := by
  refine codeAny_of_tree ?_
  show wpAny _ _ ((compStart (.ListComp elt gens scope pos) depth (.ref I) acc env).onRaise (fun x => do noteFrame x env; standAt theWindowsPlace)) _ _ s
  refine wpAny_notedAt ?_
  unfold compStart
  rw [show clausesOf (.ListComp elt gens scope pos) = gens from rfl]
  simp only [hg, Option.elim]
  rw [if_neg (by decide)]
  refine wpAny_bind (wpAny_askSetting (wpAny_ite ?_))
  split
  · exact wpAny_pure (And.intro rfl h)
  · exact wpAny_bind (wpAny_rule (wpAny_bind (wpAny_standAt (wpAny_bind (W.self i _ _ _ hst (wpAny_pure (And.intro rfl h)))))))
/-- the loop of a clause, by an invariant over names and ledger; what a turn does is the caller's -/
theorem compWalk {e : Expr} {depth I : Nat} {acc : Value} {fp wr : List Nat} {n : Nat} {P : Nat → Value → Prop} {St : Nat → Heap → Prop}
    (W : Walks prog w A I fp wr n P St) (F : Fm s₀ X env.locals l news s) (hst : St 0 s.heap) (hfX : ∀ b ∈ fp, b ∉ X) (hLf : env.locals ∉ fp) (hnew : ∀ b ∈ wr, s₀.heap.get? b = none)
    (J : Nat → List (Str × Value) → List (Nat × Obj) → Prop) (hJn : ∀ i l₁ news₁, J i l₁ news₁ → ∀ p ∈ news₁, p.1 ∉ wr) (h0 : J 0 l news)
    (B : Value → (Shared → Prop) → (Value → Shared → Prop) → Shared → Prop)
    (hB : ∀ v K K' E' s', (∀ s, K s → K' s) → B v K E' s' → B v K' E' s')
    (engine : ∀ (I' : Nat → Shared → Prop), (∀ k s', I' k s' → wpAny (model prog w) A (pyNext (.ref I)) (fun r s₁ => match r with | none => R (.ok .next) s₁ | some v => B v (fun s₅ => ∃ m, m < k ∧ I' m s₅) (notedBy (model prog w) A env fun e s' => R (.error e) s') s₁) (notedBy (model prog w) A env fun e s' => R (.error e) s') s') →
      ∀ k, I' k s → codeAny (model prog w) A (.compLoop e depth (.ref I) acc env) R s)
    (turn : ∀ i v s₁ l₁ news₁ E', i < n → P i v → J i l₁ news₁ → Fm s₁ X env.locals l₁ news₁ s₁ → Kp X s₀ s₁ → St (i + 1) s₁.heap → B v (fun s₅ => ∃ l₂ news₂, Fm s₁ X env.locals l₂ news₂ s₅ ∧ J (i + 1) l₂ news₂) E' s₁)
    (done : ∀ l₁ news₁ s₁, J n l₁ news₁ → Fm s₀ X env.locals l₁ news₁ s₁ → R (.ok .next) s₁) :
    codeAny (model prog w) A (.compLoop e depth (.ref I) acc env) R s := by
  have hLw : env.locals ∉ wr := fun h => hLf (W.sub _ h)
  refine engine (fun k s' => ∃ i l₁ news₁, Fm s₀ X env.locals l₁ news₁ s' ∧ J i l₁ news₁ ∧ St i s'.heap ∧ i ≤ n ∧ k = n + 1 - i) ?_ (n + 1) ⟨0, l, news, F, h0, hst, Nat.zero_le _, rfl⟩
  rintro k s' ⟨i, l₁, news₁, F₁, hJ, hsti, hi, rfl⟩
  by_cases hlt : i < n
  · refine W.item i _ _ _ hlt hsti fun v h₁ tk₁ hP hst₁ hk₁ => ?_
    have F2 : Fm { s' with heap := h₁, toks := tk₁ } X env.locals l₁ news₁ { s' with heap := h₁, toks := tk₁ } := by
      refine ⟨.refl, ?_, (fun p hp => hk₁ _ _ (hJn i l₁ news₁ hJ p hp) (F₁.objs p hp)), F₁.off⟩
      obtain ⟨o, es, ep, ho, r⟩ := F₁.ns
      exact ⟨o, es, ep, hk₁ _ _ hLw ho, r⟩
    have K2 : Kp X s₀ { s' with heap := h₁, toks := tk₁ } := by
      obtain ⟨ha, ta, e⟩ := F₁.kp.same
      refine ⟨⟨h₁, tk₁, by rw [e]⟩, fun b o hb e => hk₁ b o (fun q => ?_) (F₁.kp.keep b o hb e)⟩
      rw [hnew b q] at e; cases e
    refine hB _ _ _ _ _ (fun s₃ h₃ => ?_) (turn i v _ l₁ news₁ _ hlt hP hJ F2 K2 hst₁)
    obtain ⟨l₂, news₂, F3, hJ3⟩ := h₃
    refine ⟨n + 1 - (i + 1), by lia, i + 1, l₂, news₂, F3.trans K2, hJ3, ?_, hlt, rfl⟩
    exact W.frame _ _ _ hst₁ fun b hb o e => F3.kp.keep b o (hfX b hb) e
  · have hin : i = n := by lia
    subst hin
    refine W.done _ _ _ hsti fun h₁ tk₁ hk₁ => ?_
    refine done l₁ news₁ _ hJ ⟨?_, ?_, (fun p hp => hk₁ _ _ (hJn i l₁ news₁ hJ p hp) (F₁.objs p hp)), F₁.off⟩
    · obtain ⟨ha, ta, e⟩ := F₁.kp.same
      refine ⟨⟨h₁, tk₁, by rw [e]⟩, fun b o hb e => hk₁ b o (fun q => ?_) (F₁.kp.keep b o hb e)⟩
      rw [hnew b q] at e; cases e
    · obtain ⟨o, es, ep, ho, r⟩ := F₁.ns
      exact ⟨o, es, ep, hk₁ _ _ hLw ho, r⟩
/-- the last clause, no test -/
theorem compWalkE {elt : Expr} {gens : List Comprehension} {scope : Scope} {pos : Pos} {depth I : Nat} {acc : Value} {x : Str} {px : Pos} {iter : Expr} (hg : gens[depth]? = some ⟨.Name x px, iter, [], 0⟩) (hn : gens[depth + 1]? = none)
    {fp wr : List Nat} {n : Nat} {P : Nat → Value → Prop} {St : Nat → Heap → Prop}
    (W : Walks prog w A I fp wr n P St) (F : Fm s₀ X env.locals l news s) (hst : St 0 s.heap) (hfX : ∀ b ∈ fp, b ∉ X) (hnew : ∀ b ∈ wr, s₀.heap.get? b = none) (hLX : env.locals ∈ X)
    (J : Nat → List (Str × Value) → List (Nat × Obj) → Prop) (hJn : ∀ i l₁ news₁, J i l₁ news₁ → ∀ p ∈ news₁, p.1 ∉ wr) (h0 : J 0 l news)
    (turn : ∀ i v s₁ l₁ news₁ E', i < n → P i v → J i l₁ news₁ → Fm s₁ X env.locals ((x, v) :: l₁) news₁ s₁ → Kp X s₀ s₁ → St (i + 1) s₁.heap →
      wpAny (model prog w) A (eval elt env) (fun y s₄ => wpAny (model prog w) A (call (.builtin "list.append") [acc, y]) (fun _ s₅ => ∃ l₂ news₂, Fm s₁ X env.locals l₂ news₂ s₅ ∧ J (i + 1) l₂ news₂) E' s₄) E' s₁)
    (done : ∀ l₁ news₁ s₁, J n l₁ news₁ → Fm s₀ X env.locals l₁ news₁ s₁ → R (.ok .next) s₁) (hl' : env.kindOf x = some .local) (hk : env.scope.kind = .function) :
    codeAny (model prog w) A (.compLoop (.ListComp elt gens scope pos) depth (.ref I) acc env) R s := by
  refine compWalk W F hst hfX (fun h => hfX _ h hLX) hnew J hJn h0
    (fun v K E' s₁ => wpAny (model prog w) A (assign (.Name x px) env v) (fun _ s₂ => wpAny (model prog w) A (eval elt env) (fun y s₄ => wpAny (model prog w) A (call (.builtin "list.append") [acc, y]) (fun _ s₅ => K s₅) E' s₄) E' s₂) E' s₁)
    (fun v K K' E' s' hK h => wpAny_mono h (fun _ _ h => wpAny_mono h (fun _ _ h => wpAny_mono h (fun _ _ h => hK _ h) fun _ _ e => e) fun _ _ e => e) fun _ _ e => e) ?_ ?_ done
  · intro I' hI' k hk'
    refine compLoopE hg hn I' (fun n s h => wpAny_mono (hI' n s h) (fun r s₁ h₁ => ?_) fun _ _ e => e) k hk' (fun _ => rfl)
    cases r with
    | none => exact h₁
    | some v => exact wpAny_mono h₁ (fun _ s₂ h₂ => by rw [compTests, List.forIn_nil]; exact wpAny_pure (by rw [if_pos rfl]; exact h₂)) fun _ _ e => e
  · intro i v s₁ l₁ news₁ E' hlt hP hJ F₁ K₁ hst₁
    refine wpAny_assign_Name (stL F₁ hLX (fun s' F2 k2 => ?_) hl' hk)
    have K12 : Kp X s₁ s' := F2.kp
    exact wpAny_mono (turn i v s' l₁ news₁ E' hlt hP hJ (F2.rebase X) (K₁.trans K12) (W.frame _ _ _ hst₁ fun b hb o e => F2.kp.keep b o (hfX b hb) e)) (fun y s₄ h₄ => wpAny_mono h₄ (fun _ s₅ h₅ => let ⟨l₂, news₂, a, b⟩ := h₅; ⟨l₂, news₂, a.trans K12, b⟩) fun _ _ e => e) fun _ _ e => e
/-- a clause with another behind it -/
theorem compWalkN {elt : Expr} {gens : List Comprehension} {scope : Scope} {pos : Pos} {depth I : Nat} {acc : Value} {x : Str} {px : Pos} {iter t' iter' : Expr} {ifs' : List Expr} (hg : gens[depth]? = some ⟨.Name x px, iter, [], 0⟩) (hn : gens[depth + 1]? = some ⟨t', iter', ifs', 0⟩)
    {fp wr : List Nat} {n : Nat} {P : Nat → Value → Prop} {St : Nat → Heap → Prop}
    (W : Walks prog w A I fp wr n P St) (F : Fm s₀ X env.locals l news s) (hst : St 0 s.heap) (hfX : ∀ b ∈ fp, b ∉ X) (hnew : ∀ b ∈ wr, s₀.heap.get? b = none) (hLX : env.locals ∈ X)
    (J : Nat → List (Str × Value) → List (Nat × Obj) → Prop) (hJn : ∀ i l₁ news₁, J i l₁ news₁ → ∀ p ∈ news₁, p.1 ∉ wr) (h0 : J 0 l news)
    (turn : ∀ i v s₁ l₁ news₁ E', i < n → P i v → J i l₁ news₁ → Fm s₁ X env.locals ((x, v) :: l₁) news₁ s₁ → Kp X s₀ s₁ → St (i + 1) s₁.heap →
      wpAny (model prog w) A (eval iter' env) (fun y s₃ => wpAny (model prog w) A (pyIter y) (fun it' s₄ => codeAny (model prog w) A (.compStart (.ListComp elt gens scope pos) (depth + 1) it' acc env)
        (fun r s₅ => r = .ok .next ∧ ∃ l₂ news₂, Fm s₁ X env.locals l₂ news₂ s₅ ∧ J (i + 1) l₂ news₂) s₄) E' s₃) E' s₁)
    (done : ∀ l₁ news₁ s₁, J n l₁ news₁ → Fm s₀ X env.locals l₁ news₁ s₁ → R (.ok .next) s₁) (hl' : env.kindOf x = some .local) (hk : env.scope.kind = .function) (hs : ∀ x, foldedSetIterable iter' env x = pure x) :
    codeAny (model prog w) A (.compLoop (.ListComp elt gens scope pos) depth (.ref I) acc env) R s := by
  refine compWalk W F hst hfX (fun h => hfX _ h hLX) hnew J hJn h0
    (fun v K E' s₁ => wpAny (model prog w) A (assign (.Name x px) env v) (fun _ s₂ => wpAny (model prog w) A (eval iter' env) (fun y s₃ => wpAny (model prog w) A (pyIter y) (fun it' s₄ => codeAny (model prog w) A (.compStart (.ListComp elt gens scope pos) (depth + 1) it' acc env)
        (fun r s₅ => r = .ok .next ∧ K s₅) s₄) E' s₃) E' s₂) E' s₁)
    (fun v K K' E' s' hK h => wpAny_mono h (fun _ _ h => wpAny_mono h (fun _ _ h => wpAny_mono h (fun _ _ h => codeAny_mono h fun _ _ h => ⟨h.1, hK _ h.2⟩) fun _ _ e => e) fun _ _ e => e) fun _ _ e => e) ?_ ?_ done
  · intro I' hI' k hk'
    refine compLoopN hg hn I' (fun n s h => wpAny_mono (hI' n s h) (fun r s₁ h₁ => ?_) fun _ _ e => e) k hk' (fun _ => rfl) hs
    cases r with
    | none => exact h₁
    | some v => exact h₁
  · intro i v s₁ l₁ news₁ E' hlt hP hJ F₁ K₁ hst₁
    refine wpAny_assign_Name (stL F₁ hLX (fun s' F2 k2 => ?_) hl' hk)
    have K12 : Kp X s₁ s' := F2.kp
    exact wpAny_mono (turn i v s' l₁ news₁ E' hlt hP hJ (F2.rebase X) (K₁.trans K12) (W.frame _ _ _ hst₁ fun b hb o e => F2.kp.keep b o (hfX b hb) e)) (fun y s₃ h₃ => wpAny_mono h₃ (fun it' s₄ h₄ => codeAny_mono h₄ fun r s₅ h₅ => ⟨h₅.1, let ⟨l₂, news₂, a, b⟩ := h₅.2; ⟨l₂, news₂, a.trans K12, b⟩⟩) fun _ _ e => e) fun _ _ e => e
/-- what a list comprehension's loop must show: its list, its other things, what stood -/
noncomputable def CompOut (s₁ : Shared) (Y : List Nat) (C D : Nat) (Q : Value → Shared → Prop) (r : Result) (s₅ : Shared) : Prop :=
  r = .ok .next ∧ ∃ vs n l₁ objs, Fm s₁ (C :: D :: Y) C l₁ ((D, lo vs n) :: objs) s₅ ∧ ∀ s₆, Kp Y s₁ s₆ → s₆.heap.get? D = some (lo vs n) → (∀ p ∈ objs, s₆.heap.get? p.1 = some p.2) → Q (.ref D) s₆
/-- the comprehension's list and frame are made -/
theorem compMid {e : Expr} {scope : Scope} {cl : List (Str × Nat)} {it : Value} {RR : Value → Nat → Result → Shared → Prop} {s₁ s₂ : Shared} {Y : List Nat}
    (hkind : scope.kind = .function) (hcell : ∀ y ∈ scope.names, y.2 ≠ .cell) (K12 : Kp Y s₁ s₂) (hY : ∀ b ∈ Y, b < s₂.heap.objs.size)
    (h : ∀ D C s₃, s₂.heap.objs.size ≤ D → D < C → s₁.heap.get? D = none → s₁.heap.get? C = none → Fm s₁ (C :: D :: Y) C [] [(D, lo [] 0)] s₃ → (∀ b o, s₂.heap.get? b = some o → s₃.heap.get? b = some o) →
        codeAny (model prog w) A (.compStart e 0 it (.ref D) (compEnvC scope cl C env)) (RR (.ref D) C) s₃) :
    wpAny (model prog w) A (newList []) (fun acc s₃ => wpAny (model prog w) A (newFunctionEnv scope env.globals cl [] env.qual none .none (some env)) (fun cenv s₄ =>
      codeAny (model prog w) A (.compStart e 0 it acc { cenv with scope := relabel scope env }) (RR acc cenv.locals) s₄) E s₃) E s₂ := by
  refine wpAny_newObj_type (wpAny_newFunctionEnv hcell (by intro y hy; simp at hy) (fun h₁ hns₁ hsb₁ => ?_) hkind)
  dsimp only at hns₁ hsb₁ ⊢
  generalize hH2 : s₂.heap.push { cls := .type "list", dict := none, data := .seq ([] : List Value).toArray } = H2 at hns₁ hsb₁ ⊢
  have hC : H2.objs.size = s₂.heap.objs.size + 1 := by rw [← hH2, Heap.size_push]
  have old : ∀ b o, s₂.heap.get? b = some o → h₁.get? b = some o := fun b o e => hsb₁.extBut b o (by rw [hC]; exact Nat.ne_of_lt (Nat.lt_succ_of_lt (Heap.lt_size e))) (Heap.get?_push_of_some _ (hH2 ▸ Heap.get?_push_of_some _ e))
  have hD : h₁.get? s₂.heap.objs.size = some (lo [] 0) := hsb₁.extBut _ _ (by rw [hC]; exact Nat.ne_of_lt (Nat.lt_succ_self _)) (Heap.get?_push_of_some _ (hH2 ▸ Heap.get?_push_size _ rfl))
  have none_above : ∀ b, s₂.heap.objs.size ≤ b → s₁.heap.get? b = none := fun b hb => by
    cases e : s₁.heap.get? b with
    | none => rfl
    | some o =>
      by_cases q : b ∈ Y
      · exact absurd (hY b q) (Nat.not_lt.mpr hb)
      · exact absurd (Heap.lt_size (K12.keep b o q e)) (Nat.not_lt.mpr hb)
  refine h s₂.heap.objs.size H2.objs.size _ (Nat.le_refl _) (by rw [hC]; exact Nat.lt_succ_self _) (none_above _ (Nat.le_refl _)) (none_above _ (by rw [hC]; exact Nat.le_succ _)) ⟨?_, ?_, ?_, ?_⟩ old
  · obtain ⟨ha, ta, q⟩ := K12.same
    exact ⟨⟨h₁, _, by rw [q]⟩, fun b o hb e => old b o (K12.keep b o (fun q => hb (by simp [q])) e)⟩
  · have : (fun x => ([] : List (Str × Value)).reverse.lookup x) = lk [] := rfl
    rw [this] at hns₁; exact hns₁
  · intro p hp; rw [List.mem_singleton.mp hp]; exact hD
  · intro p hp; rw [List.mem_singleton.mp hp]; show s₂.heap.objs.size ≠ H2.objs.size; rw [hC]; exact Nat.ne_of_lt (Nat.lt_succ_self _)
/-- the comprehension's names go; what it made stays -/
theorem CompOut.use {s₁ s₅ : Shared} {Y : List Nat} {C D : Nat} {Q : Value → Shared → Prop} {r : Result} (h : CompOut s₁ Y C D Q r s₅) (hC : s₁.heap.get? C = none) (hD : s₁.heap.get? D = none) :
    r = .ok .next ∧ ∃ m, s₅.heap.Ns C m ∧ ∀ h', Heap.SameBut C s₅.heap h' → Q (.ref D) { s₅ with heap := h' } := by
  obtain ⟨rfl, vs, n, l₁, objs, F, hQ⟩ := h
  refine ⟨rfl, _, F.ns, fun h' hs => hQ _ ?_ (hs.extBut _ _ (F.off _ (.head _)) (F.objs _ (.head _))) fun p hp => hs.extBut _ _ (F.off p (List.mem_cons_of_mem _ hp)) (F.objs p (List.mem_cons_of_mem _ hp))⟩
  obtain ⟨ha, ta, q⟩ := F.kp.same
  refine ⟨⟨h', s₅.toks, by rw [q]⟩, fun b o hb e => ?_⟩
  have hbC : b ≠ C := fun q => by rw [q, hC] at e; cases e
  have hbD : b ≠ D := fun q => by rw [q, hD] at e; cases e
  exact hs.extBut b o hbC (F.kp.keep b o (by simp [hbC, hbD, hb]) e)
/-- a list comprehension as a value, from its iterator on -/
theorem compV {elt target iter : Expr} {ifs : List Expr} {gens : List Comprehension} {scope : Scope} {cl : List (Str × Nat)} {pos : Pos} {Q : Value → Shared → Prop} (s₁ : Shared) (Y : List Nat)
    (hclos : closureFor scope env = pure cl) (hkind : scope.kind = .function) (hnames : ∀ y ∈ scope.names, y.2 = .local → scope.names.lookup y.1 = some .local) (hcell : ∀ y ∈ scope.names, y.2 ≠ .cell)
    (h : wpAny (model prog w) A (eval iter env) (fun xv s₁' => wpAny (model prog w) A (pyIter xv) (fun it s₂ => Kp Y s₁ s₂ ∧ (∀ b ∈ Y, b < s₂.heap.objs.size) ∧
      ∀ D C s₃, s₂.heap.objs.size ≤ D → D < C → s₁.heap.get? D = none → s₁.heap.get? C = none → Fm s₁ (C :: D :: Y) C [] [(D, lo [] 0)] s₃ → (∀ b o, s₂.heap.get? b = some o → s₃.heap.get? b = some o) →
        codeAny (model prog w) A (.compStart (.ListComp elt (⟨target, iter, ifs, 0⟩ :: gens) scope pos) 0 it (.ref D) (compEnvC scope cl C env)) (CompOut s₁ Y C D Q) s₃) E s₁') E s)
    (hs : ∀ x, foldedSetIterable iter env x = pure x) : wpAny (model prog w) A (eval (.ListComp elt (⟨target, iter, ifs, 0⟩ :: gens) scope pos) env) Q E s := by
  rw [eval_ListComp]
  refine wpAny_comprehension_free (use := none) rfl hs hclos hkind hnames (wpAny_mono h (fun xv s₁' h₁ => wpAny_mono h₁ (fun it s₂ h₂ => ?_) fun _ _ e => e) fun _ _ e => e)
  obtain ⟨K12, hY, h₂⟩ := h₂
  refine compMid (RR := fun acc C => compPost (model prog w) A E none Q acc C) hkind hcell K12 hY fun D C s₃ a1 a2 a3 a4 F3 old => codeAny_mono (h₂ D C s₃ a1 a2 a3 a4 F3 old) fun r s₅ h₅ => ?_
  obtain ⟨rfl, m, hn, hQ⟩ := h₅.use a4 a3
  exact ⟨m, hn, hQ⟩
/-- name = [.. for ..], the store done amid the comprehension's end -/
theorem compU {elt target iter : Expr} {ifs : List Expr} {gens : List Comprehension} {scope : Scope} {cl : List (Str × Nat)} {y : Str} {py pos spos : Pos} {Q : Flow → Shared → Prop} {l : List (Str × Value)} {X : List Nat} {s₀ : Shared} (s₁ : Shared) (Y : List Nat)
    (hsw : swapsWith (.ListComp elt (⟨target, iter, ifs, 0⟩ :: gens) scope pos) (some (.Name y py)) spos.line env = pure true)
    (hclos : closureFor scope env = pure cl) (hkind : scope.kind = .function) (hnames : ∀ y ∈ scope.names, y.2 = .local → scope.names.lookup y.1 = some .local) (hcell : ∀ y ∈ scope.names, y.2 ≠ .cell)
    (F₁ : Fm s₀ X env.locals l news s₁) (hLX : env.locals ∈ X) (hYX : ∀ b ∈ Y, b ∈ X) (hLY : env.locals ∉ Y) (hnY : ∀ p ∈ news, p.1 ∉ Y)
    (h : wpAny (model prog w) A (eval iter env) (fun xv s₁' => wpAny (model prog w) A (pyIter xv) (fun it s₂ => Kp Y s₁ s₂ ∧ (∀ b ∈ Y, b < s₂.heap.objs.size) ∧
      ∀ D C s₃, s₂.heap.objs.size ≤ D → D < C → s₁.heap.get? D = none → s₁.heap.get? C = none → Fm s₁ (C :: D :: Y) C [] [(D, lo [] 0)] s₃ → (∀ b o, s₂.heap.get? b = some o → s₃.heap.get? b = some o) →
        codeAny (model prog w) A (.compStart (.ListComp elt (⟨target, iter, ifs, 0⟩ :: gens) scope pos) 0 it (.ref D) (compEnvC scope cl C env))
          (fun r s₅ => r = .ok .next ∧ ∃ vs n l₁ objs, Fm s₁ (C :: D :: Y) C l₁ ((D, lo vs n) :: objs) s₅ ∧ (∀ p ∈ objs, p.1 ≠ env.locals) ∧
            ∀ s₆, Fm s₀ X env.locals ((y, .ref D) :: l) ((D, lo vs n) :: (objs ++ news)) s₆ → Q .next s₆) s₃) E s₁') E s)
    (hl : env.kindOf y = some .local) (hk : env.scope.kind = .function)
    (hs : ∀ x, foldedSetIterable iter env x = pure x) : wpAny (model prog w) A (exec (.Assign [.Name y py] (.ListComp elt (⟨target, iter, ifs, 0⟩ :: gens) scope pos) spos) env) Q E s := by
  rw [exec_Assign_Name_used _ _ _ _ hsw]
  refine wpAny_bind (wpAny_standAt (wpAny_bind ?_))
  show wpAny _ A (do let _ ← comprehension (.ListComp elt (⟨target, iter, ifs, 0⟩ :: gens) scope pos) scope env _ (newList []) false (eval iter env) (some (assign (.Name y py) env))) _ _ s
  refine wpAny_bind (wpAny_mono (wpAny_comprehension_free (use := some (assign (.Name y py) env)) (Q := fun _ s' => Q .next s') rfl hs hclos hkind hnames
    (wpAny_mono h (fun xv s₁' h₁ => wpAny_mono h₁ (fun it s₂ h₂ => ?_) fun _ _ e => e) fun _ _ e => e)) (fun _ s' hq => wpAny_pure (wpAny_pure hq)) fun _ _ e => e)
  obtain ⟨K12, hY, h₂⟩ := h₂
  refine compMid (RR := fun acc C => compPost (model prog w) A E (some (assign (.Name y py) env)) (fun _ s' => Q .next s') acc C) hkind hcell K12 hY fun D C s₃ a1 a2 a3 a4 F3 old => codeAny_mono (h₂ D C s₃ a1 a2 a3 a4 F3 old) fun r s₅ h₅ => ?_
  obtain ⟨rfl, vs, n, l₁, objs, F5, hoL, hQ⟩ := h₅
  have hLC : env.locals ≠ C := fun q => by obtain ⟨o, _, _, ho, _⟩ := F₁.ns; rw [q, a4] at ho; cases ho
  have hLD : env.locals ≠ D := fun q => by obtain ⟨o, _, _, ho, _⟩ := F₁.ns; rw [q, a3] at ho; cases ho
  have keep15 : ∀ b o, b ∉ Y → s₁.heap.get? b = some o → s₅.heap.get? b = some o := fun b o hb e => by
    have hbC : b ≠ C := fun q => by rw [q, a4] at e; cases e
    have hbD : b ≠ D := fun q => by rw [q, a3] at e; cases e
    exact F5.kp.keep b o (by simp [hbC, hbD, hb]) e
  have hn5 : s₅.heap.Ns env.locals (lk l) := by obtain ⟨o, es, ep, ho, r⟩ := F₁.ns; exact ⟨o, es, ep, keep15 _ _ hLY ho, r⟩
  show wpAny _ A (assign (.Name y py) env (.ref D)) _ _ _
  refine wpAny_assign_Name (wpAny_storeName_local hl hn5 (fun h₂ hn₂ hs₂ => ?_) (by rw [hk]; rfl))
  rw [lk_cons] at hn₂
  refine ⟨_, F5.ns.sameBut hs₂ (Ne.symm hLC), fun h₃ hs₃ => hQ _ ⟨?_, hn₂.sameBut hs₃ hLC, ?_, ?_⟩⟩
  · obtain ⟨hb, tb, q'⟩ := F5.kp.same
    obtain ⟨ha, ta, q⟩ := F₁.kp.same
    refine ⟨⟨h₃, s₅.toks + 1, by rw [q', q]⟩, fun b o hb e => ?_⟩
    have e1 := F₁.kp.keep b o hb e
    have hbC : b ≠ C := fun q => by rw [q, a4] at e1; cases e1
    have hbL : b ≠ env.locals := fun q => hb (q ▸ hLX)
    exact hs₃.extBut b o hbC (hs₂.extBut b o hbL (keep15 b o (fun q => hb (hYX b q)) e1))
  · intro p hp
    rcases List.mem_cons.mp hp with rfl | hp
    · exact hs₃.extBut _ _ (F5.off _ (.head _)) (hs₂.extBut _ _ (Ne.symm hLD) (F5.objs _ (.head _)))
    · rcases List.mem_append.mp hp with hp | hp
      · exact hs₃.extBut _ _ (F5.off p (List.mem_cons_of_mem _ hp)) (hs₂.extBut _ _ (hoL p hp) (F5.objs p (List.mem_cons_of_mem _ hp)))
      · have e1 := F₁.objs p hp
        have hbC : p.1 ≠ C := fun q => by rw [q, a4] at e1; cases e1
        exact hs₃.extBut _ _ hbC (hs₂.extBut _ _ (F₁.off p hp) (keep15 _ _ (hnY p hp) e1))
  · intro p hp
    rcases List.mem_cons.mp hp with rfl | hp
    · exact Ne.symm hLD
    · rcases List.mem_append.mp hp with hp | hp
      · exact hoL p hp
      · exact F₁.off p hp
/-- a comprehension of one clause: what each element adds -/
theorem compE {elt : Expr} {scope sc : Scope} {pos : Pos} {x : Str} {px : Pos} {iter : Expr} {cl : List (Str × Nat)} {I D C : Nat} {Y fp : List Nat} {n : Nat} {P : Nat → Value → Prop} {St : Nat → Heap → Prop}
    (W : Walks prog w A I fp [I] n P St) (F : Fm s₀ (C :: D :: Y) C [] [(D, lo [] 0)] s) (hst : St 0 s.heap) (hfX : ∀ b ∈ fp, b ∉ C :: D :: Y) (hI : s₀.heap.get? I = none) (hDI : D ≠ I) (hn : n ≤ sizeLine)
    (J : Nat → List Value → List (Nat × Obj) → Prop) (h0 : J 0 [] [])
    (turn : ∀ i v s₁ l₁ vs k objs E', i < n → P i v → J i vs objs → vs.length = i → Fm s₁ (C :: D :: Y) C ((x, v) :: l₁) ((D, lo vs k) :: objs) s₁ → Kp (C :: D :: Y) s₀ s₁ → (∀ p ∈ objs, p.1 ≠ D ∧ p.1 ≠ I) → I < s₁.heap.objs.size →
      wpAny (model prog w) A (eval elt (compEnvC scope cl C env)) (fun y s₄ => ∃ objs', Fm s₁ (C :: D :: Y) C ((x, v) :: l₁) ((D, lo vs k) :: objs') s₄ ∧ (∀ p ∈ objs', p.1 ≠ D ∧ p.1 ≠ I) ∧ J (i + 1) (vs ++ [y]) objs') E' s₁)
    (done : ∀ l₁ vs k objs s₁, J n vs objs → vs.length = n → Fm s₀ (C :: D :: Y) C l₁ ((D, lo vs k) :: objs) s₁ → R (.ok .next) s₁)
    (hl' : (compEnvC scope cl C env).kindOf x = some .local) (hk : (compEnvC scope cl C env).scope.kind = .function) (hIs : ∀ i h, St i h → I < h.objs.size) :
    codeAny (model prog w) A (.compStart (.ListComp elt [⟨.Name x px, iter, [], 0⟩] sc pos) 0 (.ref I) (.ref D) (compEnvC scope cl C env)) R s := by
  refine compStartG rfl W hst (compWalkE (env := compEnvC scope cl C env) rfl rfl W F hst hfX (by intro b hb; rw [List.mem_singleton.mp hb]; exact hI) (List.Mem.head _)
    (fun i l₁ news₁ => ∃ vs k objs, news₁ = (D, lo vs k) :: objs ∧ J i vs objs ∧ vs.length = i ∧ (∀ p ∈ objs, p.1 ≠ D ∧ p.1 ≠ I)) ?_ ⟨[], 0, [], rfl, h0, rfl, fun _ h => nomatch h⟩ ?_ ?_ hl' hk)
  · rintro i l₁ news₁ ⟨vs, k, objs, rfl, _, _, ho⟩ p hp hq
    rw [List.mem_singleton] at hq
    rcases List.mem_cons.mp hp with rfl | hp
    · exact hDI hq
    · exact (ho p hp).2 hq
  · rintro i v s₁ l₁ news₁ E' hlt hP ⟨vs, k, objs, rfl, hJ, hlen, ho⟩ F1 K1 hst₁
    have hI1 : I < s₁.heap.objs.size := hIs _ _ hst₁
    refine wpAny_mono (turn i v s₁ l₁ vs k objs E' hlt hP hJ hlen F1 K1 ho hI1) (fun y s₄ h₄ => ?_) fun _ _ e => e
    obtain ⟨objs', F4, ho', hJ'⟩ := h₄
    exact appendL F4 (by simp) (fun p hp => (ho' p hp).1) (by lia) fun s₅ F5 => ⟨_, _, F5, _, _, _, rfl, hJ', by simp [hlen], ho'⟩
  · rintro l₁ news₁ s₁ ⟨vs, k, objs, rfl, hJ, hlen, _⟩ F1
    exact done l₁ vs k objs s₁ hJ hlen F1
/-- the iterator of a list for a comprehension -/
theorem iterL {a : Nat} {vs : List Value} {s₁ : Shared} {Y : List Nat} {T : Value → Nat → Nat → Shared → Prop} (hl : s.heap.IsList a vs.toArray) (hK : Kp Y s₁ s) (hY : ∀ b ∈ Y, b < s.heap.objs.size)
    (h : ∀ I D C s₃, s.heap.objs.size ≤ I → I < D → D < C → a < I → (∀ b ∈ Y, b < I) → s₁.heap.get? I = none → s₁.heap.get? D = none → s₁.heap.get? C = none → s₃.heap.IsListIter I a 0 → s₃.heap.IsList a vs.toArray → Fm s₁ (C :: D :: Y) C [] [(D, lo [] 0)] s₃ →
      (∀ b o, s.heap.get? b = some o → s₃.heap.get? b = some o) → T (.ref I) D C s₃) :
    wpAny (model prog w) A (pyIter (.ref a)) (fun it s₂ => Kp Y s₁ s₂ ∧ (∀ b ∈ Y, b < s₂.heap.objs.size) ∧ ∀ D C s₃, s₂.heap.objs.size ≤ D → D < C → s₁.heap.get? D = none → s₁.heap.get? C = none → Fm s₁ (C :: D :: Y) C [] [(D, lo [] 0)] s₃ → (∀ b o, s₂.heap.get? b = some o → s₃.heap.get? b = some o) → T it D C s₃) E s := by
  refine wpAny_pyIter_list hl ?_
  have ha : a < s.heap.objs.size := exLt hl
  have old : ∀ b o, s.heap.get? b = some o → (s.heap.push { cls := .type "list_iterator", data := .fields #[.ref a, .int 0 0] }).get? b = some o := fun b o e => Heap.get?_push_of_some _ e
  refine ⟨hK.trans ⟨⟨_, _, rfl⟩, fun b o _ e => old b o e⟩, (fun b hb => by show b < (s.heap.push _).objs.size; rw [Heap.size_push]; exact Nat.lt_succ_of_lt (hY b hb)), fun D C s₃ h1 h2 h3 h4 F3 k3 => ?_⟩
  have h1' : s.heap.objs.size < D := by
    have : (s.heap.push { cls := .type "list_iterator", data := .fields #[.ref a, .int 0 0] }).objs.size ≤ D := h1
    rw [Heap.size_push] at this; exact this
  refine h s.heap.objs.size D C s₃ (Nat.le_refl _) h1' h2 ha hY ?_ h3 h4 ⟨_, k3 _ _ (Heap.get?_push_size _ rfl), rfl, rfl⟩ ?_ F3 fun b o e => k3 b o (old b o e)
  · cases e : s₁.heap.get? s.heap.objs.size with
    | none => rfl
    | some o =>
      by_cases q : s.heap.objs.size ∈ Y
      · exact absurd (hY _ q) (Nat.lt_irrefl _)
      · exact absurd (Heap.lt_size (hK.keep _ _ q e)) (Nat.lt_irrefl _)
  · obtain ⟨o, ho, r⟩ := hl; exact ⟨o, k3 _ _ (old _ _ ho), r⟩
theorem listIter_lt {h : Heap} {I a i : Nat} {items : Array Value} (x : h.IsListIter I a i ∧ h.IsList a items) : I < h.objs.size := by obtain ⟨⟨_, ho, _⟩, _⟩ := x; exact Heap.lt_size ho
end
end
section -- MStr
open PySem PySem.W PySem.Calls PyProof.Rows
section
variable {w : World} {A : Around} {E : Value → Shared → Prop} {s s₀ : Shared} {X : List Nat} {L : Nat} {l : List (Str × Value)} {news : List (Nat × Obj)} {env : Env} {Q : Value → Shared → Prop}
/-- a text of one sign -/
noncomputable abbrev one (c : Nat) : Str := ⟨#[c]⟩
theorem kOrd {c : Nat} {t : Tok} (F : Fm s₀ X L l news s) (h : ∀ t s', Fm s₀ X L l news s' → Q (.int c t) s') : wpAny (model prog w) A (call (.builtin "ord") [.str (one c) t]) Q E s := by with_reducible exact PySem.P.ord_of_char (h _ _ (F.tok _))
theorem kChr {i : Int} {t : Tok} (F : Fm s₀ X L l news s) (h0 : 0 ≤ i) (h1 : i ≤ 1114111) (h : ∀ t s', Fm s₀ X L l news s' → Q (.str (one i.toNat) t) s') : wpAny (model prog w) A (call (.builtin "chr") [.int i t]) Q E s := by with_reducible exact chr_of_range h0 h1 (h _ _ (F.tok _))
end
/-- the pairs of the text's table -/
noncomputable def pairOf (p : Option Expr × Expr) : Option (Int × Str) := match p.1, p.2 with
  | some (.Constant (.int k) _ _), .Constant (.str x) _ _ => some (k, x)
  | _, _ => none
noncomputable def dictOf (e : Expr) : List (Int × Str) := match e with
  | .Dict ks vs _ => (ks.zip vs).filterMap pairOf
  | _ => []
noncomputable def b3Pairs : List (Int × Str) := match prog.main.body[(8 : Nat)]? with
  | some (.Assign _ e _) => dictOf e
  | _ => []
noncomputable def b3At (k : Int) : Option Str := (b3Pairs.find? fun p => p.1 == k).map (·.2)
noncomputable def b1Nums : List Int := [173, 847, 6150, 6155, 6156, 6157, 8203, 8204, 8205, 8288, 65279, 65024, 65025, 65026, 65027, 65028, 65029, 65030, 65031, 65032, 65033, 65034, 65035, 65036, 65037, 65038, 65039]
noncomputable def b1Has (k : Int) : Bool := b1Nums.any (· == k)
/-- the top's set and table -/
structure TopW (w : World) (H : Heap) : Prop where
  set : ∃ n, H.SetOf (intKind prog w) 43 b1Has n
  dic : ∃ f, H.MapOf (intKind prog w) 54 f ∧ ∀ k, match b3At k with | some x => ∃ t, f k = some (.str x t) | none => f k = none
section
variable {w : World} {H h : Heap}
theorem TopW.setAt (T : TopW w H) (G : GL H h) : ∃ n, h.SetOf (intKind prog w) 43 b1Has n := by
  obtain ⟨n, o, es, ep, t, ho, r⟩ := T.set; exact ⟨n, o, es, ep, t, G.kp _ _ (by decide) ho, r⟩
theorem TopW.dicAt (T : TopW w H) (G : GL H h) : ∃ f, h.MapOf (intKind prog w) 54 f ∧ ∀ k, match b3At k with | some x => ∃ t, f k = some (.str x t) | none => f k = none := by
  obtain ⟨f, ⟨o, es, ep, ho, r⟩, q⟩ := T.dic; exact ⟨f, ⟨o, es, ep, G.kp _ _ (by decide) ho, r⟩, q⟩
end
end
section -- MTyped
open PySem PySem.W PySem.Calls PyProof.Rows
section
variable {w : World} {A : Around} {E : Value → Shared → Prop} {s s₀ : Shared} {X : List Nat} {L : Nat} {l : List (Str × Value)} {news : List (Nat × Obj)} {env : Env} {Q : Value → Shared → Prop}
theorem kIAddS {x y : Str} {t u : Tok} (F : Fm s₀ X L l news s) (hz : x.length + y.length ≤ 1000) (h : ∀ t s', Fm s₀ X L l news s' → Q (.str (x ++ y) t) s') : wpAny (model prog w) A (inplaceOp .Add (.str x t) (.str y u)) Q E s := by
  with_reducible exact SB.iadd (fun t' k => h t' _ (F.tok k)) (by simp [sizeLine]; lia)
theorem kLen {a : Nat} {vs : List Value} (F : Fm s₀ X L l news s) (hl : s.heap.IsList a vs.toArray) (hz : vs.length < 2 ^ 60) (h : ∀ t s', Fm s₀ X L l news s' → Q (.int vs.length t) s') : wpAny (model prog w) A (call (.builtin "len") [.ref a]) Q E s := by
  refine call_len_list hl (by simp; lia) ?_
  have := h (s.toks + 1) _ (F.tok (s.toks + 1 + 1))
  simpa using this
theorem kInT {a : Nat} {k : Int} {t : Tok} {vs : List Value} {ns : List Int} (hl : IsTup s.heap a vs.toArray) (hi : IntsAre vs ns) (h : Q (.bool (ns.any (· == k))) s) : wpAny (model prog w) A (compareOp .In (.int k t) (.ref a)) Q E s := by
  with_reducible exact in_tuple_ints hl hi h
/-- x[i:] of a text -/
theorem sliceS {value e : Expr} {p : Pos} {x : Str} {t : Tok} {i : Int} 
    (h : wpAny (model prog w) A (eval e env) (fun u s₂ => ∃ t₂ s₀ X L l news, u = .int i t₂ ∧ Fm s₀ X L l news s₂ ∧ x.length ≤ sizeLine ∧ ∀ t' s', Fm s₀ X L l news s' → Q (.str (Txt.slice x (some i) none) t') s') E s)
    (hs : ∀ o i, subscripted (.Slice (some e) none none p) false o i = operate [i, o] (getItem o i)) (ht : ∀ r, letTemporaryGo value (.str x t) r = pure ()) :
    wpAny (model prog w) A (eval (.Slice (some e) none none p) env) (fun i s₂ => wpAny (model prog w) A (subscriptTail value (.Slice (some e) none none p) (.str x t) i) Q E s₂) E s := by
  refine wpAny_Slice (wpAny_mono h (fun u s₂ h₂ => ?_) fun _ _ x => x)
  obtain ⟨t₂, s₀, X, L, l, news, rfl, F, hz, hQ⟩ := h₂
  refine wpAny_pure (wpAny_pure ?_)
  exact tail_of_ItemOn (SBG.sliceItem_sn (Fm := Fm s₀ X L l news) (fun s ob k F => (F.push ob).tok k) F (fun s' t' F' => hQ t' s' F') hz) (hs _ _) ht
end
noncomputable def greats : List Int := [119808, 119912, 120016, 120172, 120224, 120276, 120328, 120380, 120432]
noncomputable def turnOf (t : Int) : Int := (t + 25).fmod 324
noncomputable def duoOf (codes : List Int) : Str := if codes.length = 3 ∧ codes.getD 0 0 = codes.getD 1 0 ∧ (codes.getD 0 0 = 102 ∨ codes.getD 0 0 = 115) then (if codes.getD 0 0 = 102 then one 64256 else one 223) else Str.empty
noncomputable def pick (t : Int) : Int := [97, 65, greats.getD ((t.fdiv 4).fmod 9).toNat 0, greats.getD (t.fdiv 36).toNat 0].getD (t.fmod 4).toNat 0
noncomputable def unseenOf (t : Int) : Str := if (t.fdiv 4).fmod 3 = 0 then one (b1Nums.getD (t.fdiv 12).toNat 0).toNat else Str.empty
noncomputable def signOf (duo : Str) (place : Nat) (code t : Int) : Str :=
  if duo ≠ Str.empty ∧ place < 2 then Txt.slice duo (some place) none
  else if 96 < code ∧ code < 123 then one (code - 97 + pick t).toNat
  else if 1024 < code ∧ code < 1104 then one (code - t.fmod 2 * 32).toNat
  else one code.toNat
noncomputable def stepCode (duo : Str) (st : Str × Int) (place : Nat) (code : Int) : Str × Int := ((st.1 ++ unseenOf (turnOf st.2)) ++ signOf duo place code (turnOf st.2), turnOf st.2)
noncomputable def rowAt (st : Str × Int) (codes : List Int) : Nat → Str × Int
  | 0 => st
  | i + 1 => stepCode (duoOf codes) (rowAt st codes i) i (codes.getD i 0)
noncomputable def typedAt (st : Str × Int) (rows : List (List Int)) : Nat → Str × Int
  | 0 => st
  | i + 1 => rowAt (typedAt st rows i) (rows.getD i []) (rows.getD i []).length
noncomputable def typedOf (rows : List (List Int)) (turn : Int) : Str := (typedAt (Str.empty, turn) rows rows.length).1
/-- a list of lists of ints -/
noncomputable def ListsOf (h : Heap) (vs : List Value) (rows : List (List Int)) : Prop := vs.length = rows.length ∧ ∀ (i : Nat) (c : List Int), rows[i]? = some c → ∃ d us, vs[i]? = some (.ref d) ∧ h.IsList d us.toArray ∧ IntsAre us c
theorem ListsOf.mv {h h' : Heap} {vs : List Value} {rows : List (List Int)} (x : ListsOf h vs rows) (k : ∀ (i d : Nat) us, vs[i]? = some (.ref d) → h.IsList d us → h'.IsList d us) : ListsOf h' vs rows := by
  refine ⟨x.1, fun i c hc => ?_⟩
  obtain ⟨d, us, h1, h2, h3⟩ := x.2 i c hc
  exact ⟨d, us, h1, k i d _ h1 h2, h3⟩
end
section -- MFlt
open PySem PySem.W PySem.Calls PyProof.Rows PySem.Flt
section
variable {w : World} {A : Around} {E : Value → Shared → Prop} {s s₀ : Shared} {X : List Nat} {L : Nat} {l : List (Str × Value)} {news : List (Nat × Obj)} {Q : Value → Shared → Prop} {a b : UInt64} {m n : Int} {ta tb : Tok}
/-- an int that a float can hold -/
noncomputable def FitsF (n : Int) : Prop := ¬ Float64.isInf (Float64.ofInt n) = true
theorem fAdd (F : Fm s₀ X L l news s) (h : ∀ t s', Fm s₀ X L l news s' → Q (.float (Float64.add a b) t) s') : wpAny (model prog w) A (binaryOp .Add (.float a ta) (.float b tb)) Q E s := AutoFloatOps.add_0 (h _ _ (F.tok _))
theorem fSub (F : Fm s₀ X L l news s) (h : ∀ t s', Fm s₀ X L l news s' → Q (.float (Float64.sub a b) t) s') : wpAny (model prog w) A (binaryOp .Sub (.float a ta) (.float b tb)) Q E s := AutoFloatOps.sub_0 (h _ _ (F.tok _))
theorem fMul (F : Fm s₀ X L l news s) (h : ∀ t s', Fm s₀ X L l news s' → Q (.float (Float64.mul a b) t) s') : wpAny (model prog w) A (binaryOp .Mult (.float a ta) (.float b tb)) Q E s := AutoFloatOps.mul_0 (h _ _ (F.tok _))
theorem fDiv (F : Fm s₀ X L l news s) (hz : ¬ Float64.isZero b = true) (h : ∀ t s', Fm s₀ X L l news s' → Q (.float (Float64.div a b) t) s') : wpAny (model prog w) A (binaryOp .Div (.float a ta) (.float b tb)) Q E s := AutoFloatOps.truediv_1 hz (h _ _ (F.tok _))
theorem fMod (F : Fm s₀ X L l news s) (hz : ¬ Float64.isZero b = true) (h : ∀ t s', Fm s₀ X L l news s' → Q (.float (Float64.divmod a b).snd t) s') : wpAny (model prog w) A (binaryOp .Mod (.float a ta) (.float b tb)) Q E s := AutoFloatOps.mod_1 hz (h _ _ (F.tok _))
theorem fSubI (F : Fm s₀ X L l news s) (hf : FitsF n) (h : ∀ t s', Fm s₀ X L l news s' → Q (.float (Float64.sub a (Float64.ofInt n)) t) s') : wpAny (model prog w) A (binaryOp .Sub (.float a ta) (.int n tb)) Q E s := AutoFloatOps.sub_fi_1 hf (h _ _ (F.tok _))
theorem fAddI (F : Fm s₀ X L l news s) (hf : FitsF n) (h : ∀ t s', Fm s₀ X L l news s' → Q (.float (Float64.add a (Float64.ofInt n)) t) s') : wpAny (model prog w) A (binaryOp .Add (.float a ta) (.int n tb)) Q E s := AutoFloatOps.add_fi_1 hf (h _ _ (F.tok _))
theorem fIAdd (F : Fm s₀ X L l news s) (hf : FitsF n) (h : ∀ t s', Fm s₀ X L l news s' → Q (.float (Float64.add (Float64.ofInt n) a) t) s') : wpAny (model prog w) A (binaryOp .Add (.int n ta) (.float a tb)) Q E s := AutoFloatOps.add_if_1 hf (h _ _ (F.tok _))
theorem fMulI (F : Fm s₀ X L l news s) (hf : FitsF n) (h : ∀ t s', Fm s₀ X L l news s' → Q (.float (Float64.mul a (Float64.ofInt n)) t) s') : wpAny (model prog w) A (binaryOp .Mult (.float a ta) (.int n tb)) Q E s := AutoFloatOps.mul_fi_1 hf (h _ _ (F.tok _))
theorem fIMul (F : Fm s₀ X L l news s) (hf : FitsF n) (h : ∀ t s', Fm s₀ X L l news s' → Q (.float (Float64.mul (Float64.ofInt n) a) t) s') : wpAny (model prog w) A (binaryOp .Mult (.int n ta) (.float a tb)) Q E s := AutoFloatOps.mul_if_1 hf (h _ _ (F.tok _))
/-- a / b of ints -/
noncomputable def divF (m n : Int) : UInt64 := Float64.ofFrac (decide (m < 0) != decide (n < 0)) m.natAbs n.natAbs
theorem fDivII (F : Fm s₀ X L l news s) (hn : n ≠ 0) (hm : m.natAbs < 2 ^ 1023) (h : ∀ t s', Fm s₀ X L l news s' → Q (.float (divF m n) t) s') : wpAny (model prog w) A (binaryOp .Div (.int m ta) (.int n tb)) Q E s :=
  AutoIntOps.truediv_2 (by simpa using hn) (quot_fits (by lia) hm) (h _ _ (F.tok _))
theorem fDivIIt (F : Fm s₀ X L l news s) (ht : 1 ≤ s.toks) (hn : n ≠ 0) (hm : m.natAbs < 2 ^ 1023) (h : ∀ t s', t ≠ 0 → Fm s₀ X L l news s' → Q (.float (divF m n) t) s') : wpAny (model prog w) A (binaryOp .Div (.int m ta) (.int n tb)) Q E s :=
  AutoIntOps.truediv_2 (by simpa using hn) (quot_fits (by lia) hm) (h _ _ (Nat.ne_of_gt ht) (F.tok _))
noncomputable def truncF (x : UInt64) : Int := toInt Float64.truncOf x
theorem fInt (F : Fm s₀ X L l news s) (hf : Float64.isFinite a = true) (h : ∀ t s', Fm s₀ X L l news s' → Q (.int (truncF a) t) s') : wpAny (model prog w) A (call (.type "int") [.float a ta]) Q E s := by
  rcases three a with ⟨hd, c⟩ | ⟨_, hd, c⟩ | ⟨sg, m, e, hd, c⟩
  · rw [not_finite_of_nan c] at hf; cases hf
  · rw [not_finite_of_inf c] at hf; cases hf
  · have h2 := h s.toks { s with toks := s.toks + 1 } (F.tok _)
    unfold truncF at h2
    rw [toInt_fin hd] at h2
    exact call_int_float hd h2
theorem fEq (h : Q (.bool (Float64.cmp a b == some Ordering.eq)) s) : wpAny (model prog w) A (compareOp .Eq (.float a ta) (.float b tb)) Q E s := by with_reducible exact AutoFloatOps.eq_0 h
end
/-- numbers of two kinds -/
inductive Num where
  | i (n : Int)
  | f (x : UInt64)
noncomputable def Num.is : Num → Value → Prop
  | .i n, v => ∃ t, v = .int n t
  | .f x, v => ∃ t, v = .float x t
inductive NumsAre : List Num → List Value → Prop
  | nil : NumsAre [] []
  | cons {n : Num} {v : Value} {ns : List Num} {vs : List Value} : n.is v → NumsAre ns vs → NumsAre (n :: ns) (v :: vs)
/-- hsv_to_rgb, where no way raises -/
noncomputable def c6 : UInt64 := 0x4018000000000000
noncomputable def c1 : UInt64 := 0x3ff0000000000000
noncomputable def chalf : UInt64 := 0x3fe0000000000000
noncomputable def sixthOf (h : UInt64) : Int := truncF (Float64.mul h c6)
noncomputable def fracOf (h : UInt64) : UInt64 := Float64.sub (Float64.mul h c6) (Float64.ofInt (sixthOf h))
noncomputable def pOf (s : UInt64) (v : Int) : UInt64 := Float64.mul (Float64.ofInt v) (Float64.sub c1 s)
noncomputable def qOf (h s : UInt64) (v : Int) : UInt64 := Float64.mul (Float64.ofInt v) (Float64.sub c1 (Float64.mul s (fracOf h)))
noncomputable def tOf (h s : UInt64) (v : Int) : UInt64 := Float64.mul (Float64.ofInt v) (Float64.sub c1 (Float64.mul s (Float64.sub c1 (fracOf h))))
noncomputable def paintOf (h s : UInt64) (v : Int) : List Num :=
  [[.i v, .f (tOf h s v), .f (pOf s v)], [.f (qOf h s v), .i v, .f (pOf s v)], [.f (pOf s v), .i v, .f (tOf h s v)], [.f (pOf s v), .f (qOf h s v), .i v], [.f (tOf h s v), .f (pOf s v), .i v], [.i v, .f (pOf s v), .f (qOf h s v)]].getD ((sixthOf h).fmod 6).toNat []
end
section -- MTok
open PySem PySem.W PySem.Calls PyProof.Rows
section
variable {M : Model} {w : World} {A : Around} {E : Value → Shared → Prop} {s s₀ : Shared} {X : List Nat} {L : Nat} {l : List (Str × Value)} {news : List (Nat × Obj)} {env : Env}
/-- an int's constant, the tokens' count told -/
theorem kIntT {i : Int} {k : Nat} {pos : Pos} {Q : Value → Shared → Prop} (F : Fm s₀ X L l news s) (h : ∀ t s', 1 ≤ s'.toks → Fm s₀ X L l news s' → Q (.int i t) s') : wpAny M A (eval (.Constant (.int i) k pos) env) Q E s := by
  with_reducible exact wpAny_Constant_int (h _ _ (Nat.le_add_left _ _) (F.tok _))
/-- a name stored, the tokens' count told -/
theorem stLT {x : Str} {v : Value} {Q : Unit → Shared → Prop} (F : Fm s₀ X env.locals l news s) (hX : env.locals ∈ X)
    (h : ∀ s', 1 ≤ s'.toks → Fm s₀ X env.locals ((x, v) :: l) news s' → Kp [env.locals] s s' → Q () s') (hl : env.kindOf x = some .local) (hk : env.scope.kind = .function) : wpAny M A (storeName env x v) Q E s := by
  refine wpAny_storeName_local hl F.ns (fun h' hn' hs => ?_) (by rw [hk]; rfl)
  rw [lk_cons] at hn'
  have k : Kp [env.locals] s { s with heap := h', toks := s.toks + 1 } := ⟨⟨h', _, rfl⟩, fun b o hb e => hs.extBut b o (by simpa using hb) e⟩
  exact h _ (Nat.le_add_left _ _) ⟨F.kp.trans (k.mono (by simpa using hX)), hn', (fun p hp => hs.extBut _ _ (F.off p hp) (F.objs p hp)), F.off⟩ k
end
end
section -- MCell
open PySem PySem.W PySem.Calls PyProof.Rows
section
variable {w : World} {A : Around} {E : Value → Shared → Prop} {s s₀ : Shared} {X : List Nat} {L : Nat} {l : List (Str × Value)} {news : List (Nat × Obj)} {env : Env}
/-- a name that lives in a cell -/
theorem ldC {M : Model} {x : Str} {pos : Pos} {c : Nat} {v : Value} {Q : Value → Shared → Prop} (hc : env.cells.lookup x = some c) (hI : s.heap.IsCell c (some v)) (h : Q v s)
    (hl : env.kindOf x = some .cell) (hk : env.scope.kind = .function) (hd : (x == ("__debug__" : Str)) = false) : wpAny M A (eval (.Name x pos) env) Q E s := by
  with_reducible exact wpAny_Name (wpAny_loadName_cell hk hl hc hI h) hd
theorem ckp {s' : Shared} {c : Nat} {v : Option Value} (h : s.heap.IsCell c v) (k : Kp X s s') (hc : c ∉ X) : s'.heap.IsCell c v := by obtain ⟨o, ho, r⟩ := h; exact ⟨o, k.keep c o hc ho, r⟩
theorem iterEntry : entryFor table "iter" = some Builtin.«iter» := entryFor_of_fast (by kernel_rfl)
theorem iterArgs (a : Value) : argsOk "iter" ⟨[a], []⟩ := by unfold argsOk; kernel_rfl
/-- iter(list) -/
theorem kIter {a : Nat} {vs : List Value} {Q : Value → Shared → Prop} (F : Fm s₀ X L l news s) (hl : s.heap.IsList a vs.toArray)
    (h : ∀ I s', Above I s → L < I → (∀ p ∈ news, p.1 < I) → Fm s₀ X L l ((I, itO a 0) :: news) s' → Q (.ref I) s') : wpAny (model prog w) A (call (.builtin "iter") [.ref a]) Q E s := by
  refine call_function_entry (by decide +kernel) (by decide +kernel) iterEntry (iterArgs _) ?_
  unfold Builtin.«iter»
  refine wpAny_bind (m := someArgs "iter" 1 2 _) (wpAny_of_eq (a := [Value.ref a]) (by first | rfl | kernel_rfl!) ?_)
  dsimp only
  refine wpAny_bind (wpAny_pyIter_list hl ?_)
  exact wpAny_pure ⟨_, rfl, h _ _ (Nat.le_refl _) F.lt (fun _ hp => F.ltN hp) (F.pushN _ rfl)⟩
/-- a call of a def with cells -/
theorem callFnC {i : Nat} {a : Nat} {args : List Value} {Q : Value → Shared → Prop} (bs : List (Str × Value)) (l : List (Str × Value)) (hA : A.depth < 900) (hl : s.heap.NoLimit) (hf : FnAt s.heap a i)
    (hbind : ∀ pm cd doc, bindArgs (docDef (fnName i) (fnParams i) (fnBody i) (fnScope i) pm cd doc) ⟨args, []⟩ = pure bs)
    (hkind : ∀ n, ∀ x ∈ bs, (fnScope i).names.lookup x.1 = some .local ∨ ((fnScope i).names.lookup x.1 = some .cell ∧ ((cellsFrom n (fnScope i).names []).lookup x.1).isSome = true))
    (hbl : bindL (fun x => (fnScope i).names.lookup x) bs (fun _ => none) = lk l)
    (h : ∀ cd s₁, Keeps s s₁ → s.heap.get? s.heap.objs.size = none → Fm s₁ [s.heap.objs.size] s.heap.objs.size l [] s₁ → Cl s.heap.objs.size (cellsFrom (s.heap.objs.size + 1) (fnScope i).names []) s₁.heap (bindC (fun x => (fnScope i).names.lookup x) bs fun _ => none) →
      wpAny (model prog w) (A.deeper (envOfC (fnName i) (fnScope i) s.heap.objs.size a cd)) (execs (fnBody i) (envOfC (fnName i) (fnScope i) s.heap.objs.size a cd))
        (fun f s' => Q (match f with | .ret v => v | _ => .none) s') (fun _ _ => False) s₁)
    (hco : (fnScope i).isCoroutine = false) (hgen : (fnScope i).isGenerator = false) (hk : (fnScope i).kind = .function) :
    wpAny (model prog w) A (call (.ref a) args) Q E s := by
  obtain ⟨o, pm, cd, doc, h1, h2, h3⟩ := hf
  refine wpAny_call (call_cells_ret (binds := bs) (by unfold recursionLimit; lia) h1 h2 hl h3 (hbind _ _ _) (hkind _) (fun h₁ tk Fr0 C0 => ?_) hco hgen hk)
  have hns := Fr0.ns
  rw [show bindL (envOfC (fnName i) (fnScope i) s.heap.objs.size a cd).kindOf bs (fun _ => none) = lk l from hbl] at hns
  refine wpAny_mono (h cd _ ⟨h₁, tk, rfl, Fr0.keep⟩ ?_ (Fm.of_ns hns) C0) (fun f s' q => ?_) fun _ _ x => x
  · cases e : s.heap.get? s.heap.objs.size with
    | none => rfl
    | some o => exact absurd (Heap.lt_size e) (Nat.lt_irrefl _)
  · cases f <;> exact q
end
end
section -- MComp2
open PySem PySem.W PySem.Calls PyProof.Rows
section
variable {w : World} {A : Around} {E : Value → Shared → Prop} {R : Result → Shared → Prop} {s s₀ : Shared} {X : List Nat} {L : Nat} {l : List (Str × Value)} {news : List (Nat × Obj)} {env : Env}
noncomputable abbrev ceO (v : Option Value) : Obj := { cls := .type "cell", data := .cell v }
theorem Kp.drop {a : Nat} {s' : Shared} (k : Kp (a :: X) s s') (h : s.heap.get? a = none) : Kp X s s' :=
  ⟨k.same, fun b o hb e => k.keep b o (fun q => by rcases List.mem_cons.mp q with q | q; · rw [q, h] at e; cases e
                                                   · exact hb q) e⟩
/-- a comprehension's names, one of them a cell -/
theorem newCompEnv {M : Model} {scope : Scope} {cl : List (Str × Nat)} {x : Str} {qual : Str} {Q : Env → Shared → Prop} {globals : Nat}
    (hc : ∀ n, cellsFrom n scope.names cl = (x, n) :: cl) (hp : ∀ h : Heap, pushCells h scope.names = h.push (ceO none))
    (hQ : ∀ s', s' = { s with heap := (s.heap.push { cls := .type "dict", data := .dict #[] }).push (ceO none) } →
      Q (newEnv scope s.heap.objs.size globals ((x, s.heap.objs.size + 1) :: cl) qual none .none (some env) builtinsNs) s') :
    wpAny M A (newFunctionEnv scope globals cl [] qual none .none (some env)) Q E s := by
  simp only [newFunctionEnv, Option.isSome_some, if_true]
  refine wpAny_bind (wpAny_alloc ?_)
  refine wpAny_bind (wpAny_layCells _ (fun name kind cells => by cases hkc : kind == NameKind.cell <;> simp [hkc]) _ _ _ _ ?_)
  rw [hc, hp]
  rw [show ({ s with heap := s.heap.push { cls := .type "dict", data := .dict #[] } } : Shared).heap.objs.size = s.heap.objs.size + 1 from Heap.size_push ..]
  refine wpAny_bind ?_
  rw [List.forIn_nil]
  exact wpAny_pure (wpAny_pure (hQ _ rfl))
/-- a list comprehension with one cell of its own, as a value -/
theorem compVc {elt target iter : Expr} {ifs : List Expr} {gens : List Comprehension} {scope : Scope} {cl : List (Str × Nat)} {x : Str} {pos : Pos} {Q : Value → Shared → Prop} (s₁ : Shared) (Y : List Nat)
    (hclos : closureFor scope env = pure cl) (hkind : scope.kind = .function) (hnames : ∀ y ∈ scope.names, y.2 = .local → scope.names.lookup y.1 = some .local)
    (hc : ∀ n, cellsFrom n scope.names cl = (x, n) :: cl) (hp : ∀ h : Heap, pushCells h scope.names = h.push (ceO none))
    (h : wpAny (model prog w) A (eval iter env) (fun xv s₁' => wpAny (model prog w) A (pyIter xv) (fun it s₂ => Kp Y s₁ s₂ ∧ (∀ b ∈ Y, b < s₂.heap.objs.size) ∧
      ∀ D C s₃, s₂.heap.objs.size ≤ D → D < C → s₁.heap.get? D = none → s₁.heap.get? C = none → s₁.heap.get? (C + 1) = none → Fm s₁ (C :: D :: (C + 1) :: Y) C [] [(D, lo [] 0), (C + 1, ceO none)] s₃ → (∀ b o, s₂.heap.get? b = some o → s₃.heap.get? b = some o) →
        codeAny (model prog w) A (.compStart (.ListComp elt (⟨target, iter, ifs, 0⟩ :: gens) scope pos) 0 it (.ref D) (compEnvC scope ((x, C + 1) :: cl) C env)) (CompOut s₁ ((C + 1) :: Y) C D Q) s₃) E s₁') E s)
    (hs : ∀ x, foldedSetIterable iter env x = pure x) : wpAny (model prog w) A (eval (.ListComp elt (⟨target, iter, ifs, 0⟩ :: gens) scope pos) env) Q E s := by
  rw [eval_ListComp]
  refine wpAny_comprehension_free (use := none) rfl hs hclos hkind hnames (wpAny_mono h (fun xv s₁' h₁ => wpAny_mono h₁ (fun it s₂ h₂ => ?_) fun _ _ e => e) fun _ _ e => e)
  obtain ⟨K12, hY, h₂⟩ := h₂
  refine wpAny_newObj_type (newCompEnv hc hp fun s₄ hs₄ => ?_)
  dsimp only
  generalize hH2 : s₂.heap.push { cls := .type "list", dict := none, data := .seq ([] : List Value).toArray } = H2 at hs₄ ⊢
  have hC : H2.objs.size = s₂.heap.objs.size + 1 := by rw [← hH2, Heap.size_push]
  have none_above : ∀ b, s₂.heap.objs.size ≤ b → s₁.heap.get? b = none := fun b hb => by
    cases e : s₁.heap.get? b with
    | none => rfl
    | some o =>
      by_cases q : b ∈ Y
      · exact absurd (hY b q) (Nat.not_lt.mpr hb)
      · exact absurd (Heap.lt_size (K12.keep b o q e)) (Nat.not_lt.mpr hb)
  have old : ∀ b o, s₂.heap.get? b = some o → s₄.heap.get? b = some o := fun b o e => by
    subst hs₄
    exact Heap.get?_push_of_some _ (Heap.get?_push_of_some _ (hH2 ▸ Heap.get?_push_of_some _ e))
  have oD : s₄.heap.get? s₂.heap.objs.size = some (lo [] 0) := by
    subst hs₄
    exact Heap.get?_push_of_some _ (Heap.get?_push_of_some _ (hH2 ▸ Heap.get?_push_size _ rfl))
  have nC : s₄.heap.Ns H2.objs.size (lk []) := by
    subst hs₄
    have := (Heap.Ns.new H2 (.type "dict"))
    exact this.keeps fun b o e => Heap.get?_push_of_some _ e
  have oC : s₄.heap.get? (H2.objs.size + 1) = some (ceO none) := by
    subst hs₄
    have := Heap.get?_push_size (H2.push { cls := .type "dict", data := .dict #[] }) (o := ceO none) rfl
    rwa [Heap.size_push] at this
  have F3 : Fm s₁ (H2.objs.size :: s₂.heap.objs.size :: (H2.objs.size + 1) :: Y) H2.objs.size [] [(s₂.heap.objs.size, lo [] 0), (H2.objs.size + 1, ceO none)] s₄ := by
    refine ⟨?_, nC, ?_, ?_⟩
    · obtain ⟨ha, ta, q⟩ := K12.same
      refine ⟨?_, fun b o hb e => old b o (K12.keep b o (fun q => hb (by simp [q])) e)⟩
      subst hs₄
      exact ⟨_, _, by rw [q]⟩
    · intro p hp
      simp at hp
      rcases hp with rfl | rfl
      · exact oD
      · exact oC
    · intro p hp
      simp at hp
      rcases hp with rfl | rfl
      · show s₂.heap.objs.size ≠ _; lia
      · show H2.objs.size + 1 ≠ _; lia
  have h3 := h₂ s₂.heap.objs.size H2.objs.size s₄ (Nat.le_refl _) (by lia) (none_above _ (Nat.le_refl _)) (none_above _ (by lia)) (none_above _ (by lia)) F3 old
  refine codeAny_mono h3 fun r s₅ h₅ => ?_
  obtain ⟨rfl, m, hn, hQ⟩ := h₅.use (none_above _ (by lia)) (none_above _ (Nat.le_refl _))
  exact ⟨m, hn, hQ⟩
/-- a name of a cell stored -/
theorem stCell {M : Model} {x : Str} {c : Nat} {o : Obj} {u : Option Value} {v : Value} {rest : List (Nat × Obj)} {Q : Unit → Shared → Prop} (F : Fm s₀ X env.locals l news s) (hm : (c, o) ∈ news) (hd : o.data = .cell u) (hcX : c ∈ X)
    (hrest : ∀ p ∈ rest, p ∈ news ∧ p.1 ≠ c) (h : ∀ s' o', o'.data = .cell (some v) → Fm s₀ X env.locals l ((c, o') :: rest) s' → Kp [c] s s' → Q () s')
    (hc : env.cells.lookup x = some c) (hl : env.kindOf x = some .cell) (hk : env.scope.kind = .function) : wpAny M A (storeName env x v) Q E s := by
  refine wpAny_storeName_cell hk hl hc ⟨o, F.objs _ hm, hd⟩ fun h' hv hs => ?_
  obtain ⟨o', ho', hd'⟩ := hv
  have k : Kp [c] s { s with heap := h' } := ⟨⟨h', _, rfl⟩, fun b o hb e => hs.extBut b o (by simpa using hb) e⟩
  refine h _ o' hd' ⟨F.kp.trans (k.mono (by simpa using hcX)), F.ns.sameBut hs (Ne.symm (F.off (c, o) hm)), fun p hp => ?_, fun p hp => ?_⟩ k
  · rcases List.mem_cons.mp hp with rfl | hp
    · exact ho'
    · exact hs.extBut _ _ (hrest p hp).2 (F.objs p (hrest p hp).1)
  · rcases List.mem_cons.mp hp with rfl | hp
    · exact F.off (c, o) hm
    · exact F.off p (hrest p hp).1
/-- the last clause, its target a cell, no test -/
theorem compWalkC {elt : Expr} {gens : List Comprehension} {scope : Scope} {pos : Pos} {depth I ce : Nat} {acc : Value} {x : Str} {px : Pos} {iter : Expr} (hg : gens[depth]? = some ⟨.Name x px, iter, [], 0⟩) (hn : gens[depth + 1]? = none)
    {fp wr : List Nat} {n : Nat} {P : Nat → Value → Prop} {St : Nat → Heap → Prop} {o₀ : Obj} {u₀ : Option Value}
    (W : Walks prog w A I fp wr n P St) (F : Fm s₀ X env.locals l ((ce, o₀) :: news) s) (hd₀ : o₀.data = .cell u₀) (hst : St 0 s.heap) (hfX : ∀ b ∈ fp, b ∉ X) (hnew : ∀ b ∈ wr, s₀.heap.get? b = none) (hLX : env.locals ∈ X) (hcX : ce ∈ X) (hcw : ce ∉ wr)
    (J : Nat → List (Str × Value) → List (Nat × Obj) → Prop) (hJn : ∀ i l₁ news₁, J i l₁ news₁ → ∀ p ∈ news₁, p.1 ∉ wr ∧ p.1 ≠ ce) (h0 : J 0 l news)
    (turn : ∀ i v s₁ l₁ news₁ o E', i < n → P i v → J i l₁ news₁ → o.data = .cell (some v) → Fm s₁ X env.locals l₁ ((ce, o) :: news₁) s₁ → Kp X s₀ s₁ → St (i + 1) s₁.heap →
      wpAny (model prog w) A (eval elt env) (fun y s₄ => wpAny (model prog w) A (call (.builtin "list.append") [acc, y]) (fun _ s₅ => ∃ l₂ news₂ o u, o.data = .cell u ∧ Fm s₁ X env.locals l₂ ((ce, o) :: news₂) s₅ ∧ J (i + 1) l₂ news₂) E' s₄) E' s₁)
    (done : ∀ l₁ news₁ s₁, J n l₁ news₁ → Fm s₀ X env.locals l₁ news₁ s₁ → R (.ok .next) s₁) (hc : env.cells.lookup x = some ce) (hl' : env.kindOf x = some .cell) (hk : env.scope.kind = .function) :
    codeAny (model prog w) A (.compLoop (.ListComp elt gens scope pos) depth (.ref I) acc env) R s := by
  refine compWalk W F hst hfX (fun h => hfX _ h hLX) hnew (fun i l₁ n₁ => ∃ o u news₁, n₁ = (ce, o) :: news₁ ∧ o.data = .cell u ∧ J i l₁ news₁) ?_ ⟨o₀, u₀, news, rfl, hd₀, h0⟩
    (fun v K E' s₁ => wpAny (model prog w) A (assign (.Name x px) env v) (fun _ s₂ => wpAny (model prog w) A (eval elt env) (fun y s₄ => wpAny (model prog w) A (call (.builtin "list.append") [acc, y]) (fun _ s₅ => K s₅) E' s₄) E' s₂) E' s₁)
    (fun v K K' E' s' hK h => wpAny_mono h (fun _ _ h => wpAny_mono h (fun _ _ h => wpAny_mono h (fun _ _ h => hK _ h) fun _ _ e => e) fun _ _ e => e) fun _ _ e => e) ?_ ?_ ?_
  · rintro i l₁ n₁ ⟨o, u, news₁, rfl, _, hJ⟩ p hp
    rcases List.mem_cons.mp hp with rfl | hp
    · exact hcw
    · exact (hJn i l₁ news₁ hJ p hp).1
  · intro I' hI' k hk'
    refine compLoopE hg hn I' (fun n s h => wpAny_mono (hI' n s h) (fun r s₁ h₁ => ?_) fun _ _ e => e) k hk' (fun _ => rfl)
    cases r with
    | none => exact h₁
    | some v => exact wpAny_mono h₁ (fun _ s₂ h₂ => by rw [compTests, List.forIn_nil]; exact wpAny_pure (by rw [if_pos rfl]; exact h₂)) fun _ _ e => e
  · rintro i v s₁ l₁ n₁ E' hlt hP ⟨o, u, news₁, rfl, hd, hJ⟩ F₁ K₁ hst₁
    refine wpAny_assign_Name (stCell (rest := news₁) F₁ (List.Mem.head _) hd hcX (fun p hp => ⟨List.mem_cons_of_mem _ hp, (hJn i l₁ news₁ hJ p hp).2⟩) (fun s' o' hd' F2 k2 => ?_) hc hl' hk)
    have K12 : Kp X s₁ s' := F2.kp
    exact wpAny_mono (turn i v s' l₁ news₁ o' E' hlt hP hJ hd' (F2.rebase X) (K₁.trans K12) (W.frame _ _ _ hst₁ fun b hb o e => F2.kp.keep b o (hfX b hb) e)) (fun y s₄ h₄ => wpAny_mono h₄ (fun _ s₅ h₅ => let ⟨l₂, news₂, o, u, d, a, b⟩ := h₅; ⟨l₂, _, a.trans K12, o, u, news₂, rfl, d, b⟩) fun _ _ e => e) fun _ _ e => e
  · rintro l₁ n₁ s₁ ⟨o, u, news₁, rfl, hd, hJ⟩ F₁
    exact done l₁ news₁ s₁ hJ F₁.tl
end
end
section -- MIterG
open PySem PySem.W PySem.Calls PyProof.Rows
section
variable {w : World} {A : Around} {E : Value → Shared → Prop} {R : Result → Shared → Prop} {s s₀ : Shared} {X : List Nat} {L : Nat} {l : List (Str × Value)} {news : List (Nat × Obj)} {env : Env}
noncomputable abbrev rgO (a b : Int) (t u v : Tok) : Obj := { cls := .type "range", data := .fields #[.int a t, .int b u, .int 1 v] }
noncomputable abbrev riO (a n : Int) : Obj := { cls := .type "range_iterator", data := .fields #[.int a 0, .int n 0, .int 1 0] }
theorem kRange1 {b : Int} {t : Tok} {Q : Value → Shared → Prop} (F : Fm s₀ X L l news s) (h : ∀ r u v s', Above r s → L < r → (∀ p ∈ news, p.1 < r) → Fm s₀ X L l ((r, rgO 0 b u t v) :: news) s' → Kp [] s s' → Q (.ref r) s') :
    wpAny (model prog w) A (call (.type "range") [.int b t]) Q E s := by
  with_reducible exact call_range_1 (h _ _ _ _ (Nat.le_refl _) F.lt (fun _ hp => F.ltN hp) ((F.pushN _ rfl).tok _) ⟨⟨_, _, rfl⟩, fun _ _ _ e => Heap.get?_push_of_some _ e⟩)
theorem kRange2 {a b : Int} {t u : Tok} {Q : Value → Shared → Prop} (F : Fm s₀ X L l news s) (h : ∀ r v s', Above r s → L < r → (∀ p ∈ news, p.1 < r) → Fm s₀ X L l ((r, rgO a b t u v) :: news) s' → Kp [] s s' → Q (.ref r) s') :
    wpAny (model prog w) A (call (.type "range") [.int a t, .int b u]) Q E s := by
  with_reducible exact call_range_2 (h _ _ _ (Nat.le_refl _) F.lt (fun _ hp => F.ltN hp) ((F.pushN _ rfl).tok _) ⟨⟨_, _, rfl⟩, fun _ _ _ e => Heap.get?_push_of_some _ e⟩)
/-- what a pyIter makes -/
noncomputable def MakesIt (w : World) (A : Around) (v : Value) (it : Obj) (s : Shared) : Prop := it.isFreed = false ∧ ∀ (E : Value → Shared → Prop) (Q' : Value → Shared → Prop), Q' (.ref s.heap.objs.size) { s with heap := s.heap.push it } → wpAny (model prog w) A (pyIter v) Q' E s
theorem makesL {a : Nat} {vs : List Value} (hl : s.heap.IsList a vs.toArray) : MakesIt w A (.ref a) (itO a 0) s := ⟨rfl, fun E Q' h => wpAny_pyIter_list hl h⟩
theorem makesR {r : Nat} {a b : Int} {t u v : Tok} (hr : s.heap.get? r = some (rgO a b t u v)) (h0 : 0 ≤ a) (h1 : a ≤ b) (h2 : b < 2 ^ 40) : MakesIt w A (.ref r) (riO a (b - a)) s := by
  have e : Builtin.Range.rangeSize a b 1 = b - a := by
    unfold Builtin.Range.rangeSize
    rw [if_pos (by decide)]
    by_cases q : a < b
    · rw [if_pos q, Int.ediv_one]; lia
    · rw [if_neg q]; lia
  refine ⟨rfl, fun E Q' h => wpAny_pyIter_range hr ?_ ?_⟩
  · exact small_one (by lia) (by lia) (by lia) (by lia)
  · rw [e]
    exact h
/-- the iterator for a comprehension -/
theorem iterG {v : Value} {it : Obj} {s₁ : Shared} {Y : List Nat} {T : Value → Nat → Nat → Shared → Prop} (hm : MakesIt w A v it s) (hK : Kp Y s₁ s) (hY : ∀ b ∈ Y, b < s.heap.objs.size)
    (h : ∀ I D C s₃, s.heap.objs.size ≤ I → I < D → D < C → s₁.heap.get? I = none → s₁.heap.get? D = none → s₁.heap.get? C = none → s₃.heap.get? I = some it → Fm s₁ (C :: D :: Y) C [] [(D, lo [] 0)] s₃ →
      (∀ b o, s.heap.get? b = some o → s₃.heap.get? b = some o) → T (.ref I) D C s₃) :
    wpAny (model prog w) A (pyIter v) (fun it s₂ => Kp Y s₁ s₂ ∧ (∀ b ∈ Y, b < s₂.heap.objs.size) ∧ ∀ D C s₃, s₂.heap.objs.size ≤ D → D < C → s₁.heap.get? D = none → s₁.heap.get? C = none → Fm s₁ (C :: D :: Y) C [] [(D, lo [] 0)] s₃ → (∀ b o, s₂.heap.get? b = some o → s₃.heap.get? b = some o) → T it D C s₃) E s := by
  refine hm.2 _ _ ?_
  have old : ∀ b o, s.heap.get? b = some o → (s.heap.push it).get? b = some o := fun b o e => Heap.get?_push_of_some _ e
  refine ⟨hK.trans ⟨⟨_, _, rfl⟩, fun b o _ e => old b o e⟩, (fun b hb => by show b < (s.heap.push _).objs.size; rw [Heap.size_push]; exact Nat.lt_succ_of_lt (hY b hb)), fun D C s₃ h1 h2 h3 h4 F3 k3 => ?_⟩
  have h1' : s.heap.objs.size < D := by
    have : (s.heap.push it).objs.size ≤ D := h1
    rw [Heap.size_push] at this; exact this
  refine h s.heap.objs.size D C s₃ (Nat.le_refl _) h1' h2 ?_ h3 h4 (k3 _ _ (Heap.get?_push_size _ hm.1)) F3 fun b o e => k3 b o (old b o e)
  cases e : s₁.heap.get? s.heap.objs.size with
  | none => rfl
  | some o =>
    by_cases q : s.heap.objs.size ∈ Y
    · exact absurd (hY _ q) (Nat.lt_irrefl _)
    · exact absurd (Heap.lt_size (hK.keep _ _ q e)) (Nat.lt_irrefl _)
theorem iterGc {v : Value} {it : Obj} {s₁ : Shared} {Y : List Nat} {T : Value → Nat → Nat → Shared → Prop} (hm : MakesIt w A v it s) (hK : Kp Y s₁ s) (hY : ∀ b ∈ Y, b < s.heap.objs.size)
    (h : ∀ I D C s₃, s.heap.objs.size ≤ I → I < D → D < C → s₁.heap.get? I = none → s₁.heap.get? D = none → s₁.heap.get? C = none → s₁.heap.get? (C + 1) = none → s₃.heap.get? I = some it → Fm s₁ (C :: D :: (C + 1) :: Y) C [] [(D, lo [] 0), (C + 1, ceO none)] s₃ →
      (∀ b o, s.heap.get? b = some o → s₃.heap.get? b = some o) → T (.ref I) D C s₃) :
    wpAny (model prog w) A (pyIter v) (fun it s₂ => Kp Y s₁ s₂ ∧ (∀ b ∈ Y, b < s₂.heap.objs.size) ∧ ∀ D C s₃, s₂.heap.objs.size ≤ D → D < C → s₁.heap.get? D = none → s₁.heap.get? C = none → s₁.heap.get? (C + 1) = none → Fm s₁ (C :: D :: (C + 1) :: Y) C [] [(D, lo [] 0), (C + 1, ceO none)] s₃ → (∀ b o, s₂.heap.get? b = some o → s₃.heap.get? b = some o) → T it D C s₃) E s := by
  refine hm.2 _ _ ?_
  have old : ∀ b o, s.heap.get? b = some o → (s.heap.push it).get? b = some o := fun b o e => Heap.get?_push_of_some _ e
  refine ⟨hK.trans ⟨⟨_, _, rfl⟩, fun b o _ e => old b o e⟩, (fun b hb => by show b < (s.heap.push _).objs.size; rw [Heap.size_push]; exact Nat.lt_succ_of_lt (hY b hb)), fun D C s₃ h1 h2 h3 h4 h5 F3 k3 => ?_⟩
  have h1' : s.heap.objs.size < D := by
    have : (s.heap.push it).objs.size ≤ D := h1
    rw [Heap.size_push] at this; exact this
  refine h s.heap.objs.size D C s₃ (Nat.le_refl _) h1' h2 ?_ h3 h4 h5 (k3 _ _ (Heap.get?_push_size _ hm.1)) F3 fun b o e => k3 b o (old b o e)
  cases e : s₁.heap.get? s.heap.objs.size with
  | none => rfl
  | some o =>
    by_cases q : s.heap.objs.size ∈ Y
    · exact absurd (hY _ q) (Nat.lt_irrefl _)
    · exact absurd (Heap.lt_size (hK.keep _ _ q e)) (Nat.lt_irrefl _)
end
end
section -- MLaw0
open PySem PySem.W PySem.Calls PyProof.Rows
set_option maxHeartbeats 4000000
/-- the law's text, from a statement on -/
noncomputable def lawBody (k : Nat) : List Stmt := (fnBody 17).drop k
noncomputable def lawStmt (k : Nat) : Stmt := ((fnBody 17)[k]?).getD (.Pass ⟨0, 0, 0, 0⟩)
theorem lawLen : (fnBody 17).length = 24 := by kernel_rfl!
theorem lawBody_step {k : Nat} (h : k < 24) : lawBody k = lawStmt k :: lawBody (k + 1) := by
  unfold lawBody lawStmt
  have h' : k < (fnBody 17).length := by rw [lawLen]; exact h
  rw [List.drop_eq_getElem_cons h', List.getElem?_eq_getElem h']; rfl
noncomputable abbrev lawEnv (L : Nat) (cd : Value) : Env := envOfC (fnName 17) (fnScope 17) L 142 cd
theorem cells17 (n : Nat) : cellsFrom n (fnScope 17).names [] = [(Str.ofString "hues", n + 4), (Str.ofString "tape", n + 3), (Str.ofString "rows", n + 2), (Str.ofString "words", n + 1), (Str.ofString "letters", n)] := by kernel_rfl!
/-- the plain data of the law -/
noncomputable def lettersOf (hs : List Int) : List Int := (hs.take 3).map fun h => (h.fdiv 162).fmod 63
noncomputable def wordLen (h : Int) : Nat := (1 + h.fmod 3).toNat
noncomputable def wordAt (ls : List Int) (h : Int) (p : Nat) : Int := ls.getD ((h.fdiv (3 ^ (p + 1))).fmod 3).toNat 0
noncomputable def wordOf (ls : List Int) (h : Int) : List Int := (List.range (wordLen h)).map (wordAt ls h)
noncomputable def wordsOf (hs : List Int) : List (List Int) := hs.map (wordOf (lettersOf hs))
/-- lists of ints that the ledger bears -/
noncomputable def ListsN (objs : List (Nat × Obj)) (vs : List Value) (rows : List (List Int)) (i : Nat) : Prop := ∀ (j : Nat) (c : List Int), j < i → rows[j]? = some c → ∃ (d : Nat) (us : List Value) (n : Nat), vs[j]? = some (.ref d) ∧ (d, lo us n) ∈ objs ∧ IntsAre us c
theorem ListsN.snoc {objs : List (Nat × Obj)} {vs : List Value} {rows : List (List Int)} {i d n : Nat} {us : List Value} {c : List Int} (h : ListsN objs vs rows i) (hl : vs.length = i) (hr : rows[i]? = some c) (hi : IntsAre us c) :
    ListsN ((d, lo us n) :: objs) (vs ++ [.ref d]) rows (i + 1) := by
  intro j c' hj hc'
  by_cases q : j < i
  · obtain ⟨d', us', n', h1, h2, h3⟩ := h j c' q hc'
    exact ⟨d', us', n', by rw [List.getElem?_append_left (by lia)]; exact h1, List.mem_cons_of_mem _ h2, h3⟩
  · have : j = i := by lia
    subst this
    rw [hr] at hc'; cases hc'
    exact ⟨d, us, n, by rw [List.getElem?_append_right (by lia), hl]; simp, List.mem_cons_self, hi⟩
theorem ListsN.to {objs : List (Nat × Obj)} {vs : List Value} {rows : List (List Int)} {h : Heap} (x : ListsN objs vs rows rows.length) (hl : vs.length = rows.length) (ho : ∀ p ∈ objs, h.get? p.1 = some p.2) : ListsOf h vs rows :=
  ⟨hl, fun j c hc => by
    have hj : j < rows.length := (List.getElem?_eq_some_iff.mp hc).1
    obtain ⟨d, us, n, h1, h2, h3⟩ := x j c hj hc
    exact ⟨d, us, h1, ⟨_, ho _ h2, rfl, n, rfl⟩, h3⟩⟩
theorem ListsN.mono {objs objs' : List (Nat × Obj)} {vs : List Value} {rows : List (List Int)} {i : Nat} (x : ListsN objs vs rows i) (h : ∀ p ∈ objs, p ∈ objs') : ListsN objs' vs rows i := fun j c hj hc =>
  let ⟨d, us, n, h1, h2, h3⟩ := x j c hj hc; ⟨d, us, n, h1, h _ h2, h3⟩
section
variable {H : Heap} {w : World} {A : Around} {E : Value → Shared → Prop} {s s₀ : Shared} {X : List Nat} {L : Nat} {l : List (Str × Value)} {news : List (Nat × Obj)} {cd : Value}
structure LawFrom (w : World) (A : Around) (L : Nat) (cd : Value) (k : Nat) (Q : Flow → Shared → Prop) (E : Value → Shared → Prop) (s : Shared) : Prop where
  go : wpAny (model prog w) A (execs (lawBody k) (lawEnv L cd)) Q E s
theorem exL {k : Nat} {Q : Flow → Shared → Prop} (hk : k < 24) (h : wpAny (model prog w) A (exec (lawStmt k) (lawEnv L cd)) (fun f s' => match f with | .next => LawFrom w A L cd (k + 1) Q E s' | f => Q f s') E s) :
    LawFrom w A L cd k Q E s := by
  refine ⟨?_⟩
  rw [lawBody_step hk]
  refine wpAny_execs_cons (wpAny_mono h (fun f s' q => ?_) fun _ _ e => e)
  cases f with
  | next => exact q.go
  | _ => exact q
/-- a list is no frame, no cell -/
theorem list_ne_ns {h : Heap} {a : Nat} {v : Array Value} {m : Str → Option Value} (x : h.IsList a v) (y : h.Ns L m) : a ≠ L := by
  obtain ⟨o, ho, _, n, hd⟩ := x
  obtain ⟨o', es, ep, ho', hd', _⟩ := y
  rintro rfl
  rw [ho] at ho'; cases ho'; rw [hd] at hd'; cases hd'
theorem list_ne_cell {h : Heap} {a c : Nat} {v : Array Value} {u : Option Value} (x : h.IsList a v) (y : h.IsCell c u) : a ≠ c := by
  obtain ⟨o, ho, _, n, hd⟩ := x
  obtain ⟨o', ho', hd'⟩ := y
  rintro rfl
  rw [ho] at ho'; cases ho'; rw [hd] at hd'; cases hd'
theorem Fm.after {s' : Shared} (F : Fm s₀ X L l news s) (k : Kp [] s s') : Fm s₀ X L l news s' := F.keptX k (by simp) (by simp) (by simp)
end
end
section -- MRules
open PySem PySem.W PySem.Calls PyProof.Rows
section
variable {w : World} {A : Around} {E : Value → Shared → Prop} {s s₀ : Shared} {X : List Nat} {L : Nat} {l : List (Str × Value)} {news : List (Nat × Obj)} {env : Env} {Q : Value → Shared → Prop}
theorem Fm.pushed (F : Fm s₀ X L l news s) (o : Obj) (hf : o.isFreed = false) (h : ∀ D s', Above D s → L < D → (∀ p ∈ news, p.1 < D) → Fm s₀ X L l ((D, o) :: news) s' → Kp [] s s' → Q (.ref D) s') : Q (.ref s.heap.objs.size) { s with heap := s.heap.push o } :=
  h _ _ (Nat.le_refl _) F.lt (fun _ hp => F.ltN hp) (F.pushN _ hf) ⟨⟨_, _, rfl⟩, fun _ _ _ e => Heap.get?_push_of_some _ e⟩
theorem kAddL {a b n k : Nat} {vs us : List Value} (F : Fm s₀ X L l news s) (ha : s.heap.get? a = some (lo vs n)) (hb : s.heap.get? b = some (lo us k)) (hz : vs.length + us.length ≤ 1000)
    (h : ∀ D s', Above D s → L < D → (∀ p ∈ news, p.1 < D) → Fm s₀ X L l ((D, lo (vs ++ us) 0) :: news) s' → Kp [] s s' → Q (.ref D) s') : wpAny (model prog w) A (binaryOp .Add (.ref a) (.ref b)) Q E s := by
  refine P.add_list ha hb ?_ (by simp [sizeLine]; lia)
  have e : vs.toArray ++ us.toArray = (vs ++ us).toArray := by simp
  rw [e]
  exact F.pushed _ rfl h
theorem kMulL {a n : Nat} {x : Int} {u : Tok} {v : Value} (F : Fm s₀ X L l news s) (ha : s.heap.get? a = some (lo [v] n)) (h0 : 0 ≤ x) (h1 : x < 1000)
    (h : ∀ D s', Above D s → L < D → (∀ p ∈ news, p.1 < D) → Fm s₀ X L l ((D, lo (List.replicate x.toNat v) 0) :: news) s' → Kp [] s s' → Q (.ref D) s') : wpAny (model prog w) A (binaryOp .Mult (.ref a) (.int x u)) Q E s := by
  have e : List.foldl (fun x1 x2 => x1 ++ x2) #[] (List.replicate x.toNat (#[v] : Array Value)) = (List.replicate x.toNat v).toArray := by
    have key : ∀ (n : Nat) (acc : Array Value), List.foldl (fun x1 x2 => x1 ++ x2) acc (List.replicate n (#[v] : Array Value)) = acc ++ (List.replicate n v).toArray := by
      intro n
      induction n with
      | zero => intro acc; simp
      | succ n ih =>
        intro acc
        rw [List.replicate_succ, List.foldl_cons, ih, List.replicate_succ]
        apply Array.ext'
        simp
    simpa using key x.toNat #[]
  have e1 : ([v].toArray : Array Value).size * x.toNat = x.toNat := by simp
  have hsz1 : ¬ (([v].toArray : Array Value).size * x.toNat ≥ 2 ^ 60) := by rw [e1]; lia
  have hsz2 : ¬ Builtin.List.listTooLong (([v].toArray : Array Value).size * x.toNat) = true := by rw [e1]; simp [Builtin.List.listTooLong, sizeLine]; lia
  refine wpAny_binaryOp_repeat_ref (T := "list") (U := "int") (by decide) ⟨_, ha, rfl⟩ (fun s' => typeIs_int s' x u) noFill_list_mul PySem.F.fills_int_mul PySem.F.slot_int_rmul repeat_list PySem.F.slot_int_index.lookup
    (call_meets PySem.F.slot_int_rmul (typeIs_int s x u) PySem.F.entry_int_rmul (PySem.F.args_int_rmul_2 _ _) (int___rmul___int_list x u a [v].toArray n)
      ⟨ha, rfl, ⟨_, ha, rfl⟩, call_meets PySem.F.slot_list_mul ⟨_, ha, rfl⟩ PySem.F.entry_list_mul (PySem.F.args_list_mul_2 _ _)
        (AutoListH.list___mul___list_int_3 a [v].toArray n x u (by simp [Builtin.List.listFitsIndex]; lia) hsz1 hsz2)
        ⟨ha, ?_⟩⟩)
  have e2 : (if ([v].toArray : Array Value).isEmpty = true then 0 else x.toNat) = x.toNat := by simp
  rw [e2, e]
  exact F.pushed _ rfl h
theorem kListR {r : Nat} {a b : Int} {t u v : Tok} (hh : A.handled = none) (F : Fm s₀ X L l news s) (hr : s.heap.get? r = some (rgO a b t u v)) (h0 : 0 ≤ a) (h1 : a ≤ b) (h2 : b < 2 ^ 40) (h3 : b - a < 1000)
    (h : ∀ D vs n s', Above D s → L < D → (∀ p ∈ news, p.1 < D) → IntsAre vs ((List.range (b - a).toNat).map fun (i : Nat) => a + i) → Fm s₀ X L l ((D, lo vs n) :: news) s' → Kp [] s s' → Q (.ref D) s') : wpAny (model prog w) A (call (.type "list") [.ref r]) Q E s := by
  have e : Builtin.Range.rangeSize a b 1 = ((b - a).toNat : Int) := by
    unfold Builtin.Range.rangeSize
    rw [if_pos (by decide)]
    by_cases q : a < b
    · rw [if_pos q, Int.ediv_one]; lia
    · rw [if_neg q]; lia
  refine call_list_range hh hr (small_one (by lia) (by lia) (by lia) (by lia)) e (by lia) fun h' tk acc' c' hk hS hI => ?_
  have F' : Fm s₀ X L l ((s.heap.objs.size, lo acc'.toList c') :: news) { s with heap := h', toks := tk } := by
    refine (F.kept ⟨h', tk, rfl, hk⟩).more ?_ (Nat.ne_of_gt F.lt)
    simpa using hS
  refine h _ acc'.toList c' _ (Nat.le_refl _) F.lt (fun _ hp => F.ltN hp) ?_ F' ⟨⟨h', tk, rfl⟩, fun b o _ e => hk b o e⟩
  have key : ∀ (vs : List Value) (m : Nat) (k : Nat), vs.length = m → (∀ j v, vs[j]? = some v → ∃ t, v = Value.int (a + ((k + j : Nat) : Int) * 1) t) → IntsAre vs ((List.range' k m).map fun (i : Nat) => a + i) := by
    intro vs
    induction vs with
    | nil => intro m k hm _; subst hm; exact .nil
    | cons x r ih =>
      intro m k hm hx
      subst hm
      obtain ⟨t, rfl⟩ := hx 0 x rfl
      rw [List.length_cons, List.range'_succ, List.map_cons]
      have e1 : a + ((k + 0 : Nat) : Int) * 1 = a + (k : Int) := by simp
      rw [e1]
      refine .cons _ t (ih _ (k + 1) rfl fun j v hj => ?_)
      obtain ⟨t, q⟩ := hx (j + 1) v (by simpa using hj)
      refine ⟨t, ?_⟩
      rw [q, show k + (j + 1) = k + 1 + j by lia]
  rw [List.range_eq_range']
  refine key _ _ 0 (by simpa using hI.1) fun j v hj => ?_
  obtain ⟨t, q⟩ := hI.2 j v (by simpa using hj)
  exact ⟨t, by rw [q]; simp⟩
/-- an extend's end: a list of the frame's own, the ledger's first -/
theorem extAt {a : Nat} {vs us : List Value} {n : Nat} (F : Fm s₀ X L l ((a, lo vs n) :: news) s) (haX : a ∈ X) (hn : ∀ p ∈ news, p.1 ≠ a)
    (h : ∀ n' s', Fm s₀ X L l ((a, lo (vs ++ us) n') :: news) s' → Q .none s') : Q .none { s with heap := s.heap.update a (Obj.mapSeq fun x => x ++ us.toArray) } := by
  have ho := F.objs _ (.head _)
  have haL : a ≠ L := F.off _ (.head _)
  have e : vs.toArray ++ us.toArray = (vs ++ us).toArray := by simp
  have hs : Heap.SameBut a s.heap (s.heap.update a (Obj.mapSeq fun x => x ++ us.toArray)) := Heap.SameBut.update ..
  refine h (if (vs.toArray ++ us.toArray).size == vs.toArray.size then n else n + 1) _ ⟨F.kp.trans ⟨⟨_, _, rfl⟩, fun b o hb e => hs.extBut b o (fun q => hb (q ▸ haX)) e⟩, F.ns.sameBut hs (Ne.symm haL), (fun p hp => ?_), fun p hp => ?_⟩
  · rcases List.mem_cons.mp hp with rfl | hp
    · show (s.heap.update a (Obj.mapSeq fun x => x ++ us.toArray)).get? a = _
      rw [Heap.get?_update_self _ ho (by rw [mapSeq_app]; rfl), mapSeq_app, e]
    · exact hs.extBut _ _ (hn p hp) (F.objs p (List.mem_cons_of_mem _ hp))
  · rcases List.mem_cons.mp hp with rfl | hp
    · exact haL
    · exact F.off p (List.mem_cons_of_mem _ hp)
/-- what the argument of x.extend(..) must show -/
noncomputable def ExtEnd (a : Nat) (Q : Value → Shared → Prop) (v : Value) (s₁ : Shared) : Prop :=
  ∃ (b : Nat) (vs us : List Value) (n k : Nat) (s₀ : Shared) (X : List Nat) (L : Nat) (l : List (Str × Value)) (news : List (Nat × Obj)), v = .ref b ∧ Fm s₀ X L l ((a, lo vs n) :: news) s₁ ∧ s₁.heap.get? b = some (lo us k) ∧ a ∈ X ∧ (∀ p ∈ news, p.1 ≠ a) ∧ vs.length + us.length ≤ 1000 ∧
    ∀ n' s', Fm s₀ X L l ((a, lo (vs ++ us) n') :: news) s' → Q .none s'
/-- x.extend(e) -/
theorem kExtend {x : Str} {p apos pos : Pos} {elt : Expr} {a : Nat} {vs : List Value} {n : Nat} (F : Fm s₀ X env.locals l news s) (hv : lk l x = some (.ref a)) (hm : (a, lo vs n) ∈ news)
    (h : wpAny (model prog w) A (eval elt env) (ExtEnd a Q) E s)
    (hl : env.kindOf x = some .local) (hk : env.scope.kind = .function) (hd : (x == ("__debug__" : Str)) = false)
    (hbase : attributeBase (.Name x p) "extend" env (eval (.Name x p) env) = eval (.Name x p) env) (hline : (apos.endLine == pos.line) = true)
    (htrees : backTo pos (starEach [elt] env) = [(false, eval elt env)]) :
    wpAny (model prog w) A (eval (.Call (.Attribute (.Name x p) "extend" apos) [elt] [] pos) env) Q E s := by
  refine wpAny_Call_method1_late hbase hline htrees (ldL F hv ?_ hl hk hd)
  have ho := F.objs _ hm
  refine ⟨"list", "list.extend", PySem.F.plainAttrs_list, PySem.F.slot_list_extend, PySem.F.type_list_extend, ⟨_, ho, rfl⟩, (fun b e => by cases e; exact ⟨_, ho, rfl⟩), P.extend_list (wpAny_mono h (fun v s₁ h₁ => ?_) fun _ _ e => e)⟩
  obtain ⟨b, vs, us, n, k, s₀, X, L, l, news, rfl, F1, hb, haX, hn, hz, hQ⟩ := h₁
  have hs1 : vs.toArray.size + us.toArray.size ≤ sizeLine := by simp [sizeLine]; lia
  exact ⟨b, vs.toArray, us.toArray, n, k, Nat.le_trans (Nat.le_add_right _ _) hs1, Nat.le_succ_of_le hs1, extend_door hs1, rfl, F1.objs _ (.head _), hb, extAt F1 haX hn hQ⟩
/-- the iterator of a text -/
noncomputable def stO (x : Str) (t : Tok) : Obj := { cls := .type (if x.cps.all (· < 128) then "str_ascii_iterator" else "str_iterator"), data := .fields #[.str x t, .int 0 0] }
theorem makesS {x : Str} {t : Tok} : MakesIt w A (.str x t) (stO x t) s := by
  refine ⟨rfl, fun E Q' h => ?_⟩
  unfold stO at h
  cases ha : x.cps.all (· < 128) <;> rw [ha] at h
  · exact wpAny_pyIter_wide ha h
  · exact wpAny_pyIter_ascii ha h
theorem walksS (hh : A.handled = none) (I : Nat) (x : Str) (t : Tok) : ∃ St : Nat → Heap → Prop, Walks prog w A I [I] [I] x.cps.size (SignAt x) St ∧ (∀ h : Heap, h.get? I = some (stO x t) → St 0 h) ∧ ∀ i h, St i h → I < h.objs.size := by
  unfold stO
  cases ha : x.cps.all (· < 128)
  · exact ⟨_, Walks.strWide hh I x t, fun h e => ⟨_, e, rfl, rfl⟩, fun i h st => exLt st⟩
  · exact ⟨_, Walks.strAscii hh I x t, fun h e => ⟨_, e, rfl, rfl⟩, fun i h st => exLt st⟩
end
end
section -- MEqF
open PySem PySem.W PySem.Calls PyProof.Rows PySem.SeqAt
section
variable {A : Around} {s : Shared}
theorem notTold {M : Model} {E : Value → Shared → Prop} {t : Tok} {mc : Str → Option Value} {Q : Bool → Shared → Prop} (hn : s.heap.Ns cStatics mc) (hk : mc sharingNotToldKey = none) (h : Q false s) : wpAny M A (sharingNotTold t) Q E s := by
  unfold sharingNotTold
  refine wpAny_bind (wpAny_nsGet hn ?_)
  rw [hk]
  exact wpAny_pure h
/-- two floats of one value, inside a tuple -/
theorem eqF {a b : UInt64} {t u : Tok} {mc : Str → Option Value} (hn : s.heap.Ns cStatics mc) (hk : mc sharingNotToldKey = none) (ht : t ≠ 0) (hu : u ≠ 0) (hc : (Float64.cmp a b == some Ordering.eq) = true) : EqAt A s (.float a t) (.float b u) true := by
  intro prog w E Q h
  have hlast : ∀ E', wpAny (model prog w) A (truthOfDropped =<< richCompare .Eq (.float a t) (.float b u)) Q E' s := by
    intro E'
    refine wpAny_bind ?_
    refine AutoFloatOps.eq_0 (Q := fun v s' => wpAny (model prog w) A (truthOfDropped v) Q E' s') ?_
    rw [hc]
    exact wpAny_truthy_bool h
  unfold eqBool
  refine wpAny_holding ?_
  refine wpAny_ite_split (fun hab => wpAny_bind (wpAny_rule (wpAny_pure h))) (fun hab => ?_)
  dsimp only
  refine wpAny_bind ?_
  unfold isSame
  dsimp only
  unfold isSame.created
  have fin : ∀ (x : Bool), wpAny (model prog w) A (if x = true then pure true else truthOfDropped =<< richCompare .Eq (.float a t) (.float b u)) Q E s := by
    intro x
    cases x
    · exact hlast E
    · exact wpAny_pure h
  refine wpAny_mono (Q := fun _ s' => s' = s) ?_ (fun x s' e => ?_) fun _ _ e => e
  · have h0 : ¬ ((t == 0 || u == 0) = true) := by simp; exact ⟨ht, hu⟩
    dsimp only
    rw [if_neg h0]
    by_cases h1 : (t == u) = true
    · rw [if_pos h1]; exact wpAny_pure rfl
    · rw [if_neg h1]
      by_cases h2 : (!(a == b && !Float64.isNaN a)) = true
      · rw [if_pos h2]; exact wpAny_pure rfl
      · rw [if_neg h2]
        refine wpAny_bind (notTold hn hk ?_)
        rw [if_neg (by decide)]
        refine wpAny_bind (notTold hn hk ?_)
        rw [if_neg (by decide)]
        refine wpAny_bind (wpAny_rule ?_)
        refine wpAny_bind ?_
        exact fun _ _ _ => wpAny_pure rfl
  · subst e
    have := fin x
    cases x
    · exact this
    · exact this
end
end
section -- MComp3
open PySem PySem.W PySem.Calls PyProof.Rows PySem.Spec
set_option maxHeartbeats 4000000
section
variable {w : World} {A : Around} {E : Value → Shared → Prop} {R : Result → Shared → Prop} {s s₀ : Shared} {X : List Nat} {L : Nat} {l : List (Str × Value)} {news : List (Nat × Obj)} {env : Env}
/-- the last clause, one test -/
theorem compWalkT {elt test : Expr} {gens : List Comprehension} {scope : Scope} {pos : Pos} {depth I : Nat} {acc : Value} {x : Str} {px : Pos} {iter : Expr} (hg : gens[depth]? = some ⟨.Name x px, iter, [test], 0⟩) (hn : gens[depth + 1]? = none)
    {fp wr : List Nat} {n : Nat} {P : Nat → Value → Prop} {St : Nat → Heap → Prop}
    (W : Walks prog w A I fp wr n P St) (F : Fm s₀ X env.locals l news s) (hst : St 0 s.heap) (hfX : ∀ b ∈ fp, b ∉ X) (hnew : ∀ b ∈ wr, s₀.heap.get? b = none) (hLX : env.locals ∈ X)
    (J : Nat → List (Str × Value) → List (Nat × Obj) → Prop) (hJn : ∀ i l₁ news₁, J i l₁ news₁ → ∀ p ∈ news₁, p.1 ∉ wr) (h0 : J 0 l news)
    (turn : ∀ i v s₁ l₁ news₁ E', i < n → P i v → J i l₁ news₁ → Fm s₁ X env.locals ((x, v) :: l₁) news₁ s₁ → Kp X s₀ s₁ → St (i + 1) s₁.heap →
      wpAny (model prog w) A (isTrue test env (eval test env)) (fun ok s₃ => if ok = true then wpAny (model prog w) A (eval elt env) (fun y s₄ => wpAny (model prog w) A (call (.builtin "list.append") [acc, y]) (fun _ s₅ => ∃ l₂ news₂, Fm s₁ X env.locals l₂ news₂ s₅ ∧ J (i + 1) l₂ news₂) E' s₄) E' s₃
        else ∃ l₂ news₂, Fm s₁ X env.locals l₂ news₂ s₃ ∧ J (i + 1) l₂ news₂) E' s₁)
    (done : ∀ l₁ news₁ s₁, J n l₁ news₁ → Fm s₀ X env.locals l₁ news₁ s₁ → R (.ok .next) s₁) (hl' : env.kindOf x = some .local) (hk : env.scope.kind = .function) :
    codeAny (model prog w) A (.compLoop (.ListComp elt gens scope pos) depth (.ref I) acc env) R s := by
  refine compWalk W F hst hfX (fun h => hfX _ h hLX) hnew J hJn h0
    (fun v K E' s₁ => wpAny (model prog w) A (assign (.Name x px) env v) (fun _ s₂ => wpAny (model prog w) A (isTrue test env (eval test env)) (fun ok s₃ => if ok = true then wpAny (model prog w) A (eval elt env) (fun y s₄ => wpAny (model prog w) A (call (.builtin "list.append") [acc, y]) (fun _ s₅ => K s₅) E' s₄) E' s₃ else K s₃) E' s₂) E' s₁)
    (fun v K K' E' s' hK h => wpAny_mono h (fun _ _ h => wpAny_mono h (fun ok _ h => by
      cases ok
      · exact hK _ h
      · exact wpAny_mono h (fun _ _ h => wpAny_mono h (fun _ _ h => hK _ h) fun _ _ e => e) fun _ _ e => e) fun _ _ e => e) fun _ _ e => e) ?_ ?_ done
  · intro I' hI' k hk'
    refine compLoopE hg hn I' (fun n s h => wpAny_mono (hI' n s h) (fun r s₁ h₁ => ?_) fun _ _ e => e) k hk' (fun _ => rfl)
    cases r with
    | none => exact h₁
    | some v =>
      refine wpAny_mono h₁ (fun _ s₂ h₂ => ?_) fun _ _ e => e
      rw [compTests, List.forIn_cons]
      rw [if_pos rfl]
      refine wpAny_bind (wpAny_bind (wpAny_mono h₂ (fun ok s₃ h₃ => ?_) fun _ _ e => e))
      refine wpAny_pure ?_
      dsimp only
      rw [List.forIn_nil]
      exact wpAny_pure h₃
  · intro i v s₁ l₁ news₁ E' hlt hP hJ F₁ K₁ hst₁
    refine wpAny_assign_Name (stL F₁ hLX (fun s' F2 k2 => ?_) hl' hk)
    have K12 : Kp X s₁ s' := F2.kp
    refine wpAny_mono (turn i v s' l₁ news₁ E' hlt hP hJ (F2.rebase X) (K₁.trans K12) (W.frame _ _ _ hst₁ fun b hb o e => F2.kp.keep b o (hfX b hb) e)) (fun ok s₃ h₃ => ?_) fun _ _ e => e
    cases ok
    · obtain ⟨l₂, news₂, a, b⟩ := h₃
      exact ⟨l₂, news₂, a.trans K12, b⟩
    · exact wpAny_mono h₃ (fun y s₄ h₄ => wpAny_mono h₄ (fun _ s₅ h₅ => let ⟨l₂, news₂, a, b⟩ := h₅; ⟨l₂, news₂, a.trans K12, b⟩) fun _ _ e => e) fun _ _ e => e
/-- how many are different -/
noncomputable def card3 (a b c : Int) : Nat := (if c = a ∨ c = b then 0 else 1) + ((if b = a then 0 else 1) + 1)
theorem addSet {D : Nat} {S : Int → Bool} {n : Nat} {k : Int} {t : Tok} {Q : Bool → Shared → Prop} (hS : s.heap.SetOf (intKind prog w) D S n) (hn : n < 100)
    (h : ∀ b h', Heap.SameBut D s.heap h' → h'.SetOf (intKind prog w) D (fun k' => S k' || decide (k' = k)) (if S k then n else n + 1) → Q b { s with heap := h', toks := s.toks + 1 }) : wpAny (model prog w) A (setAdd D (.int k t)) Q E s := by
  unfold setAdd
  refine wpAny_holding (wpAny_bind ((intKind prog w).pyHash (k := k) (by simp [intKind, Value.isInt]) ?_))
  refine wpAny_setAddHashed_of (knd := intKind prog w) (s := { s with toks := s.toks + 1 }) (by simp [intKind, Value.isInt]) rfl hS (by simp [scanBound]; lia) fun h' hsb hS' => ?_
  exact h _ h' hsb hS'
/-- a set display of three local names -/
theorem kSet3 {xa xb xc : Str} {pa pb pc pos : Pos} {a b c : Int} {ta tb tc : Tok} {Q : Value → Shared → Prop} (F : Fm s₀ X env.locals l news s) (ha : lk l xa = some (.int a ta)) (hb : lk l xb = some (.int b tb)) (hc : lk l xc = some (.int c tc))
    (hmain : ∃ c o vs, env.code = .ref c ∧ s.heap.get? c = some o ∧ o.data = .fields vs)
    (hka : env.kindOf xa = some .local) (hkb : env.kindOf xb = some .local) (hkc : env.kindOf xc = some .local) (hk : env.scope.kind = .function) (da : (xa == ("__debug__" : Str)) = false) (db : (xb == ("__debug__" : Str)) = false) (dc : (xc == ("__debug__" : Str)) = false)
    (h : ∀ D S s', Fm s₀ X env.locals l news s' → s'.heap.SetOf (intKind prog w) D S (card3 a b c) → Kp [] s s' → Q (.ref D) s') : wpAny (model prog w) A (eval (.Set [.Name xa pa, .Name xb pb, .Name xc pc] 0 pos) env) Q E s := by
  rw [arm_eval_Set]
  refine wpAny_bind (wpAny_standAt ?_)
  obtain ⟨cc, o, vs, e1, e2, e3⟩ := hmain
  have hin : ∀ {Q' : Bool → Shared → Prop}, (∀ b, Q' b s) → wpAny (model prog w) A (inMainModule env) Q' E s := by
    intro Q' hq
    unfold inMainModule
    rw [e1]
    rw [if_neg (by simp)]
    refine wpAny_bind (wpAny_fieldsOf e2 e3 ?_)
    split
    · exact wpAny_bind (wpAny_askSetting (wpAny_pure (hq _)))
    · exact wpAny_pure (hq _)
  refine wpAny_bind (hin fun b' => ?_)
  have hr : displayRoad 0 [.Name xa pa, .Name xb pb, .Name xc pc] = .oneByOne := by unfold displayRoad; rw [if_neg (by decide), if_neg (by simp), if_neg (by rw [List.all_cons, alone_name, da]; exact Bool.false_ne_true)]
  have hroad : (displayRoad 0 [.Name xa pa, .Name xb pb, .Name xc pc] == .constants) = false := by rw [hr]; rfl
  have hroad2 : (displayRoad 0 [.Name xa pa, .Name xb pb, .Name xc pc] == .unsure) = false := by rw [hr]; rfl
  rw [kds_star _ (by rfl), List.map_map]
  refine kds_core (ts := (evalEach [.Name xa pa, .Name xb pb, .Name xc pc] env).map fun t => do let v ← t; standAt pos; pure v) hroad ?_ ?_ ?_ fun led => ?_
  · refine List.findIdx?_eq_none_iff.mpr fun x hx => ?_
    obtain ⟨t, _, rfl⟩ := List.mem_map.mp hx
    rfl
  · rw [List.length_map, kds_len]; simp
  · rw [List.map_map]; rfl
  · refine kds_all pos _ _ _ ?_
    have F1 := F.push (s := s) { cls := .type "set", dict := none, data := .set #[] 0 (.fresh 0 0 led) }
    have hS0 : (s.heap.push { cls := .type "set", dict := none, data := .set #[] 0 (.fresh 0 0 led) }).SetOf (intKind prog w) s.heap.objs.size (fun _ => false) 0 := (setObjOf_fresh led).setOf (Heap.get?_push_size _ rfl) (by decide)
    have hDL : s.heap.objs.size ≠ env.locals := Nat.ne_of_gt F.lt
    refine ldL F1 ha (ldL F1 hb (ldL F1 hc ?_ hkc hk dc) hkb hk db) hka hk da
    have step : ∀ {h1 h2 : Heap}, (∀ b o, s.heap.get? b = some o → h1.get? b = some o) → Heap.SameBut s.heap.objs.size h1 h2 → (∀ b o, s.heap.get? b = some o → h2.get? b = some o) := fun k1 sb b o e => (sb.2 b (Nat.ne_of_lt (Heap.lt_size e))).trans (k1 b o e)
    refine addSet hS0 (by decide) fun b1 h1 sb1 hS1 => ?_
    refine addSet (s := { s with heap := h1, toks := s.toks + 1 }) hS1 (by simp) fun b2 h2 sb2 hS2 => ?_
    refine addSet (s := { s with heap := h2, toks := s.toks + 1 + 1 }) hS2 (by split <;> simp) fun b3 h3 sb3 hS3 => ?_
    have k0 : ∀ b o, s.heap.get? b = some o → (s.heap.push { cls := .type "set", dict := none, data := .set #[] 0 (.fresh 0 0 led) }).get? b = some o := fun b o e => Heap.get?_push_of_some _ e
    have k3 := step (step (step k0 sb1) sb2) sb3
    have en : (if (false || decide (c = a) || decide (c = b)) = true then (if (false || decide (b = a)) = true then (if (false : Bool) = true then 0 else 0 + 1) else (if (false : Bool) = true then 0 else 0 + 1) + 1) else (if (false || decide (b = a)) = true then (if (false : Bool) = true then 0 else 0 + 1) else (if (false : Bool) = true then 0 else 0 + 1) + 1) + 1) = card3 a b c := by
      unfold card3
      by_cases q1 : c = a <;> by_cases q2 : c = b <;> by_cases q3 : b = a <;> simp [q1, q2, q3] <;> omega
    have hS4 := en ▸ hS3
    exact kds_fill_nil hroad2 (h _ _ _ (F.kept ⟨h3, _, rfl, k3⟩) hS4 ⟨⟨h3, _, rfl⟩, fun b o _ e => k3 b o e⟩)
theorem kLenSet {D : Nat} {S : Int → Bool} {n : Nat} {Q : Value → Shared → Prop} (F : Fm s₀ X L l news s) (hS : s.heap.SetOf (intKind prog w) D S n) (hn : n < 100) (h : ∀ t s', Fm s₀ X L l news s' → Q (.int (n : Nat) t) s') : wpAny (model prog w) A (call (.builtin "len") [.ref D]) Q E s := by
  obtain ⟨o, es, ep, t, ho, hex, hd, _, _, _, hf, rfl⟩ := hS
  exact call_len_set ho hex hd hf (by lia) (h _ _ (F.tok _))
end
end
end
section
open PySem PySem.W PySem.Calls PyProof.Rows
/-- a name that a frame holds -/
noncomputable def okName (env : Env) (x : Str) : Bool := decide (env.kindOf x = some .local) && decide (env.scope.kind = .function) && !(x == ("__debug__" : Str))
theorem okName.to {env : Env} {x : Str} (h : okName env x = true) : env.kindOf x = some .local ∧ env.scope.kind = .function ∧ (x == ("__debug__" : Str)) = false := by
  unfold okName at h
  obtain ⟨h1, h3⟩ := Bool.and_eq_true_iff.mp h
  obtain ⟨h1, h2⟩ := Bool.and_eq_true_iff.mp h1
  exact ⟨of_decide_eq_true h1, of_decide_eq_true h2, by cases e : (x == ("__debug__" : Str)); rfl; rw [e] at h3; cases h3⟩
/-- a name of the text or a built-in one -/
noncomputable def okGlob (env : Env) (x : Str) : Bool := decide (env.kindOf x = some .globalImplicit) && decide (env.scope.kind = .function) && decide (env.globals = mainGlobals) && decide (env.builtins = builtinsNs) && !(x == ("__debug__" : Str))
theorem okGlob.to {env : Env} {x : Str} (h : okGlob env x = true) : env.kindOf x = some .globalImplicit ∧ env.scope.kind = .function ∧ env.globals = mainGlobals ∧ env.builtins = builtinsNs ∧ (x == ("__debug__" : Str)) = false := by
  unfold okGlob at h
  obtain ⟨h, h5⟩ := Bool.and_eq_true_iff.mp h
  obtain ⟨h, h4⟩ := Bool.and_eq_true_iff.mp h
  obtain ⟨h, h3⟩ := Bool.and_eq_true_iff.mp h
  obtain ⟨h1, h2⟩ := Bool.and_eq_true_iff.mp h
  exact ⟨of_decide_eq_true h1, of_decide_eq_true h2, of_decide_eq_true h3, of_decide_eq_true h4, by simpa using h5⟩
/-- plain arguments -/
noncomputable def okArgs (pos : Pos) (env : Env) (args : List Expr) : Bool := match backTo pos (starEach args env) with
  | (false, _) :: rest => !(rest.any (·.1))
  | _ => false
theorem okArgs.to {pos : Pos} {env : Env} {args : List Expr} (h : okArgs pos env args = true) : ∃ t rest, backTo pos (starEach args env) = (false, t) :: rest ∧ ((false, t) :: rest).any (·.1) = false := by
  unfold okArgs at h
  split at h
  · next t rest e => exact ⟨t, rest, e, by simpa using h⟩
  · cases h
noncomputable def okCall (env : Env) (x : Str) (pos : Pos) (args : List Expr) (v : Value) : Bool := okGlob env x && okArgs pos env args && (match v with | .builtin _ => true | .type _ => true | _ => false)
/-- an expression that only counts -/
structure Pu (w : World) (A : Around) (s₀ : Shared) (X : List Nat) (l : List (Str × Value)) (news : List (Nat × Obj)) (env : Env) (e : Expr) (x : Num) : Prop where
  run : ∀ {Q : Value → Shared → Prop} {E : Value → Shared → Prop} {s : Shared}, Fm s₀ X env.locals l news s → (∀ v s', x.is v → Fm s₀ X env.locals l news s' → Q v s') → wpAny (model prog w) A (eval e env) Q E s
/-- an operation on numbers -/
structure OpN (op : Operator) (x y z : Num) : Prop where
  run : ∀ {w : World} {A : Around} {Q E : Value → Shared → Prop} {s₀ s : Shared} {X : List Nat} {L : Nat} {l : List (Str × Value)} {news : List (Nat × Obj)} {a b : Value}, x.is a → y.is b → Fm s₀ X L l news s → (∀ v s', z.is v → Fm s₀ X L l news s' → Q v s') → wpAny (model prog w) A (binaryOp op a b) Q E s
section
variable {w : World} {A : Around} {s₀ : Shared} {X : List Nat} {l : List (Str × Value)} {news : List (Nat × Obj)} {env : Env}
theorem puI {i : Int} {k : Nat} {pos : Pos} : Pu w A s₀ X l news env (.Constant (.int i) k pos) (.i i) := ⟨fun F h => kInt F fun t s' => h _ _ ⟨t, rfl⟩⟩
theorem puF {x : UInt64} {k : Nat} {pos : Pos} : Pu w A s₀ X l news env (.Constant (.float x) k pos) (.f x) := ⟨fun F h => kFlt F fun t s' => h _ _ ⟨t, rfl⟩⟩
theorem puN {x : Str} {pos : Pos} {i : Int} {t : Tok} (hv : lk l x = some (.int i t)) (ok : okName env x = true) : Pu w A s₀ X l news env (.Name x pos) (.i i) :=
  ⟨fun F h => ldL F hv (h _ _ ⟨t, rfl⟩ F) (okName.to ok).1 (okName.to ok).2.1 (okName.to ok).2.2⟩
theorem puNf {x : Str} {pos : Pos} {i : UInt64} {t : Tok} (hv : lk l x = some (.float i t)) (ok : okName env x = true) : Pu w A s₀ X l news env (.Name x pos) (.f i) :=
  ⟨fun F h => ldL F hv (h _ _ ⟨t, rfl⟩ F) (okName.to ok).1 (okName.to ok).2.1 (okName.to ok).2.2⟩
theorem puB {a b : Expr} {op : Operator} {pos : Pos} {x y z : Num} (ha : Pu w A s₀ X l news env a x) (hb : Pu w A s₀ X l news env b y) (o : OpN op x y z) : Pu w A s₀ X l news env (.BinOp a op b pos) z :=
  ⟨fun F h => wpAny_BinOp (ha.run F fun _ _ h1 F1 => hb.run F1 fun _ _ h2 F2 => o.run h1 h2 F2 h)⟩
theorem puNeg {a : Expr} {pos : Pos} {i : Int} (ha : Pu w A s₀ X l news env a (.i i)) : Pu w A s₀ X l news env (.UnaryOp .USub a pos) (.i (-i)) :=
  ⟨fun F h => wpAny_UnaryOp (ha.run F fun _ _ h1 F1 => by obtain ⟨t, rfl⟩ := h1; exact kNeg F1 fun t s' => h _ _ ⟨t, rfl⟩)⟩
theorem useI {a b : Expr} {op : Operator} {pos : Pos} {n : Int} {s : Shared} {Q E : Value → Shared → Prop} (F : Fm s₀ X env.locals l news s) (c : Pu w A s₀ X l news env (.BinOp a op b pos) (.i n))
    (h : ∀ t s', Fm s₀ X env.locals l news s' → Q (.int n t) s') : wpAny (model prog w) A (eval (.BinOp a op b pos) env) Q E s :=
  c.run F fun _ _ hv => by obtain ⟨t, rfl⟩ := hv; exact h t _
theorem useF {a b : Expr} {op : Operator} {pos : Pos} {n : UInt64} {s : Shared} {Q E : Value → Shared → Prop} (F : Fm s₀ X env.locals l news s) (c : Pu w A s₀ X l news env (.BinOp a op b pos) (.f n))
    (h : ∀ t s', Fm s₀ X env.locals l news s' → Q (.float n t) s') : wpAny (model prog w) A (eval (.BinOp a op b pos) env) Q E s :=
  c.run F fun _ _ hv => by obtain ⟨t, rfl⟩ := hv; exact h t _
end
section
variable {a b : Int} {x y : UInt64}
theorem oAdd : OpN .Add (.i a) (.i b) (.i (a + b)) := ⟨fun h1 h2 F h => by obtain ⟨_, rfl⟩ := h1; obtain ⟨_, rfl⟩ := h2; (with_reducible refine kAdd F fun t s' => ?_); exact h _ _ ⟨t, rfl⟩⟩
theorem oSub : OpN .Sub (.i a) (.i b) (.i (a - b)) := ⟨fun h1 h2 F h => by obtain ⟨_, rfl⟩ := h1; obtain ⟨_, rfl⟩ := h2; (with_reducible refine kSub F fun t s' => ?_); exact h _ _ ⟨t, rfl⟩⟩
theorem oMul (m : IntMulOk a b) : OpN .Mult (.i a) (.i b) (.i (a * b)) := ⟨fun h1 h2 F h => by obtain ⟨_, rfl⟩ := h1; obtain ⟨_, rfl⟩ := h2; (with_reducible refine kMult F m fun t s' => ?_); exact h _ _ ⟨t, rfl⟩⟩
theorem oMod (z : b ≠ 0) : OpN .Mod (.i a) (.i b) (.i (a.fmod b)) := ⟨fun h1 h2 F h => by obtain ⟨_, rfl⟩ := h1; obtain ⟨_, rfl⟩ := h2; (with_reducible refine kMod F z fun t s' => ?_); exact h _ _ ⟨t, rfl⟩⟩
theorem oDiv (z : b ≠ 0) (hs : b.natAbs < 1073741824) : OpN .FloorDiv (.i a) (.i b) (.i (a.fdiv b)) := ⟨fun h1 h2 F h => by obtain ⟨_, rfl⟩ := h1; obtain ⟨_, rfl⟩ := h2; (with_reducible refine kFloorDiv F z (PyProof.noPylong_small hs) fun t s' => ?_); exact h _ _ ⟨t, rfl⟩⟩
theorem oAnd : OpN .BitAnd (.i a) (.i b) (.i (Builtin.bitAnd a b)) := ⟨fun h1 h2 F h => by obtain ⟨_, rfl⟩ := h1; obtain ⟨_, rfl⟩ := h2; (with_reducible refine kBitAnd F fun t s' => ?_); exact h _ _ ⟨t, rfl⟩⟩
theorem oOr : OpN .BitOr (.i a) (.i b) (.i (Builtin.bitOr a b)) := ⟨fun h1 h2 F h => by obtain ⟨_, rfl⟩ := h1; obtain ⟨_, rfl⟩ := h2; (with_reducible refine kBitOr F fun t s' => ?_); exact h _ _ ⟨t, rfl⟩⟩
theorem oPow (h0 : 0 ≤ b) (h1 : b ≤ 1000000) (h2 : a.natAbs < 2 ^ 64) : OpN .Pow (.i a) (.i b) (.i (a ^ b.toNat)) := ⟨fun h1 h2 F h => by obtain ⟨_, rfl⟩ := h1; obtain ⟨_, rfl⟩ := h2; (with_reducible refine kPow F h0 h1 h2 fun t s' => ?_); exact h _ _ ⟨t, rfl⟩⟩
theorem oFAdd : OpN .Add (.f x) (.f y) (.f (Float64.add x y)) := ⟨fun h1 h2 F h => by obtain ⟨_, rfl⟩ := h1; obtain ⟨_, rfl⟩ := h2; (with_reducible refine fAdd F fun t s' => ?_); exact h _ _ ⟨t, rfl⟩⟩
theorem oFSub : OpN .Sub (.f x) (.f y) (.f (Float64.sub x y)) := ⟨fun h1 h2 F h => by obtain ⟨_, rfl⟩ := h1; obtain ⟨_, rfl⟩ := h2; (with_reducible refine fSub F fun t s' => ?_); exact h _ _ ⟨t, rfl⟩⟩
theorem oFMul : OpN .Mult (.f x) (.f y) (.f (Float64.mul x y)) := ⟨fun h1 h2 F h => by obtain ⟨_, rfl⟩ := h1; obtain ⟨_, rfl⟩ := h2; (with_reducible refine fMul F fun t s' => ?_); exact h _ _ ⟨t, rfl⟩⟩
theorem oFDiv (z : ¬ Float64.isZero y = true) : OpN .Div (.f x) (.f y) (.f (Float64.div x y)) := ⟨fun h1 h2 F h => by obtain ⟨_, rfl⟩ := h1; obtain ⟨_, rfl⟩ := h2; (with_reducible refine fDiv F z fun t s' => ?_); exact h _ _ ⟨t, rfl⟩⟩
theorem oFMod (z : ¬ Float64.isZero y = true) : OpN .Mod (.f x) (.f y) (.f (Float64.divmod x y).snd) := ⟨fun h1 h2 F h => by obtain ⟨_, rfl⟩ := h1; obtain ⟨_, rfl⟩ := h2; (with_reducible refine fMod F z fun t s' => ?_); exact h _ _ ⟨t, rfl⟩⟩
theorem oSubFI (f : FitsF a) : OpN .Sub (.f x) (.i a) (.f (Float64.sub x (Float64.ofInt a))) := ⟨fun h1 h2 F h => by obtain ⟨_, rfl⟩ := h1; obtain ⟨_, rfl⟩ := h2; (with_reducible refine fSubI F f fun t s' => ?_); exact h _ _ ⟨t, rfl⟩⟩
theorem oAddFI (f : FitsF a) : OpN .Add (.f x) (.i a) (.f (Float64.add x (Float64.ofInt a))) := ⟨fun h1 h2 F h => by obtain ⟨_, rfl⟩ := h1; obtain ⟨_, rfl⟩ := h2; (with_reducible refine fAddI F f fun t s' => ?_); exact h _ _ ⟨t, rfl⟩⟩
theorem oAddIF (f : FitsF a) : OpN .Add (.i a) (.f x) (.f (Float64.add (Float64.ofInt a) x)) := ⟨fun h1 h2 F h => by obtain ⟨_, rfl⟩ := h1; obtain ⟨_, rfl⟩ := h2; (with_reducible refine fIAdd F f fun t s' => ?_); exact h _ _ ⟨t, rfl⟩⟩
theorem oMulFI (f : FitsF a) : OpN .Mult (.f x) (.i a) (.f (Float64.mul x (Float64.ofInt a))) := ⟨fun h1 h2 F h => by obtain ⟨_, rfl⟩ := h1; obtain ⟨_, rfl⟩ := h2; (with_reducible refine fMulI F f fun t s' => ?_); exact h _ _ ⟨t, rfl⟩⟩
theorem oMulIF (f : FitsF a) : OpN .Mult (.i a) (.f x) (.f (Float64.mul (Float64.ofInt a) x)) := ⟨fun h1 h2 F h => by obtain ⟨_, rfl⟩ := h1; obtain ⟨_, rfl⟩ := h2; (with_reducible refine fIMul F f fun t s' => ?_); exact h _ _ ⟨t, rfl⟩⟩
theorem oDivII (n : b ≠ 0) (m : a.natAbs < 2 ^ 1023) : OpN .Div (.i a) (.i b) (.f (divF a b)) := ⟨fun h1 h2 F h => by obtain ⟨_, rfl⟩ := h1; obtain ⟨_, rfl⟩ := h2; (with_reducible refine fDivII F n m fun t s' => ?_); exact h _ _ ⟨t, rfl⟩⟩
end
/-- what stands behind a statement -/
structure BhF (K : Flow → Shared → Prop) (N : Shared → Prop) (R : Flow → Shared → Prop) : Prop where
  next : ∀ {s : Shared}, N s → K .next s
  ret : ∀ {v : Value} {s : Shared}, R (.ret v) s → K (.ret v) s
  oth : ∀ {f : Flow} {s : Shared}, f ≠ .next → R f s → K f s
theorem execK {M : Model} {A : Around} {env : Env} {st : Stmt} {rest : List Stmt} {Q : Flow → Shared → Prop} {E : Value → Shared → Prop} {s : Shared}
    (h : ∀ K : Flow → Shared → Prop, BhF K (fun s' => wpAny M A (execs rest env) Q E s') Q → wpAny M A (exec st env) K E s) : wpAny M A (execs (st :: rest) env) Q E s :=
  wpAny_execs_cons (h _ ⟨fun h => h, fun h => h, fun {f} {_} n h => by cases f <;> first | exact absurd rfl n | exact h⟩)
/-- a comparison of numbers -/
structure CoN (op : CmpOp) (x y : Num) (r : Bool) : Prop where
  run : ∀ {w : World} {A : Around} {Q E : Value → Shared → Prop} {s : Shared} {a b : Value}, x.is a → y.is b → Q (.bool r) s → wpAny (model prog w) A (compareOp op a b) Q E s
theorem coLt {a b : Int} : CoN .Lt (.i a) (.i b) (decide (a < b)) := ⟨fun h1 h2 h => by obtain ⟨_, rfl⟩ := h1; obtain ⟨_, rfl⟩ := h2; with_reducible exact PyProof.Rows.lt_int h⟩
theorem coGt {a b : Int} : CoN .Gt (.i a) (.i b) (decide (b < a)) := ⟨fun h1 h2 h => by obtain ⟨_, rfl⟩ := h1; obtain ⟨_, rfl⟩ := h2; with_reducible exact PyProof.Rows.gt_int h⟩
theorem coEq {a b : Int} : CoN .Eq (.i a) (.i b) (a == b) := ⟨fun h1 h2 h => by obtain ⟨_, rfl⟩ := h1; obtain ⟨_, rfl⟩ := h2; with_reducible exact PyProof.Rows.eq_int h⟩
theorem coNe {a b : Int} : CoN .NotEq (.i a) (.i b) (a != b) := ⟨fun h1 h2 h => by obtain ⟨_, rfl⟩ := h1; obtain ⟨_, rfl⟩ := h2; with_reducible exact PyProof.Rows.ne_int h⟩
theorem coFEq {a b : UInt64} : CoN .Eq (.f a) (.f b) (Float64.cmp a b == some Ordering.eq) := ⟨fun h1 h2 h => by obtain ⟨_, rfl⟩ := h1; obtain ⟨_, rfl⟩ := h2; with_reducible exact fEq h⟩
section
variable {w : World} {A : Around} {s₀ s : Shared} {X : List Nat} {l : List (Str × Value)} {news : List (Nat × Obj)} {env : Env} {a b : Expr} {op : CmpOp} {pos : Pos} {x y : Num} {r : Bool} {E : Value → Shared → Prop}
theorem tePu {whole} {Q : Bool → Shared → Prop} (F : Fm s₀ X env.locals l news s) (ca : Pu w A s₀ X l news env a x) (cb : Pu w A s₀ X l news env b y) (o : CoN op x y r) (hm : behindInMarks op b = false)
    (h : ∀ s', Fm s₀ X env.locals l news s' → Q r s') : wpAny (model prog w) A (isTrue (.Compare a [op] [b] pos) env whole) Q E s :=
  wpAny_isTrue_Compare1 (ca.run F fun _ _ h1 F1 => cb.run F1 fun _ _ h2 F2 => o.run h1 h2 (wpAny_truthy_bool (h _ F2))) hm
/-- if a == b, where it is not so -/
theorem ifNo {body rest : List Stmt} {p2 : Pos} {Q : Flow → Shared → Prop} (F : Fm s₀ X env.locals l news s) (ca : Pu w A s₀ X l news env a x) (cb : Pu w A s₀ X l news env b y) (o : CoN op x y r) (hm : behindInMarks op b = false) (hr : r = false)
    (h : ∀ s', Fm s₀ X env.locals l news s' → wpAny (model prog w) A (execs rest env) Q E s') : wpAny (model prog w) A (execs (.If (.Compare a [op] [b] pos) body [] p2 :: rest) env) Q E s :=
  wpAny_execs_cons (wpAny_If (tePu F ca cb o hm fun s' F' => by rw [hr]; exact wpAny_execs_nil (h s' F')))
/-- if a == b, where it is so -/
theorem ifYes {body els rest : List Stmt} {p2 : Pos} {Q : Flow → Shared → Prop} (F : Fm s₀ X env.locals l news s) (ca : Pu w A s₀ X l news env a x) (cb : Pu w A s₀ X l news env b y) (o : CoN op x y r) (hm : behindInMarks op b = false) (hr : r = true)
    (h : ∀ K : Flow → Shared → Prop, BhF K (fun s' => wpAny (model prog w) A (execs rest env) Q E s') Q → ∀ s', Fm s₀ X env.locals l news s' → wpAny (model prog w) A (execs body env) K E s') : wpAny (model prog w) A (execs (.If (.Compare a [op] [b] pos) body els p2 :: rest) env) Q E s :=
  execK fun K hK => wpAny_If (tePu F ca cb o hm fun s' F' => by rw [hr]; exact h K hK s' F')
end
/-- a list of names that tells no less -/
structure LkUp (l l' : List (Str × Value)) : Prop where
  eq : ∀ x : Str, lk l' x = lk l x
theorem LkUp.up {l l' : List (Str × Value)} {x : Str} {u : Option Value} (U : LkUp l l') (e : lk l x = u) : lk l' x = u := (U.eq x).trans e
theorem stG {w : World} {A : Around} {E : Value → Shared → Prop} {s s₀ : Shared} {X : List Nat} {l : List (Str × Value)} {news : List (Nat × Obj)} {env : Env} {x : Str} {v : Value} {Q : Unit → Shared → Prop} (F : Fm s₀ X env.locals l news s) (hX : env.locals ∈ X)
    (h : ∀ l', LkUp ((x, v) :: l) l' → ∀ s', Fm s₀ X env.locals l' news s' → Kp [env.locals] s s' → Q () s') (ok : okName env x = true) : wpAny (model prog w) A (storeName env x v) Q E s :=
  stL F hX (h _ ⟨fun _ => rfl⟩) (okName.to ok).1 (okName.to ok).2.1
theorem Fm.gen {s s₀ : Shared} {X : List Nat} {L : Nat} {l : List (Str × Value)} {news : List (Nat × Obj)} {P : Prop} (F : Fm s₀ X L l news s) (h : ∀ l', LkUp l l' → Fm s₀ X L l' news s → P) : P := h l ⟨fun _ => rfl⟩ F
theorem len0 : ([] : List Value).length ≤ sizeLine := by decide
theorem len1 {a : Value} : [a].length ≤ sizeLine := by simp [sizeLine]
theorem len2 {a b : Value} : [a, b].length ≤ sizeLine := by simp [sizeLine]
theorem len3 {a b c : Value} : [a, b, c].length ≤ sizeLine := by simp [sizeLine]
theorem stP {w : World} {A : Around} {E : Value → Shared → Prop} {s s₀ : Shared} {X : List Nat} {l : List (Str × Value)} {news : List (Nat × Obj)} {env : Env} {x : Str} {v : Value} {Q : Unit → Shared → Prop} (F : Fm s₀ X env.locals l news s) (hX : env.locals ∈ X)
    (h : ∀ s', Fm s₀ X env.locals ((x, v) :: l) news s' → Kp [env.locals] s s' → Q () s') (ok : okName env x = true) : wpAny (model prog w) A (storeName env x v) Q E s :=
  stL F hX h (okName.to ok).1 (okName.to ok).2.1
theorem LkUp.ne {x y : Str} {v : Value} {l l' : List (Str × Value)} (U : LkUp ((x, v) :: l) l') (h : y ≠ x) : lk l' y = lk l y := by rw [U.eq]; simp [lk, h]
theorem lk_ne {x y : Str} {v : Value} {l : List (Str × Value)} (h : y ≠ x) : lk ((x, v) :: l) y = lk l y := by simp [lk, h]
theorem BhF.nil {M : Model} {A : Around} {env env' : Env} {rest : List Stmt} {K Q : Flow → Shared → Prop} {E : Value → Shared → Prop} {s : Shared} (hK : BhF K (fun s' => wpAny M A (execs [] env') Q E s') Q) (h : wpAny M A (execs rest env) Q E s) : wpAny M A (execs rest env) K E s :=
  wpAny_mono h (fun f s' q => by
    by_cases n : f = .next
    · subst n; exact hK.next (wpAny_execs_nil q)
    · exact hK.oth n q) fun _ _ e => e
theorem ldLk {M : Model} {A : Around} {E : Value → Shared → Prop} {s s₀ : Shared} {X : List Nat} {l : List (Str × Value)} {news : List (Nat × Obj)} {env : Env} {x : Str} {pos : Pos} {v : Value} {Q : Value → Shared → Prop}
    (F : Fm s₀ X env.locals l news s) (hv : lk l x = some v) (ok : okName env x = true) (h : Q v s) : wpAny M A (eval (.Name x pos) env) Q E s :=
  ldL F hv h (okName.to ok).1 (okName.to ok).2.1 (okName.to ok).2.2
theorem ldnLk {M : Model} {A : Around} {E : Value → Shared → Prop} {s s₀ : Shared} {X : List Nat} {l : List (Str × Value)} {news : List (Nat × Obj)} {env : Env} {x : Str} {v : Value} {Q : Value → Shared → Prop}
    (F : Fm s₀ X env.locals l news s) (hv : lk l x = some v) (ok : okName env x = true) (h : Q v s) : wpAny M A (loadName env x) Q E s :=
  ldnL F hv h (okName.to ok).1 (okName.to ok).2.1
theorem kFloorDivk {w : World} {A : Around} {E : Value → Shared → Prop} {s s₀ : Shared} {X : List Nat} {L : Nat} {l : List (Str × Value)} {news : List (Nat × Obj)} {Q : Value → Shared → Prop} {a b : Int} {ta tb : Tok}
    (F : Fm s₀ X L l news s) (hb : b ≠ 0) (hs : b.natAbs < 1073741824) (h : ∀ t s', Fm s₀ X L l news s' → Q (.int (a.fdiv b) t) s') : wpAny (model prog w) A (binaryOp .FloorDiv (.int a ta) (.int b tb)) Q E s := kFloorDiv F hb (PyProof.noPylong_small hs) h
section
variable {H : Heap} {w : World} {A : Around} {E : Value → Shared → Prop} {s s₀ : Shared} {X : List Nat} {L : Nat} {l : List (Str × Value)} {news : List (Nat × Obj)} {env : Env} {x : Str} {v : Value} {Q : Value → Shared → Prop}
theorem ldGk {pos : Pos} (G : GL H s₀.heap) (F : Fm s₀ X L l news s) (hX : ∀ b ∈ X, 138 ≤ b) (hm : (x, v) ∈ ownVals) (ok : okGlob env x = true) (h : Q v s) : wpAny (model prog w) A (eval (.Name x pos) env) Q E s :=
  let o := okGlob.to ok; ldG G F hX hm h o.1 o.2.1 o.2.2.1 o.2.2.2.2
theorem ldBk {pos : Pos} (G : GL H s₀.heap) (F : Fm s₀ X L l news s) (hX : ∀ b ∈ X, 138 ≤ b) (hm : (x, v) ∈ blts) (ok : okGlob env x = true) (h : Q v s) : wpAny (model prog w) A (eval (.Name x pos) env) Q E s :=
  let o := okGlob.to ok; ldB G F hX hm h o.1 o.2.1 o.2.2.1 o.2.2.2.1 o.2.2.2.2
theorem callVk {p pos : Pos} {e : Expr} {args : List Expr} (G : GL H s₀.heap) (F : Fm s₀ X L l news s) (hX : ∀ b ∈ X, 138 ≤ b) (hm : (x, v) ∈ blts) (ok : okCall env x pos (e :: args) v = true)
    (h : wpAny (model prog w) A (spliced (backTo pos (starEach (e :: args) env))) (fun vs s₁ => wpAny (model prog w) A (call v vs) Q E s₁) E s) : wpAny (model prog w) A (eval (.Call (.Name x p) (e :: args) [] pos) env) Q E s := by
  unfold okCall at ok
  obtain ⟨ok, k3⟩ := Bool.and_eq_true_iff.mp ok
  obtain ⟨k1, k2⟩ := Bool.and_eq_true_iff.mp ok
  cases v with
  | builtin id => exact callB (fun _ q => ldBk G F hX hm k1 q) (okArgs.to k2) h
  | type T => exact callY (fun _ q => ldBk G F hX hm k1 q) (okArgs.to k2) h
  | _ => cases k3
theorem callDk {p pos : Pos} {a i : Nat} {e : Expr} {args : List Expr} (G : GL H s₀.heap) (F : Fm s₀ X L l news s) (hX : ∀ b ∈ X, 138 ≤ b) (hm : (x, .ref a) ∈ ownVals) (hf : (a, i) ∈ fns) (ok : (okGlob env x && okArgs pos env (e :: args)) = true)
    (h : wpAny (model prog w) A (spliced (backTo pos (starEach (e :: args) env))) (fun vs s₁ => Kp X s₀ s₁ ∧ wpAny (model prog w) A (call (.ref a) vs) Q E s₁) E s) : wpAny (model prog w) A (eval (.Call (.Name x p) (e :: args) [] pos) env) Q E s := by
  obtain ⟨k1, k2⟩ := Bool.and_eq_true_iff.mp ok
  exact callD G hX hf (fun _ q => ldGk G F hX hm k1 q) ((okArgs.to k2).elim fun t q => q.elim fun r q => ⟨t, r, q.1⟩) h
theorem kAppendk {p apos pos : Pos} {elt : Expr} {a : Nat} {vs : List Value} {n : Nat} (F : Fm s₀ X env.locals l news s) (hv : lk l x = some (.ref a)) (hm : (a, lo vs n) ∈ news) (ok : okName env x = true)
    (hfew : ((backTo pos (starEach [elt] env)).all (fun x => !x.1) && (backToKw pos (keywordEach [] env)).all (fun x => x.1.isSome)
      && decide (([elt] : List Expr).length + ([] : List Keyword).length + (if ([] : List Keyword).isEmpty then 0 else 1) < 30) && (apos.endLine == pos.line)) = true)
    (htrees : backTo pos (starEach [elt] env) = [(false, eval elt env)])
    (hbase : attributeBase (.Name x p) "append" env (eval (.Name x p) env) = eval (.Name x p) env)
    (h : wpAny (model prog w) A (eval elt env) (fun y s₂ => wpAny (model prog w) A (call (.builtin "list.append") [.ref a, y]) Q E s₂) E s) :
    wpAny (model prog w) A (eval (.Call (.Attribute (.Name x p) "append" apos) [elt] [] pos) env) Q E s :=
  let o := okName.to ok; let f := Bool.and_eq_true_iff.mp hfew; kAppend F hv hm h o.1 o.2.1 o.2.2 hbase f.1 f.2 htrees
end
end
open PySem PySem.W PySem.Calls PyProof.Rows
local macro_rules | `(tactic| walk_at "lk") => `(tactic| first | assumption | exact lk_hit | (refine lk_miss (by kernel_rfl!) ?_; walk_at "lk") | (refine LkUp.up (by assumption) ?_; walk_at "lk"))
local macro_rules | `(tactic| walk_at "u") => `(tactic| first | kernel_rfl! | with_unfolding_all rfl)
local macro_rules | `(tactic| walk_at "z") => `(tactic| first | assumption | decide +kernel | lia)
local macro_rules | `(tactic| walk_at "mul") => `(tactic| first | exact IntMulOk.of_right (by decide +kernel) | exact IntMulOk.of_left (by decide +kernel) | exact IntMulOk.of_left (intBits_le_64 (by lia) (by lia)) | exact IntMulOk.of_right (intBits_le_64 (by lia) (by lia)))
local macro_rules | `(tactic| walk_at "mem") => `(tactic| first | exact List.Mem.head _ | (refine List.Mem.tail _ ?_; walk_at "mem"))
local macro_rules | `(tactic| walk_at "op") => `(tactic| first
  | exact oAdd | exact oSub | exact oMul (by walk_at "mul") | exact oMod (by walk_at "z") | exact oDiv (by walk_at "z") (by lia) | exact oAnd | exact oOr
  | exact oFAdd | exact oFSub | exact oFMul | exact oFDiv (by walk_at "z") | exact oFMod (by walk_at "z")
  | exact oMulIF (by assumption) | exact oMulFI (by assumption) | exact oSubFI (by assumption) | exact oAddFI (by assumption) | exact oAddIF (by assumption) | exact oDivII (by assumption) (by assumption) | exact oPow (by lia) (by lia) (by lia))
local macro_rules | `(tactic| walk_at "co") => `(tactic| first | exact coEq | exact coLt | exact coGt | exact coNe | exact coFEq)
local macro_rules | `(tactic| walk_at "pu") => `(tactic| first
  | exact puI
  | ((with_reducible refine' puN ?v ?k); (case v => walk_at "lk"); (case k => kernel_rfl!))
  | ((with_reducible refine' puB ?a ?b ?o); (case a => walk_at "pu"); (case b => walk_at "pu"); (case o => walk_at "op"))
  | exact puF
  | ((with_reducible refine' puNf ?v ?k); (case v => walk_at "lk"); (case k => kernel_rfl!))
  | ((with_reducible refine' puNeg ?a); (case a => walk_at "pu")))
local macro_rules | `(tactic| walk_at "e") => `(tactic| first
  | ((with_reducible refine' useI ?F ?c ?_); (case F => assumption); (case c => walk_at "pu"); intro _ _ _)
  | ((with_reducible refine' useF ?F ?c ?_); (case F => assumption); (case c => walk_at "pu"); intro _ _ _)
  | ((with_reducible first | refine' kInt ?F ?_ | refine' kAdd ?F ?_ | refine' kSub ?F ?_ | refine' kBitAnd ?F ?_ | refine' kBitOr ?F ?_ | refine' iAdd ?F ?_ | refine' iSub ?F ?_ | refine' iBitOr ?F ?_ | refine' kStr ?F ?_ | refine' kFlt ?F ?_ | refine' kNeg ?F ?_ | refine' kOrd ?F ?_ | refine' fMul ?F ?_ | refine' fSub ?F ?_ | refine' fAdd ?F ?_); (case F => assumption); intro _ _ _)
  | ((with_reducible first | refine' ldLk ?F ?v ?k ?_ | refine' ldnLk ?F ?v ?k ?_); (case F => assumption); (case v => walk_at "lk"); (case k => kernel_rfl!))
  | (with_reducible first | refine' wpAny_BinOp ?_ | refine' wpAny_items_nil ?_ | refine' wpAny_UnaryOp ?_ | refine' Subscript_ ?_ | refine' ifT ?_ | refine' ifF ?_ | refine' wpAny_IfExp ?_ | refine' test_link ?_)
  | ((with_reducible refine' kMult ?F ?m ?_); (case F => assumption); (case m => walk_at "mul"); intro _ _ _)
  | ((with_reducible first | refine' kMod ?F ?z ?_ | refine' fDiv ?F ?z ?_ | refine' fMod ?F ?z ?_ | refine' kMin2 ?F ?z ?_ | refine' kMax2 ?F ?z ?_ | refine' kMin3 ?F ?z ?_ | refine' kMax3 ?F ?z ?_ | refine' kIAddS ?F ?z ?_ | refine' fIMul ?F ?z ?_ | refine' fMulI ?F ?z ?_ | refine' fSubI ?F ?z ?_ | refine' fAddI ?F ?z ?_ | refine' fIAdd ?F ?z ?_ | refine' fInt ?F ?z ?_); (case F => assumption); (case z => walk_at "z"); intro _ _ _)
  | ((with_reducible first | refine' kFloorDivk ?F ?z ?y ?_ | refine' fDivII ?F ?z ?y ?_ | refine' kChr ?F ?z ?y ?_); (case F => assumption); (case z => walk_at "z"); (case y => walk_at "z"); intro _ _ _)
  | ((with_reducible refine' callVk ?G ?F ?X ?m ?k ?_); (case G => assumption); (case F => assumption); (case X => assumption); (case m => walk_at "mem"); (case k => kernel_rfl!))
  | ((with_reducible refine' callDk ?G ?F ?X ?m ?n ?k ?_); (case G => assumption); (case F => assumption); (case X => assumption); (case m => walk_at "mem"); (case n => walk_at "mem"); (case k => kernel_rfl!))
  | ((with_reducible first | refine' wpAny_items_cons ?_ ?h | refine' isTrue_chain ?_ ?h); (case h => walk_at "u"))
  | ((with_reducible refine' kPow ?F ?x ?y ?z ?_); (case F => assumption); (case x => lia); (case y => lia); (case z => lia); intro _ _ _)
  | ((with_reducible show wpAny _ _ (testChain _ _ [_] _) _ _ _); refine' test_last ?_)
  | ((with_reducible refine' tePu ?F ?c ?d ?o ?h ?_); (case F => assumption); (case c => walk_at "pu"); (case d => walk_at "pu"); (case o => walk_at "co"); (case h => kernel_rfl!); intro _ _)
  | ((with_reducible first | refine' wpAny_isTrue_Compare1 ?_ ?h | refine' wpAny_Compare1 ?_ ?h); (case h => walk_at "u"))
  | ((with_reducible refine' kAppendk ?F ?v ?m ?k ?x ?y ?z ?_); (case F => assumption); (case v => walk_at "lk"); (case m => walk_at "mem"); (case k => kernel_rfl!); (case x => kernel_rfl!); (case y => walk_at "u"); (case z => walk_at "u"))
  | ((with_reducible first | refine' ldGk ?G ?F ?X ?m ?k ?_ | refine' ldBk ?G ?F ?X ?m ?k ?_); (case G => assumption); (case F => assumption); (case X => assumption); (case m => walk_at "mem"); (case k => kernel_rfl!))
  | (with_reducible first | refine' PyProof.Rows.lt_int ?_ | refine' PyProof.Rows.gt_int ?_ | refine' PyProof.Rows.eq_int ?_ | refine' PyProof.Rows.ne_int ?_ | refine' wpAny_truthy_bool ?_ | refine' isTrue_and ?_ | refine' isTrue_and_nil ?_ | refine' fEq ?_ | refine' kTuple ?_ | refine' kList ?_))
local macro_rules | `(tactic| walk_at "es") => `(tactic| repeat (walk_at "e"))
local macro_rules | `(tactic| walk_at "st") => `(tactic| (refine' stP ?F ?X ?_ ?a; (case F => assumption); (case X => first | exact List.Mem.head _ | assumption); (case a => kernel_rfl!); intro _ _ _; (try walk_at "nx")))
local macro_rules | `(tactic| walk_at "sg") => `(tactic| (refine' stG ?F ?X ?_ ?a; (case F => assumption); (case X => first | exact List.Mem.head _ | assumption); (case a => kernel_rfl!); intro _ _ _ _ _; (try walk_at "nx")))
local macro_rules | `(tactic| walk_at "nx") => `(tactic| with_reducible refine BhF.next (by assumption) ?_)
local macro_rules | `(tactic| walk_at "rt") => `(tactic| with_reducible refine BhF.ret (by assumption) ?_)
local macro_rules | `(tactic| walk_at "nil") => `(tactic| (refine wpAny_execs_nil ?_; (try walk_at "nx")))
local macro_rules | `(tactic| walk_at "xk") => `(tactic| with_reducible refine execK fun _ _ => ?_)
local macro_rules | `(tactic| walk_at "ex") => `(tactic| first | walk_at "xk" | (walk_at "nx"; walk_at "xk") | (walk_at "nx"; refine execK fun _ _ => ?_) | refine execK fun _ _ => ?_ | (dsimp only; walk_at "xk"))
local macro_rules | `(tactic| walk_at "as") => `(tactic| (walk_at "ex"; refine' wpAny_Assign_Name ?_ ?hs; (case hs => kernel_rfl!)))
local macro_rules | `(tactic| walk_at "e2") => `(tactic| first
  | (with_reducible refine' wpAny_BinOp ?_)
  | ((with_reducible refine' kIntT ?F ?_); (case F => assumption); intro _ _ _ _)
  | ((with_reducible refine' fDivIIt ?F ?t ?a ?b ?_); (case F => assumption); (case t => assumption); (case a => assumption); (case b => assumption); intro _ _ _ _)
  | walk_at "e")
local macro_rules | `(tactic| walk_at "es2") => `(tactic| repeat (walk_at "e2"))
local macro_rules | `(tactic| walk_at "st2") => `(tactic| (refine' stLT ?F ?X ?_ ?a ?b; (case F => assumption); (case X => first | exact List.Mem.head _ | assumption); (case a => kernel_rfl!); (case b => kernel_rfl!); intro _ _ _ _; (try walk_at "nx")))
section
open PySem PySem.W PySem.Calls PyProof.Rows
variable {w : World} {A : Around} {E : Value → Shared → Prop} {s : Shared}
/-- the number of a word -/
noncomputable def numOf (ns : List Int) : Int := ns.foldl (fun n a => n * 64 + a) 0
theorem numOf_take {ns : List Int} {i : Nat} {n : Int} (h : ns[i]? = some n) : numOf (ns.take (i + 1)) = numOf (ns.take i) * 64 + n := by
  rw [List.take_add_one, h]; simp [numOf, List.foldl_append]
theorem intsAt {vs : List Value} {ns : List Int} (h : IntsAre vs ns) : ∀ {i : Nat} {v : Value}, vs[i]? = some v → ∃ n t, ns[i]? = some n ∧ v = .int n t := by
  induction h with
  | nil => intro i v e; simp at e
  | cons n t h ih =>
    intro i v e
    cases i with
    | zero => simp at e; exact ⟨n, t, by simp, e.symm⟩
    | succ i => simp at e; obtain ⟨n', t', e1, e2⟩ := ih e; exact ⟨n', t', by simpa using e1, e2⟩
theorem number_spec {H : Heap} {a : Nat} {vs : List Value} {ns : List Int} {Q : Value → Shared → Prop} (hA : A.depth < 900) (hh : A.handled = none) (G : GL H s.heap) (hL : s.heap.IsList a vs.toArray) (hi : IntsAre vs ns)
    (hQ : ∀ t s', Keeps s s' → Q (.int (numOf ns) t) s') : wpAny (model prog w) A (call (.ref 125) [.ref a]) Q E s := by
  refine callFn (i := 14) [(Str.ofString "word", .ref a)] hA G.lim (G.fn (by decide)) (fun _ _ _ => by walk_at "u") (by walk_at "u") (fun cd s₁ K0 hfresh F => ?_) (by walk_at "u") (by walk_at "u") (by walk_at "u") (by decide)
  have hlt : a < s.heap.objs.size := exLt hL
  generalize s.heap.objs.size = L at *
  walk_at "as"
  walk_at "e"
  walk_at "sg"
  rename_i s₂ F2 _
  walk_at "ex"
  refine wpAny_For ?_ (by intro _; rfl)
  have hL2 : s₂.heap.IsList a vs.toArray := by
    obtain ⟨o, ho, r⟩ := hL
    obtain ⟨h', tk', rfl, kk⟩ := K0
    exact ⟨o, F2.kp.keep a o (by simpa using Nat.ne_of_lt hlt) (kk _ _ ho), r⟩
  walk_at "e"
  refine forList (A := A.deeper _) hh F2 hL2 (by simpa using Nat.ne_of_lt hlt) (List.Mem.head _) (by intro b hb; rw [List.mem_singleton.mp hb]; exact F2.lt)
    (fun i l₁ news₁ => news₁ = [] ∧ ∃ t, lk l₁ (Str.ofString "number") = some (.int (numOf (ns.take i)) t)) (by rintro i l₁ news₁ ⟨rfl, _⟩ p hp; nomatch hp)
    ⟨rfl, _, by walk_at "lk"⟩ ?_ ?_ (by walk_at "u") (by walk_at "u")
  · rintro i v s₁ l₁ news₁ E' hv ⟨rfl, t, hn⟩ F3 K3
    obtain ⟨n, tn, hn1, rfl⟩ := intsAt hi (by simpa using hv)
    walk_at "as"
    walk_at "es"
    walk_at "sg"
    exact wpAny_execs_nil ⟨_, _, by assumption, rfl, _, by rw [numOf_take hn1]; walk_at "lk"⟩
  · rintro l₁ news₁ s₃ ⟨rfl, t, hn⟩ F3
    walk_at "nx"
    refine wpAny_execs_cons (wpAny_Return_some ?_)
    walk_at "e"
    have e : vs.toArray.size = ns.length := by simp [hi.length]
    rw [e, List.take_length]
    exact hQ _ _ (F3.back K0 (by intro b hb; rw [List.mem_singleton.mp hb]; exact hfresh))
end
section
open PySem PySem.W PySem.Calls PyProof.Rows
variable {H : Heap} {w : World} {A : Around} {E : Value → Shared → Prop} {s : Shared}
theorem ints_snoc {vs : List Value} {ns : List Int} (h : IntsAre vs ns) (n : Int) (t : Tok) : IntsAre (vs ++ [.int n t]) (ns ++ [n]) := by
  induction h with
  | nil => exact .cons n t .nil
  | cons m u _ ih => exact .cons m u ih
noncomputable def awayOf (part third c : Int) : Int := min ((part - c).fmod (3 * third)) ((c - part).fmod (3 * third))
noncomputable def dueAt (part third share size c : Int) : Int := size * ((2 - share) * third + share * max 0 (min third (2 * third - 2 * awayOf part third c)))
noncomputable def dueOf (part third share size : Int) : List Int := [dueAt part third share size 0, dueAt part third share size third, dueAt part third share size (2 * third)]
theorem paint_spec {part third share size : Int} {t1 t2 t3 t4 : Tok} {Q : Value → Shared → Prop} (hA : A.depth < 900) (hh : A.handled = none) (G : GL H s.heap)
    (hth : 0 < third) (hs1 : 1 ≤ share) (hs2 : share ≤ 2) (hz1 : 1 ≤ size) (hz2 : size ≤ 3)
    (hQ : ∀ (a : Nat) vs n s', IntsAre vs (dueOf part third share size) → s'.heap.get? a = some (lo vs n) → s.heap.objs.size ≤ a → Keeps s s' → Q (.ref a) s') :
    wpAny (model prog w) A (call (.ref 132) [.int part t1, .int third t2, .int share t3, .int size t4]) Q E s := by
  refine callFn (i := 15) [(Str.ofString "size", .int size t4), (Str.ofString "share", .int share t3), (Str.ofString "third", .int third t2), (Str.ofString "part", .int part t1)] hA G.lim (G.fn (by decide)) (fun _ _ _ => by walk_at "u") (by walk_at "u") (fun cd s₁ K0 hfresh F => ?_) (by walk_at "u") (by walk_at "u") (by walk_at "u") (by decide)
  have hLs := G.size
  have hhd : (A.deeper (envOf (fnName 15) (fnScope 15) s.heap.objs.size 132 cd)).handled = none := hh
  have G1 := G.kept K0
  generalize hL : s.heap.objs.size = L at *
  walk_at "as"
  walk_at "es"
  refine mkL F (by simp [sizeLine]) fun D s₂ hD hLD _ F2 => ?_
  walk_at "sg"
  rename_i s₃ F3 _
  have G3 := G1.keptX F3.kp (X := [L]) (by intro b hb; rw [List.mem_singleton.mp hb]; exact hLs)
  have hX : ∀ b ∈ [L, D], 138 ≤ b := by intro b hb; simp at hb; lia
  have F4 : Fm s₃ [L, D] L _ _ s₃ := F3.rebase [L, D]
  walk_at "ex"
  refine wpAny_For ?_ (by intro _; rfl)
  walk_at "es"
  refine mkT (by assumption) (by simp [sizeLine]) fun T s₄ hT hLT hnT F5 => ?_
  have hDT : D < T := hnT _ (List.Mem.head _)
  have hD5 : D < s₄.heap.objs.size := F5.ltN (p := (D, lo [] 0)) (by simp)
  refine forTuple (A := A.deeper (envOf (fnName 15) (fnScope 15) L 132 cd)) hhd (F5.sub (news' := [(D, lo [] 0)]) (by simp)) (F5.isTuple (List.Mem.head _)) (by show T ∉ [L, D]; simp; lia) (List.Mem.head _) (by intro b hb; simp at hb; rcases hb with h | h; exact h ▸ F5.lt; exact h ▸ hD5)
    (fun i l₁ news₁ => ∃ vs n, news₁ = [(D, lo vs n)] ∧ IntsAre vs ((dueOf part third share size).take i) ∧ lk l₁ (Str.ofString "part") = some (.int part t1) ∧ lk l₁ (Str.ofString "third") = some (.int third t2) ∧ lk l₁ (Str.ofString "share") = some (.int share t3) ∧ lk l₁ (Str.ofString "size") = some (.int size t4) ∧ lk l₁ (Str.ofString "due") = some (.ref D)) ?_
    ⟨[], 0, rfl, by simpa using IntsAre.nil, by walk_at "lk", by walk_at "lk", by walk_at "lk", by walk_at "lk", by walk_at "lk"⟩ ?_ ?_ (by walk_at "u") (by walk_at "u")
  · rintro i l₁ news₁ ⟨vs, n, rfl, _⟩ p hp
    rw [List.mem_singleton.mp hp]
    exact hD5
  · rintro i v s₅ l₁ news₁ E' hv ⟨vs, n, rfl, hvs, h1, h2, h3, h4, h5⟩ F6 K6
    have G6 := G3.keptX K6 hX
    have hc : ∃ c t, v = .int c t ∧ (dueOf part third share size)[i]? = some (dueAt part third share size c) := by
      rcases i with _ | _ | _ | i <;> simp at hv <;> subst hv <;> exact ⟨_, _, rfl, rfl⟩
    obtain ⟨c, tc, rfl, hc⟩ := hc
    walk_at "as"
    walk_at "es"
    walk_at "sg"
    walk_at "ex"
    refine wpAny_Expr ?_
    walk_at "es"
    refine appendL (by assumption) (by simp) (by simp) ?_ fun s₆ F7 => ?_
    · have := hvs.length
      have h3 : ((dueOf part third share size).take i).length ≤ 3 := by simp [dueOf]; lia
      simp [sizeLine]; lia
    walk_at "nx"
    refine wpAny_execs_nil ⟨_, _, F7, _, _, rfl, ?_, by walk_at "lk", by walk_at "lk", by walk_at "lk", by walk_at "lk", by walk_at "lk"⟩
    rw [List.take_add_one, hc]
    exact ints_snoc hvs _ _
  · rintro l₁ news₁ s₅ ⟨vs, n, rfl, hvs, h1, h2, h3, h4, h5⟩ F6
    walk_at "nx"
    refine wpAny_execs_cons (wpAny_Return_some ?_)
    walk_at "es"
    have hLf : ∀ b ∈ [L], s.heap.get? b = none := by intro b hb; rw [List.mem_singleton.mp hb]; exact hfresh
    have hDf : s.heap.get? D = none := get_above (by lia)
    exact hQ D vs n _ hvs (F6.objs _ (List.Mem.head _)) (by lia) (F6.back (F3.back K0 hLf) (by intro b hb; simp at hb; rcases hb with h | h; exact h ▸ hfresh; exact h ▸ hDf))
end
section
open PySem PySem.W PySem.Calls PyProof.Rows
variable {H : Heap} {w : World} {A : Around} {E : Value → Shared → Prop} {s : Shared}
/-- codes and their letters: the bit of 64 but for the last -/
structure Word (cs ds : List Int) : Prop where
  len : ds.length = cs.length
  ne : 0 < cs.length
  low : ∀ (k : Nat) (c : Int), cs[k]? = some c → ∃ d, ds[k]? = some d ∧ Builtin.bitAnd c 63 = d ∧ 0 ≤ d ∧ d < 64
  more : ∀ (k : Nat) (c : Int), cs[k]? = some c → k + 1 < cs.length → Builtin.bitAnd c 64 ≠ 0
  last : ∀ (k : Nat) (c : Int), cs[k]? = some c → k + 1 = cs.length → Builtin.bitAnd c 64 = 0
theorem bitOr_nn {x y : Int} (hx : 0 ≤ x) (hy : 0 ≤ y) : Builtin.bitOr x y = ((x.toNat ||| y.toNat : Nat) : Int) := by
  have h1 : ¬ (0 ≤ Builtin.bitNot x) := by unfold Builtin.bitNot; lia
  have h2 : ¬ (0 ≤ Builtin.bitNot y) := by unfold Builtin.bitNot; lia
  unfold Builtin.bitOr Builtin.bitAnd
  rw [decide_eq_false h1, decide_eq_false h2]
  have e1 : Builtin.bitNot (Builtin.bitNot x) = x := by unfold Builtin.bitNot; lia
  have e2 : Builtin.bitNot (Builtin.bitNot y) = y := by unfold Builtin.bitNot; lia
  have e3 : ∀ z : Int, Builtin.bitNot (Builtin.bitNot z) = z := by intro z; unfold Builtin.bitNot; lia
  show Builtin.bitNot (Builtin.bitNot (((Builtin.bitNot (Builtin.bitNot x)).toNat ||| (Builtin.bitNot (Builtin.bitNot y)).toNat : Nat) : Int)) = _
  rw [e3, e1, e2]
theorem bitOr_low {v d : Int} (hv : 0 ≤ v) (h0 : 0 ≤ d) (h1 : d < 64) : Builtin.bitOr (v * 2 ^ (6 : Int).toNat) d = v * 64 + d := by
  have e : v * 2 ^ (6 : Int).toNat = v * 64 := by simp
  rw [e, bitOr_nn (by lia) h0]
  have e1 : (v * 64).toNat = 2 ^ 6 * v.toNat := by lia
  rw [e1, ← Nat.two_pow_add_eq_or_of_lt (by lia)]
  lia
theorem numOf_bound : ∀ (ds : List Int), (∀ d ∈ ds, 0 ≤ d ∧ d < 64) → 0 ≤ numOf ds ∧ numOf ds < 64 ^ ds.length := by
  have key : ∀ (ds : List Int) (a : Int) (k : Nat), (∀ d ∈ ds, 0 ≤ d ∧ d < 64) → 0 ≤ a → a < 64 ^ k → 0 ≤ ds.foldl (fun n a => n * 64 + a) a ∧ ds.foldl (fun n a => n * 64 + a) a < 64 ^ (k + ds.length) := by
    intro ds
    induction ds with
    | nil => intro a k _ h0 h1; exact ⟨h0, by simpa using h1⟩
    | cons d r ih =>
      intro a k h h0 h1
      have hd := h d List.mem_cons_self
      have := ih (a * 64 + d) (k + 1) (fun x hx => h x (List.mem_cons_of_mem _ hx)) (by lia) (by rw [Int.pow_succ]; lia)
      rw [List.length_cons, show k + (r.length + 1) = k + 1 + r.length by lia]
      exact this
  intro ds h
  have := key ds 0 0 h (by lia) (by decide)
  rwa [Nat.zero_add] at this
theorem parse_spec {I a i : Nat} {vs : List Value} {cs ds : List Int} {Q : Value → Shared → Prop} (hA : A.depth < 900) (G : GL H s.heap)
    (hw : Word cs ds) (hat : ∀ (k : Nat) (c : Int), cs[k]? = some c → ∃ t, vs[i + k]? = some (.int c t)) (hlen : cs.length ≤ 20) (hI : s.heap.get? I = some (itO a i)) (hI8 : 138 ≤ I) (hl : s.heap.IsList a vs.toArray) (haI : a ≠ I)
    (hQ : ∀ t s', Kp [I] s s' → s'.heap.get? I = some (itO a (i + cs.length)) → Q (.int (numOf ds) t) s') : wpAny (model prog w) A (call (.ref 21) [.ref I]) Q E s := by
  refine callFn (i := 1) [(Str.ofString "iterator", .ref I)] hA G.lim (G.fn (by decide)) (fun _ _ _ => by walk_at "u") (by walk_at "u") (fun cd s₁ K0 hfresh F => ?_) (by walk_at "u") (by walk_at "u") (by walk_at "u") (by decide)
  have hLs := G.size
  have hIL : I < s.heap.objs.size := Heap.lt_size hI
  have haL : a < s.heap.objs.size := exLt hl
  have G1 := G.kept K0
  generalize hL : s.heap.objs.size = L at *
  have hX : ∀ b ∈ [L, I], 138 ≤ b := by intro b hb; simp at hb; lia
  have hI1 : s₁.heap.get? I = some (itO a i) := by obtain ⟨h', tk, rfl, kk⟩ := K0; exact kk _ _ hI
  have hl1 : s₁.heap.IsList a vs.toArray := by obtain ⟨h', tk, rfl, kk⟩ := K0; obtain ⟨o, ho, r⟩ := hl; exact ⟨o, kk _ _ ho, r⟩
  have F1 : Fm s₁ [L, I] L [(Str.ofString "iterator", .ref I)] [(I, itO a i)] s₁ := (F.rebase [L, I]).more hI1 (Nat.ne_of_lt hIL)
  have up : ∀ {l news s'}, Fm s₁ [L, I] L l news s' → s'.heap.IsList a vs.toArray := fun F' => by obtain ⟨o, ho, r⟩ := hl1; exact ⟨o, F'.kp.keep a o (by simp; lia) ho, r⟩
  obtain ⟨c0, hc0⟩ : ∃ c, cs[0]? = some c := ⟨cs[0]'hw.ne, by simp [hw.ne]⟩
  obtain ⟨d0, hd0, hb0, hp0, hq0⟩ := hw.low 0 c0 hc0
  obtain ⟨tc, hv0⟩ := hat 0 c0 hc0
  walk_at "as"
  walk_at "es"
  refine kNext F1 (up F1) hv0 (by simp) (by simp) fun s₃ F3 _ => ?_
  walk_at "st"
  walk_at "as"
  walk_at "es"
  walk_at "st"
  rename_i s₄ F4 _
  have hds : ∀ d ∈ ds, 0 ≤ d ∧ d < 64 := by
    intro d hd
    obtain ⟨k, hk, rfl⟩ := List.getElem_of_mem hd
    obtain ⟨d', h1, _, h2, h3⟩ := hw.low k (cs[k]'(by rw [← hw.len]; exact hk)) (by simp [hw.len ▸ hk])
    have : ds[k] = d' := by simpa [hk] using h1
    rw [this]; exact ⟨h2, h3⟩
  refine wpAny_execs_cons (wpAny_While (codeAny_whileLoop (fun n s' => ∃ k c t u l, k < cs.length ∧ n = cs.length - k ∧ cs[k]? = some c ∧ Fm s₁ [L, I] L l [(I, itO a (i + k + 1))] s' ∧
    lk l (Str.ofString "iterator") = some (.ref I) ∧ lk l (Str.ofString "b") = some (.int c t) ∧ lk l (Str.ofString "val") = some (.int (numOf (ds.take (k + 1))) u)) ?_ cs.length ?_))
  · rintro n s' ⟨k, c, t, u, l, hk, rfl, hc, F5, h1, h2, h3⟩
    refine isTrue_plain ?_
    walk_at "es"
    rename_i F6
    refine truthy_int ?_
    by_cases hlast : k + 1 = cs.length
    · rw [hw.last k c hc hlast]
      simp only [bne_self_eq_false, Bool.false_eq_true, if_false]
      walk_at "nil"
      refine wpAny_execs_cons (wpAny_Return_some ?_)
      walk_at "e"
      have e : ds.take (k + 1) = ds := by rw [hlast, ← hw.len, List.take_length]
      rw [e]
      refine hQ _ _ ?_ ?_
      · obtain ⟨h', tk', rfl, kk⟩ := K0
        obtain ⟨h3, tk3, rfl⟩ := F6.kp.same
        refine ⟨⟨h3, tk3, rfl⟩, fun b o hb e => F6.kp.keep b o (fun q => ?_) (kk b o e)⟩
        simp at q hb
        rcases q with q | q
        · rw [q, hfresh] at e; cases e
        · exact hb q
      · have := F6.objs _ (List.Mem.head _)
        rw [← hlast]; exact this
    · have hk1 : k + 1 < cs.length := by lia
      obtain ⟨c1, hc1⟩ : ∃ c, cs[k + 1]? = some c := ⟨cs[k + 1], by simp [hk1]⟩
      obtain ⟨d1, hd1, hb1, hp1, hq1⟩ := hw.low (k + 1) c1 hc1
      obtain ⟨t1, hv1⟩ := hat (k + 1) c1 hc1
      have hne : (Builtin.bitAnd c 64 != 0) = true := by simpa using hw.more k c hc hk1
      rw [if_pos hne]
      have hbd := numOf_bound (ds.take (k + 1)) (fun d hd => hds d (List.mem_of_mem_take hd))
      have hlt : numOf (ds.take (k + 1)) < 2 ^ 128 := by
        refine Int.lt_of_lt_of_le hbd.2 ?_
        have : (64 : Int) ^ (ds.take (k + 1)).length ≤ 64 ^ 20 := by
          have q : (64 : Nat) ^ (ds.take (k + 1)).length ≤ 64 ^ 20 := Nat.pow_le_pow_right (by decide) (by simp; lia)
          exact_mod_cast q
        exact Int.le_trans this (by decide)
      walk_at "ex"
      refine wpAny_AugAssign_Name ?_
      walk_at "es"
      refine iLShift (by assumption) (by decide) (by decide) (by lia) fun _ _ _ => ?_
      walk_at "st"
      walk_at "as"
      walk_at "es"
      refine kNext (by assumption) (up (by assumption)) hv1 (by simp) (by simp) fun _ _ _ => ?_
      walk_at "st"
      walk_at "ex"
      refine wpAny_AugAssign_Name ?_
      walk_at "es"
      walk_at "st"
      rename_i Fl _
      rw [hb1, bitOr_low hbd.1 hp1 hq1, ← numOf_take hd1] at Fl
      exact wpAny_execs_nil ⟨cs.length - (k + 1), by lia, k + 1, c1, _, _, _, hk1, rfl, hc1, Fl, by walk_at "lk", by walk_at "lk", lk_hit⟩
  · have : d0 = numOf (ds.take (0 + 1)) := by rw [numOf_take hd0]; simp [numOf]
    rw [hb0, this] at F4
    exact ⟨0, c0, tc, _, _, hw.ne, by lia, hc0, F4, by walk_at "lk", by walk_at "lk", lk_hit⟩
end
section
open PySem PySem.W PySem.Calls PyProof.Rows
variable {H : Heap} {w : World} {A : Around} {E : Value → Shared → Prop} {s : Shared}
/-- four ints, none below nought -/
structure Heaps (vs : List Value) (hs : List Int) : Prop where
  vals : IntsAre vs hs
  four : hs.length = 4
  pos : ∀ h ∈ hs, 0 ≤ h
theorem ints_set {vs : List Value} {ns : List Int} (h : IntsAre vs ns) : ∀ (j : Nat) (n : Int) (t : Tok), IntsAre (vs.set j (.int n t)) (ns.set j n) := by
  induction h with
  | nil => intro j n t; exact .nil
  | cons m u h ih =>
    intro j n t
    cases j with
    | zero => exact .cons n t h
    | succ j => exact .cons m u (ih j n t)
theorem ints_at {vs : List Value} {ns : List Int} (h : IntsAre vs ns) {j : Nat} (hj : j < ns.length) : ∃ t, vs[j]? = some (.int ns[j] t) := by
  obtain ⟨t, e⟩ := h.get j ns[j] (by simp [hj])
  exact ⟨t, e⟩
theorem heaps_spec {a : Nat} {vs : List Value} {ns : List Int} {Q : Value → Shared → Prop} (hA : A.depth < 900) (hh : A.handled = none) (G : GL H s.heap) (hL : s.heap.IsList a vs.toArray) (hi : IntsAre vs ns) (hsz : vs.length ≤ sizeLine)
    (hQ : ∀ (D : Nat) us hs n s', Heaps us hs → s'.heap.get? D = some (lo us n) → s.heap.objs.size ≤ D → Keeps s s' → Q (.ref D) s') : wpAny (model prog w) A (call (.ref 106) [.ref a]) Q E s := by
  refine callFn (i := 11) [(Str.ofString "script", .ref a)] hA G.lim (G.fn (by decide)) (fun _ _ _ => by walk_at "u") (by walk_at "u") (fun cd s₁ K0 hfresh F => ?_) (by walk_at "u") (by walk_at "u") (by walk_at "u") (by decide)
  have hLs := G.size
  have haL : a < s.heap.objs.size := exLt hL
  have hhd : (A.deeper (envOf (fnName 11) (fnScope 11) s.heap.objs.size 106 cd)).handled = none := hh
  have G1 := G.kept K0
  generalize hLe : s.heap.objs.size = L at *
  walk_at "as"
  walk_at "es"
  refine mkL (by assumption) (by simp [sizeLine]) fun D s₂ hD hLD _ F2 => ?_
  walk_at "sg"
  rename_i s₃ F3 _
  have G3 := G1.keptX F3.kp (X := [L]) (by intro b hb; rw [List.mem_singleton.mp hb]; exact hLs)
  have hX : ∀ b ∈ [L, D], 138 ≤ b := by intro b hb; simp at hb; lia
  have F4 : Fm s₃ [L, D] L _ _ s₃ := F3.rebase [L, D]
  have hL3 : s₃.heap.IsList a vs.toArray := by
    obtain ⟨o, ho, r⟩ := hL
    obtain ⟨h', tk', rfl, kk⟩ := K0
    exact ⟨o, F3.kp.keep a o (by simpa using Nat.ne_of_lt haL) (kk _ _ ho), r⟩
  walk_at "ex"
  refine wpAny_For ?_ (by intro _; rfl)
  walk_at "es"
  refine sliceTo 63 ?_ (by intro _ _; walk_at "u")
  walk_at "es"
  refine SliceEnd.intro (by assumption) (vs := vs) ?_ hsz fun T s₅ hT hLT hnT F5 => ?_
  · rename_i F5
    obtain ⟨o, ho, r⟩ := hL3
    exact ⟨o, F5.kp.keep a o (by simp; lia) ho, r⟩
  walk_at "es"
  refine call_enumerate_list (F5.isList (List.Mem.head _)) fun h6 he6 hi6 hz6 k6 => ?_
  have F6 := F5.kept (s' := { s₅ with heap := h6 }) ⟨h6, s₅.toks, rfl, k6⟩
  walk_at "es"
  refine wpAny_pyIter_enum he6 ?_
  have hDT : D < T := hnT _ (List.Mem.head _)
  have hT5 : T < s₅.heap.objs.size := F5.ltN (p := (T, lo (vs.take 63) 0)) (by simp)
  have hXs : ∀ b ∈ [L, D], b < s₅.heap.objs.size := by
    intro b hb; simp at hb
    rcases hb with h | h
    · exact h ▸ F5.lt
    · exact h ▸ F5.ltN (p := (D, lo _ 0)) (List.Mem.tail _ (List.Mem.head _))
  have hLz := hXs L (by simp)
  have hDz := hXs D (by simp)
  refine forEnum (A := A.deeper (envOf (fnName 11) (fnScope 11) L 106 cd)) hhd F6.tl he6 hi6 (F6.isList (List.Mem.head _)) (by lia) (by lia) (by lia)
    (by show s₅.heap.objs.size + 1 ∉ [L, D]; simp; lia) (by show s₅.heap.objs.size ∉ [L, D]; simp; lia) (by show T ∉ [L, D]; simp; lia) (List.Mem.head _) (F5.noneAbove hXs (by lia)) (F5.noneAbove hXs (by lia))
    (fun i l₁ news₁ => ∃ us hs n, news₁ = [(D, lo us n)] ∧ Heaps us hs ∧ lk l₁ (Str.ofString "heaps") = some (.ref D)) ?_ ⟨_, [8262, 3322, 10073, 1222], _, rfl, ⟨.cons _ _ (.cons _ _ (.cons _ _ (.cons _ _ .nil))), rfl, by decide⟩, by walk_at "lk"⟩ ?_ ?_ (by walk_at "u") (by walk_at "u") (by walk_at "u")
  · rintro i l₁ news₁ ⟨us, hs, n, rfl, _⟩ p hp
    rw [List.mem_singleton.mp hp]
    exact ⟨by show D ≠ _; lia, by show D ≠ _; lia⟩
  · rintro i v tk s₆ l₁ news₁ E' hv ⟨us, hs, n, rfl, hus, hlk⟩ F7 K7
    obtain ⟨num, tn, hn1, rfl⟩ := intsAt hi (i := i) (v := v) (by simp [List.getElem?_take] at hv; exact hv.2)
    have hm : ((i : Nat) : Int).fmod 4 = ((i % 4 : Nat) : Int) := by rw [Int.fmod_eq_emod_of_nonneg _ (by decide)]; lia
    have hj : i % 4 < hs.length := by rw [hus.four]; lia
    obtain ⟨tj, htj⟩ := ints_at hus.vals hj
    refine wpAny_execs_cons (wpAny_AugAssign_SubscriptAny ?_)
    walk_at "es"
    rw [hm]
    refine getL (Fm.isList (by assumption) (List.Mem.head _)) (by lia) (by lia) (by rw [Int.toNat_natCast]; exact htj) ?_
    walk_at "es"
    have hjl : i % 4 < us.length := by rw [hus.vals.length]; exact hj
    refine setL (by assumption) (by simp) (by simp) (by lia) (by lia) (by rw [Int.toNat_natCast]; exact hjl) fun s₇ F8 => ?_
    rw [Int.toNat_natCast] at F8
    refine wpAny_execs_nil ⟨_, _, F8, _, _, n, rfl, ⟨ints_set hus.vals (i % 4) _ _, by simpa using hus.four, ?_⟩, by walk_at "lk"⟩
    intro x hx
    rcases List.mem_or_eq_of_mem_set hx with h | h
    · exact hus.pos x h
    · have h1 := hus.pos hs[i % 4] (List.getElem_mem _)
      have h2 : 0 ≤ num.fmod (10 ^ Int.toNat 12) := Int.fmod_nonneg_of_pos _ (by decide)
      lia
  · rintro l₁ news₁ s₆ ⟨us, hs, n, rfl, hus, hlk⟩ F7
    walk_at "nx"
    refine wpAny_execs_cons (wpAny_Return_some ?_)
    walk_at "es"
    have hDf : s.heap.get? D = none := get_above (by lia)
    exact hQ D us hs n _ hus (F7.objs _ (List.Mem.head _)) (by lia) (F7.back (F3.back K0 (by intro b hb; rw [List.mem_singleton.mp hb]; exact hfresh)) (by intro b hb; simp at hb; rcases hb with h | h; exact h ▸ hfresh; exact h ▸ hDf))
end
section
open PySem PySem.W PySem.Calls PyProof.Rows
variable {H : Heap} {w : World} {A : Around} {E : Value → Shared → Prop} {s : Shared}
noncomputable def codeOf (n : Int) : Int := if 32 < n ∧ n < 59 then 64 + n else 20032 + n
noncomputable def lastOf (n : Int) : Int := if 47 < n then 1024 + n else 20096 + n
noncomputable def codesOf (ns : List Int) : List Int := (ns.map codeOf).set (ns.length - 1) (lastOf (ns.getLast?.getD 0))
theorem codes_spec {a : Nat} {vs : List Value} {ns : List Int} {Q : Value → Shared → Prop} (hA : A.depth < 900) (hh : A.handled = none) (G : GL H s.heap) (hL : s.heap.IsList a vs.toArray) (hi : IntsAre vs ns) (hne : 0 < ns.length) (hsz : ns.length ≤ 1000)
    (hQ : ∀ (D : Nat) us n s', IntsAre us (codesOf ns) → s'.heap.get? D = some (lo us n) → s.heap.objs.size ≤ D → Keeps s s' → Q (.ref D) s') : wpAny (model prog w) A (call (.ref 111) [.ref a]) Q E s := by
  refine callFn (i := 12) [(Str.ofString "word", .ref a)] hA G.lim (G.fn (by decide)) (fun _ _ _ => by walk_at "u") (by walk_at "u") (fun cd s₁ K0 hfresh F => ?_) (by walk_at "u") (by walk_at "u") (by walk_at "u") (by decide)
  have haL : a < s.heap.objs.size := exLt hL
  have hhd : (A.deeper (envOf (fnName 12) (fnScope 12) s.heap.objs.size 111 cd)).handled = none := hh
  generalize hLe : s.heap.objs.size = L at *
  have hL1 : s₁.heap.IsList a vs.toArray := by obtain ⟨h', tk, rfl, kk⟩ := K0; obtain ⟨o, ho, r⟩ := hL; exact ⟨o, kk _ _ ho, r⟩
  refine wpAny_execs_cons (compU s₁ [] (by walk_at "u") (by walk_at "u") (by walk_at "u") (by decide +kernel) (by decide +kernel) F (List.Mem.head _) (by simp) (by simp) (by simp) ?_ (by walk_at "u") (by walk_at "u") (by intro _; rfl))
  walk_at "es"
  refine iterL (a := a) (vs := vs) hL1 .refl (by simp) fun I D C s₃ hIs hID hDC haI _ hI hD hC hit hl3 F3 k3 => ?_
  refine compE (env := envOf (fnName 12) (fnScope 12) L 111 cd) (Walks.list hhd I a (Nat.ne_of_lt haI) vs.toArray) F3 ⟨hit, hl3⟩ (by intro b hb; simp at hb ⊢; lia) hI (by lia) (by rw [List.size_toArray, hi.length]; simp [sizeLine]; lia)
    (fun i us objs => objs = [] ∧ IntsAre us ((ns.map codeOf).take i)) ⟨rfl, by simpa using IntsAre.nil⟩ ?_ ?_ (by walk_at "u") (by walk_at "u") (fun _ _ x => listIter_lt x)
  · rintro i v s₄ l₁ us k objs E' hlt hv ⟨rfl, hus⟩ _ F4 K4 _ _
    obtain ⟨n, tn, hn1, rfl⟩ := intsAt hi (by simpa using hv)
    have fin : ∀ (t : Tok) s₅, Fm s₄ [C, D] C ((Str.ofString "letter", .int n tn) :: l₁) [(D, lo us k)] s₅ → ∃ objs', Fm s₄ [C, D] C ((Str.ofString "letter", .int n tn) :: l₁) ((D, lo us k) :: objs') s₅ ∧ (∀ p ∈ objs', p.1 ≠ D ∧ p.1 ≠ I) ∧ (objs' = [] ∧ IntsAre (us ++ [.int (codeOf n) t]) ((ns.map codeOf).take (i + 1))) := by
      intro t s₅ F5
      refine ⟨[], F5, (by intro p hp; nomatch hp), rfl, ?_⟩
      rw [List.take_add_one, List.getElem?_map, hn1]
      exact ints_snoc hus _ _
    walk_at "es"
    refine split_dec (fun h1 => ?_) fun h1 => ?_
    · walk_at "es"
      refine split_dec (fun h2 => ?_) fun h2 => ?_
      · walk_at "es"
        have e : 64 + n = codeOf n := by unfold codeOf; rw [if_pos ⟨h1, h2⟩]
        rw [e]; exact fin _ _ (by assumption)
      · walk_at "es"
        have e : 20032 + n = codeOf n := by unfold codeOf; rw [if_neg (fun q => h2 q.2)]
        rw [e]; exact fin _ _ (by assumption)
    · walk_at "es"
      have e : 20032 + n = codeOf n := by unfold codeOf; rw [if_neg (fun q => h1 q.1)]
      rw [e]; exact fin _ _ (by assumption)
  · rintro l₁ us k objs s₄ ⟨rfl, hus⟩ hlen F4
    refine ⟨rfl, us, k, l₁, [], F4, (by intro p hp; nomatch hp), fun s₅ F5 => ?_⟩
    have hus' : IntsAre us (ns.map codeOf) := by
      have e : vs.toArray.size = (ns.map codeOf).length := by simp [hi.length]
      rw [e, List.take_length] at hus; exact hus
    have hul : us.length = ns.length := by rw [hus'.length]; simp
    have hLD : L < D := by
      have := F.lt; lia
    have F6 : Fm s₅ [L, D] L _ _ s₅ := F5.rebase [L, D]
    have K5 := F5.back K0 (by intro b hb; rw [List.mem_singleton.mp hb]; exact hfresh)
    have hL5 : s₅.heap.IsList a vs.toArray := by obtain ⟨h', tk, rfl, kk⟩ := K5; obtain ⟨o, ho, r⟩ := hL; exact ⟨o, kk _ _ ho, r⟩
    obtain ⟨tl, hlast⟩ : ∃ t, vs.getLast? = some (.int (ns.getLast?.getD 0) t) := by
      have h1 : ns.length - 1 < ns.length := by lia
      obtain ⟨t, ht⟩ := ints_at hi h1
      refine ⟨t, ?_⟩
      rw [List.getLast?_eq_getElem?, hi.length, ht, List.getLast?_eq_getElem?, List.getElem?_eq_getElem h1]; rfl
    have up : ∀ {l news s'}, Fm s₅ [L, D] L l news s' → s'.heap.IsList a vs.toArray := fun F' => by obtain ⟨o, ho, r⟩ := hL5; exact ⟨o, F'.kp.keep a o (by simp; lia) ho, r⟩
    have fin : ∀ (m : Int) t s₇, m = lastOf (ns.getLast?.getD 0) → Fm s₅ [L, D] L ((Str.ofString "codes", .ref D) :: [(Str.ofString "word", .ref a)]) [(D, lo us k)] s₇ →
        wpAny (model prog w) (A.deeper (envOf (fnName 12) (fnScope 12) L 111 cd)) (eval (Expr.Name (Str.ofString "codes") ⟨69, 4, 69, 9⟩) (envOf (fnName 12) (fnScope 12) L 111 cd)) (fun ov s₂ => wpAny (model prog w) (A.deeper (envOf (fnName 12) (fnScope 12) L 111 cd)) (eval (Expr.UnaryOp UnaryOp.USub (Expr.Constant (Const.int 1) 0 ⟨69, 11, 69, 12⟩) ⟨69, 10, 69, 12⟩) (envOf (fnName 12) (fnScope 12) L 111 cd)) (fun iv s₃ =>
          wpAny (model prog w) (A.deeper (envOf (fnName 12) (fnScope 12) L 111 cd)) (setItem ov iv (.int m t)) (fun _ s₄ => wpAny (model prog w) (A.deeper (envOf (fnName 12) (fnScope 12) L 111 cd)) (execs [Stmt.Return (some (Expr.Name (Str.ofString "codes") ⟨70, 11, 70, 16⟩)) ⟨70, 4, 70, 16⟩] (envOf (fnName 12) (fnScope 12) L 111 cd)) (fun f s' => Q (match f with | .ret v => v | _ => .none) s') (fun _ _ => False) s₄) (fun _ _ => False) s₃) (fun _ _ => False) s₂) (fun _ _ => False) s₇ := by
      intro m t s₇ hm F7
      walk_at "es"
      refine setLast (by assumption) (by simp) (by simp) (by lia) fun s₈ F8 => ?_
      refine wpAny_execs_cons (wpAny_Return_some ?_)
      walk_at "es"
      refine hQ D _ k _ ?_ (F8.objs _ (List.Mem.head _)) (by lia) (F8.back K5 (by intro b hb; simp at hb; rcases hb with h | h; exact h ▸ hfresh; exact h ▸ get_above (by lia)))
      rw [hul, hm]
      exact ints_set hus' _ _ _
    refine wpAny_execs_cons (wpAny_Assign_Subscript ?_)
    walk_at "es"
    refine tailLast (up (by assumption)) hlast ?_ (by walk_at "u")
    walk_at "es"
    refine split_dec (fun h1 => ?_) fun h1 => ?_
    · walk_at "es"
      refine tailLast (up (by assumption)) hlast ?_ (by walk_at "u")
      walk_at "e"
      exact fin _ _ _ (by unfold lastOf; rw [if_pos h1]) (by assumption)
    · walk_at "es"
      refine tailLast (up (by assumption)) hlast ?_ (by walk_at "u")
      walk_at "e"
      exact fin _ _ _ (by unfold lastOf; rw [if_neg h1]) (by assumption)
end
section
open PySem PySem.W PySem.Calls PyProof.Rows
variable {H : Heap} {w : World} {A : Around} {E : Value → Shared → Prop} {s : Shared}
theorem inB1_spec {c : Nat} {t : Tok} {Q : Value → Shared → Prop} (hA : A.depth < 900) (T : TopW w H) (G : GL H s.heap)
    (hQ : ∀ s', Keeps s s' → Q (.bool (b1Has c)) s') : wpAny (model prog w) A (call (.ref 53) [.str (one c) t]) Q E s := by
  refine callFn (i := 7) [(Str.ofString "code", .str (one c) t)] hA G.lim (G.fn (by decide)) (fun _ _ _ => by walk_at "u") (by walk_at "u") (fun cd s₁ K0 hfresh F => ?_) (by walk_at "u") (by walk_at "u") (by walk_at "u") (by decide)
  have hLs := G.size
  have G1 := G.kept K0
  generalize hL : s.heap.objs.size = L at *
  have hX : ∀ b ∈ [L], 138 ≤ b := by intro b hb; simp at hb; lia
  refine wpAny_execs_cons (wpAny_Return_some ?_)
  walk_at "es"
  rename_i s₂ F2
  obtain ⟨n, hS⟩ := T.setAt (G1.keptX F2.kp hX)
  refine wpAny_inSet_of (intKind_is prog w _ _) rfl hS ?_
  exact hQ _ ((F2.tok _).back K0 (by intro b hb; rw [List.mem_singleton.mp hb]; exact hfresh))
theorem map_spec {c : Nat} {t : Tok} {Q : Value → Shared → Prop} (hA : A.depth < 900) (T : TopW w H) (G : GL H s.heap)
    (hQ : ∀ t s', Keeps s s' → Q (.str ((b3At c).getD (Txt.lower (one c))) t) s') (hlow : Builtin.Str.tooLong (Txt.lower (one c)).length = false) : wpAny (model prog w) A (call (.ref 99) [.str (one c) t]) Q E s := by
  refine callFn (i := 9) [(Str.ofString "code", .str (one c) t)] hA G.lim (G.fn (by decide)) (fun _ _ _ => by walk_at "u") (by walk_at "u") (fun cd s₁ K0 hfresh F => ?_) (by walk_at "u") (by walk_at "u") (by walk_at "u") (by decide)
  have hLs := G.size
  have G1 := G.kept K0
  generalize hL : s.heap.objs.size = L at *
  have hX : ∀ b ∈ [L], 138 ≤ b := by intro b hb; simp at hb; lia
  have hf : ∀ b ∈ [L], s.heap.get? b = none := by intro b hb; rw [List.mem_singleton.mp hb]; exact hfresh
  walk_at "as"
  refine wpAny_Call_method1_late (by walk_at "u") (by walk_at "u") (by walk_at "u") ?_
  walk_at "es"
  obtain ⟨f, hM, hf3⟩ := T.dicAt (G1.keptX F.kp hX)
  refine ⟨"dict", "dict.get", PySem.F.plainAttrs_dict, PySem.F.slot_dict_get, PySem.F.type_dict_get, hM.typeIs, hM.noDict, wpAny_dict_get1 (knd := intKind prog w) (by decide) ?_⟩
  walk_at "es"
  rename_i s₂ F2
  obtain ⟨f, hM, hf3⟩ := T.dicAt (G1.keptX F2.kp hX)
  refine ⟨_, f, intKind_is prog w _ _, hM, ?_⟩
  have hk := hf3 c
  have F3 := F2.tok (s₂.toks + 1)
  cases hb : b3At c with
  | some x =>
    rw [hb] at hk
    obtain ⟨tx, hk⟩ := hk
    rw [hk]
    dsimp only [Option.getD_some]
    walk_at "sg"
    walk_at "ex"
    refine wpAny_If ?_
    refine wpAny_isTrue_Compare1 ?_ (by walk_at "u")
    walk_at "es"
    refine wpAny_Constant_none ?_
    refine wpAny_isNot_other rfl (by intro q; cases q) (wpAny_truthy_bool (ifT ?_))
    refine wpAny_execs_cons (wpAny_Return_some ?_)
    walk_at "es"
    have := hQ tx _ (Fm.back (by assumption) K0 hf)
    rw [hb] at this
    walk_at "rt"
    exact this
  | none =>
    rw [hb] at hk
    rw [show f c = none from hk]
    dsimp only [Option.getD_none]
    walk_at "sg"
    walk_at "ex"
    refine wpAny_If ?_
    refine wpAny_isTrue_Compare1 ?_ (by walk_at "u")
    walk_at "es"
    refine wpAny_Constant_none ?_
    refine wpAny_isNot_self rfl (wpAny_truthy_bool (ifF ?_))
    walk_at "nil"
    refine wpAny_execs_cons (wpAny_Return_some ?_)
    refine Call_method0 (by walk_at "u") (by walk_at "u") ?_
    walk_at "es"
    rename_i s₄ F4 _ _ _
    refine SB.lower hlow ?_
    have := hQ s₄.toks _ ((F4.tok (s₄.toks + 1)).back K0 hf)
    rw [hb] at this
    exact this
end
section
open PySem PySem.W PySem.Calls PyProof.Rows
set_option maxHeartbeats 4000000
theorem lkp {X : List Nat} {s s' : Shared} {a : Nat} {v : Array Value} (h : s.heap.IsList a v) (k : Kp X s s') (ha : a ∉ X) : s'.heap.IsList a v := by obtain ⟨o, ho, r⟩ := h; exact ⟨o, k.keep a o ha ho, r⟩
noncomputable def outerBody : List Stmt := match fnBody 13 with | [_, _, .For _ _ b _ _, _] => b | _ => []
noncomputable def innerBody : List Stmt := match outerBody with | [_, _, .For _ _ b _ _] => b | _ => []
noncomputable def elifBody : List Stmt := match innerBody with | [_, _, .If _ _ o _] => o | _ => []
noncomputable def highBody : List Stmt := match elifBody with | [.If _ _ o _] => o | _ => []
noncomputable def restBody : List Stmt := match highBody with | [.If _ _ o _] => o | _ => []
noncomputable abbrev tyEnv (L : Nat) (cd : Value) : Env := envOf (fnName 13) (fnScope 13) L 118 cd
variable {H : Heap} {w : World} {A : Around} {E : Value → Shared → Prop} {s s₀ : Shared} {X : List Nat} {L : Nat} {l : List (Str × Value)} {news : List (Nat × Obj)}
theorem len_app (x y : Str) : (x ++ y).length = x.length + y.length := Array.size_append
theorem app_empty (x : Str) : x ++ Str.empty = x := by
  cases x; show Str.append _ _ = _; simp [Str.append, Str.empty]
theorem pick_at {vs : List Value} {T : Int} {a b : Tok} {c d : Tok} (e : vs = [.int 97 a, .int 65 b, .int (greats.getD ((T.fdiv 4).fmod 9).toNat 0) c, .int (greats.getD (T.fdiv 36).toNat 0) d]) : ∃ t, vs[(T.fmod 4).toNat]? = some (.int (pick T) t) := by
  have h : (T.fmod 4).toNat < 4 := by
    have := Int.fmod_lt_of_pos T (show (0 : Int) < 4 by decide)
    omega
  unfold pick
  subst e
  generalize (T.fmod 4).toNat = n at h
  rcases n with _ | _ | _ | _ | n
  · exact ⟨_, rfl⟩
  · exact ⟨_, rfl⟩
  · exact ⟨_, rfl⟩
  · exact ⟨_, rfl⟩
  · omega
theorem great_at (n : Nat) (h : n < 9) : 119808 ≤ greats.getD n 0 ∧ greats.getD n 0 ≤ 120432 := by
  have : ∀ n, n < 9 → 119808 ≤ greats.getD n 0 ∧ greats.getD n 0 ≤ 120432 := by decide
  exact this n h
theorem pick_lo {T : Int} (h0 : 0 ≤ T) (h1 : T < 324) : 65 ≤ pick T ∧ pick T ≤ 120432 := by
  have h : (T.fmod 4).toNat < 4 := by
    have := Int.fmod_lt_of_pos T (show (0 : Int) < 4 by decide)
    omega
  have a1 := great_at ((T.fdiv 4).fmod 9).toNat (by have := Int.fmod_lt_of_pos (T.fdiv 4) (show (0 : Int) < 9 by decide); omega)
  have a2 := great_at (T.fdiv 36).toNat (by rw [Int.fdiv_eq_ediv_of_nonneg _ (by decide)]; omega)
  unfold pick
  generalize (T.fmod 4).toNat = n at h
  rcases n with _ | _ | _ | _ | n
  · exact ⟨show (65 : Int) ≤ 97 by decide, show (97 : Int) ≤ 120432 by decide⟩
  · exact ⟨show (65 : Int) ≤ 65 by decide, show (65 : Int) ≤ 120432 by decide⟩
  · exact ⟨Int.le_trans (by decide) a1.1, a1.2⟩
  · exact ⟨Int.le_trans (by decide) a2.1, a2.2⟩
  · omega
theorem turn_lo (t : Int) : 0 ≤ turnOf t ∧ turnOf t < 324 := ⟨Int.fmod_nonneg_of_pos _ (by decide), Int.fmod_lt_of_pos _ (by decide)⟩
theorem sign_turn {D aU : Nat} {cd : Value} {gv vU : List Value} {k : Nat} {x p : Str} {turn c : Int} {i : Nat} {tx tp tt tc ti : Tok} {Q : Flow → Shared → Prop}
    (G : GL H s₀.heap) (hX : ∀ b ∈ X, 138 ≤ b) (hLX : L ∈ X) (F : Fm s₀ X L l news s) (hm : (D, lo gv k) ∈ news) (hg : IntsAre gv greats)
    (hU : s₀.heap.IsList aU vU.toArray) (haU : aU ∉ X) (hu : IntsAre vU b1Nums) (hc0 : 0 ≤ c) (hc1 : c < 30000) (hx : x.length ≤ 500) (hp : p.length ≤ 10)
    (h1 : lk l (Str.ofString "text") = some (.str x tx)) (h2 : lk l (Str.ofString "turn") = some (.int turn tt)) (h3 : lk l (Str.ofString "pair") = some (.str p tp))
    (h4 : lk l (Str.ofString "unseen") = some (.ref aU)) (h5 : lk l (Str.ofString "greats") = some (.ref D)) (h6 : lk l (Str.ofString "code") = some (.int c tc)) (h7 : lk l (Str.ofString "place") = some (.int (i : Nat) ti))
    (hQ : ∀ l₂ s₃ t1 t2, Fm s₀ X L l₂ news s₃ → lk l₂ (Str.ofString "text") = some (.str (stepCode p (x, turn) i c).1 t1) → lk l₂ (Str.ofString "turn") = some (.int (turnOf turn) t2) → lk l₂ (Str.ofString "pair") = some (.str p tp) →
      lk l₂ (Str.ofString "unseen") = some (.ref aU) → lk l₂ (Str.ofString "greats") = some (.ref D) → Q .next s₃) :
    wpAny (model prog w) A (execs innerBody (tyEnv L cd)) Q E s := by
  walk_at "as"
  walk_at "es"
  walk_at "st"
  rename_i s₁ F1 _
  have hT := turn_lo turn
  rw [show (turn + 25).fmod 324 = turnOf turn from rfl] at F1
  have hU1 : ∀ {l news s'}, Fm s₀ X L l news s' → s'.heap.IsList aU vU.toArray := fun F' => lkp hU F'.kp haU
  generalize hTe : turnOf turn = T at hT F1
  have e12 : T.fdiv 12 = T / 12 := Int.fdiv_eq_ediv_of_nonneg _ (by decide)
  have e4 : T.fdiv 4 = T / 4 := Int.fdiv_eq_ediv_of_nonneg _ (by decide)
  have e36 : T.fdiv 36 = T / 36 := Int.fdiv_eq_ediv_of_nonneg _ (by decide)
  have e43 : (T.fdiv 4).fmod 3 = T / 4 % 3 := by rw [e4, Int.fmod_eq_emod_of_nonneg _ (by decide)]
  have e49 : (T.fdiv 4).fmod 9 = T / 4 % 9 := by rw [e4, Int.fmod_eq_emod_of_nonneg _ (by decide)]
  have em4 : T.fmod 4 = T % 4 := Int.fmod_eq_emod_of_nonneg _ (by decide)
  have em2 : T.fmod 2 = T % 2 := Int.fmod_eq_emod_of_nonneg _ (by decide)
  generalize hl1 : (Str.ofString "turn", _) :: l = l1 at F1
  have n1 : lk l1 (Str.ofString "text") = some (.str x tx) := by rw [← hl1]; walk_at "lk"
  have n2 : ∃ t, lk l1 (Str.ofString "turn") = some (.int T t) := by rw [← hl1]; exact ⟨_, lk_hit⟩
  have n3 : lk l1 (Str.ofString "pair") = some (.str p tp) := by rw [← hl1]; walk_at "lk"
  have n4 : lk l1 (Str.ofString "unseen") = some (.ref aU) := by rw [← hl1]; walk_at "lk"
  have n5 : lk l1 (Str.ofString "greats") = some (.ref D) := by rw [← hl1]; walk_at "lk"
  have n6 : lk l1 (Str.ofString "code") = some (.int c tc) := by rw [← hl1]; walk_at "lk"
  have n7 : lk l1 (Str.ofString "place") = some (.int (i : Nat) ti) := by rw [← hl1]; walk_at "lk"
  obtain ⟨t2, n2⟩ := n2
  refine wpAny_execs_cons (wpAny_mono (Q := fun f s' => f = .next ∧ ∃ l' t1, Fm s₀ X L l' news s' ∧ lk l' (Str.ofString "text") = some (.str (x ++ unseenOf T) t1) ∧ ∀ y, y ≠ (Str.ofString "text") → lk l' y = lk l1 y) (wpAny_If ?_) (fun f s' hf => ?_) fun _ _ e => e)
  · walk_at "es"
    by_cases h0 : T / 4 % 3 = 0
    · have hb : ((T.fdiv 4).fmod 3 == 0) = true := by rw [e43, h0]; rfl
      rw [hb]
      refine ifT ?_
      walk_at "ex"
      refine wpAny_AugAssign_Name ?_
      walk_at "es"
      have hj : (T.fdiv 12).toNat < b1Nums.length := by rw [e12]; show _ < 27; lia
      obtain ⟨tj, htj⟩ := ints_at hu hj
      refine tailL (hU1 (by assumption)) (by lia) (by lia) htj ?_ (by walk_at "u")
      have hr : 0 ≤ b1Nums[(T.fdiv 12).toNat] ∧ b1Nums[(T.fdiv 12).toNat] ≤ 1114111 := by
        have : ∀ z ∈ b1Nums, 0 ≤ z ∧ z ≤ 1114111 := by decide
        exact this _ (List.getElem_mem _)
      walk_at "es"
      refine kIAddS (by assumption) (by simp [one, Str.length]; simp [Str.length] at hx; lia) fun _ _ _ => ?_
      walk_at "st"
      have this : unseenOf T = one (b1Nums[(T.fdiv 12).toNat]).toNat := by
        unfold unseenOf
        rw [if_pos (by rw [e43, h0]), List.getD_eq_getElem?_getD, List.getElem?_eq_getElem hj]; rfl
      exact wpAny_execs_nil ⟨rfl, _, _, by assumption, by rw [this]; exact lk_hit, fun y hy => by simp [lk, hy]⟩
    · have hb : ((T.fdiv 4).fmod 3 == 0) = false := by rw [e43]; simpa using h0
      rw [hb]
      have this : x ++ unseenOf T = x := by
        unfold unseenOf
        rw [if_neg (by rw [e43]; exact h0)]
        exact app_empty x
      exact ifF (wpAny_execs_nil ⟨rfl, _, _, by assumption, by rw [this]; exact n1, fun y hy => rfl⟩)
  obtain ⟨rfl, l', t1, F2, g1, g2⟩ := hf
  have hxu : (x ++ unseenOf T).length ≤ 501 := by
    have : (unseenOf T).length ≤ 1 := by unfold unseenOf; split <;> simp [one, Str.empty, Str.length]
    have e : (x ++ unseenOf T).length = x.length + (unseenOf T).length := len_app _ _
    lia
  have hst : stepCode p (x, turn) i c = (x ++ unseenOf T ++ signOf p i c T, T) := by unfold stepCode; dsimp only; rw [hTe]
  rw [hst, hTe] at hQ
  dsimp only at hQ
  generalize x ++ unseenOf T = z at hxu g1 hQ
  have m2 := (g2 _ (by decide +kernel)).trans n2
  have m3 := (g2 _ (by decide +kernel)).trans n3
  have m4 := (g2 _ (by decide +kernel)).trans n4
  have m5 := (g2 _ (by decide +kernel)).trans n5
  have m6 := (g2 _ (by decide +kernel)).trans n6
  have m7 := (g2 _ (by decide +kernel)).trans n7
  have fin : ∀ s₃ t, Fm s₀ X L ((Str.ofString "text", .str (z ++ signOf p i c T) t) :: l') news s₃ → Q .next s₃ := fun s₃ t F' =>
    hQ _ _ _ _ F' lk_hit (by walk_at "lk") (by walk_at "lk") (by walk_at "lk") (by walk_at "lk")
  have hpick := pick_lo hT.1 hT.2
  have hsl : (Txt.slice p (some i) none).length ≤ 10 := Nat.le_trans (PyProof.Txt.length_slice_le _ _ _) hp
  dsimp only
  have high : ∀ s', Fm s₀ X L l' news s' → ¬(p ≠ Str.empty ∧ i < 2) → ¬(96 < c ∧ c < 123) → wpAny (model prog w) A (execs highBody (tyEnv L cd)) Q E s' := by
    intro s' F' hno hno2
    walk_at "ex"
    refine wpAny_If ?_
    walk_at "es"
    have els : ∀ s', Fm s₀ X L l' news s' → ¬(1024 < c ∧ c < 1104) → wpAny (model prog w) A (execs restBody (tyEnv L cd)) Q E s' := by
      intro s' F' hno3
      have hs : signOf p i c T = one c.toNat := by unfold signOf; rw [if_neg hno, if_neg hno2, if_neg hno3]
      walk_at "ex"
      refine wpAny_AugAssign_Name ?_
      walk_at "es"
      rw [← hs]
      refine kIAddS (by assumption) (by rw [hs]; exact Nat.le_trans (Nat.add_le_add hxu (Nat.le_refl 1)) (by decide)) fun _ _ _ => ?_
      walk_at "st"
      exact wpAny_execs_nil (fin _ _ (by assumption))
    refine split_dec (fun q1 => ?_) fun q1 => ?_
    · walk_at "es"
      refine split_dec (fun q2 => ?_) fun q2 => ?_
      · have hs : signOf p i c T = one (c - T.fmod 2 * 32).toNat := by unfold signOf; rw [if_neg hno, if_neg hno2, if_pos ⟨q1, q2⟩]
        walk_at "ex"
        refine wpAny_AugAssign_Name ?_
        walk_at "es"
        rw [← hs]
        refine kIAddS (by assumption) (by rw [hs]; exact Nat.le_trans (Nat.add_le_add hxu (Nat.le_refl 1)) (by decide)) fun _ _ _ => ?_
        walk_at "st"
        walk_at "nil"
        exact wpAny_execs_nil (fin _ _ (by assumption))
      · walk_at "es"
        exact BhF.nil (by assumption) (els _ (by assumption) (fun h => q2 h.2))
    · walk_at "es"
      exact BhF.nil (by assumption) (els _ (by assumption) (fun h => q1 h.1))
  have elif : ∀ s', Fm s₀ X L l' news s' → ¬(p ≠ Str.empty ∧ i < 2) → wpAny (model prog w) A (execs elifBody (tyEnv L cd)) Q E s' := by
    intro s' F' hno
    walk_at "ex"
    refine wpAny_If ?_
    walk_at "es"
    refine split_dec (fun q1 => ?_) fun q1 => ?_
    · walk_at "es"
      refine split_dec (fun q2 => ?_) fun q2 => ?_
      · have hs : signOf p i c T = one (c - 97 + pick T).toNat := by unfold signOf; rw [if_neg hno, if_pos ⟨q1, q2⟩]
        walk_at "es"
        walk_at "ex"
        refine wpAny_AugAssign_Name ?_
        walk_at "es"
        have b1 : ((T.fdiv 4).fmod 9).toNat < greats.length := by rw [e49]; show _ < 9; lia
        have b2 : (T.fdiv 36).toNat < greats.length := by rw [e36]; show _ < 9; lia
        obtain ⟨u1, hu1⟩ := ints_at hg b1
        obtain ⟨u2, hu2⟩ := ints_at hg b2
        refine tailL (Fm.isList (by assumption) hm) (by rw [e49]; lia) (by rw [e49]; lia) hu1 ?_ (by walk_at "u")
        walk_at "es"
        refine tailL (Fm.isList (by assumption) hm) (by rw [e36]; lia) (by rw [e36]; lia) hu2 ?_ (by walk_at "u")
        walk_at "es"
        refine mkL (by assumption) (by simp [sizeLine]) fun N s₂ hN hLN hNn F2 => ?_
        walk_at "es"
        obtain ⟨u3, hu3⟩ := pick_at (T := T) (vs := [.int 97 _, .int 65 _, .int greats[((T.fdiv 4).fmod 9).toNat] u1, .int greats[(T.fdiv 36).toNat] u2]) (by
          rw [List.getD_eq_getElem?_getD, List.getElem?_eq_getElem b1, List.getD_eq_getElem?_getD, List.getElem?_eq_getElem b2]; rfl)
        refine tailL (Fm.isList (by assumption) (List.Mem.head _)) (by lia) (by lia) hu3 ?_ (by walk_at "u")
        walk_at "es"
        rw [← hs]
        refine kIAddS (by assumption) (by rw [hs]; exact Nat.le_trans (Nat.add_le_add hxu (Nat.le_refl 1)) (by decide)) fun _ _ _ => ?_
        walk_at "st"
        walk_at "nil"
        exact wpAny_execs_nil (fin _ _ (Fm.tl (by assumption)))
      · walk_at "es"
        exact BhF.nil (by assumption) (high _ (by assumption) hno (fun h => q2 h.2))
    · walk_at "es"
      exact BhF.nil (by assumption) (high _ (by assumption) hno (fun h => q1 h.1))
  walk_at "ex"
  refine wpAny_If ?_
  walk_at "es"
  refine PyProof.Rows.ne_str ?_
  have e0 : Str.ofString "" = Str.empty := by decide +kernel
  rw [e0]
  by_cases hpe : p = Str.empty
  · have : (p != Str.empty) = false := by simp [hpe]
    rw [this]
    walk_at "es"
    exact BhF.nil (by assumption) (elif _ (by assumption) (by simp [hpe]))
  · have : (p != Str.empty) = true := by simp [hpe]
    rw [this]
    walk_at "es"
    by_cases hi : i < 2
    · have e : decide ((i : Int) < 2) = true := by simp; lia
      rw [e]
      walk_at "es"
      walk_at "ex"
      refine wpAny_AugAssign_Name ?_
      walk_at "es"
      refine sliceS (i := (i : Int)) ?_ (by intro _ _; walk_at "u") (by intro _; walk_at "u")
      walk_at "es"
      refine ⟨_, _, _, _, _, _, rfl, by assumption, by simp [sizeLine]; lia, fun t' s' F' => ?_⟩
      have hs : signOf p i c T = Txt.slice p (some i) none := by unfold signOf; rw [if_pos ⟨hpe, hi⟩]
      rw [← hs] at hsl ⊢
      refine kIAddS (by assumption) (by lia) fun _ _ _ => ?_
      walk_at "st"
      walk_at "nil"
      exact wpAny_execs_nil (fin _ _ (by assumption))
    · have e : decide ((i : Int) < 2) = false := by simp; lia
      rw [e]
      walk_at "es"
      exact BhF.nil (by assumption) (elif _ (by assumption) (by simp [hi]))
end
section
open PySem PySem.W PySem.Calls PyProof.Rows
set_option maxHeartbeats 4000000
variable {H : Heap} {w : World} {A : Around} {E : Value → Shared → Prop} {s s₀ : Shared} {X : List Nat} {L : Nat} {l : List (Str × Value)} {news : List (Nat × Obj)}
theorem duo_len (codes : List Int) : (duoOf codes).length ≤ 1 := by
  unfold duoOf; split
  · split <;> simp [one, Str.length]
  · simp [Str.empty, Str.length]
theorem sign_len {p : Str} (hp : p.length ≤ 1) (i : Nat) (c T : Int) : (signOf p i c T).length ≤ 1 := by
  unfold signOf
  split
  · exact Nat.le_trans (PyProof.Txt.length_slice_le _ _ _) hp
  · split
    · simp [one, Str.length]
    · split <;> simp [one, Str.length]
theorem unseen_len (T : Int) : (unseenOf T).length ≤ 1 := by
  unfold unseenOf; split <;> simp [one, Str.empty, Str.length]
theorem row_len (st : Str × Int) (codes : List Int) : ∀ i, (rowAt st codes i).1.length ≤ st.1.length + 2 * i
  | 0 => Nat.le_refl _
  | i + 1 => by
    have ih := row_len st codes i
    have a := unseen_len (turnOf (rowAt st codes i).2)
    have b := sign_len (duo_len codes) i (codes.getD i 0) (turnOf (rowAt st codes i).2)
    show Str.length ((_ ++ _) ++ _) ≤ _
    rw [len_app, len_app]
    lia
theorem typed_len (st : Str × Int) (rows : List (List Int)) (h : ∀ r ∈ rows, r.length ≤ 3) : ∀ i, i ≤ rows.length → (typedAt st rows i).1.length ≤ st.1.length + 6 * i
  | 0, _ => Nat.le_refl _
  | i + 1, hi => by
    have ih := typed_len st rows h i (by lia)
    have a := row_len (typedAt st rows i) (rows.getD i []) (rows.getD i []).length
    have b := h (rows.getD i []) (by rw [List.getD_eq_getElem?_getD, List.getElem?_eq_getElem (by lia)]; exact List.getElem_mem _)
    show Str.length (rowAt _ _ _).1 ≤ _
    lia
theorem row_turn {D aU d : Nat} {cd : Value} {gv vU us : List Value} {row : List Int} {k : Nat} {x : Str} {turn : Int} {tx tt : Tok} {Q : Flow → Shared → Prop}
    (hh : A.handled = none) (G : GL H s₀.heap) (hX : ∀ b ∈ X, 138 ≤ b) (hXL : ∀ b ∈ X, b = L) (hLX : L ∈ X) (F : Fm s₀ X L l news s) (hm : (D, lo gv k) ∈ news) (hg : IntsAre gv greats)
    (hU : s₀.heap.IsList aU vU.toArray) (haU : aU ∉ X) (hu : IntsAre vU b1Nums) (hd : s₀.heap.IsList d us.toArray) (hdX : d ∉ X) (hr : IntsAre us row) (hr3 : row.length ≤ 3) (hrc : ∀ c ∈ row, 0 ≤ c ∧ c < 30000) (hx : x.length ≤ 490)
    (h1 : lk l (Str.ofString "text") = some (.str x tx)) (h2 : lk l (Str.ofString "turn") = some (.int turn tt))
    (h4 : lk l (Str.ofString "unseen") = some (.ref aU)) (h5 : lk l (Str.ofString "greats") = some (.ref D)) (h6 : lk l (Str.ofString "codes") = some (.ref d))
    (hQ : ∀ l₂ s₃ t1 t2, Fm s₀ X L l₂ news s₃ → lk l₂ (Str.ofString "text") = some (.str (rowAt (x, turn) row row.length).1 t1) → lk l₂ (Str.ofString "turn") = some (.int (rowAt (x, turn) row row.length).2 t2) →
      lk l₂ (Str.ofString "unseen") = some (.ref aU) → lk l₂ (Str.ofString "greats") = some (.ref D) → Q .next s₃) :
    wpAny (model prog w) A (execs outerBody (tyEnv L cd)) Q E s := by
  walk_at "as"
  walk_at "es"
  walk_at "st"
  rename_i s₁ F1 k1
  have hd1 : ∀ {l news s'}, Fm s₀ X L l news s' → s'.heap.IsList d us.toArray := fun F' => lkp hd F'.kp hdX
  generalize hl1 : (Str.ofString "pair", _) :: l = l1 at F1
  have n1 : lk l1 (Str.ofString "text") = some (.str x tx) := by rw [← hl1]; walk_at "lk"
  have n2 : lk l1 (Str.ofString "turn") = some (.int turn tt) := by rw [← hl1]; walk_at "lk"
  have n3 : ∃ t, lk l1 (Str.ofString "pair") = some (.str Str.empty t) := by rw [← hl1]; exact ⟨_, lk_hit⟩
  have n4 : lk l1 (Str.ofString "unseen") = some (.ref aU) := by rw [← hl1]; walk_at "lk"
  have n5 : lk l1 (Str.ofString "greats") = some (.ref D) := by rw [← hl1]; walk_at "lk"
  have n6 : lk l1 (Str.ofString "codes") = some (.ref d) := by rw [← hl1]; walk_at "lk"
  obtain ⟨tp0, n3⟩ := n3
  try walk_at "nx"
  refine wpAny_execs_cons (wpAny_mono (Q := fun f s' => f = .next ∧ ∃ l' tp, Fm s₀ X L l' news s' ∧ lk l' (Str.ofString "pair") = some (.str (duoOf row) tp) ∧ ∀ y, y ≠ (Str.ofString "pair") → lk l' y = lk l1 y) (wpAny_If ?_) (fun f s' hf => ?_) fun _ _ e => e)
  · have no : ∀ s', Fm s₀ X L l1 news s' → ¬(row.length = 3 ∧ row.getD 0 0 = row.getD 1 0 ∧ (row.getD 0 0 = 102 ∨ row.getD 0 0 = 115)) → ∃ l' tp, Fm s₀ X L l' news s' ∧ lk l' (Str.ofString "pair") = some (.str (duoOf row) tp) ∧ ∀ y, y ≠ (Str.ofString "pair") → lk l' y = lk l1 y :=
      fun s' F' hno => ⟨l1, tp0, F', by rw [show duoOf row = Str.empty by unfold duoOf; rw [if_neg hno]]; exact n3, fun _ _ => rfl⟩
    walk_at "es"
    refine kLen (by assumption) (hd1 (by assumption)) (by rw [hr.length]; lia) fun _ _ _ => ?_
    rw [hr.length]
    walk_at "es"
    by_cases q1 : row.length = 3
    · have e : ((row.length : Int) == 3) = true := by rw [q1]; rfl
      rw [e]
      obtain ⟨t0, hu0⟩ := ints_at hr (j := 0) (by lia)
      obtain ⟨t1, hu1⟩ := ints_at hr (j := 1) (by lia)
      have g0 : row.getD 0 0 = row[0] := by rw [List.getD_eq_getElem?_getD, List.getElem?_eq_getElem (by lia)]; rfl
      have g1 : row.getD 1 0 = row[1] := by rw [List.getD_eq_getElem?_getD, List.getElem?_eq_getElem (by lia)]; rfl
      rw [← g0] at hu0
      rw [← g1] at hu1
      walk_at "es"
      refine tailL (hd1 (by assumption)) (by decide) (by decide) hu0 ?_ (by walk_at "u")
      walk_at "es"
      refine tailL (hd1 (by assumption)) (by decide) (by decide) hu1 ?_ (by walk_at "u")
      walk_at "es"
      by_cases q2 : row.getD 0 0 = row.getD 1 0
      · have e : (row.getD 0 0 == row.getD 1 0) = true := by simpa using q2
        rw [e]
        walk_at "es"
        refine tailL (hd1 (by assumption)) (by decide) (by decide) hu0 ?_ (by walk_at "u")
        walk_at "es"
        refine mkT (by assumption) (by simp [sizeLine]) fun N s₂ hN hLN hNn F2 => ?_
        refine kInT (F2.isTuple (List.Mem.head _)) (.cons 102 _ (.cons 115 _ .nil)) ?_
        by_cases q3 : row.getD 0 0 = 102 ∨ row.getD 0 0 = 115
        · have e : (([102, 115] : List Int).any (· == row.getD 0 0)) = true := by rcases q3 with h | h <;> rw [h] <;> rfl
          rw [e]
          have F3 := F2.tl
          walk_at "es"
          walk_at "as"
          walk_at "es"
          refine tailL (hd1 (by assumption)) (by decide) (by decide) hu0 ?_ (by walk_at "u")
          walk_at "es"
          have hd' : duoOf row = if row.getD 0 0 = 102 then one 64256 else one 223 := by unfold duoOf; rw [if_pos ⟨q1, q2, q3⟩]
          by_cases q4 : row.getD 0 0 = 102
          · have e : (row.getD 0 0 == 102) = true := by simpa using q4
            rw [e]
            walk_at "es"
            walk_at "st"
            try walk_at "nx"
            exact wpAny_execs_nil ⟨rfl, _, _, by assumption, by rw [hd', if_pos q4]; exact lk_hit, fun y hy => by simp [lk, hy]⟩
          · have e : (row.getD 0 0 == 102) = false := by simpa using q4
            rw [e]
            walk_at "es"
            walk_at "st"
            try walk_at "nx"
            exact wpAny_execs_nil ⟨rfl, _, _, by assumption, by rw [hd', if_neg q4]; exact lk_hit, fun y hy => by simp [lk, hy]⟩
        · have e : (([102, 115] : List Int).any (· == row.getD 0 0)) = false := by
            rw [not_or] at q3
            simp only [List.any_cons, List.any_nil, Bool.or_false, Bool.or_eq_false_iff, beq_eq_false_iff_ne]
            exact ⟨Ne.symm q3.1, Ne.symm q3.2⟩
          rw [e]
          have F3 := F2.tl
          walk_at "es"
          try walk_at "nx"
          exact wpAny_execs_nil ⟨rfl, no _ (by assumption) fun h => q3 h.2.2⟩
      · have e : (row.getD 0 0 == row.getD 1 0) = false := by simpa using q2
        rw [e]
        walk_at "es"
        try walk_at "nx"
        exact wpAny_execs_nil ⟨rfl, no _ (by assumption) fun h => q2 h.2.1⟩
    · have e : ((row.length : Int) == 3) = false := by simp; lia
      rw [e]
      walk_at "es"
      try walk_at "nx"
      exact wpAny_execs_nil ⟨rfl, no _ (by assumption) fun h => q1 h.1⟩
  obtain ⟨rfl, l', tp, F2, g1, g2⟩ := hf
  dsimp only
  have m1 := (g2 _ (by decide +kernel)).trans n1
  have m2 := (g2 _ (by decide +kernel)).trans n2
  have m4 := (g2 _ (by decide +kernel)).trans n4
  have m5 := (g2 _ (by decide +kernel)).trans n5
  have m6 := (g2 _ (by decide +kernel)).trans n6
  walk_at "ex"
  refine wpAny_For ?_ (by intro _; rfl)
  walk_at "es"
  have hXs2 : ∀ b ∈ X, b < s'.heap.objs.size := fun b hb => (hXL b hb).symm ▸ F2.lt
  refine call_enumerate_list (hd1 F2) fun h6 he6 hi6 hz6 k6 => ?_
  have F6 := F2.kept (s' := { s' with heap := h6 }) ⟨h6, s'.toks, rfl, k6⟩
  walk_at "es"
  refine wpAny_pyIter_enum he6 ?_
  have hds : d < s'.heap.objs.size := exLt (hd1 F2)
  have hl0 := row_len (x, turn) row
  refine forEnum hh F6 he6 hi6 (hd1 F6) (by lia) (by lia) (by lia)
    (fun h => absurd (hXs2 _ h) (by lia)) (fun h => absurd (hXs2 _ h) (by lia)) hdX hLX (F2.noneAbove hXs2 (by lia)) (F2.noneAbove hXs2 (by lia))
    (fun i l₁ news₁ => news₁ = news ∧ ∃ t1 t2, lk l₁ (Str.ofString "text") = some (.str (rowAt (x, turn) row i).1 t1) ∧ lk l₁ (Str.ofString "turn") = some (.int (rowAt (x, turn) row i).2 t2) ∧ lk l₁ (Str.ofString "pair") = some (.str (duoOf row) tp) ∧ lk l₁ (Str.ofString "unseen") = some (.ref aU) ∧ lk l₁ (Str.ofString "greats") = some (.ref D))
    ?_ ⟨rfl, _, _, m1, m2, g1, m4, m5⟩ ?_ ?_ (by walk_at "u") (by walk_at "u") (by walk_at "u")
  · rintro i l₁ news₁ ⟨rfl, _⟩ p hp
    have := F2.ltN hp
    exact ⟨by lia, by lia⟩
  · rintro i v tk s₆ l₁ news₁ E' hv ⟨rfl, t1, t2, a1, a2, a3, a4, a5⟩ F7 K7
    obtain ⟨c, tc, hn1, rfl⟩ := intsAt hr (i := i) (v := v) (by simpa using hv)
    have hi : i < row.length := (List.getElem?_eq_some_iff.mp hn1).1
    have hcm := hrc c (List.mem_of_getElem? hn1)
    have hgd : row.getD i 0 = c := by rw [List.getD_eq_getElem?_getD, hn1]; rfl
    have hlen := hl0 i
    dsimp only at hlen
    have hlen' : (rowAt (x, turn) row i).1.length ≤ 500 := by lia
    refine sign_turn (x := (rowAt (x, turn) row i).1) (turn := (rowAt (x, turn) row i).2) (i := i) (c := c) (G.keptX K7 hX) hX hLX F7 hm hg (lkp hU K7 haU) haU hu hcm.1 hcm.2 hlen' (Nat.le_trans (duo_len row) (by decide)) (by walk_at "lk") (by walk_at "lk") (by walk_at "lk") (by walk_at "lk") (by walk_at "lk") lk_hit (by walk_at "lk") ?_
    intro l₂ s₃ u1 u2 F8 b1 b2 b3 b4 b5
    rw [← hgd] at b1
    exact ⟨l₂, _, F8, rfl, u1, u2, b1, b2, b3, b4, b5⟩
  · rintro l₁ news₁ s₆ ⟨rfl, t1, t2, a1, a2, a3, a4, a5⟩ F7
    have e : us.toArray.size = row.length := by simp [hr.length]
    rw [e] at a1 a2
    try walk_at "nx"
    exact wpAny_execs_nil (hQ _ _ _ _ F7 a1 a2 a4 a5)
end
section
open PySem PySem.W PySem.Calls PyProof.Rows
set_option maxHeartbeats 4000000
variable {H : Heap} {w : World} {A : Around} {E : Value → Shared → Prop} {s s₀ : Shared} {X : List Nat} {L : Nat} {l : List (Str × Value)} {news : List (Nat × Obj)}
theorem typed_spec {aR aU : Nat} {vR vU : List Value} {rows : List (List Int)} {turn : Int} {tt : Tok} {Q : Value → Shared → Prop} (hA : A.depth < 900) (hh : A.handled = none) (G : GL H s.heap)
    (hR : s.heap.IsList aR vR.toArray) (hrows : ListsOf s.heap vR rows) (hU : s.heap.IsList aU vU.toArray) (hu : IntsAre vU b1Nums) (hn : rows.length ≤ 4) (hlen : ∀ r ∈ rows, r.length ≤ 3) (hc : ∀ r ∈ rows, ∀ c ∈ r, 0 ≤ c ∧ c < 30000)
    (hQ : ∀ t s', Keeps s s' → Q (.str (typedOf rows turn) t) s') : wpAny (model prog w) A (call (.ref 118) [.ref aR, .ref aU, .int turn tt]) Q E s := by
  refine callFn (i := 13) [(Str.ofString "turn", .int turn tt), (Str.ofString "unseen", .ref aU), (Str.ofString "rows", .ref aR)] hA G.lim (G.fn (by decide)) (fun _ _ _ => by walk_at "u") (by walk_at "u") (fun cd s₁ K0 hfresh F => ?_) (by walk_at "u") (by walk_at "u") (by walk_at "u") (by decide)
  have hLs := G.size
  have hhd : (A.deeper (envOf (fnName 13) (fnScope 13) s.heap.objs.size 118 cd)).handled = none := hh
  have G1 := G.kept K0
  have hRL : aR < s.heap.objs.size := exLt hR
  have hUL : aU < s.heap.objs.size := exLt hU
  have hold : ∀ b o, s.heap.get? b = some o → b < s.heap.objs.size := fun b o e => Heap.lt_size e
  generalize hL : s.heap.objs.size = L at *
  have hX : ∀ b ∈ [L], 138 ≤ b := by intro b hb; simp at hb; lia
  have K0p : Kp [] s s₁ := Kp.of_keeps K0
  walk_at "as"
  walk_at "es"
  walk_at "st"
  walk_at "as"
  walk_at "es"
  refine mkL (by assumption) (by simp [sizeLine]) fun D s₂ hD hLD _ F2 => ?_
  walk_at "st"
  rename_i s₃ F3 _
  have K3 : Kp [L] s s₃ := (K0p.mono (by simp)).trans F3.kp
  have G3 := G1.keptX F3.kp hX
  have F4 := F3.rebase [L]
  walk_at "ex"
  refine wpAny_For ?_ (by intro _; rfl)
  walk_at "es"
  refine forList (A := A.deeper (tyEnv L cd)) hhd F4 (lkp hR K3 (by simp; lia)) (by simp; lia) (List.Mem.head _) (by intro b hb; rw [List.mem_singleton.mp hb]; exact F3.lt)
    (fun i l₁ news₁ => ∃ t1 t2, news₁ = _ ∧ lk l₁ (Str.ofString "text") = some (.str (typedAt (Str.empty, turn) rows i).1 t1) ∧ lk l₁ (Str.ofString "turn") = some (.int (typedAt (Str.empty, turn) rows i).2 t2) ∧ lk l₁ (Str.ofString "unseen") = some (.ref aU) ∧ lk l₁ (Str.ofString "greats") = some (.ref D))
    ?_ ⟨_, _, rfl, by walk_at "lk", by walk_at "lk", by walk_at "lk", by walk_at "lk"⟩ ?_ ?_ (by walk_at "u") (by walk_at "u")
  · rintro i l₁ news₁ ⟨t1, t2, rfl, _⟩ p hp
    exact F3.ltN hp
  · rintro i v s₅ l₁ news₁ E' hv ⟨t1, t2, rfl, a1, a2, a4, a5⟩ F6 K6
    have hi : i < rows.length := by
      have := (Array.getElem?_eq_some_iff.mp hv).1
      have e := hrows.1
      simp at this; lia
    have hrow : rows[i]? = some rows[i] := List.getElem?_eq_getElem hi
    obtain ⟨d, us, hd1, hd2, hd3⟩ := hrows.2 i rows[i] hrow
    have e : v = .ref d := by
      have : vR[i]? = some v := by simpa using hv
      rw [hd1] at this; exact (Option.some.inj this).symm
    subst e
    have hdL : d < L := by obtain ⟨o, ho, _⟩ := hd2; exact hold d o ho
    have hmem : rows[i] ∈ rows := List.getElem_mem hi
    have hl := typed_len (Str.empty, turn) rows hlen i (by lia)
    have hl0 : (typedAt (Str.empty, turn) rows i).1.length ≤ 490 := by
      have : Str.empty.length = 0 := rfl
      dsimp only at hl; lia
    have KK := K3.trans K6
    have hgd : rows.getD i [] = rows[i] := by rw [List.getD_eq_getElem?_getD, hrow]; rfl
    refine row_turn (x := (typedAt (Str.empty, turn) rows i).1) (turn := (typedAt (Str.empty, turn) rows i).2) (row := rows[i]) hhd (G3.keptX K6 hX) hX (by simp) (List.Mem.head _) F6 (List.Mem.head _) ?_ (lkp hU KK (by simp; lia)) (by simp; lia) hu (lkp hd2 KK (by simpa using Nat.ne_of_lt hdL)) (by simpa using Nat.ne_of_lt hdL) hd3 (hlen _ hmem) (hc _ hmem) hl0
      (by walk_at "lk") (by walk_at "lk") (by walk_at "lk") (by walk_at "lk") lk_hit ?_
    · exact .cons _ _ (.cons _ _ (.cons _ _ (.cons _ _ (.cons _ _ (.cons _ _ (.cons _ _ (.cons _ _ (.cons _ _ .nil))))))))
    intro l₂ s₆ u1 u2 F8 b1 b2 b3 b4
    rw [← hgd] at b1 b2
    exact ⟨l₂, _, F8, u1, u2, rfl, b1, b2, b3, b4⟩
  · rintro l₁ news₁ s₅ ⟨t1, t2, rfl, a1, a2, a4, a5⟩ F6
    try walk_at "nx"
    refine wpAny_execs_cons (wpAny_Return_some ?_)
    have e : vR.toArray.size = rows.length := by simp [hrows.1]
    rw [e] at a1
    walk_at "es"
    exact hQ _ _ ((F6.trans F3.kp).back K0 (by intro b hb; rw [List.mem_singleton.mp hb]; exact hfresh))
end
section
open PySem PySem.W PySem.Calls PyProof.Rows PySem.Spec
set_option maxHeartbeats 4000000
variable {H : Heap} {w : World} {A : Around} {E : Value → Shared → Prop} {s s₀ : Shared} {X : List Nat} {L : Nat} {l : List (Str × Value)} {news : List (Nat × Obj)}
/-- next(it), none is left -/
theorem kNextEnd {I a i : Nat} {vs : List Value} {Q : Value → Shared → Prop} (hh : A.handled = none) (hit : s.heap.IsListIter I a i) (hl : s.heap.IsList a vs.toArray) (hx : vs[i]? = none)
    (h : ∀ h1 h' e, Heap.SameBut I s.heap h1 → Heap.MadeExcOf h1 h' e (.type "StopIteration") [] → E (.ref e) { s with heap := h' }) : wpAny (model prog w) A (call (.builtin "next") [.ref I]) Q E s := by
  obtain ⟨o, ho, hc, hd⟩ := id hit
  obtain ⟨ol, hol, _, nl, hdl⟩ := hl
  refine call_function_entry (by decide +kernel) (by decide +kernel) nextEntry (nextArgs _) ?_
  unfold Builtin.«next»
  refine wpAny_bind (m := someArgs "next" 1 2 _) (wpAny_of_eq (a := [Value.ref I]) (by first | rfl | kernel_rfl!) ?_)
  dsimp only
  refine wpAny_bind (wpAny_specialOf (name := Str.ofString "__next__") hit.typeIs slot_listiter_next.lookup ?_)
  refine wpAny_ite_split (fun hab => absurd hab (by decide)) (fun _ => ?_)
  refine wpAny_bind (wpAny_callSpecial?_slot (name := Str.ofString "__next__") hit.typeIs slot_listiter_next
    (wpAny_call_entry slot_listiter_next hit.typeIs entry_listiter_next ?_ (args_listiter_next _)))
  show wpAny _ _ (field (.ref I) 0 >>= _) _ _ s
  refine wpAny_bind (wpAny_field ho hd (x := .ref a) rfl ?_)
  show wpAny _ _ (if (Value.ref a == Value.none) = true then _ else _) _ _ s
  rw [if_neg (show ¬ ((Value.ref a == Value.none) = true) from Bool.false_ne_true)]
  show wpAny _ _ (field (.ref I) 1 >>= _) _ _ s
  refine wpAny_bind (wpAny_field ho hd (x := .int i 0) rfl ?_)
  show wpAny _ _ (seqItems? (.ref a) >>= _) _ _ s
  refine wpAny_bind (wpAny_seqItems hol hdl ?_)
  have hx' : vs.toArray[i]? = none := by simpa using hx
  simp only [Int.toNat_natCast, hx']
  refine wpAny_bind (wpAny_rule (wpAny_bind (wpAny_setField ho hd (by simp) ?_)))
  show wpAny _ _ (newExc (.type "StopIteration") [] >>= _) _ _ _
  refine wpAny_bind ?_
  simp only [newExc, newTuple]
  refine wpAny_bind (wpAny_newObj_type ?_ (by size_fits))
  refine wpAny_bind (m := firstArgMember _ _) (wpAny_of_eq (a := Value.none) (by first | rfl | (simp only [firstArgMember]; rfl)) ?_)
  refine wpAny_newObj_type ?_ (by size_fits)
  simp only [raiseNew]
  refine wpAny_bind (wpAny_handled ?_)
  rw [show A.in1.in1.handled = none from hh]
  refine wpAny_bind (wpAny_pure (wpAny_throw ?_))
  refine h (s.heap.update I _) _ _ (Heap.SameBut.update ..) ⟨fun b o hb => Heap.get?_push_of_some _ (Heap.get?_push_of_some _ hb), Heap.get?_none_of_le (by simp), _, ?_, Heap.get?_none_of_le (Nat.le_refl _), ?_⟩
  · exact Heap.get?_push_size _ rfl
  · exact Heap.get?_push_of_some _ (Heap.get?_push_size _ rfl)
/-- a call that raises: the def's frame is left -/
theorem callFnE {i : Nat} {a : Nat} {args : List Value} {Q : Value → Shared → Prop} (bs : List (Str × Value)) (hA : A.depth < 900) (hl : s.heap.NoLimit) (hf : FnAt s.heap a i)
    (hbind : ∀ pm cd doc, bindArgs (docDef (fnName i) (fnParams i) (fnBody i) (fnScope i) pm cd doc) ⟨args, []⟩ = pure bs.reverse)
    (hloc : (bs.all fun x => decide ((fnScope i).names.lookup x.1 = some .local)) = true)
    (h : ∀ cd s₁, Keeps s s₁ → s.heap.get? s.heap.objs.size = none → Fm s₁ [s.heap.objs.size] s.heap.objs.size bs [] s₁ →
      wpAny (model prog w) (A.deeper (envOf (fnName i) (fnScope i) s.heap.objs.size a cd)) (execs (fnBody i) (envOf (fnName i) (fnScope i) s.heap.objs.size a cd))
        (fun f s' => Q (match f with | .ret v => v | _ => .none) s') (fun e s' => wpAny (model prog w) (A.deeper (envOf (fnName i) (fnScope i) s.heap.objs.size a cd)) (leaving (envOf (fnName i) (fnScope i) s.heap.objs.size a cd) e) (fun _ s'' => E e s'') (fun e' s'' => E e' s'') s') s₁)
    (hco : (fnScope i).isCoroutine = false) (hgen : (fnScope i).isGenerator = false) (hk : (fnScope i).kind = .function) (hcell : ∀ x ∈ (fnScope i).names, x.2 ≠ .cell) :
    wpAny (model prog w) A (call (.ref a) args) Q E s := by
  obtain ⟨o, pm, cd, doc, h1, h2, h3⟩ := hf
  refine wpAny_call (call_plain (binds := bs.reverse) (by unfold recursionLimit; lia) h1 h2 hl h3 (hbind _ _ _) (fun x hx => of_decide_eq_true (List.all_eq_true.mp hloc x (List.mem_reverse.mp hx))) (fun h₁ Fr0 => ?_) hco hgen hk hcell)
  have hns := Fr0.ns
  rw [List.reverse_reverse, lookup_lk] at hns
  refine wpAny_mono (h cd _ ⟨h₁, s.toks + bs.reverse.length, rfl, Fr0.keep⟩ ?_ (Fm.of_ns hns)) (fun f s' q => ?_) fun _ _ x => x
  · cases e : s.heap.get? s.heap.objs.size with
    | none => rfl
    | some o => exact absurd (Heap.lt_size e) (Nat.lt_irrefl _)
  · cases f <;> exact q
/-- _parse_varint of an iterator that has ended -/
theorem parse_end {I a i : Nat} {vs : List Value} {B : Heap} {outer : List Env} {Q : Value → Shared → Prop} (hA : A.depth < 900) (hh : A.handled = none) (G : GL H s.heap) (hI : s.heap.get? I = some (itO a i)) (hI8 : 138 ≤ I) (hl : s.heap.IsList a vs.toArray) (hx : vs[i]? = none)
    (hfr : A.frames = some outer) (hB : B.StaysIn s.heap) (hBf : s.heap.FunFrames B outer) (hBI : B.get? I = none)
    (hE : ∀ h' tk e t, Heap.FlyingW B outer e (.type "StopIteration") (.ref t) h' → s.heap.UpToSlots h' → E (.ref e) { s with heap := h', toks := tk }) :
    wpAny (model prog w) A (call (.ref 21) [.ref I]) Q E s := by
  refine callFnE (i := 1) [(Str.ofString "iterator", .ref I)] hA G.lim (G.fn (by decide)) (fun _ _ _ => by walk_at "u") (by walk_at "u") (fun cd s₁ K0 hfresh F => ?_) (by walk_at "u") (by walk_at "u") (by walk_at "u") (by decide)
  have hLs := G.size
  have hIL : I < s.heap.objs.size := Heap.lt_size hI
  have haL : a < s.heap.objs.size := exLt hl
  have G1 := G.kept K0
  generalize hL : s.heap.objs.size = L at *
  have hX : ∀ b ∈ [L], 138 ≤ b := by intro b hb; simp at hb; lia
  walk_at "as"
  walk_at "es"
  obtain ⟨hp, tkp, rfl, kk⟩ := K0
  refine kNextEnd (A := A.deeper _) hh (s := { s with heap := hp, toks := tkp }) (a := a) (i := i) (vs := vs) ⟨_, kk _ _ hI, rfl, rfl⟩ (exMv hl (kk _)) hx fun h1 h' e hs hm => ?_
  have ku : ∀ b o, s.heap.get? b = some o → (∀ vs, o.data ≠ .fields vs) → h1.get? b = some o := fun b o hb hnf => hs.extBut b o (fun q => by
    rw [q, hI] at hb; injection hb with hb; exact hnf _ (by rw [← hb])) (kk _ _ hb)
  have hBL : B.get? L = none := by
    cases q : B.get? L with
    | none => rfl
    | some o => have := hB _ _ q; rw [hfresh] at this; cases this
  refine wpAny_leaves_madeW (base := B) (h := h1) (Around.frames_deeper hfr) rfl (fun b o hb => hs.extBut b o (fun q => by rw [q, hBI] at hb; cases hb) (kk _ _ (hB _ _ hb)))
    (Heap.FunFrames.cons (by show (fnScope 1).kind ≠ .module; decide +kernel) rfl (F.ns.sameBut hs (Nat.ne_of_gt hIL)) hBL (hBf.of_keeps fun b o hb hnf => ⟨o, ku b o hb hnf, rfl⟩)) hm fun h2 t fl _ _ ups => hE h2 _ e t fl ?_
  exact Heap.UpToSlots.trans (fun b o hb hnf => ⟨o.slots, hm.keeps _ _ (ku b o hb hnf)⟩) ups
end
section
open PySem PySem.W PySem.Calls PyProof.Rows
set_option maxHeartbeats 4000000
variable {H : Heap} {w : World} {A : Around} {E : Value → Shared → Prop} {s s₀ : Shared} {X : List Nat} {L : Nat} {l : List (Str × Value)} {news : List (Nat × Obj)}
theorem paint_at (h s : UInt64) (v : Int) : paintOf h s v = [[.i v, .f (tOf h s v), .f (pOf s v)], [.f (qOf h s v), .i v, .f (pOf s v)], [.f (pOf s v), .i v, .f (tOf h s v)], [.f (pOf s v), .f (qOf h s v), .i v], [.f (tOf h s v), .f (pOf s v), .i v], [.i v, .f (pOf s v), .f (qOf h s v)]].getD ((sixthOf h).fmod 6).toNat [] := rfl
theorem hsv_spec {h sx : UInt64} {v : Int} {t1 t2 t3 : Tok} {Q : Value → Shared → Prop} (hA : A.depth < 900) (G : GL H s.heap)
    (hs : (Float64.cmp sx 0 == some Ordering.eq) = false) (hy : Float64.isFinite (Float64.mul h c6) = true) (hi : FitsF (sixthOf h)) (hv : FitsF v)
    (hQ : ∀ (a : Nat) vs s', NumsAre (paintOf h sx v) vs → s'.heap.get? a = some (tu vs) → s.heap.objs.size ≤ a → Keeps s s' → Q (.ref a) s') :
    wpAny (model prog w) A (call (.ref 35) [.float h t1, .float sx t2, .int v t3]) Q E s := by
  refine callFn (i := 4) [(Str.ofString "v", .int v t3), (Str.ofString "s", .float sx t2), (Str.ofString "h", .float h t1)] hA G.lim (G.fn (by decide)) (fun _ _ _ => by walk_at "u") (by walk_at "u") (fun cd s₁ K0 hfresh F => ?_) (by walk_at "u") (by walk_at "u") (by walk_at "u") (by decide)
  have hLs := G.size
  have G1 := G.kept K0
  generalize hL : s.heap.objs.size = L at *
  have hX : ∀ b ∈ [L], 138 ≤ b := by intro b hb; simp at hb; lia
  have hLf : ∀ b ∈ [L], s.heap.get? b = none := by intro b hb; rw [List.mem_singleton.mp hb]; exact hfresh
  have fin : ∀ a vs s' {l : List (Str × Value)}, NumsAre (paintOf h sx v) vs → Fm s₁ [L] L l ((a, tu vs) :: []) s' → L < a → Q (.ref a) s' := fun a vs s' l hn F' ha =>
    hQ a vs s' hn (F'.objs _ (List.Mem.head _)) (by lia) (F'.back K0 hLf)
  refine' ifNo ?F ?c ?d ?o ?h hs ?_
  case F => assumption
  case c => walk_at "pu"
  case d => walk_at "pu"
  case o => walk_at "co"
  case h => kernel_rfl!
  intro _ _
  walk_at "as"
  walk_at "es"
  walk_at "sg"
  walk_at "as"
  walk_at "es"
  walk_at "sg"
  walk_at "as"
  walk_at "es"
  walk_at "sg"
  walk_at "as"
  walk_at "es"
  walk_at "sg"
  walk_at "as"
  walk_at "es"
  walk_at "sg"
  walk_at "as"
  walk_at "es"
  walk_at "sg"
  rename_i s₉ F9 _
  refine F9.gen fun l' U F9' => ?_
  have k1 : lk l' (Str.ofString "i") = some (.int ((sixthOf h).fmod 6) _) := U.up (by walk_at "lk")
  have k2 : lk l' (Str.ofString "v") = some (.int v _) := U.up (by walk_at "lk")
  have k3 : lk l' (Str.ofString "p") = some (.float (pOf sx v) _) := U.up (by walk_at "lk")
  have k4 : lk l' (Str.ofString "q") = some (.float (qOf h sx v) _) := U.up (by walk_at "lk")
  have k5 : lk l' (Str.ofString "t") = some (.float (tOf h sx v) _) := U.up (by walk_at "lk")
  clear F9 U hQ hs hy hi hv G G1
  have h6 : (sixthOf h).fmod 6 = 0 ∨ (sixthOf h).fmod 6 = 1 ∨ (sixthOf h).fmod 6 = 2 ∨ (sixthOf h).fmod 6 = 3 ∨ (sixthOf h).fmod 6 = 4 ∨ (sixthOf h).fmod 6 = 5 := by
    have a := Int.fmod_nonneg_of_pos (sixthOf h) (show (0 : Int) < 6 by decide)
    have b := Int.fmod_lt_of_pos (sixthOf h) (show (0 : Int) < 6 by decide)
    lia
  have hP := paint_at h sx v
  rcases h6 with hk | hk | hk | hk | hk | hk
  · rw [hk] at k1 hP
    refine' ifYes ?F ?c ?d ?o ?h rfl ?_
    case F => assumption
    case c => walk_at "pu"
    case d => walk_at "pu"
    case o => walk_at "co"
    case h => kernel_rfl!
    intro _ _ _ _
    refine wpAny_execs_cons (wpAny_Return_some ?_)
    walk_at "es"
    refine mkT (by assumption) len3 fun T s₂ hT hLT _ F2 => ?_
    walk_at "rt"
    exact fin _ _ _ (by rw [hP]; exact .cons ⟨_, rfl⟩ (.cons ⟨_, rfl⟩ (.cons ⟨_, rfl⟩ .nil))) F2 hLT
  · rw [hk] at k1 hP
    refine' ifNo ?F ?c ?d ?o ?h rfl ?_
    case F => assumption
    case c => walk_at "pu"
    case d => walk_at "pu"
    case o => walk_at "co"
    case h => kernel_rfl!
    intro _ _
    refine' ifYes ?F ?c ?d ?o ?h rfl ?_
    case F => assumption
    case c => walk_at "pu"
    case d => walk_at "pu"
    case o => walk_at "co"
    case h => kernel_rfl!
    intro _ _ _ _
    refine wpAny_execs_cons (wpAny_Return_some ?_)
    walk_at "es"
    refine mkT (by assumption) len3 fun T s₂ hT hLT _ F2 => ?_
    walk_at "rt"
    exact fin _ _ _ (by rw [hP]; exact .cons ⟨_, rfl⟩ (.cons ⟨_, rfl⟩ (.cons ⟨_, rfl⟩ .nil))) F2 hLT
  · rw [hk] at k1 hP
    refine' ifNo ?F ?c ?d ?o ?h rfl ?_
    case F => assumption
    case c => walk_at "pu"
    case d => walk_at "pu"
    case o => walk_at "co"
    case h => kernel_rfl!
    intro _ _
    refine' ifNo ?F ?c ?d ?o ?h rfl ?_
    case F => assumption
    case c => walk_at "pu"
    case d => walk_at "pu"
    case o => walk_at "co"
    case h => kernel_rfl!
    intro _ _
    refine' ifYes ?F ?c ?d ?o ?h rfl ?_
    case F => assumption
    case c => walk_at "pu"
    case d => walk_at "pu"
    case o => walk_at "co"
    case h => kernel_rfl!
    intro _ _ _ _
    refine wpAny_execs_cons (wpAny_Return_some ?_)
    walk_at "es"
    refine mkT (by assumption) len3 fun T s₂ hT hLT _ F2 => ?_
    walk_at "rt"
    exact fin _ _ _ (by rw [hP]; exact .cons ⟨_, rfl⟩ (.cons ⟨_, rfl⟩ (.cons ⟨_, rfl⟩ .nil))) F2 hLT
  · rw [hk] at k1 hP
    refine' ifNo ?F ?c ?d ?o ?h rfl ?_
    case F => assumption
    case c => walk_at "pu"
    case d => walk_at "pu"
    case o => walk_at "co"
    case h => kernel_rfl!
    intro _ _
    refine' ifNo ?F ?c ?d ?o ?h rfl ?_
    case F => assumption
    case c => walk_at "pu"
    case d => walk_at "pu"
    case o => walk_at "co"
    case h => kernel_rfl!
    intro _ _
    refine' ifNo ?F ?c ?d ?o ?h rfl ?_
    case F => assumption
    case c => walk_at "pu"
    case d => walk_at "pu"
    case o => walk_at "co"
    case h => kernel_rfl!
    intro _ _
    refine' ifYes ?F ?c ?d ?o ?h rfl ?_
    case F => assumption
    case c => walk_at "pu"
    case d => walk_at "pu"
    case o => walk_at "co"
    case h => kernel_rfl!
    intro _ _ _ _
    refine wpAny_execs_cons (wpAny_Return_some ?_)
    walk_at "es"
    refine mkT (by assumption) len3 fun T s₂ hT hLT _ F2 => ?_
    walk_at "rt"
    exact fin _ _ _ (by rw [hP]; exact .cons ⟨_, rfl⟩ (.cons ⟨_, rfl⟩ (.cons ⟨_, rfl⟩ .nil))) F2 hLT
  · rw [hk] at k1 hP
    refine' ifNo ?F ?c ?d ?o ?h rfl ?_
    case F => assumption
    case c => walk_at "pu"
    case d => walk_at "pu"
    case o => walk_at "co"
    case h => kernel_rfl!
    intro _ _
    refine' ifNo ?F ?c ?d ?o ?h rfl ?_
    case F => assumption
    case c => walk_at "pu"
    case d => walk_at "pu"
    case o => walk_at "co"
    case h => kernel_rfl!
    intro _ _
    refine' ifNo ?F ?c ?d ?o ?h rfl ?_
    case F => assumption
    case c => walk_at "pu"
    case d => walk_at "pu"
    case o => walk_at "co"
    case h => kernel_rfl!
    intro _ _
    refine' ifNo ?F ?c ?d ?o ?h rfl ?_
    case F => assumption
    case c => walk_at "pu"
    case d => walk_at "pu"
    case o => walk_at "co"
    case h => kernel_rfl!
    intro _ _
    refine' ifYes ?F ?c ?d ?o ?h rfl ?_
    case F => assumption
    case c => walk_at "pu"
    case d => walk_at "pu"
    case o => walk_at "co"
    case h => kernel_rfl!
    intro _ _ _ _
    refine wpAny_execs_cons (wpAny_Return_some ?_)
    walk_at "es"
    refine mkT (by assumption) len3 fun T s₂ hT hLT _ F2 => ?_
    walk_at "rt"
    exact fin _ _ _ (by rw [hP]; exact .cons ⟨_, rfl⟩ (.cons ⟨_, rfl⟩ (.cons ⟨_, rfl⟩ .nil))) F2 hLT
  · rw [hk] at k1 hP
    refine' ifNo ?F ?c ?d ?o ?h rfl ?_
    case F => assumption
    case c => walk_at "pu"
    case d => walk_at "pu"
    case o => walk_at "co"
    case h => kernel_rfl!
    intro _ _
    refine' ifNo ?F ?c ?d ?o ?h rfl ?_
    case F => assumption
    case c => walk_at "pu"
    case d => walk_at "pu"
    case o => walk_at "co"
    case h => kernel_rfl!
    intro _ _
    refine' ifNo ?F ?c ?d ?o ?h rfl ?_
    case F => assumption
    case c => walk_at "pu"
    case d => walk_at "pu"
    case o => walk_at "co"
    case h => kernel_rfl!
    intro _ _
    refine' ifNo ?F ?c ?d ?o ?h rfl ?_
    case F => assumption
    case c => walk_at "pu"
    case d => walk_at "pu"
    case o => walk_at "co"
    case h => kernel_rfl!
    intro _ _
    refine' ifNo ?F ?c ?d ?o ?h rfl ?_
    case F => assumption
    case c => walk_at "pu"
    case d => walk_at "pu"
    case o => walk_at "co"
    case h => kernel_rfl!
    intro _ _
    refine' ifYes ?F ?c ?d ?o ?h rfl ?_
    case F => assumption
    case c => walk_at "pu"
    case d => walk_at "pu"
    case o => walk_at "co"
    case h => kernel_rfl!
    intro _ _ _ _
    refine wpAny_execs_cons (wpAny_Return_some ?_)
    walk_at "es"
    refine mkT (by assumption) len3 fun T s₂ hT hLT _ F2 => ?_
    walk_at "rt"
    exact fin _ _ _ (by rw [hP]; exact .cons ⟨_, rfl⟩ (.cons ⟨_, rfl⟩ (.cons ⟨_, rfl⟩ .nil))) F2 hLT
end
section
open PySem PySem.W PySem.Calls PyProof.Rows
set_option maxHeartbeats 4000000
noncomputable def c2 : UInt64 := 0x4000000000000000
noncomputable def c4 : UInt64 := 0x4010000000000000
noncomputable def rawHue (r g b M D : Int) : UInt64 :=
  if r = M then Float64.sub (divF (M - b) D) (divF (M - g) D)
  else if g = M then Float64.sub (Float64.add c2 (divF (M - r) D)) (divF (M - b) D)
  else Float64.sub (Float64.add c4 (divF (M - g) D)) (divF (M - r) D)
noncomputable def hueOf (r g b M D : Int) : UInt64 := (Float64.divmod (Float64.div (rawHue r g b M D) c6) c1).snd
variable {H : Heap} {w : World} {A : Around} {E : Value → Shared → Prop} {s s₀ : Shared} {X : List Nat} {L : Nat} {l : List (Str × Value)} {news : List (Nat × Obj)}
theorem rgb_spec {r g b M D : Int} {t1 t2 t3 : Tok} {Q : Value → Shared → Prop} (hA : A.depth < 900) (hh : A.handled = none) (G : GL H s.heap)
    (hM : max r (max g b) = M) (hD : M - min r (min g b) = D) (hD0 : 0 < D) (hM0 : 0 < M) (hr : 0 ≤ r) (hg : 0 ≤ g) (hb : 0 ≤ b) (hMb : M < 2 ^ 60)
    (hQ : ∀ (a : Nat) vs s', NumsAre [.f (hueOf r g b M D), .f (divF D M), .i M] vs → (∃ t, vs[1]? = some (.float (divF D M) t) ∧ t ≠ 0) → s'.heap.get? a = some (tu vs) → s.heap.objs.size ≤ a → Keeps s s' → Q (.ref a) s') :
    wpAny (model prog w) A (call (.ref 28) [.int r t1, .int g t2, .int b t3]) Q E s := by
  refine callFn (i := 3) [(Str.ofString "b", .int b t3), (Str.ofString "g", .int g t2), (Str.ofString "r", .int r t1)] hA G.lim (G.fn (by decide)) (fun _ _ _ => by walk_at "u") (by walk_at "u") (fun cd s₁ K0 hfresh F => ?_) (by walk_at "u") (by walk_at "u") (by walk_at "u") (by decide)
  have hLs := G.size
  have hhd : (A.deeper (envOf (fnName 3) (fnScope 3) s.heap.objs.size 28 cd)).handled = none := hh
  have G1 := G.kept K0
  generalize hL : s.heap.objs.size = L at *
  have hX : ∀ b ∈ [L], 138 ≤ b := by intro b hb; simp at hb; lia
  have hLf : ∀ b ∈ [L], s.heap.get? b = none := by intro b hb; rw [List.mem_singleton.mp hb]; exact hfresh
  have big : ∀ n : Int, 0 ≤ n → n < 2 ^ 60 → n.natAbs < 2 ^ 1023 := fun n h0 h1 => Nat.lt_of_lt_of_le (show n.natAbs < 2 ^ 60 by lia) (Nat.pow_le_pow_right (by decide) (by decide))
  have d1 := big D (by lia) (by lia)
  have d2 := big (M - r) (by lia) (by lia)
  have d3 := big (M - g) (by lia) (by lia)
  have d4 := big (M - b) (by lia) (by lia)
  have n1 : D ≠ 0 := by lia
  have n2 : M ≠ 0 := by lia
  walk_at "as"
  walk_at "es"
  rw [hM]
  walk_at "sg"
  walk_at "as"
  walk_at "es"
  walk_at "sg"
  walk_at "as"
  walk_at "es"
  rw [hD]
  walk_at "sg"
  walk_at "as"
  walk_at "es"
  walk_at "st2"
  walk_at "ex"
  refine wpAny_If ?_
  refine' wpAny_isTrue_Compare1 ?_ ?hs
  (case hs => kernel_rfl!)
  walk_at "es"
  rw [show (min r (min g b) == M) = false by simp; lia]
  walk_at "es"
  walk_at "nil"
  walk_at "as"
  walk_at "es2"
  walk_at "sg"
  walk_at "as"
  walk_at "es"
  walk_at "sg"
  walk_at "as"
  walk_at "es"
  walk_at "sg"
  walk_at "as"
  walk_at "es"
  walk_at "sg"
  have fin : ∀ a vs s' {l : List (Str × Value)}, NumsAre [.f (hueOf r g b M D), .f (divF D M), .i M] vs → (∃ t, vs[1]? = some (.float (divF D M) t) ∧ t ≠ 0) → Fm s₁ [L] L l ((a, tu vs) :: []) s' → L < a → Q (.ref a) s' := fun a vs s' l hn h1 F' ha =>
    hQ a vs s' hn h1 (F'.objs _ (List.Mem.head _)) (by lia) (F'.back K0 hLf)
  walk_at "ex"
  refine wpAny_If ?_
  walk_at "es"
  by_cases q1 : r = M
  · rw [show (r == M) = true by simpa using q1]
    walk_at "es"
    walk_at "as"
    walk_at "es"
    walk_at "sg"
    walk_at "nil"
    walk_at "as"
    walk_at "es"
    walk_at "sg"
    walk_at "ex"
    refine wpAny_Return_some ?_
    walk_at "es"
    refine mkT (by assumption) len3 fun T s₂ hT hLT _ F2 => ?_
    walk_at "rt"
    exact fin _ _ _ (by unfold hueOf rawHue; rw [if_pos q1]; exact .cons ⟨_, rfl⟩ (.cons ⟨_, rfl⟩ (.cons ⟨_, rfl⟩ .nil))) ⟨_, rfl, by assumption⟩ F2 hLT
  · rw [show (r == M) = false by simpa using q1]
    walk_at "es"
    walk_at "ex"
    refine wpAny_If ?_
    walk_at "es"
    by_cases q2 : g = M
    · rw [show (g == M) = true by simpa using q2]
      walk_at "es"
      walk_at "as"
      walk_at "es"
      walk_at "sg"
      walk_at "nil"
      walk_at "nil"
      walk_at "as"
      walk_at "es"
      walk_at "sg"
      walk_at "ex"
      refine wpAny_Return_some ?_
      walk_at "es"
      refine mkT (by assumption) len3 fun T s₂ hT hLT _ F2 => ?_
      walk_at "rt"
      exact fin _ _ _ (by unfold hueOf rawHue; rw [if_neg q1, if_pos q2]; exact .cons ⟨_, rfl⟩ (.cons ⟨_, rfl⟩ (.cons ⟨_, rfl⟩ .nil))) ⟨_, rfl, by assumption⟩ F2 hLT
    · rw [show (g == M) = false by simpa using q2]
      walk_at "es"
      walk_at "as"
      walk_at "es"
      walk_at "sg"
      walk_at "nil"
      walk_at "nil"
      walk_at "as"
      walk_at "es"
      walk_at "sg"
      walk_at "ex"
      refine wpAny_Return_some ?_
      walk_at "es"
      refine mkT (by assumption) len3 fun T s₂ hT hLT _ F2 => ?_
      walk_at "rt"
      exact fin _ _ _ (by unfold hueOf rawHue; rw [if_neg q1, if_neg q2]; exact .cons ⟨_, rfl⟩ (.cons ⟨_, rfl⟩ (.cons ⟨_, rfl⟩ .nil))) ⟨_, rfl, by assumption⟩ F2 hLT
end
section
open PySem PySem.W PySem.Calls PyProof.Rows
set_option maxHeartbeats 4000000
variable {H : Heap} {w : World} {A : Around} {E : Value → Shared → Prop} {s s₀ : Shared} {X : List Nat} {L : Nat} {l : List (Str × Value)} {news : List (Nat × Obj)}
/-- the codes of a run -/
noncomputable def flatOf (rows : List (List Int)) (order : List Nat) : List Int := (order.map fun p => (rows.getD p []).map fun c => Builtin.bitOr c 64).flatten
noncomputable def runOf (rows : List (List Int)) (order : List Nat) : List Int := (flatOf rows order).set ((flatOf rows order).length - 1) ((flatOf rows order).getLast?.getD 0 - 64)
theorem backK {sc : Shared} (k : Keeps sc s₀) (K : Kp X s₀ s) (hX : ∀ b ∈ X, sc.heap.get? b = none) : Keeps sc s := by
  obtain ⟨h', tk', rfl, kk⟩ := k
  obtain ⟨h3, tk3, rfl⟩ := K.same
  exact ⟨h3, tk3, rfl, fun b o e => K.keep b o (fun q => by rw [hX b q] at e; cases e) (kk b o e)⟩
theorem row3 (rows : List (List Int)) (h : ∀ r ∈ rows, r.length ≤ 3) (p : Nat) : (rows.getD p []).length ≤ 3 := by
  rw [List.getD_eq_getElem?_getD]
  cases e : rows[p]? with
  | none => simp
  | some r => exact h r (List.mem_of_getElem? e)
theorem flat_len (rows : List (List Int)) (h : ∀ r ∈ rows, r.length ≤ 3) : ∀ (o : List Nat), (flatOf rows o).length ≤ 3 * o.length
  | [] => by simp [flatOf]
  | p :: o => by
    have ih := flat_len rows h o
    have h3 := row3 rows h p
    simp [flatOf] at ih ⊢
    simp at h3
    lia
theorem getLast {a : Nat} {vs : List Value} {t : Tok} {x : Value} {Q : Value → Shared → Prop} (hl : s.heap.IsList a vs.toArray) (hx : vs.getLast? = some x) (h : Q x s) : wpAny (model prog w) A (getItem (.ref a) (.int (-1) t)) Q E s := by
  have hn : 0 < vs.length := by cases vs with | nil => simp at hx | cons => simp
  refine wpAny_getItem_list_neg hl (by decide) (by simp; lia) (by decide) ?_ h
  have e : ((-1 : Int) + (vs.toArray.size : Nat)).toNat = vs.length - 1 := by simp; lia
  rw [e, ← hx, List.getLast?_eq_getElem?]; simp
theorem cells16 (n : Nat) : cellsFrom n (fnScope 16).names [] = [(Str.ofString "rows", n)] := by kernel_rfl!
theorem run_spec {aR aO : Nat} {vR vO : List Value} {rows : List (List Int)} {order : List Nat} {ds : List Int} {Q : Value → Shared → Prop} (hA : A.depth < 890) (hh : A.handled = none) (G : GL H s.heap)
    (hR : s.heap.IsList aR vR.toArray) (hrows : ListsOf s.heap vR rows) (hO : s.heap.IsList aO vO.toArray) (ho : IntsAre vO (order.map fun (p : Nat) => (p : Int)))
    (hw : Word (runOf rows order) ds) (hlen : (runOf rows order).length ≤ 20) (hol : ∀ p ∈ order, p < rows.length) (hrn : rows.length ≤ 4) (hn : order.length ≤ 4) (hrl : ∀ r ∈ rows, r.length ≤ 3)
    (hQ : ∀ t s', Keeps s s' → Q (.int (numOf ds) t) s') : wpAny (model prog w) A (call (.ref 137) [.ref aR, .ref aO]) Q E s := by
  refine callFnC (i := 16) [(Str.ofString "rows", .ref aR), (Str.ofString "order", .ref aO)] [(Str.ofString "order", .ref aO)] (by lia) G.lim (G.fn (by decide)) (fun _ _ _ => by walk_at "u") (fun n => ?_) ?_ (fun cd s₁ K0 hfresh F C0 => ?_) (by walk_at "u") (by walk_at "u") (by walk_at "u")
  · intro x hx
    simp only [List.mem_cons, List.not_mem_nil, or_false] at hx
    rcases hx with rfl | rfl
    · exact .inr ⟨by walk_at "u", by rw [cells16]; walk_at "u"⟩
    · exact .inl (by walk_at "u")
  · unfold bindL
    rw [if_neg (by decide +kernel)]
    unfold bindL
    rw [if_pos (by decide +kernel)]
    unfold bindL
    rfl
  have hLs := G.size
  have hhd : (A.deeper (envOfC (fnName 16) (fnScope 16) s.heap.objs.size 137 cd)).handled = none := hh
  have G1 := G.kept K0
  have hRL : aR < s.heap.objs.size := exLt hR
  have hOL : aO < s.heap.objs.size := exLt hO
  have hold : ∀ b o, s.heap.get? b = some o → b < s.heap.objs.size := fun b o e => Heap.lt_size e
  have hcell : s₁.heap.IsCell (s.heap.objs.size + 1) (some (.ref aR)) := by
    have := C0.cell (Str.ofString "rows") (s.heap.objs.size + 1) (by rw [cells16]; walk_at "u")
    rw [show bindC (fun x => (fnScope 16).names.lookup x) [(Str.ofString "rows", .ref aR), (Str.ofString "order", .ref aO)] (fun _ => none) (Str.ofString "rows") = some (.ref aR) from by
      unfold bindC
      rw [if_neg (by decide +kernel)]
      unfold bindC
      rw [if_pos (by decide +kernel)]
      unfold bindC
      exact if_pos rfl] at this
    exact this
  generalize hL : s.heap.objs.size = L at *
  have hX : ∀ b ∈ [L], 138 ≤ b := by intro b hb; simp at hb; lia
  have K0p : Kp [] s s₁ := Kp.of_keeps K0
  walk_at "ex"
  refine compU (cl := [(Str.ofString "rows", L + 1)]) s₁ [] (by walk_at "u") (by walk_at "u") (by walk_at "u") (by decide +kernel) (by decide +kernel) F (List.Mem.head _) (by simp) (by simp) (by simp) ?_ (by walk_at "u") (by walk_at "u") (by intro _; rfl)
  walk_at "es"
  have hO1 : s₁.heap.IsList aO vO.toArray := lkp hO K0p (by simp)
  refine iterL (a := aO) (vs := vO) hO1 .refl (by simp) fun I D C s₃ hIs hID hDC haI _ hI hD hC hit hl3 F3 k3 => ?_
  have hrow : ∀ (p : Nat), p < rows.length → ∃ (d : Nat) (us : List Value), vR[p]? = some (.ref d) ∧ d < L ∧ s.heap.IsList d us.toArray ∧ IntsAre us (rows.getD p []) := by
    intro p hp
    have e : rows[p]? = some rows[p] := List.getElem?_eq_getElem hp
    obtain ⟨d, us, h1, h2, h3⟩ := hrows.2 p rows[p] e
    exact ⟨d, us, h1, let ⟨o, ho, _⟩ := h2; hold d o ho, h2, by rw [List.getD_eq_getElem?_getD, e]; exact h3⟩
  have hLI : L < I := by have := F.lt; lia
  have hvO : vO.toArray.size = order.length := by simp [ho.length]
  have hflat : ∀ i, (flatOf rows (order.take i)).length ≤ 3 * i := by
    intro i
    have := flat_len rows hrl (order.take i)
    have h2 : (order.take i).length ≤ i := by simp; lia
    lia
  refine compStartG rfl (Walks.list hhd I aO (Nat.ne_of_lt haI) vO.toArray) ⟨hit, hl3⟩ (compWalkN (env := compEnvC _ _ C (envOfC (fnName 16) (fnScope 16) L 137 cd)) rfl rfl (Walks.list hhd I aO (Nat.ne_of_lt haI) vO.toArray) F3 ⟨hit, hl3⟩ (by intro b hb; simp at hb ⊢; lia) (by intro b hb; rw [List.mem_singleton.mp hb]; exact hI) (List.Mem.head _)
    (fun i l₁ news₁ => ∃ us k, news₁ = [(D, lo us k)] ∧ IntsAre us (flatOf rows (order.take i))) ?_ ⟨[], 0, rfl, by simpa [flatOf] using IntsAre.nil⟩ ?_ ?_ (by walk_at "u") (by walk_at "u") (by intro _; rfl))
  · rintro i l₁ news₁ ⟨us, k, rfl, _⟩ p hp
    rw [List.mem_singleton.mp hp]
    simp; lia
  · rintro i v s₄ l₁ news₁ E' hlt hv ⟨us, k, rfl, hus⟩ F4 K4 _
    obtain ⟨pz, tp, hp1, rfl⟩ := intsAt ho (by simpa using hv)
    have hi : i < order.length := by lia
    have hpi : order[i]? = some order[i] := List.getElem?_eq_getElem hi
    have : pz = ((order[i] : Nat) : Int) := by
      rw [List.getElem?_map, hpi] at hp1; exact (Option.some.inj hp1).symm
    subst this
    have hpr : order[i] < rows.length := hol _ (List.getElem_mem hi)
    obtain ⟨d, ws, hd1, hdL, hd2, hd3⟩ := hrow order[i] hpr
    walk_at "es"
    refine ldC (c := L + 1) (by walk_at "u") (ckp hcell K4 (by simp; lia)) ?_ (by walk_at "u") (by walk_at "u") (by decide +kernel)
    walk_at "es"
    refine tailL (lkp hR ((K0p.mono (by simp)).trans K4) (by simp; lia)) (by lia) (by lia) (by rw [Int.toNat_natCast]; exact hd1) ?_ (by walk_at "u")
    have hd4 : s₄.heap.IsList d ws.toArray := lkp hd2 ((K0p.mono (by simp)).trans K4) (by simp; lia)
    refine wpAny_pyIter_list hd4 ?_
    have hds : d < s₄.heap.objs.size := exLt hd4
    have F5 := F4.push (s := s₄) { cls := .type "list_iterator", data := .fields #[.ref d, .int 0 0] }
    have hCs : C < s₄.heap.objs.size := F4.lt
    have hDs : D < s₄.heap.objs.size := F4.ltN (p := (D, lo us k)) (List.Mem.head _)
    have hwl : ws.toArray.size = (rows.getD order[i] []).length := by simp [hd3.length]
    have hfl := hflat i
    have hul := hus.length
    have hr3 := row3 rows hrl order[i]
    have hfs : flatOf rows (order.take (i + 1)) = flatOf rows (order.take i) ++ (rows.getD order[i] []).map fun c => Builtin.bitOr c 64 := by
      simp only [flatOf, List.take_add_one, hpi, List.map_append, List.flatten_append, Option.toList_some, List.map_cons, List.map_nil, List.flatten_cons, List.flatten_nil, List.append_nil]
    refine compStartG rfl (Walks.list hhd s₄.heap.objs.size d (Nat.ne_of_lt hds) ws.toArray) ⟨⟨_, Heap.get?_push_size _ rfl, rfl, rfl⟩, hd4.push _⟩ (compWalkE (env := compEnvC _ _ C (envOfC (fnName 16) (fnScope 16) L 137 cd)) rfl rfl (Walks.list hhd s₄.heap.objs.size d (Nat.ne_of_lt hds) ws.toArray) F5 ⟨⟨_, Heap.get?_push_size _ rfl, rfl, rfl⟩, hd4.push _⟩ ?_ (by intro b hb; rw [List.mem_singleton.mp hb]; exact get_above (Nat.le_refl _)) (List.Mem.head _)
      (fun j l₁ news₁ => ∃ us k, news₁ = [(D, lo us k)] ∧ IntsAre us (flatOf rows (order.take i) ++ ((rows.getD order[i] []).map fun c => Builtin.bitOr c 64).take j)) ?_ ⟨us, k, rfl, by simpa using hus⟩ ?_ ?_ (by walk_at "u") (by walk_at "u"))
    · intro b hb
      have : (d : Nat) < L := hdL
      simp at hb ⊢
      lia
    · rintro j l₁ news₁ ⟨us, k, rfl, _⟩ p hp
      rw [List.mem_singleton.mp hp]
      simp; lia
    · rintro j v s₅ l₂ news₂ E2 hlt2 hv2 ⟨us2, k2, rfl, hus2⟩ F6 K6 _
      obtain ⟨c, tc, hc1, rfl⟩ := intsAt hd3 (by simpa using hv2)
      walk_at "es"
      have hj : j < (rows.getD order[i] []).length := by lia
      have hul2 := hus2.length
      refine appendL (by assumption) (by simp) (by simp) (by simp [sizeLine]; simp at hul2; lia) fun s₆ F7 => ⟨_, _, F7, _, _, rfl, ?_⟩
      rw [List.take_add_one, List.getElem?_map, hc1, ← List.append_assoc]
      exact ints_snoc hus2 _ _
    · rintro l₂ news₂ s₅ ⟨us2, k2, rfl, hus2⟩ F6
      refine ⟨rfl, l₂, _, F6, us2, k2, rfl, ?_⟩
      rw [hwl] at hus2
      rw [hfs]
      have e : ((rows.getD order[i] []).map fun c => Builtin.bitOr c 64).take (rows.getD order[i] []).length = (rows.getD order[i] []).map fun c => Builtin.bitOr c 64 := by
        rw [List.take_of_length_le (by simp)]
      rw [e] at hus2
      exact hus2
  · rintro l₁ news₁ s₄ ⟨us, k, rfl, hus⟩ F4
    rw [hvO, List.take_length] at hus
    refine ⟨rfl, us, k, l₁, [], F4, (by intro p hp; nomatch hp), fun s₅ F5 => ?_⟩
    have hne : 0 < (flatOf rows order).length := by
      have := hw.ne
      simpa [runOf] using this
    have hul := hus.length
    have hus9 := hus
    have hfl := hflat order.length
    rw [List.take_length] at hfl
    obtain ⟨tl, hlast⟩ : ∃ t, us.getLast? = some (.int ((flatOf rows order).getLast?.getD 0) t) := by
      have h1 : (flatOf rows order).length - 1 < (flatOf rows order).length := by lia
      obtain ⟨t, ht⟩ := ints_at hus h1
      refine ⟨t, ?_⟩
      rw [List.getLast?_eq_getElem?, hul, ht, List.getLast?_eq_getElem?, List.getElem?_eq_getElem h1]; rfl
    have hLD : L < D := by lia
    have F6 : Fm s₅ [L, D] L _ _ s₅ := F5.rebase [L, D]
    have hX2 : ∀ b ∈ [L, D], 138 ≤ b := by intro b hb; simp at hb; lia
    have K5 := F5.back K0 (by intro b hb; rw [List.mem_singleton.mp hb]; exact hfresh)
    have G5 := G.kept K5
    walk_at "ex"
    refine wpAny_AugAssign_SubscriptAny ?_
    walk_at "es"
    refine getLast (Fm.isList (by assumption) (List.Mem.head _)) hlast ?_
    walk_at "es"
    refine setLast (by assumption) (by simp) (by simp) (by lia) fun s₇ F7 => ?_
    generalize hws : us.set (us.length - 1) _ = zs at F7
    have hruns : IntsAre zs (runOf rows order) := by
      rw [← hws]
      unfold runOf
      rw [hul]
      exact ints_set hus _ _ _
    walk_at "ex"
    refine wpAny_Return_some ?_
    walk_at "es"
    refine kIter (by assumption) (Fm.isList (by assumption) (List.Mem.head _)) fun I2 s₈ hI2 hLI2 hnI2 F8 => ?_
    have hDI2 : D < I2 := hnI2 _ (List.Mem.head _)
    walk_at "es"
    refine ⟨F8.kp, ?_⟩
    refine parse_spec (A := A.deeper _) ?_ (G5.keptX F8.kp hX2) hw (a := D) (vs := zs) (i := 0) (fun k c hk => ?_) hlen (F8.objs _ (List.Mem.head _)) (by lia) (F8.isList (List.Mem.tail _ (List.Mem.head _))) (by lia) (fun t s₉ K9 _ => ?_)
    · show A.depth + 1 < 900
      lia
    · rw [Nat.zero_add]
      exact hruns.get k c hk
    · walk_at "rt"
      refine hQ t s₉ (backK K5 ((F8.kp.mono (Y := [L, D, I2]) (by intro z hz; simp at hz ⊢; lia)).trans (K9.mono (Y := [L, D, I2]) (by intro z hz; simp at hz ⊢; lia))) ?_)
      intro b hb
      simp at hb
      rcases hb with h | h | h
      · exact h ▸ hfresh
      · exact h ▸ get_above (by lia)
      · exact h ▸ get_above (by lia)
end
section
open PySem PySem.W PySem.Calls PyProof.Rows
set_option maxHeartbeats 4000000
variable {H : Heap} {w : World} {A : Around} {E : Value → Shared → Prop} {s s₀ : Shared} {X : List Nat} {L : Nat} {l : List (Str × Value)} {news : List (Nat × Obj)} {cd : Value}
theorem cells17' {L : Nat} {cd : Value} : (lawEnv L cd).cells = [(Str.ofString "hues", L + 5), (Str.ofString "tape", L + 4), (Str.ofString "rows", L + 3), (Str.ofString "words", L + 2), (Str.ofString "letters", L + 1)] := cells17 (L + 1)
theorem ints_take {vs : List Value} {ns : List Int} (h : IntsAre vs ns) : ∀ i, IntsAre (vs.take i) (ns.take i) := by
  induction h with
  | nil => intro i; simpa using IntsAre.nil
  | cons m u _ ih =>
    intro i
    cases i with
    | zero => exact IntsAre.nil
    | succ i => exact .cons m u (ih i)
/-- heaps and letters -/
theorem law_g1 {aS : Nat} {vS : List Value} {ns : List Int} {o1 : Obj} {Q : Flow → Shared → Prop} (hA : A.depth < 880) (hh : A.handled = none) (G : GL H s₀.heap) (hL8 : 138 ≤ L)
    (F : Fm s₀ [L, L + 1] L [(Str.ofString "script", .ref aS)] [(L + 1, o1)] s) (ho1 : o1.data = .cell none) (hS : s.heap.IsList aS vS.toArray) (hi : IntsAre vS ns) (hsz : vS.length ≤ sizeLine)
    (hQ : ∀ (aH : Nat) vH hs (aL : Nat) o1 s', Heaps vH hs → o1.data = .cell (some (.ref aL)) → (∃ vL, s'.heap.IsList aL vL.toArray ∧ IntsAre vL (lettersOf hs)) → s'.heap.IsList aH vH.toArray →
      Fm s₀ [L, L + 1] L [(Str.ofString "heaps", .ref aH), (Str.ofString "script", .ref aS)] [(L + 1, o1)] s' → LawFrom w A L cd 2 Q E s') :
    LawFrom w A L cd 0 Q E s := by
  have hX : ∀ b ∈ [L, L + 1], 138 ≤ b := by intro b hb; simp at hb; lia
  refine exL (by decide) ?_
  refine' wpAny_Assign_Name ?_ ?hs
  (case hs => kernel_rfl!)
  walk_at "es"
  refine ⟨F.kp, ?_⟩
  refine heaps_spec (by lia) hh (G.keptX F.kp hX) hS hi hsz fun D us hs n s₁ hus hD hDn K1 => ?_
  have F1 := (F.kept K1).more (a := D) hD (by have := F.lt; lia)
  walk_at "st"
  rename_i s₂ F2 _
  dsimp only
  refine exL (by decide) ?_
  refine' wpAny_Assign_Name ?_ ?hs
  (case hs => kernel_rfl!)
  have hLs : L < s₂.heap.objs.size := F2.lt
  have hcs : L + 1 < s₂.heap.objs.size := F2.ltN (p := (L + 1, o1)) (List.Mem.tail _ (List.Mem.head _))
  have hDs : D < s₂.heap.objs.size := F2.ltN (p := (D, lo us n)) (List.Mem.head _)
  have hXs : ∀ b ∈ [L, L + 1], b < s₂.heap.objs.size := by intro b hb; simp at hb; rcases hb with h | h <;> lia
  refine compV (cl := []) s₂ [] (by walk_at "u") (by walk_at "u") (by decide +kernel) (by decide +kernel) ?_ (by intro _; rfl)
  have G2 := G.keptX F2.kp hX
  have F2b := F2.rebase []
  walk_at "es"
  refine sliceTo 3 ?_ (by intro _ _; walk_at "u")
  walk_at "es"
  refine SliceEnd.intro (by assumption) (Fm.isList (by assumption) (List.Mem.head _)) (by rw [hus.vals.length, hus.four]; simp [sizeLine]) fun T s₄ hT hLT hnT F4 => ?_
  have hL1T : L + 1 < T := hnT (L + 1, o1) (List.Mem.tail _ (List.Mem.head _))
  have hlT := F4.isList (List.Mem.head _)
  refine iterG (makesL hlT) F4.kp (by simp) fun I Dl C s₅ hIs hID hDC hI hDl hC hit F5 k5 => ?_
  have hTI : T < I := Nat.lt_of_lt_of_le (F4.ltN (p := (T, lo (us.take 3) 0)) (List.Mem.head _)) hIs
  have ht3 : IntsAre (us.take 3) (hs.take 3) := ints_take hus.vals 3
  have hlT5 : s₅.heap.IsList T (us.take 3).toArray := exMv hlT (k5 _)
  refine compE (env := lawEnv L cd) (Walks.list hh I T (Nat.ne_of_lt hTI) (us.take 3).toArray) F5 ⟨⟨_, hit, rfl, rfl⟩, hlT5⟩ (by intro b hb; simp at hb ⊢; lia) hI (by lia) (by simp [sizeLine]; lia)
    (fun i zs objs => objs = [] ∧ IntsAre zs ((lettersOf hs).take i)) ⟨rfl, by simpa using IntsAre.nil⟩ ?_ ?_ (by walk_at "u") (by walk_at "u") (fun _ _ x => listIter_lt x)
  · rintro i v s₆ l₁ zs k objs E' hlt hv ⟨rfl, hzs⟩ hzl F6 K6 _ _
    obtain ⟨h, th, hh1, rfl⟩ := intsAt ht3 (by simpa using hv)
    walk_at "es"
    refine ⟨[], by assumption, (by intro p hp; nomatch hp), rfl, ?_⟩
    rw [List.take_add_one, lettersOf, List.getElem?_map, hh1]
    exact ints_snoc hzs _ _
  · rintro l₁ zs k objs s₆ ⟨rfl, hzs⟩ hzl F6
    refine ⟨rfl, zs, k, l₁, [], F6, fun s₇ K7 h7 _ => ?_⟩
    have F7 := (F2.after K7).more h7 (a := Dl) (by show Dl ≠ L; lia)
    refine stCell (env := lawEnv L cd) (rest := [(Dl, lo zs k), (D, lo us n)]) F7 (List.Mem.tail _ (List.Mem.tail _ (List.Mem.head _))) ho1 (by simp) ?_ (fun s₈ o8 ho8 F8 k8 => ?_) (by rw [cells17']; walk_at "u") (by walk_at "u") (by walk_at "u")
    · intro p hp
      simp at hp
      rcases hp with rfl | rfl
      · exact ⟨List.Mem.head _, by show Dl ≠ L + 1; lia⟩
      · exact ⟨List.Mem.tail _ (List.Mem.head _), (by have : L + 1 < s.heap.objs.size := F.ltN (p := (L + 1, o1)) (List.Mem.head _); show D ≠ L + 1; lia)⟩
    · dsimp only
      have e : (us.take 3).toArray.size = (lettersOf hs).length := by simp [lettersOf, ht3.length]
      rw [e, List.take_length] at hzs
      refine hQ D us hs Dl o8 s₈ hus ho8 ⟨zs, F8.isList (List.Mem.tail _ (List.Mem.head _)), hzs⟩ (F8.isList (List.Mem.tail _ (List.Mem.tail _ (List.Mem.head _)))) (F8.sub (by intro p hp; rw [List.mem_singleton.mp hp]; exact List.Mem.head _))
end
section
open PySem PySem.W PySem.Calls PyProof.Rows
set_option maxHeartbeats 4000000
variable {H : Heap} {w : World} {A : Around} {E : Value → Shared → Prop} {s s₀ : Shared} {X : List Nat} {L : Nat} {l : List (Str × Value)} {news : List (Nat × Obj)} {cd : Value}
theorem pow3 {i : Nat} (h : i < 3) : (3 : Int) ^ (1 + (i : Int) * 1).toNat = 3 ^ (i + 1) ∧ (3 : Int) ^ (1 + (i : Int) * 1).toNat ≠ 0 ∧ ((3 : Int) ^ (1 + (i : Int) * 1).toNat).natAbs < 1073741824 := by
  have : i = 0 ∨ i = 1 ∨ i = 2 := by lia
  rcases this with rfl | rfl | rfl <;> decide
theorem letters_len {vs : List Value} {hs : List Int} (h : Heaps vs hs) : (lettersOf hs).length = 3 := by simp [lettersOf, h.four]
/-- the words -/
theorem law_g2 {aH aL : Nat} {vH vL : List Value} {hs : List Int} {o2 : Obj} {Q : Flow → Shared → Prop} (hA : A.depth < 880) (hh : A.handled = none) (G : GL H s.heap) (hL8 : 138 ≤ L)
    (F : Fm s [L, L + 2] L l [(L + 2, o2)] s) (ho2 : o2.data = .cell none) (hH : Heaps vH hs) (hlH : s.heap.IsList aH vH.toArray) (hkH : lk l (Str.ofString "heaps") = some (.ref aH))
    (hcL : s.heap.IsCell (L + 1) (some (.ref aL))) (hlL : s.heap.IsList aL vL.toArray) (hvL : IntsAre vL (lettersOf hs))
    (hQ : ∀ (aW : Nat) vW o2 s', o2.data = .cell (some (.ref aW)) → s'.heap.IsList aW vW.toArray → ListsOf s'.heap vW (wordsOf hs) → Fm s [L, L + 2] L l [(L + 2, o2)] s' → LawFrom w A L cd 3 Q E s') :
    LawFrom w A L cd 2 Q E s := by
  have hX : ∀ b ∈ [L, L + 2], 138 ≤ b := by intro b hb; simp at hb; lia
  refine exL (by decide) ?_
  refine' wpAny_Assign_Name ?_ ?hs
  (case hs => kernel_rfl!)
  refine compVc (cl := [(Str.ofString "letters", L + 1)]) (x := Str.ofString "heap") s [] (by walk_at "u") (by walk_at "u") (by decide +kernel) (fun n => by walk_at "u") (fun h => by walk_at "u") ?_ (by intro _; rfl)
  walk_at "es"
  have hHs : aH < s.heap.objs.size := exLt hlH
  have hLs : aL < s.heap.objs.size := exLt hlL
  have hcs : L + 2 < s.heap.objs.size := F.ltN (p := (L + 2, o2)) (List.Mem.head _)
  have hvs : vH.toArray.size = hs.length := by simp [hH.vals.length]
  refine iterGc (makesL hlH) .refl (by simp) fun I D C s₃ hIs hID hDC hI hD hC hC1 hit F3 k3 => ?_
  have hne : (aH : Nat) ≠ I := by lia
  have hlH3 : s₃.heap.IsList aH vH.toArray := exMv hlH (k3 _)
  refine compStartG rfl (Walks.list hh I aH hne vH.toArray) ⟨⟨_, hit, rfl, rfl⟩, hlH3⟩ (compWalkC (env := compEnvC _ _ C (lawEnv L cd)) (ce := C + 1) (o₀ := ceO none) (u₀ := none) (news := [(D, lo [] 0)]) rfl rfl (Walks.list hh I aH hne vH.toArray) (F3.sub (by intro p hp; simp at hp; rcases hp with rfl | rfl <;> simp)) rfl ⟨⟨_, hit, rfl, rfl⟩, hlH3⟩ (by intro b hb; simp at hb ⊢; lia) (by intro b hb; rw [List.mem_singleton.mp hb]; exact hI) (List.Mem.head _) (by simp) (by simp; lia)
    (fun i l₁ news₁ => ∃ vs k objs, news₁ = (D, lo vs k) :: objs ∧ vs.length = i ∧ ListsN objs vs (wordsOf hs) i ∧ ∀ p ∈ objs, C + 1 < p.1) ?_ ⟨[], 0, [], rfl, rfl, (fun j c hj => absurd hj (by lia)), by simp⟩ ?_ ?_ (by walk_at "u") (by walk_at "u") (by walk_at "u"))
  · rintro i l₁ news₁ ⟨vs, k, objs, rfl, _, _, ho⟩ p hp
    rcases List.mem_cons.mp hp with rfl | hp
    · simp; lia
    · have := ho p hp; simp; lia
  · rintro i v s₄ l₁ news₁ o E' hlt hv ⟨vs, k, objs, rfl, hvl, hLN, hno⟩ hod F4 K4 _
    obtain ⟨h, th, hh1, rfl⟩ := intsAt hH.vals (by simpa using hv)
    have hi : i < hs.length := by
      have := (List.getElem?_eq_some_iff.mp hh1).1; exact this
    have hcL4 : s₄.heap.IsCell (L + 1) (some (.ref aL)) := ckp hcL K4 (by simp; have := hcL.lt; lia)
    have hlL4 : s₄.heap.IsList aL vL.toArray := lkp hlL K4 (by simp; lia)
    have F4b := F4.rebase []
    have G4 := G.keptX K4 (by intro b hb; simp at hb; lia)
    have hX0 : ∀ b ∈ ([] : List Nat), 138 ≤ b := by simp
    have hn3 : h.fmod 3 = 0 ∨ h.fmod 3 = 1 ∨ h.fmod 3 = 2 := by
      have a := Int.fmod_nonneg_of_pos h (show (0 : Int) < 3 by decide)
      have b := Int.fmod_lt_of_pos h (show (0 : Int) < 3 by decide)
      lia
    refine compV (cl := [(Str.ofString "letters", L + 1), (Str.ofString "heap", C + 1)]) s₄ [] (by walk_at "u") (by walk_at "u") (by decide +kernel) (by decide +kernel) ?_ (by intro _; rfl)
    walk_at "es"
    refine ldC (c := C + 1) (by walk_at "u") ⟨o, Fm.objs (by assumption) (C + 1, o) (List.Mem.head _), hod⟩ ?_ (by walk_at "u") (by walk_at "u") (by decide +kernel)
    walk_at "es"
    refine kRange2 (by assumption) fun r tv s₅ hr hCr hnr F5 _ => ?_
    refine iterG (makesR (F5.objs _ (List.Mem.head _)) (by decide) (by lia) (by lia)) F5.kp (by simp) fun I2 D2 C2 s₆ hIs2 hID2 hDC2 hI2 hD2 hC2 hit2 F6 k6 => ?_
    have hrI : r < I2 := Nat.lt_of_lt_of_le (F5.ltN (p := (r, _)) (List.Mem.head _)) hIs2
    have hC1r : C + 1 < r := hnr (C + 1, o) (List.Mem.head _)
    have hL1 := hcL.lt
    have hn : (2 + h.fmod 3 - 1).toNat = wordLen h := by unfold wordLen; congr 1; lia
    have hne2 : (2 + h.fmod 3 - 1) = ((wordLen h : Nat) : Int) := by unfold wordLen; lia
    have hwl : wordLen h ≤ 3 := by unfold wordLen; lia
    refine compE (env := compEnvC _ _ C (lawEnv L cd)) (Walks.range hh I2 1 1 (wordLen h)) F6 (by rw [hne2] at hit2; exact hit2) (by intro b hb; simp at hb ⊢; lia) hI2 (by lia) (by simp [sizeLine]; lia)
      (fun j zs objs => objs = [] ∧ IntsAre zs ((wordOf (lettersOf hs) h).take j)) ⟨rfl, by simpa using IntsAre.nil⟩ ?_ ?_ (by walk_at "u") (by walk_at "u") (fun _ _ x => Heap.lt_size x)
    · rintro j v s₇ l₂ zs k2 objs2 E2 hlt2 ⟨tj, rfl⟩ ⟨rfl, hzs⟩ hzl F7 K7 _ _
      have hj : j < 3 := by lia
      obtain ⟨p1, p2, p3⟩ := pow3 hj
      refine wpAny_mono (Q := fun y s' => ∃ t, y = .int (wordAt (lettersOf hs) h j) t ∧ Fm s₇ [C2, D2] C2 ((Str.ofString "place", .int (1 + (j : Int) * 1) tj) :: l₂) [(D2, lo zs k2)] s') ?_ (fun y s' hy => ?_) fun _ _ e => e
      rotate_left
      · obtain ⟨t, rfl, F8⟩ := hy
        refine ⟨[], F8, by simp, rfl, ?_⟩
        rw [List.take_add_one]
        have : (wordOf (lettersOf hs) h)[j]? = some (wordAt (lettersOf hs) h j) := by simp [wordOf, hlt2]
        rw [this]
        exact ints_snoc hzs _ _
      walk_at "es"
      refine ldC (c := L + 1) (by walk_at "u") (ckp hcL4 K7 (by simp; lia)) ?_ (by walk_at "u") (by walk_at "u") (by decide +kernel)
      walk_at "es"
      refine ldC (c := C + 1) (by walk_at "u") ⟨o, K7.keep _ _ (by simp; lia) (F4.objs (C + 1, o) (List.Mem.head _)), hod⟩ ?_ (by walk_at "u") (by walk_at "u") (by decide +kernel)
      walk_at "es"
      rw [p1]
      have hx0 : 0 ≤ (h.fdiv (3 ^ (j + 1))).fmod 3 := Int.fmod_nonneg_of_pos _ (by decide)
      have hx1 : (h.fdiv (3 ^ (j + 1))).fmod 3 < 3 := Int.fmod_lt_of_pos _ (by decide)
      have hll := letters_len hH
      have hx2 : ((h.fdiv (3 ^ (j + 1))).fmod 3).toNat < (lettersOf hs).length := by lia
      obtain ⟨t2, ht2⟩ := ints_at hvL hx2
      have hlL8 := lkp hlL4 K7 (by simp; lia)
      refine tailL (lkp hlL8 (Fm.kp (by assumption)) (by simp; lia)) hx0 (by lia) ht2 ?_ (by walk_at "u")
      refine ⟨t2, ?_, by assumption⟩
      unfold wordAt
      rw [List.getD_eq_getElem?_getD, List.getElem?_eq_getElem hx2]; rfl
    · rintro l₂ zs k2 objs2 s₇ ⟨rfl, hzs⟩ hzl F7
      refine ⟨rfl, zs, k2, l₂, [], F7, fun s₈ K8 h8 _ => ?_⟩
      have F8 := (F4.after K8).more (a := D2) h8 (by show D2 ≠ C; lia)
      have hwi : (wordsOf hs)[i]? = some (wordOf (lettersOf hs) h) := by unfold wordsOf; rw [List.getElem?_map, hh1]; rfl
      have e : (wordOf (lettersOf hs) h).take (wordLen h) = wordOf (lettersOf hs) h := by
        rw [List.take_of_length_le (by simp [wordOf])]
      rw [e] at hzs
      dsimp only
      refine appendL (vs := vs) (n := k) (news := (C + 1, o) :: (D2, lo zs k2) :: objs) (F8.sub ?_) (by simp) ?_ (by simp [sizeLine]; have := hH.four; lia) fun s₉ F9 => ?_
      · intro p hp
        simp at hp ⊢
        rcases hp with rfl | rfl | rfl | hp <;> simp [*]
      · intro p hp
        simp at hp
        rcases hp with rfl | rfl | hp
        · show C + 1 ≠ D; lia
        · show D2 ≠ D; lia
        · have := hno p hp; show p.1 ≠ D; lia
      · refine ⟨l₁, (D, lo (vs ++ [.ref D2]) (k + 1)) :: (D2, lo zs k2) :: objs, o, _, hod, F9.sub ?_, _, _, _, rfl, by simp [hvl], hLN.snoc hvl hwi hzs, ?_⟩
        · intro p hp
          simp at hp ⊢
          rcases hp with rfl | rfl | rfl | hp <;> simp [*]
        · intro p hp
          rcases List.mem_cons.mp hp with rfl | hp
          · show C + 1 < D2; lia
          · exact hno p hp
  · rintro l₁ news₁ s₄ ⟨vs, k, objs, rfl, hvl, hLN, hno⟩ F4
    rw [hvs] at hvl hLN
    refine ⟨rfl, vs, k, l₁, objs, F4, fun s₅ K5 h5 hob5 => ?_⟩
    have K5' : Kp [] s s₅ := K5.drop hC1
    have F5 := F.after K5'
    have hwl : (wordsOf hs).length = hs.length := by simp [wordsOf]
    refine stCell (env := lawEnv L cd) (rest := []) F5 (List.Mem.head _) ho2 (by simp) (by simp) (fun s₈ o8 ho8 F8 k8 => ?_) (by rw [cells17']; walk_at "u") (by walk_at "u") (by walk_at "u")
    dsimp only
    have nb : ∀ (b : Nat), s.heap.get? b = none → b ≠ L + 2 := fun b hb q => by rw [q] at hb; rw [F.objs (L + 2, o2) (List.Mem.head _)] at hb; cases hb
    refine hQ D vs o8 s₈ ho8 ⟨_, k8.keep _ _ (by simpa using nb D hD) h5, rfl, k, rfl⟩ ?_ F8
    rw [← hwl] at hLN hvl
    refine hLN.to hvl fun p hp => k8.keep _ _ ?_ (hob5 p hp)
    have := hno p hp
    simp; lia
end
section
open PySem PySem.W PySem.Calls PyProof.Rows
set_option maxHeartbeats 4000000
variable {H : Heap} {w : World} {A : Around} {E : Value → Shared → Prop} {s s₀ : Shared} {X : List Nat} {L : Nat} {l : List (Str × Value)} {news : List (Nat × Obj)} {cd : Value}
theorem ListsOf.get {h : Heap} {vs : List Value} {rows : List (List Int)} (x : ListsOf h vs rows) {i : Nat} {v : Value} (hv : vs[i]? = some v) : ∃ (d : Nat) (us : List Value) (c : List Int), v = .ref d ∧ rows[i]? = some c ∧ h.IsList d us.toArray ∧ IntsAre us c := by
  have hi : i < rows.length := by rw [← x.1]; exact (List.getElem?_eq_some_iff.mp hv).1
  obtain ⟨d, us, h1, h2, h3⟩ := x.2 i rows[i] (List.getElem?_eq_getElem hi)
  rw [hv] at h1; cases h1
  exact ⟨d, us, rows[i], rfl, List.getElem?_eq_getElem hi, h2, h3⟩
/-- the rows -/
theorem law_g3 {aW : Nat} {vW : List Value} {ws : List (List Int)} {o3 : Obj} {Q : Flow → Shared → Prop} (hA : A.depth < 880) (hh : A.handled = none) (G : GL H s.heap) (hL8 : 138 ≤ L)
    (F : Fm s [L, L + 3] L l [(L + 3, o3)] s) (ho3 : o3.data = .cell none) (hc : s.heap.IsCell (L + 2) (some (.ref aW))) (hl : s.heap.IsList aW vW.toArray) (hW : ListsOf s.heap vW ws) (hw4 : ws.length ≤ 4) (hw : ∀ x ∈ ws, 0 < x.length ∧ x.length ≤ 3)
    (hQ : ∀ (aR : Nat) vR o3 s', o3.data = .cell (some (.ref aR)) → s'.heap.IsList aR vR.toArray → ListsOf s'.heap vR (ws.map codesOf) → Fm s [L, L + 3] L l [(L + 3, o3)] s' → LawFrom w A L cd 4 Q E s') :
    LawFrom w A L cd 3 Q E s := by
  refine exL (by decide) ?_
  refine' wpAny_Assign_Name ?_ ?hs
  (case hs => kernel_rfl!)
  refine compV (cl := []) s [] (by walk_at "u") (by walk_at "u") (by decide +kernel) (by decide +kernel) ?_ (by intro _; rfl)
  refine ldC (c := L + 2) (by walk_at "u") hc ?_ (by walk_at "u") (by walk_at "u") (by decide +kernel)
  have hWs : aW < s.heap.objs.size := exLt hl
  have hcs : L + 3 < s.heap.objs.size := F.ltN (p := (L + 3, o3)) (List.Mem.head _)
  have hvs : vW.toArray.size = ws.length := by simp [hW.1]
  have hGs := G.size
  refine iterG (makesL hl) .refl (by simp) fun I D C s₃ hIs hID hDC hI hD hC hit F3 k3 => ?_
  have hl3 : s₃.heap.IsList aW vW.toArray := exMv hl (k3 _)
  have hne : (aW : Nat) ≠ I := by lia
  refine compE (env := lawEnv L cd) (Walks.list hh I aW hne vW.toArray) F3 ⟨⟨_, hit, rfl, rfl⟩, hl3⟩ (by intro b hb; simp at hb ⊢; lia) hI (by lia) (by rw [hvs]; simp [sizeLine]; lia)
    (fun i vs objs => ListsN objs vs (ws.map codesOf) i ∧ ∀ p ∈ objs, C < p.1) ⟨fun j c hj => absurd hj (by lia), by simp⟩ ?_ ?_ (by walk_at "u") (by walk_at "u") (fun _ _ x => listIter_lt x)
  · rintro i v s₄ l₁ vs k objs E' hlt hv ⟨hLN, hno⟩ hvl F4 K4 _ _
    obtain ⟨d, us, c, rfl, hci, hdl, hdi⟩ := hW.get (i := i) (v := v) (by simpa using hv)
    have hds : d < s.heap.objs.size := exLt hdl
    have G4 := G.keptX K4 (by intro b hb; simp at hb; lia)
    have hX : ∀ b ∈ [C, D], 138 ≤ b := by intro b hb; simp at hb; lia
    have hmem := hw c (List.mem_of_getElem? hci)
    have hCs : C < s₄.heap.objs.size := F4.lt
    walk_at "es"
    refine ⟨F4.kp, ?_⟩
    refine codes_spec (by lia) hh G4 (lkp hdl K4 (by simp; lia)) hdi hmem.1 (by lia) fun D' zs n s₅ hzs hD' hDn K5 => ?_
    have hDC' : C < D' := by lia
    refine ⟨(D', lo zs n) :: objs, ?_, ?_, ?_, ?_⟩
    · exact ((F4.kept K5).more (a := D') hD' (by lia)).sub (by intro p hp; simp at hp ⊢; rcases hp with rfl | rfl | hp <;> simp [*])
    · intro p hp
      rcases List.mem_cons.mp hp with rfl | hp
      · exact ⟨by show D' ≠ D; lia, by show D' ≠ I; lia⟩
      · have := hno p hp; exact ⟨by lia, by lia⟩
    · exact hLN.snoc hvl (by rw [List.getElem?_map, hci]; rfl) hzs
    · intro p hp
      rcases List.mem_cons.mp hp with rfl | hp
      · exact hDC'
      · exact hno p hp
  · rintro l₁ vs k objs s₄ ⟨hLN, hno⟩ hvl F4
    rw [hvs] at hvl hLN
    refine ⟨rfl, vs, k, l₁, objs, F4, fun s₅ K5 h5 hob5 => ?_⟩
    have F5 := F.after K5
    have hwl : (ws.map codesOf).length = ws.length := by simp
    refine stCell (env := lawEnv L cd) (rest := []) F5 (List.Mem.head _) ho3 (by simp) (by simp) (fun s₈ o8 ho8 F8 k8 => ?_) (by rw [cells17']; walk_at "u") (by walk_at "u") (by walk_at "u")
    dsimp only
    rw [← hwl] at hLN hvl
    have hI8 : s₈.heap.IsList D vs.toArray := ⟨_, k8.keep _ _ (by simp; lia) h5, rfl, k, rfl⟩
    have hO8 : ListsOf s₈.heap vs (ws.map codesOf) := by
      refine hLN.to hvl fun p hp => k8.keep _ _ ?_ (hob5 p hp)
      have := hno p hp
      simp; lia
    exact hQ D vs o8 s₈ ho8 hI8 hO8 F8
end
section
open PySem PySem.W PySem.Calls PyProof.Rows PySem.Spec
set_option maxHeartbeats 4000000
variable {H : Heap} {w : World} {A : Around} {E : Value → Shared → Prop} {s s₀ : Shared} {X : List Nat} {L : Nat} {l : List (Str × Value)} {news : List (Nat × Obj)} {cd : Value}
noncomputable def besides : List Int := [172, 174, 846, 848, 6149, 6151, 6154, 6158, 8202, 8206, 8287, 8289, 65023, 65040, 65278, 65280]
/-- unseen and beside -/
theorem law_g4 {Q : Flow → Shared → Prop} (hA : A.depth < 880) (hh : A.handled = none) (G : GL H s.heap) (hL8 : 138 ≤ L) (F : Fm s [L] L l [] s)
    (hQ : ∀ (aU : Nat) vU (aB : Nat) vB l' s', s'.heap.IsList aU vU.toArray → IntsAre vU b1Nums → IsTup s'.heap aB vB.toArray → IntsAre vB besides → lk l' (Str.ofString "unseen") = some (.ref aU) → lk l' (Str.ofString "beside") = some (.ref aB) →
      (∀ y, y ≠ (Str.ofString "unseen") → y ≠ (Str.ofString "beside") → lk l' y = lk l y) → Fm s [L] L l' [] s' → LawFrom w A L cd 6 Q E s') :
    LawFrom w A L cd 4 Q E s := by
  have hX : ∀ b ∈ [L], 138 ≤ b := by intro b hb; simp at hb; lia
  refine exL (by decide) ?_
  refine' wpAny_Assign_Name ?_ ?hs
  (case hs => kernel_rfl!)
  walk_at "es"
  refine mkL (by assumption) (by simp [sizeLine]) fun D1 s₁ hD1 hLD1 _ F1 => ?_
  walk_at "es"
  refine kRange2 (by assumption) fun r tv s₂ hr hLr hnr F2 _ => ?_
  walk_at "es"
  refine kListR hh (by assumption) (F2.objs _ (List.Mem.head _)) (by decide) (by decide) (by decide) (by decide) fun D2 v2 n2 s₃ hD2 hLD2 hnD2 hi2 F3 _ => ?_
  refine kAddL (by assumption) (F3.objs (D1, _) (List.Mem.tail _ (List.Mem.tail _ (List.Mem.head _)))) (F3.objs (D2, _) (List.Mem.head _)) (by rw [hi2.length]; simp) fun D3 s₄ hD3 hLD3 hnD3 F4 _ => ?_
  generalize hus : (_ ++ v2 : List Value) = us at F4
  have hu : IntsAre us b1Nums := by
    rw [← hus]
    exact IntsAre.append (.cons _ _ (.cons _ _ (.cons _ _ (.cons _ _ (.cons _ _ (.cons _ _ (.cons _ _ (.cons _ _ (.cons _ _ (.cons _ _ (.cons _ _ .nil))))))))))) hi2
  have F4' := F4.sub (news' := [(D3, lo us 0)]) (by intro p hp; rw [List.mem_singleton.mp hp]; exact List.Mem.head _)
  walk_at "st"
  dsimp only
  refine exL (by decide) ?_
  refine' wpAny_Assign_Name ?_ ?hs
  (case hs => kernel_rfl!)
  walk_at "es"
  refine mkT (by assumption) (by simp [sizeLine]) fun D4 s₆ hD4 hLD4 hnD4 F6 => ?_
  generalize hbs : ([_, _, _, _, _, _, _, _, _, _, _, _, _, _, _, _] : List Value) = bs at F6
  have hb : IntsAre bs besides := by
    rw [← hbs]
    exact .cons _ _ (.cons _ _ (.cons _ _ (.cons _ _ (.cons _ _ (.cons _ _ (.cons _ _ (.cons _ _ (.cons _ _ (.cons _ _ (.cons _ _ (.cons _ _ (.cons _ _ (.cons _ _ (.cons _ _ (.cons _ _ .nil)))))))))))))))
  walk_at "st"
  rename_i s₇ F7 _
  dsimp only
  refine hQ D3 us D4 bs _ s₇ (F7.isList (List.Mem.tail _ (List.Mem.head _))) hu (F7.isTuple (List.Mem.head _)) hb (by walk_at "lk") (by walk_at "lk") (fun y h1 h2 => by simp [lk, h1, h2]) (F7.sub (by simp))
end
section
open PySem PySem.W PySem.Calls PyProof.Rows PySem.Spec
set_option maxHeartbeats 4000000
variable {H : Heap} {w : World} {A : Around} {E : Value → Shared → Prop} {s s₀ : Shared} {X : List Nat} {L : Nat} {l : List (Str × Value)} {news : List (Nat × Obj)} {cd : Value}
theorem makesT {a : Nat} {vs : List Value} (hl : s.heap.IsTuple a vs.toArray) : MakesIt w A (.ref a) { cls := .type "tuple_iterator", data := .fields #[.ref a, .int 0 0] } s := ⟨rfl, fun _ _ h => wpAny_pyIter_tuple hl h⟩
theorem besides_no : ∀ c ∈ besides, b1Has c = false := by decide
theorem reads_bools (h : Heap) (b : Bool) : ∀ n, ReadsAll h (List.replicate n (.bool b)) (List.replicate n (.bool b)) []
  | 0 => .nil
  | n + 1 => by
    have := ReadsAll.cons (Reads.bool (h := h) b) (reads_bools h b n)
    simpa [List.replicate_succ] using this
/-- the signs beside are none of the table -/
theorem law_g6 {aB : Nat} {vB : List Value} {Q : Flow → Shared → Prop} (hA : A.depth < 880) (hh : A.handled = none) (hu : A.units + 64 < cLine) (G : GL H s.heap) (T : TopW w H) (hL8 : 138 ≤ L) (F : Fm s [L] L l [] s)
    (hB : IsTup s.heap aB vB.toArray) (hb : IntsAre vB besides) (hk : lk l (Str.ofString "beside") = some (.ref aB))
    (hQ : ∀ s', Fm s [L] L l [] s' → LawFrom w A L cd 7 Q E s') : LawFrom w A L cd 6 Q E s := by
  have hX : ∀ b ∈ [L], 138 ≤ b := by intro b hb; simp at hb; lia
  have hGs := G.size
  have hBs : aB < s.heap.objs.size := exLt hB
  refine exL (by decide) ?_
  refine wpAny_If ?_
  refine' wpAny_isTrue_Compare1 ?_ ?hs
  (case hs => kernel_rfl!)
  refine compV (cl := []) s [] (by walk_at "u") (by walk_at "u") (by decide +kernel) (by decide +kernel) ?_ (by intro _; rfl)
  walk_at "es"
  refine iterG (makesT hB) .refl (by simp) fun I D C s₃ hIs hID hDC hI hD hC hit F3 k3 => ?_
  have hB3 : s₃.heap.IsTuple aB vB.toArray := exMv hB (k3 _)
  have hne : (aB : Nat) ≠ I := by lia
  have hvs : vB.toArray.size = besides.length := by simp [hb.length]
  refine compE (env := lawEnv L cd) (Walks.tuple hh I aB hne vB.toArray) F3 ⟨⟨_, hit, rfl, rfl⟩, hB3⟩ (by intro b hb; simp at hb ⊢; lia) hI (by lia) (by rw [hvs]; decide)
    (fun i vs objs => objs = [] ∧ vs = List.replicate i (.bool false)) ⟨rfl, rfl⟩ ?_ ?_ (by walk_at "u") (by walk_at "u") (fun _ _ x => let ⟨⟨_, ho, _⟩, _⟩ := x; Heap.lt_size ho)
  · rintro i v s₄ l₁ vs k objs E' hlt hv ⟨rfl, rfl⟩ hvl F4 K4 _ _
    obtain ⟨c, tc, hc1, rfl⟩ := intsAt hb (i := i) (v := v) (by simpa using hv)
    have hcm := List.mem_of_getElem? hc1
    have hcr : 0 ≤ c ∧ c ≤ 1114111 := by
      have : ∀ z ∈ besides, 0 ≤ z ∧ z ≤ 1114111 := by decide
      exact this c hcm
    have G4 := G.keptX K4 (by intro b hb; simp at hb; lia)
    have hX4 : ∀ b ∈ [C, D], 138 ≤ b := by intro b hb; simp at hb; lia
    walk_at "es"
    refine ⟨Fm.kp (by assumption), ?_⟩
    refine inB1_spec (by lia) T (G4.keptX (Fm.kp (by assumption)) hX4) fun s₅ K5 => ?_
    refine ⟨[], Fm.kept (by assumption) K5, by simp, rfl, ?_⟩
    have e : ((c.toNat : Nat) : Int) = c := by lia
    rw [e, besides_no c hcm, List.replicate_succ']
  · rintro l₁ vs k objs s₄ ⟨rfl, rfl⟩ hvl F4
    refine ⟨rfl, _, k, l₁, [], F4, fun s₅ K5 h5 _ => ?_⟩
    have F5 := (F.after K5).more h5 (a := D) (fun q => by have := F.lt; lia)
    dsimp only
    refine wpAny_BinOp ?_
    refine kList ?_
    refine' wpAny_items_cons ?_ ?h
    (case h => walk_at "u")
    refine wpAny_Constant_bool ?_
    walk_at "es"
    refine mkL (by assumption) (by simp [sizeLine]) fun D1 s₆ hD1 hLD1 _ F6 => ?_
    walk_at "es"
    refine kMulL (by assumption) (Fm.objs (by assumption) (D1, _) (List.Mem.head _)) (by decide) (by decide) fun D2 s₇ hD2 hLD2 _ F7 _ => ?_
    have e : vB.toArray.size = 16 := by rw [hvs]; rfl
    have h7 := F7.objs (D, _) (List.Mem.tail _ (List.Mem.tail _ (List.Mem.head _)))
    rw [e] at h7
    refine ne_dataH_same (da := .list (List.replicate 16 (.bool false))) (db := .list (List.replicate 16 (.bool false))) (Reads.list h7 rfl rfl (by simpa using reads_bools _ false 16)) (Reads.list (F7.objs (D2, _) (List.Mem.head _)) rfl rfl (by simpa using reads_bools _ false 16)) (by decide) (by decide) hu (by decide) ?_
    rw [show (!PySem.Spec.same (.list (List.replicate 16 (.bool false))) (.list (List.replicate 16 (.bool false)))) = false from by decide]
    walk_at "es"
    try walk_at "nx"
    exact wpAny_execs_nil (hQ _ (F7.sub (by simp)))
end
section
open PySem PySem.W PySem.Calls PyProof.Rows PySem.Spec
set_option maxHeartbeats 4000000
variable {H : Heap} {w : World} {A : Around} {E : Value → Shared → Prop} {s s₀ : Shared} {X : List Nat} {L : Nat} {l : List (Str × Value)} {news : List (Nat × Obj)} {cd : Value}
theorem listsKp {s' : Shared} {vs : List Value} {rows : List (List Int)} {m : Str → Option Value} (h : ListsOf s.heap vs rows) (hn : s.heap.Ns L m) (k : Kp [L] s s') : ListsOf s'.heap vs rows :=
  h.mv fun _ _ _ _ h2 => lkp h2 k (by simpa using list_ne_ns h2 hn)
/-- what a sign leaves -/
noncomputable def foldSign (c : Nat) : List Int := if b1Has c then [] else ((b3At c).getD (Txt.lower (one c))).cps.toList.map fun (n : Nat) => (n : Int)
noncomputable def foldText (cs : List Nat) : List Int := (cs.map foldSign).flatten
/-- kept -/
theorem law_g7 {aH aR aU : Nat} {vH vR vU : List Value} {hs : List Int} {rows : List (List Int)} {Q : Flow → Shared → Prop} (hA : A.depth < 880) (hh : A.handled = none) (G : GL H s.heap) (T : TopW w H) (hL8 : 138 ≤ L) (F : Fm s [L] L l [] s)
    (hlH : s.heap.IsList aH vH.toArray) (hH : Heaps vH hs) (hkH : lk l (Str.ofString "heaps") = some (.ref aH))
    (hcR : s.heap.IsCell (L + 3) (some (.ref aR))) (hlR : s.heap.IsList aR vR.toArray) (hR : ListsOf s.heap vR rows) (hrn : rows.length ≤ 4) (hrl : ∀ r ∈ rows, r.length ≤ 3) (hrc : ∀ r ∈ rows, ∀ c ∈ r, 0 ≤ c ∧ c < 30000)
    (hlU : s.heap.IsList aU vU.toArray) (hU : IntsAre vU b1Nums) (hkU : lk l (Str.ofString "unseen") = some (.ref aU))
    (hlow : ∀ c ∈ (typedOf rows ((hs.getD 3 0).fdiv 162)).cps.toList, (foldSign c).length ≤ 3 ∧ Builtin.Str.tooLong (Txt.lower (one c)).length = false ∧ ((b3At c).getD (Txt.lower (one c))).length ≤ 3)
    (hlen : (typedOf rows ((hs.getD 3 0).fdiv 162)).length ≤ 100)
    (hQ : ∀ (aK : Nat) vK l' s', s'.heap.IsList aK vK.toArray → IntsAre vK (foldText (typedOf rows ((hs.getD 3 0).fdiv 162)).cps.toList) → lk l' (Str.ofString "kept") = some (.ref aK) →
      (∀ y, y ≠ (Str.ofString "kept") → y ≠ (Str.ofString "sign") → y ≠ (Str.ofString "held") → lk l' y = lk l y) → Fm s [L] L l' [] s' → LawFrom w A L cd 9 Q E s') :
    LawFrom w A L cd 7 Q E s := by
  have hX : ∀ b ∈ [L], 138 ≤ b := by intro b hb; simp at hb; lia
  have hGs := G.size
  refine exL (by decide) ?_
  refine' wpAny_Assign_Name ?_ ?hs
  (case hs => kernel_rfl!)
  walk_at "es"
  refine mkL (by assumption) (by simp [sizeLine]) fun K s₁ hK hLK _ F1 => ?_
  walk_at "st"
  rename_i s₂ F2 _
  dsimp only
  refine exL (by decide) ?_
  refine wpAny_For ?_ (by intro _; rfl)
  have hn3 : (3 : Int).toNat < hs.length := by rw [hH.four]; decide
  obtain ⟨t3, ht3⟩ := ints_at hH.vals hn3
  walk_at "es"
  refine ldC (c := L + 3) (by walk_at "u") (ckp hcR (Fm.kp (by assumption)) (by simp)) ?_ (by walk_at "u") (by walk_at "u") (by decide +kernel)
  walk_at "es"
  have hHL := list_ne_ns hlH F.ns
  have hUL := list_ne_ns hlU F.ns
  have hRL := list_ne_ns hlR F.ns
  refine tailL (lkp hlH (Fm.kp (by assumption)) (by simpa using hHL)) (by decide) (by decide) ht3 ?_ (by walk_at "u")
  walk_at "es"
  refine ⟨Fm.kp (by assumption), ?_⟩
  rename_i s₃ F3
  have k3 : Kp [L] s s₃ := F3.kp
  have e3 : hs[(3 : Int).toNat] = hs.getD 3 0 := by rw [List.getD_eq_getElem?_getD, List.getElem?_eq_getElem (by rw [hH.four]; decide)]; rfl
  rw [e3]
  refine typed_spec (by lia) hh (G.keptX k3 hX) (lkp hlR k3 (by simpa using hRL)) (listsKp hR F.ns k3) (lkp hlU k3 (by simpa using hUL)) hU hrn hrl hrc fun t4 s₄ K4 => ?_
  have F4 := F3.kept K4
  generalize typedOf rows ((hs.getD 3 0).fdiv 162) = x at *
  refine makesS.2 _ _ ?_
  have hKs : K < s₄.heap.objs.size := F4.ltN (p := (K, lo [] 0)) (List.Mem.head _)
  have hLs : L < s₄.heap.objs.size := F4.lt
  obtain ⟨St, W, hst0, hstI⟩ := walksS (w := w) hh s₄.heap.objs.size x t4
  have F5 := F4.push (stO x t4)
  have F5b := F4.rebase [L, K]
  have F5c := F5b.push (stO x t4)
  have k4 : Kp [L] s s₄ := F4.kp
  have hIXs : ∀ b ∈ [L, K], 138 ≤ b := by
    intro b hb
    simp at hb
    rcases hb with h | h
    · lia
    · have h1 : s.heap.objs.size ≤ K := hK
      lia
  have hlU4 : s₄.heap.IsList aU vU.toArray := lkp hlU k4 (by simpa using hUL)
  have hUK : (aU : Nat) ≠ K := by
    have h1 : s.heap.objs.size ≤ K := hK
    have h2 : aU < s.heap.objs.size := exLt hlU
    lia
  have G4 := G.keptX k4 hX
  refine forWalkN (x := Str.ofString "sign") W F5c (hst0 _ (Heap.get?_push_size _ rfl)) (by intro b hb; simp at hb ⊢; lia) (by intro b hb; rw [List.mem_singleton.mp hb]; exact get_above (Nat.le_refl _)) (List.Mem.head _)
    (fun i l₁ news₁ => ∃ ks k, news₁ = [(K, lo ks k)] ∧ IntsAre ks (foldText (x.cps.toList.take i)) ∧ ks.length ≤ 3 * i ∧ lk l₁ (Str.ofString "kept") = some (.ref K) ∧ lk l₁ (Str.ofString "unseen") = some (.ref aU) ∧
      ∀ y, y ≠ (Str.ofString "kept") → y ≠ (Str.ofString "sign") → y ≠ (Str.ofString "held") → lk l₁ y = lk l y) ?_ ⟨[], 0, rfl, by simpa [foldText] using IntsAre.nil, by simp, lk_hit, by walk_at "lk", fun y h1 h2 h3 => by simp [lk, h1]⟩ ?_ ?_ (by walk_at "u") (by walk_at "u")
  · rintro i l₁ news₁ ⟨ks, k, rfl, _⟩ p hp
    rw [List.mem_singleton.mp hp]
    simp; lia
  · rintro i v s₅ l₁ news₁ E' hlt ⟨c, tc, hc, rfl⟩ ⟨ks, k, rfl, hks, hkl, hk1, hk2, hk3⟩ F6 K6
    have hcl : x.cps.toList[i]? = some c := by simpa using hc
    obtain ⟨hf3, hlw, hb3⟩ := hlow c (List.mem_of_getElem? hcl)
    have G5 := G4.keptX K6 hIXs
    have hl5 : s₅.heap.IsList aU vU.toArray := lkp hlU4 K6 (by simp; exact ⟨hUL, hUK⟩)
    have hxl : i < 100 := by have : x.cps.size = x.length := rfl; lia
    walk_at "as"
    walk_at "es"
    refine ⟨Fm.kp (by assumption), ?_⟩
    refine inB1_spec (by lia) T (G5.keptX (Fm.kp (by assumption)) hIXs) fun s₆ K7 => ?_
    have F7 := F6.kept K7
    walk_at "st"
    walk_at "ex"
    refine wpAny_If ?_
    walk_at "es"
    refine PyProof.Rows.in_list_ints (lkp hl5 (Fm.kp (by assumption)) (by simp; exact ⟨hUL, hUK⟩)) hU ?_
    rw [show b1Nums.any (· == (c : Int)) = b1Has c from rfl]
    refine wpAny_isNot_self rfl (wpAny_truthy_bool (ifF ?_))
    walk_at "nil"
    have hft : foldText (x.cps.toList.take (i + 1)) = foldText (x.cps.toList.take i) ++ foldSign c := by
      unfold foldText
      simp only [List.take_add_one, hcl, Option.toList_some, List.map_append, List.flatten_append, List.map_cons, List.map_nil, List.flatten_cons, List.flatten_nil, List.append_nil]
    walk_at "ex"
    refine wpAny_If ?_
    refine isTrue_not ?_
    refine isTrue_plain ?_
    walk_at "es"
    cases hb : b1Has (c : Int) with
    | true =>
      refine ifF ?_
      walk_at "nil"
      refine wpAny_execs_nil ?_
      have e : foldSign c = [] := by unfold foldSign; rw [hb]; rfl
      rw [e, List.append_nil] at hft
      exact ⟨_, _, by assumption, ks, k, rfl, hft ▸ hks, by lia, by walk_at "lk", by walk_at "lk", fun y h1 h2 h3 => by simp [lk, h2, h3]; exact hk3 y h1 h2 h3⟩
    | false =>
      refine ifT ?_
      have e : foldSign c = ((b3At c).getD (Txt.lower (one c))).cps.toList.map fun (n : Nat) => (n : Int) := by unfold foldSign; rw [hb]; rfl
      walk_at "ex"
      refine wpAny_Expr ?_ 
      rename_i s₈ F8 _ _ _ _
      have F9 := F8.rebase []
      have hX0 : ∀ b ∈ ([] : List Nat), 138 ≤ b := by simp
      have G8 := G5.keptX F8.kp hIXs
      refine kExtend F8 (by walk_at "lk") (List.Mem.head _) ?_ (by walk_at "u") (by walk_at "u") (by decide +kernel) (by walk_at "u") (by walk_at "u") (by walk_at "u")
      refine compV (cl := []) s₈ [] (by walk_at "u") (by walk_at "u") (by decide +kernel) (by decide +kernel) ?_ (by intro _; rfl)
      walk_at "es"
      refine ⟨Fm.kp (by assumption), ?_⟩
      refine map_spec (by lia) T (G8.keptX (Fm.kp (by assumption)) hX0) (fun t9 s₉ K9 => ?_) hlw
      have F10 := F9.kept K9
      have hG9 := (G8.keptX F10.kp hX0).size
      rw [e] at hft
      generalize (b3At c).getD (Txt.lower (one c)) = y at hb3 hft
      refine iterG makesS F10.kp (by simp) fun I D C s₁₀ hIs hID hDC hI hD hC hit F11 k11 => ?_
      obtain ⟨St2, W2, hst2, hstI2⟩ := walksS (w := w) hh I y t9
      refine compE (env := lawEnv L cd) W2 F11 (hst2 _ hit) (by intro b hb; simp at hb ⊢; lia) hI (by lia) (by have : y.cps.size = y.length := rfl; rw [this]; simp [sizeLine]; lia)
        (fun j zs objs => objs = [] ∧ IntsAre zs ((y.cps.toList.take j).map fun (n : Nat) => (n : Int))) ⟨rfl, by simpa using IntsAre.nil⟩ ?_ ?_ (by walk_at "u") (by walk_at "u") hstI2
      · rintro j v2 s₁₁ l₂ zs k2 objs E2 hlt2 ⟨c2, tc2, hc2, rfl⟩ ⟨rfl, hzs⟩ hzl F12 K12 _ _
        have G12 := G8.keptX K12 (by intro b hb; simp at hb; lia)
        have hX12 : ∀ b ∈ [C, D], 138 ≤ b := by intro b hb; simp at hb; lia
        walk_at "es"
        refine ⟨[], by assumption, by simp, rfl, ?_⟩
        have hc3 : y.cps.toList[j]? = some c2 := by simpa using hc2
        rw [List.take_add_one, hc3, List.map_append]
        exact ints_snoc hzs _ _
      · rintro l₂ zs k2 objs s₁₁ ⟨rfl, hzs⟩ hzl F12
        have e2 : y.cps.toList.take y.cps.size = y.cps.toList := by rw [List.take_of_length_le (by simp)]
        rw [e2] at hzs
        have hyl : y.cps.size = y.length := rfl
        refine ⟨rfl, zs, k2, l₂, [], F12, fun s₁₂ K13 h13 _ => ?_⟩
        have F13 := F8.after K13
        refine ⟨D, ks, zs, k, k2, s₅, [L, K], L, _, _, rfl, F13, h13, by simp, by simp, by rw [hzl]; lia, fun n' s₁₃ F14 => ?_⟩
        walk_at "nx"
        walk_at "nil"
        refine wpAny_execs_nil (⟨_, _, F14, ks ++ zs, n', rfl, hft ▸ hks.append hzs, by rw [List.length_append, hzl]; lia, by walk_at "lk", by walk_at "lk", fun y h1 h2 h3 => by simp [lk, h2, h3]; exact hk3 y h1 h2 h3⟩)
  · rintro l₁ news₁ s₅ ⟨ks, k, rfl, hks, hkl, hk1, hk2, hk3⟩ F6
    have e : x.cps.toList.take x.cps.size = x.cps.toList := by rw [List.take_of_length_le (by simp)]
    rw [e] at hks
    dsimp only
    have kk : Kp [K, L] s s₅ := (k4.mono (by simp)).trans (F6.kp.mono (by intro z hz; simp at hz ⊢; lia))
    have hKn : s.heap.get? K = none := get_above hK
    have ho5 := F6.objs (K, lo ks k) (List.Mem.head _)
    refine hQ K ks l₁ s₅ (F6.isList (List.Mem.head _)) hks hk1 hk3 ⟨kk.drop hKn, F6.ns, by simp, by simp⟩
end
section
open PySem PySem.W PySem.Calls PyProof.Rows PySem.Spec
set_option maxHeartbeats 4000000
variable {H : Heap} {w : World} {A : Around} {E : Value → Shared → Prop} {s s₀ : Shared} {X : List Nat} {L : Nat} {l : List (Str × Value)} {news : List (Nat × Obj)} {cd : Value}
theorem flat_take {rows : List (List Int)} {i : Nat} {c : List Int} (h : rows[i]? = some c) : (rows.take (i + 1)).flatten = (rows.take i).flatten ++ c := by
  simp only [List.take_add_one, h, Option.toList_some, List.flatten_append, List.flatten_cons, List.flatten_nil, List.append_nil]
theorem flat_le {rows : List (List Int)} (h : ∀ r ∈ rows, r.length ≤ 3) : ∀ i, (rows.take i).flatten.length ≤ 3 * i
  | 0 => by simp
  | i + 1 => by
    have ih := flat_le h i
    cases e : rows[i]? with
    | none => rw [List.take_add_one, e]; simp only [Option.toList_none, List.append_nil]; lia
    | some c =>
      have := h c (List.mem_of_getElem? e)
      rw [flat_take e, List.length_append]; lia
/-- kept is the rows' codes -/
theorem law_g9 {aK aR : Nat} {vK vR : List Value} {kk : List Int} {rows : List (List Int)} {Q : Flow → Shared → Prop} (hh : A.handled = none) (hu : A.units + 64 < cLine) (hL8 : 138 ≤ L) (F : Fm s [L] L l [] s)
    (hcR : s.heap.IsCell (L + 3) (some (.ref aR))) (hlR : s.heap.IsList aR vR.toArray) (hR : ListsOf s.heap vR rows) (hrn : rows.length ≤ 4) (hrl : ∀ r ∈ rows, r.length ≤ 3)
    (hlK : s.heap.IsList aK vK.toArray) (hK : IntsAre vK kk) (hkK : lk l (Str.ofString "kept") = some (.ref aK)) (heq : kk = rows.flatten)
    (hQ : ∀ s', Fm s [L] L l [] s' → LawFrom w A L cd 10 Q E s') : LawFrom w A L cd 9 Q E s := by
  refine exL (by decide) ?_
  refine wpAny_If ?_
  refine' wpAny_isTrue_Compare1 ?_ ?hs
  (case hs => kernel_rfl!)
  walk_at "es"
  refine compV (cl := []) s [] (by walk_at "u") (by walk_at "u") (by decide +kernel) (by decide +kernel) ?_ (by intro _; rfl)
  refine ldC (c := L + 3) (by walk_at "u") hcR ?_ (by walk_at "u") (by walk_at "u") (by decide +kernel)
  have hRs : aR < s.heap.objs.size := exLt hlR
  have hLs : L < s.heap.objs.size := F.lt
  have hvs : vR.toArray.size = rows.length := by simp [hR.1]
  have hfl := flat_le hrl
  refine iterG (makesL hlR) .refl (by simp) fun I D C s₃ hIs hID hDC hI hD hC hit F3 k3 => ?_
  have hl3 : s₃.heap.IsList aR vR.toArray := exMv hlR (k3 _)
  have hne : (aR : Nat) ≠ I := by lia
  refine compStartG rfl (Walks.list hh I aR hne vR.toArray) ⟨⟨_, hit, rfl, rfl⟩, hl3⟩ (compWalkN (env := compEnvC _ _ C (lawEnv L cd)) rfl rfl (Walks.list hh I aR hne vR.toArray) F3 ⟨⟨_, hit, rfl, rfl⟩, hl3⟩ (by intro b hb; simp at hb ⊢; lia) (by intro b hb; rw [List.mem_singleton.mp hb]; exact hI) (List.Mem.head _)
    (fun i l₁ news₁ => ∃ us k, news₁ = [(D, lo us k)] ∧ IntsAre us (rows.take i).flatten) ?_ ⟨[], 0, rfl, by simpa using IntsAre.nil⟩ ?_ ?_ (by walk_at "u") (by walk_at "u") (by intro _; rfl))
  · rintro i l₁ news₁ ⟨us, k, rfl, _⟩ p hp
    rw [List.mem_singleton.mp hp]
    simp; lia
  · rintro i v s₄ l₁ news₁ E' hlt hv ⟨us, k, rfl, hus⟩ F4 K4 _
    obtain ⟨d, ws, c, rfl, hci, hdl, hdi⟩ := hR.get (i := i) (v := v) (by simpa using hv)
    have hds0 : d < s.heap.objs.size := exLt hdl
    walk_at "es"
    have hd4 : s₄.heap.IsList d ws.toArray := lkp hdl K4 (by simp; lia)
    refine wpAny_pyIter_list hd4 ?_
    have hds : d < s₄.heap.objs.size := exLt hd4
    have F5 := F4.push (s := s₄) { cls := .type "list_iterator", data := .fields #[.ref d, .int 0 0] }
    have hCs : C < s₄.heap.objs.size := F4.lt
    have hDs : D < s₄.heap.objs.size := F4.ltN (p := (D, lo us k)) (List.Mem.head _)
    have hwl : ws.toArray.size = c.length := by simp [hdi.length]
    have hfi := hfl i
    have hul := hus.length
    have hr3 := hrl c (List.mem_of_getElem? hci)
    have hi : i < rows.length := (List.getElem?_eq_some_iff.mp hci).1
    refine compStartG rfl (Walks.list hh s₄.heap.objs.size d (Nat.ne_of_lt hds) ws.toArray) ⟨⟨_, Heap.get?_push_size _ rfl, rfl, rfl⟩, hd4.push _⟩ (compWalkE (env := compEnvC _ _ C (lawEnv L cd)) rfl rfl (Walks.list hh s₄.heap.objs.size d (Nat.ne_of_lt hds) ws.toArray) F5 ⟨⟨_, Heap.get?_push_size _ rfl, rfl, rfl⟩, hd4.push _⟩ ?_ (by intro b hb; rw [List.mem_singleton.mp hb]; exact get_above (Nat.le_refl _)) (List.Mem.head _)
      (fun j l₁ news₁ => ∃ us k, news₁ = [(D, lo us k)] ∧ IntsAre us ((rows.take i).flatten ++ c.take j)) ?_ ⟨us, k, rfl, by simpa using hus⟩ ?_ ?_ (by walk_at "u") (by walk_at "u"))
    · intro b hb
      simp at hb ⊢
      lia
    · rintro j l₁ news₁ ⟨us, k, rfl, _⟩ p hp
      rw [List.mem_singleton.mp hp]
      simp; lia
    · rintro j v s₅ l₂ news₂ E2 hlt2 hv2 ⟨us2, k2, rfl, hus2⟩ F6 K6 _
      obtain ⟨z, tz, hz1, rfl⟩ := intsAt hdi (by simpa using hv2)
      walk_at "es"
      have hul2 := hus2.length
      have htj : (c.take j).length ≤ 3 := Nat.le_trans (List.length_take_le' _ _) hr3
      rw [List.length_append] at hul2
      refine appendL (by assumption) (by simp) (by simp) (by show us2.length ≤ 16777216; lia) fun s₆ F7 => ⟨_, _, F7, _, _, rfl, ?_⟩
      rw [List.take_add_one, hz1, ← List.append_assoc]
      exact ints_snoc hus2 _ _
    · rintro l₂ news₂ s₅ ⟨us2, k2, rfl, hus2⟩ F6
      refine ⟨rfl, l₂, _, F6, us2, k2, rfl, ?_⟩
      rw [hwl, List.take_length] at hus2
      rw [flat_take hci]
      exact hus2
  · rintro l₁ news₁ s₄ ⟨us, k, rfl, hus⟩ F4
    rw [hvs, List.take_length] at hus
    refine ⟨rfl, us, k, l₁, [], F4, fun s₅ K5 h5 _ => ?_⟩
    dsimp only
    refine ne_intsK (lkp hlK K5 (by simp)) hK ⟨_, h5, rfl, k, rfl⟩ hus hu ?_
    rw [show (!decide (kk = rows.flatten)) = false by simp [heq]]
    walk_at "es"
    try walk_at "nx"
    exact wpAny_execs_nil (hQ _ (F.after K5))
end
section
open PySem PySem.W PySem.Calls PyProof.Rows PySem.Spec
set_option maxHeartbeats 4000000
section
variable {w : World} {A : Around} {E : Value → Shared → Prop} {R : Result → Shared → Prop} {s s₀ : Shared} {X : List Nat} {L : Nat} {l : List (Str × Value)} {news : List (Nat × Obj)} {env : Env}
/-- compE with things in the ledger from the start -/
theorem compEo {elt : Expr} {scope sc : Scope} {pos : Pos} {x : Str} {px : Pos} {iter : Expr} {cl : List (Str × Nat)} {I D C : Nat} {Y fp : List Nat} {n : Nat} {P : Nat → Value → Prop} {St : Nat → Heap → Prop} {objs₀ : List (Nat × Obj)}
    (W : Walks prog w A I fp [I] n P St) (F : Fm s₀ (C :: D :: Y) C [] ((D, lo [] 0) :: objs₀) s) (ho₀ : ∀ p ∈ objs₀, p.1 ≠ D ∧ p.1 ≠ I) (hst : St 0 s.heap) (hfX : ∀ b ∈ fp, b ∉ C :: D :: Y) (hI : s₀.heap.get? I = none) (hDI : D ≠ I) (hn : n ≤ sizeLine)
    (J : Nat → List Value → List (Nat × Obj) → Prop) (h0 : J 0 [] objs₀)
    (turn : ∀ i v s₁ l₁ vs k objs E', i < n → P i v → J i vs objs → vs.length = i → Fm s₁ (C :: D :: Y) C ((x, v) :: l₁) ((D, lo vs k) :: objs) s₁ → Kp (C :: D :: Y) s₀ s₁ → (∀ p ∈ objs, p.1 ≠ D ∧ p.1 ≠ I) → I < s₁.heap.objs.size →
      wpAny (model prog w) A (eval elt (compEnvC scope cl C env)) (fun y s₄ => ∃ objs', Fm s₁ (C :: D :: Y) C ((x, v) :: l₁) ((D, lo vs k) :: objs') s₄ ∧ (∀ p ∈ objs', p.1 ≠ D ∧ p.1 ≠ I) ∧ J (i + 1) (vs ++ [y]) objs') E' s₁)
    (done : ∀ l₁ vs k objs s₁, J n vs objs → vs.length = n → Fm s₀ (C :: D :: Y) C l₁ ((D, lo vs k) :: objs) s₁ → R (.ok .next) s₁)
    (hl' : (compEnvC scope cl C env).kindOf x = some .local) (hk : (compEnvC scope cl C env).scope.kind = .function) (hIs : ∀ i h, St i h → I < h.objs.size) :
    codeAny (model prog w) A (.compStart (.ListComp elt [⟨.Name x px, iter, [], 0⟩] sc pos) 0 (.ref I) (.ref D) (compEnvC scope cl C env)) R s := by
  refine compStartG rfl W hst (compWalkE (env := compEnvC scope cl C env) rfl rfl W F hst hfX (by intro b hb; rw [List.mem_singleton.mp hb]; exact hI) (List.Mem.head _)
    (fun i l₁ news₁ => ∃ vs k objs, news₁ = (D, lo vs k) :: objs ∧ J i vs objs ∧ vs.length = i ∧ (∀ p ∈ objs, p.1 ≠ D ∧ p.1 ≠ I)) ?_ ⟨[], 0, objs₀, rfl, h0, rfl, ho₀⟩ ?_ ?_ hl' hk)
  · rintro i l₁ news₁ ⟨vs, k, objs, rfl, _, _, ho⟩ p hp hq
    rw [List.mem_singleton] at hq
    rcases List.mem_cons.mp hp with rfl | hp
    · exact hDI hq
    · exact (ho p hp).2 hq
  · rintro i v s₁ l₁ news₁ E' hlt hP ⟨vs, k, objs, rfl, hJ, hlen, ho⟩ F1 K1 hst₁
    have hI1 : I < s₁.heap.objs.size := hIs _ _ hst₁
    refine wpAny_mono (turn i v s₁ l₁ vs k objs E' hlt hP hJ hlen F1 K1 ho hI1) (fun y s₄ h₄ => ?_) fun _ _ e => e
    obtain ⟨objs', F4, ho', hJ'⟩ := h₄
    exact appendL F4 (by simp) (fun p hp => (ho' p hp).1) (by lia) fun s₅ F5 => ⟨_, _, F5, _, _, _, rfl, hJ', by simp [hlen], ho'⟩
  · rintro l₁ news₁ s₁ ⟨vs, k, objs, rfl, hJ, hlen, _⟩ F1
    exact done l₁ vs k objs s₁ hJ hlen F1
end
variable {H : Heap} {w : World} {A : Around} {E : Value → Shared → Prop} {s s₀ : Shared} {X : List Nat} {L : Nat} {l : List (Str × Value)} {news : List (Nat × Obj)} {cd : Value}
theorem flat_get {rows : List (List Int)} {i k : Nat} {r : List Int} {z : Int} (h : rows[i]? = some r) (hk : r[k]? = some z) : rows.flatten[(rows.take i).flatten.length + k]? = some z := by
  have hi : i < rows.length := (List.getElem?_eq_some_iff.mp h).1
  have e : rows.flatten = (rows.take i).flatten ++ (r ++ (rows.drop (i + 1)).flatten) := by
    have e1 : rows = rows.take i ++ r :: rows.drop (i + 1) := by
      have : rows[i] = r := by
        have := List.getElem?_eq_getElem hi
        rw [this] at h; exact Option.some.inj h
      rw [← this, List.getElem_cons_drop, List.take_append_drop]
    conv => lhs; rw [e1]
    rw [List.flatten_append, List.flatten_cons]
  have hkl : k < r.length := (List.getElem?_eq_some_iff.mp hk).1
  rw [e, List.getElem?_append_right (by lia), show (rows.take i).flatten.length + k - (rows.take i).flatten.length = k by lia, List.getElem?_append_left hkl, hk]
/-- tape and numbers -/
theorem law_g10 {aK aW : Nat} {vK vW : List Value} {ws : List (List Int)} {o4 : Obj} {Q : Flow → Shared → Prop} (hA : A.depth < 880) (hh : A.handled = none) (G : GL H s.heap) (hL8 : 138 ≤ L) (F : Fm s [L, L + 4] L l [(L + 4, o4)] s) (ho4 : o4.data = .cell none)
    (hcW : s.heap.IsCell (L + 2) (some (.ref aW))) (hlW : s.heap.IsList aW vW.toArray) (hW : ListsOf s.heap vW ws) (hw4 : ws.length ≤ 4) (hww : ∀ x ∈ ws, Word (codesOf x) x ∧ x.length ≤ 3)
    (hlK : s.heap.IsList aK vK.toArray) (hK : IntsAre vK (ws.map codesOf).flatten) (hkK : lk l (Str.ofString "kept") = some (.ref aK))
    (hQ : ∀ (I aN : Nat) vN l' o4 s', o4.data = .cell (some (.ref I)) → s.heap.objs.size ≤ I → s.heap.get? I = none → s'.heap.get? I = some (itO aK (ws.map codesOf).flatten.length) → s'.heap.IsList aN vN.toArray → IntsAre vN (ws.map numOf) → lk l' (Str.ofString "numbers") = some (.ref aN) →
      (∀ y, y ≠ (Str.ofString "numbers") → lk l' y = lk l y) → Fm s [L, L + 4] L l' [(L + 4, o4)] s' → LawFrom w A L cd 12 Q E s') :
    LawFrom w A L cd 10 Q E s := by
  have hX : ∀ b ∈ [L, L + 4], 138 ≤ b := by intro b hb; simp at hb; lia
  have hGs := G.size
  have hLs : L < s.heap.objs.size := F.lt
  have hcs : L + 4 < s.heap.objs.size := F.ltN (p := (L + 4, o4)) (List.Mem.head _)
  have hKL := list_ne_ns hlK F.ns
  have hWL := list_ne_ns hlW F.ns
  have hKs : aK < s.heap.objs.size := exLt hlK
  have hWs : aW < s.heap.objs.size := exLt hlW
  refine exL (by decide) ?_
  refine' wpAny_Assign_Name ?_ ?hs
  (case hs => kernel_rfl!)
  walk_at "es"
  refine kIter F hlK fun I s₁ hI hLI hnI F1 => ?_
  have hI4 : L + 4 < I := hnI (L + 4, o4) (List.Mem.head _)
  refine stCell (env := lawEnv L cd) (rest := [(I, itO aK 0)]) F1 (List.Mem.tail _ (List.Mem.head _)) ho4 (by simp) (by intro p hp; rw [List.mem_singleton.mp hp]; exact ⟨List.Mem.head _, by show I ≠ L + 4; lia⟩) (fun s₂ o2 ho2 F2 k2 => ?_) (by rw [cells17']; walk_at "u") (by walk_at "u") (by walk_at "u")
  dsimp only
  refine exL (by decide) ?_
  have hcT : s₂.heap.IsCell (L + 4) (some (.ref I)) := ⟨o2, F2.objs _ (List.Mem.head _), ho2⟩
  have G2 := G.keptX F2.kp hX
  have hWc : (aW : Nat) ≠ L + 4 := list_ne_cell hlW ⟨_, F.objs (L + 4, o4) (List.Mem.head _), ho4⟩
  have hKc : (aK : Nat) ≠ L + 4 := list_ne_cell hlK ⟨_, F.objs (L + 4, o4) (List.Mem.head _), ho4⟩
  have hlW2 : s₂.heap.IsList aW vW.toArray := lkp hlW F2.kp (by simp; exact ⟨hWL, hWc⟩)
  have hlK2 : s₂.heap.IsList aK vK.toArray := lkp hlK F2.kp (by simp; exact ⟨hKL, hKc⟩)
  have hW2 : ∀ (i : Nat) (v : Value), vW[i]? = some v → ∃ c, ws[i]? = some c := by
    intro i v hv
    obtain ⟨_, _, c, _, h, _⟩ := hW.get hv
    exact ⟨c, h⟩
  have hcW2 : s₂.heap.IsCell (L + 2) (some (.ref aW)) := ckp hcW F2.kp (by simp)
  have hI2 : s₂.heap.get? I = some (itO aK 0) := F2.objs (I, _) (List.Mem.tail _ (List.Mem.head _))
  have hIs2 : I < s₂.heap.objs.size := Heap.lt_size hI2
  have hIn : s.heap.get? I = none := get_above hI
  have hI138 : s.heap.objs.size ≤ I := hI
  have hvs : vW.toArray.size = ws.length := by simp [hW.1]
  have hcl : ∀ x ∈ ws, (codesOf x).length = x.length := fun x _ => by simp [codesOf]
  have FU : Fm s₂ [L, I] L l [] s₂ := (F2.rebase [L, I]).sub (by simp)
  refine compU (env := lawEnv L cd) (cl := [(Str.ofString "tape", L + 4)]) s₂ [I] (by walk_at "u") (by walk_at "u") (by walk_at "u") (by decide +kernel) (by decide +kernel) FU (List.Mem.head _) (by simp) (by show L ∉ [I]; simp; lia) (by simp) ?_ (by walk_at "u") (by walk_at "u") (by intro _; rfl)
  refine ldC (c := L + 2) (by walk_at "u") hcW2 ?_ (by walk_at "u") (by walk_at "u") (by decide +kernel)
  refine iterG (makesL hlW2) .refl (by simp; exact hIs2) fun J D C s₃ hIs hID hDC hJ hD hC hit F3 k3 => ?_
  have hl3 : s₃.heap.IsList aW vW.toArray := exMv hlW2 (k3 _)
  have hne : (aW : Nat) ≠ J := by
    have : aW < s₂.heap.objs.size := exLt hlW2
    lia
  have hneI : (aW : Nat) ≠ I := by lia
  have hposle : ∀ i, ((ws.map codesOf).take i).flatten.length ≤ (ws.map codesOf).flatten.length := by
    intro i
    have := (List.take_append_drop i (ws.map codesOf))
    rw [← congrArg List.flatten this, List.flatten_append, List.length_append]
    lia
  refine compEo (env := lawEnv L cd) (objs₀ := [(I, itO aK 0)]) (Walks.list hh J aW hne vW.toArray) (F3.more (k3 _ _ hI2) (by lia) |>.sub (by intro p hp; simp at hp ⊢; rcases hp with rfl | rfl <;> simp)) (by intro p hp; rw [List.mem_singleton.mp hp]; exact ⟨by show I ≠ D; lia, by show I ≠ J; lia⟩) ⟨⟨_, hit, rfl, rfl⟩, hl3⟩ (by intro b hb; simp at hb ⊢; lia) hJ (by lia) (by rw [hvs]; simp [sizeLine]; lia)
    (fun i zs objs => objs = [(I, itO aK ((ws.map codesOf).take i).flatten.length)] ∧ IntsAre zs ((ws.take i).map numOf)) ⟨rfl, by simpa using IntsAre.nil⟩ ?_ ?_ (by walk_at "u") (by walk_at "u") (fun _ _ x => listIter_lt x)
  · rintro i v s₄ l₁ zs k objs E' hlt hv ⟨rfl, hzs⟩ hzl F4 K4 hno hJs
    obtain ⟨c, hci⟩ := hW2 i v (by simpa using hv)
    obtain ⟨hwc, hc3⟩ := hww c (List.mem_of_getElem? hci)
    have hX4 : ∀ b ∈ [C, D, I], 138 ≤ b := by intro b hb; simp at hb; lia
    have G4 := G2.keptX K4 hX4
    walk_at "es"
    refine ldC (c := L + 4) (by walk_at "u") (ckp hcT K4 (by simp; lia)) ?_ (by walk_at "u") (by walk_at "u") (by decide +kernel)
    walk_at "es"
    refine ⟨Fm.kp (by assumption), ?_⟩
    have hri : (ws.map codesOf)[i]? = some (codesOf c) := by rw [List.getElem?_map, hci]; rfl
    refine parse_spec (by lia) G4 hwc (a := aK) (i := ((ws.map codesOf).take i).flatten.length) (vs := vK) (fun k cc hk => hK.get _ _ (flat_get hri hk)) (by rw [hcl c (List.mem_of_getElem? hci)]; lia) (F4.objs (I, _) (List.Mem.tail _ (List.Mem.head _))) (by lia) (lkp hlK2 K4 (by simp; lia)) (by lia) fun t s₅ K5 hI5 => ?_
    refine ⟨[(I, itO aK (((ws.map codesOf).take i).flatten.length + (codesOf c).length))], ?_, ?_, ?_, ?_⟩
    · have F5 := ((F4.sub (news' := [(D, lo zs k)]) (by simp)).keptX K5 (by simp) (by show C ∉ [I]; simp; lia) (by intro p hp; rw [List.mem_singleton.mp hp]; show D ∉ [I]; simp; lia)).more hI5 (by lia)
      exact F5.sub (by intro p hp; simp at hp ⊢; rcases hp with rfl | rfl <;> simp)
    · intro p hp
      rw [List.mem_singleton.mp hp]
      exact ⟨by show I ≠ D; lia, by show I ≠ J; lia⟩
    · rw [flat_take hri, List.length_append]
    · rw [List.take_add_one, hci, List.map_append]
      exact ints_snoc hzs _ _
  · rintro l₁ zs k objs s₄ ⟨rfl, hzs⟩ hzl F4
    rw [hvs, List.take_length] at hzs
    have e9 : (ws.map codesOf).take vW.toArray.size = ws.map codesOf := by rw [List.take_of_length_le (by simp [hvs])]
    rw [e9] at F4
    refine ⟨rfl, zs, k, l₁, _, F4, (by intro p hp; rw [List.mem_singleton.mp hp]; show I ≠ L; lia), fun s₆ F6 => ?_⟩
    dsimp only
    have kk : Kp [I, L, L + 4] s s₆ := (F2.kp.mono (by intro z hz; simp at hz ⊢; lia)).trans (F6.kp.mono (by intro z hz; simp at hz ⊢; lia))
    refine hQ I D zs _ o2 s₆ ho2 hI138 hIn (F6.objs (I, _) (List.Mem.tail _ (List.Mem.head _))) (F6.isList (List.Mem.head _)) hzs lk_hit (fun y hy => by simp [lk, hy]) ⟨kk.drop hIn, F6.ns, ?_, ?_⟩
    · intro p hp
      rw [List.mem_singleton.mp hp]
      exact F6.kp.keep _ _ (by simp; lia) (F2.objs _ (List.Mem.head _))
    · intro p hp
      rw [List.mem_singleton.mp hp]
      show L + 4 ≠ L; lia
end
section
open PySem PySem.W PySem.Calls PyProof.Rows PySem.Spec
set_option maxHeartbeats 4000000
variable {H : Heap} {w : World} {A : Around} {E : Value → Shared → Prop} {s s₀ : Shared} {X : List Nat} {L : Nat} {l : List (Str × Value)} {news : List (Nat × Obj)} {cd : Value}
/-- the numbers are the words' -/
theorem law_g12 {aN aW : Nat} {vN vW : List Value} {ws : List (List Int)} {Q : Flow → Shared → Prop} (hA : A.depth < 880) (hh : A.handled = none) (hu : A.units + 64 < cLine) (G : GL H s.heap) (hL8 : 138 ≤ L) (F : Fm s [L] L l [] s)
    (hcW : s.heap.IsCell (L + 2) (some (.ref aW))) (hlW : s.heap.IsList aW vW.toArray) (hW : ListsOf s.heap vW ws) (hw4 : ws.length ≤ 4)
    (hlN : s.heap.IsList aN vN.toArray) (hN : IntsAre vN (ws.map numOf)) (hkN : lk l (Str.ofString "numbers") = some (.ref aN))
    (hQ : ∀ s', Fm s [L] L l [] s' → LawFrom w A L cd 13 Q E s') : LawFrom w A L cd 12 Q E s := by
  have hGs := G.size
  have hWs : aW < s.heap.objs.size := exLt hlW
  have hvs : vW.toArray.size = ws.length := by simp [hW.1]
  refine exL (by decide) ?_
  refine wpAny_If ?_
  refine' wpAny_isTrue_Compare1 ?_ ?hs
  (case hs => kernel_rfl!)
  walk_at "es"
  refine compV (cl := []) s [] (by walk_at "u") (by walk_at "u") (by decide +kernel) (by decide +kernel) ?_ (by intro _; rfl)
  refine ldC (c := L + 2) (by walk_at "u") hcW ?_ (by walk_at "u") (by walk_at "u") (by decide +kernel)
  refine iterG (makesL hlW) .refl (by simp) fun I D C s₃ hIs hID hDC hI hD hC hit F3 k3 => ?_
  have hl3 : s₃.heap.IsList aW vW.toArray := exMv hlW (k3 _)
  have hne : (aW : Nat) ≠ I := by lia
  refine compE (env := lawEnv L cd) (Walks.list hh I aW hne vW.toArray) F3 ⟨⟨_, hit, rfl, rfl⟩, hl3⟩ (by intro b hb; simp at hb ⊢; lia) hI (by lia) (by rw [hvs]; simp [sizeLine]; lia)
    (fun i vs objs => objs = [] ∧ IntsAre vs ((ws.take i).map numOf)) ⟨rfl, by simpa using IntsAre.nil⟩ ?_ ?_ (by walk_at "u") (by walk_at "u") (fun _ _ x => listIter_lt x)
  · rintro i v s₄ l₁ vs k objs E' hlt hv ⟨rfl, hvsI⟩ hvl F4 K4 _ _
    obtain ⟨d, us, c, rfl, hci, hdl, hdi⟩ := hW.get (i := i) (v := v) (by simpa using hv)
    have hds : d < s.heap.objs.size := exLt hdl
    have G4 := G.keptX K4 (by intro b hb; simp at hb; lia)
    have hX : ∀ b ∈ [C, D], 138 ≤ b := by intro b hb; simp at hb; lia
    walk_at "es"
    refine ⟨F4.kp, ?_⟩
    refine number_spec (by lia) hh G4 (lkp hdl K4 (by simp; lia)) hdi fun t s₅ K5 => ?_
    refine ⟨[], F4.kept K5, by simp, rfl, ?_⟩
    rw [List.take_add_one, hci, List.map_append]
    exact ints_snoc hvsI _ _
  · rintro l₁ vs k objs s₄ ⟨rfl, hvsI⟩ hvl F4
    rw [hvs, List.take_length] at hvsI
    refine ⟨rfl, vs, k, l₁, [], F4, fun s₅ K5 h5 hob5 => ?_⟩
    dsimp only
    refine ne_intsK (lkp hlN K5 (by simp)) hN ⟨_, h5, rfl, k, rfl⟩ hvsI hu ?_
    rw [show (!decide (ws.map numOf = ws.map numOf)) = false by simp]
    walk_at "es"
    try walk_at "nx"
    exact wpAny_execs_nil (hQ _ (F.after K5))
end
section
open PySem PySem.W PySem.Calls PyProof.Rows PySem.Spec
set_option maxHeartbeats 4000000
variable {H : Heap} {w : World} {A : Around} {E : Value → Shared → Prop} {s s₀ : Shared} {X : List Nat} {L : Nat} {l : List (Str × Value)} {news : List (Nat × Obj)} {cd : Value}
/-- the iterator has ended -/
theorem law_g13 {aK I n : Nat} {vK : List Value} {Q : Flow → Shared → Prop} (hA : A.depth < 880) (hh : A.handled = none) (hfr : A.frames = some [lawEnv L cd]) (G : GL H s.heap) (hL8 : 138 ≤ L) (F : Fm s [L] L l [] s)
    (hcT : s.heap.IsCell (L + 4) (some (.ref I))) (hI8 : 138 ≤ I) (hI : s.heap.get? I = some (itO aK n)) (hlK : s.heap.IsList aK vK.toArray) (hn : vK[n]? = none)
    (hQ : ∀ t s', Fm s [L, I] L ((Str.ofString "whole", .int 68719476735 t) :: l) [] s' → LawFrom w A L cd 14 Q E s') : LawFrom w A L cd 13 Q E s := by
  have hX : ∀ b ∈ [L], 138 ≤ b := by intro b hb; simp at hb; lia
  have hLI : L ≠ I := by
    obtain ⟨o, es, ep, ho, hd, _⟩ := F.ns
    rintro rfl
    rw [ho] at hI; cases hI; cases hd
  refine exL (by decide) ?_
  refine wpAny_Try_except ?_
  try walk_at "nx"
  refine wpAny_execs_cons ?_
  refine wpAny_Expr ?_
  walk_at "es"
  refine ldC (c := L + 4) (by walk_at "u") hcT ?_ (by walk_at "u") (by walk_at "u") (by decide +kernel)
  walk_at "es"
  refine ⟨F.kp, ?_⟩
  refine parse_end (B := hideAll s.heap [L, I]) (by lia) hh G hI hI8 hlK hn hfr (fun b o e => of_hideAll _ e) (Heap.FunFrames.cons (by show (fnScope 17).kind ≠ .module; decide +kernel) rfl F.ns (hideAll_none _ (by simp)) trivial) (hideAll_none _ (by simp)) fun h1 tk e t fl1 up1 => ?_
  refine wpAny_looks_onW hfr rfl fl1 fun h2 held2 up2 => ?_
  refine wpAny_landsW held2 fun h3 fl3 up3 => ?_
  have mk : ∀ {h' : Heap} {tk : Nat} {t' : Value} , Heap.FlyingW (hideAll s.heap [L, I]) [lawEnv L cd] e (.type "StopIteration") t' h' → s.heap.UpToSlots h' → Fm s [L, I] L l [] { s with heap := h', toks := tk } := fun fl up =>
    ⟨⟨⟨_, _, rfl⟩, fun b o hb ho => fl.1 b o (hideAll_get _ ho hb)⟩, up.ns F.ns, by simp, by simp⟩
  have hX2 : ∀ b ∈ [L, I], 138 ≤ b := by intro b hb; simp at hb; lia
  have up13 := (up1.trans up2).trans up3
  have F3 := mk (tk := tk) fl3 up13
  obtain ⟨oe, hoe, hoec⟩ := fl3.there
  refine wpAny_handleBy_builtin (X := "StopIteration") (T := "StopIteration") (b := true) (by rw [isSubtype_type]; kernel_rfl) (by first | (rw [isSubtype_type]; kernel_rfl) | kernel_rfl) (by rw [isSubtype_type]; kernel_rfl) ?_
  refine ldB G F3 hX2 (by walk_at "mem") ?_ (by walk_at "u") (by walk_at "u") (by walk_at "u") (by walk_at "u") (by decide +kernel)
  refine ⟨rfl, ⟨oe, hoe, hoec⟩, ?_⟩
  refine ifT ?_
  refine lands_againW fl3 fun h4 fl4 up4 => ?_
  have F4 := mk (tk := tk) fl4 (up13.trans up4)
  walk_at "as"
  walk_at "es"
  walk_at "st"
  rename_i s5 F5 _
  rw [show (64 : Int) ^ Int.toNat 6 - 1 = 68719476735 from by decide] at F5
  try walk_at "nx"
  exact wpAny_execs_nil (hQ _ _ F5)
end
section
open PySem PySem.W PySem.Calls PyProof.Rows PySem.Spec
set_option maxHeartbeats 4000000
variable {H : Heap} {w : World} {A : Around} {E : Value → Shared → Prop} {s s₀ : Shared} {X : List Nat} {L : Nat} {l : List (Str × Value)} {news : List (Nat × Obj)} {cd : Value}
noncomputable def partOf (N size : Int) : Int := N * (68719476735 : Int).fdiv (64 ^ size.toNat - 1)
noncomputable def levelOf (size : Int) : Int := 2 * size * 22906492245
noncomputable def shareOf (h : Int) : Int := 1 + (h.fdiv 81).fmod 2
noncomputable def hArg (part i : Int) : UInt64 := Float64.add (divF part 68719476735) (Float64.ofInt i)
noncomputable def sArg (share : Int) : UInt64 := divF share 2
noncomputable def roundN : Num → UInt64
  | .i n => Float64.add (Float64.ofInt n) chalf
  | .f x => Float64.add x chalf
noncomputable def hueP (part share size : Int) : UInt64 := hueOf (dueAt part 22906492245 share size 0) (dueAt part 22906492245 share size 22906492245) (dueAt part 22906492245 share size (2 * 22906492245)) (levelOf size) (size * share * 22906492245)
noncomputable def backOf (hue : UInt64) : UInt64 := Float64.add (Float64.mul hue (Float64.ofInt 68719476735)) chalf
/-- what the floats of one word do -/
structure PaintOk (part i share size : Int) : Prop where
  pb : 0 ≤ part ∧ part < 68719476735
  fits : ∀ n, Num.i n ∈ paintOf (hArg part i) (sArg share) (levelOf size) → FitsF n
  s0 : (Float64.cmp (sArg share) 0 == some Ordering.eq) = false
  hy : Float64.isFinite (Float64.mul (hArg part i) c6) = true
  hi : FitsF (sixthOf (hArg part i))
  hp : FitsF i
  hv : FitsF (levelOf size)
  fin : ∀ x ∈ paintOf (hArg part i) (sArg share) (levelOf size), Float64.isFinite (roundN x) = true
  ok : (paintOf (hArg part i) (sArg share) (levelOf size)).map (fun x => truncF (roundN x)) = dueOf part 22906492245 share size
  mx : max (dueAt part 22906492245 share size 0) (max (dueAt part 22906492245 share size 22906492245) (dueAt part 22906492245 share size (2 * 22906492245))) = levelOf size
  mn : levelOf size - min (dueAt part 22906492245 share size 0) (min (dueAt part 22906492245 share size 22906492245) (dueAt part 22906492245 share size (2 * 22906492245))) = size * share * 22906492245
  pos : 0 ≤ dueAt part 22906492245 share size 0 ∧ 0 ≤ dueAt part 22906492245 share size 22906492245 ∧ 0 ≤ dueAt part 22906492245 share size (2 * 22906492245)
  w : FitsF 68719476735
  bfin : Float64.isFinite (backOf (hueP part share size)) = true
  back : truncF (backOf (hueP part share size)) = part
  sh : (Float64.cmp (divF (size * share * 22906492245) (levelOf size)) (sArg share) == some Ordering.eq) = true
theorem numsAt {ns : List Num} {vs : List Value} (h : NumsAre ns vs) : ∀ {i : Nat} {v : Value}, vs[i]? = some v → ∃ x, ns[i]? = some x ∧ x.is v := by
  induction h with
  | nil => intro i v e; simp at e
  | cons h _ ih =>
    intro i v e
    cases i with
    | zero => simp at e; exact ⟨_, rfl, e ▸ h⟩
    | succ i => simp at e; obtain ⟨x, e1, e2⟩ := ih e; exact ⟨x, by simpa using e1, e2⟩
theorem NumsAre.length {ns : List Num} {vs : List Value} (h : NumsAre ns vs) : vs.length = ns.length := by
  induction h with
  | nil => rfl
  | cons _ _ ih => simp [ih]
theorem big1023 {n : Int} (h0 : 0 ≤ n) (h1 : n < 2 ^ 60) : n.natAbs < 2 ^ 1023 := Nat.lt_of_lt_of_le (show n.natAbs < 2 ^ 60 by lia) (Nat.pow_le_pow_right (by decide) (by decide))
noncomputable def turnBody : List Stmt := match lawStmt 16 with | .For _ _ b _ _ => b | _ => []
theorem eqTrue {A : Around} {s : Shared} {a b : Value} {k : Bool} (h : SeqAt.EqAt A s a b k) (e : k = true) : SeqAt.EqAt A s a b true := e ▸ h
/-- d.append(e), d a cell -/
theorem kAppendC {env : Env} {x : Str} {p apos pos : Pos} {elt : Expr} {a c : Nat} {vs : List Value} {n : Nat} {Q : Value → Shared → Prop} (F : Fm s₀ X L l news s) (hc : env.cells.lookup x = some c) (hI : s.heap.IsCell c (some (.ref a))) (hm : (a, lo vs n) ∈ news)
    (h : wpAny (model prog w) A (eval elt env) (fun y s₂ => wpAny (model prog w) A (call (.builtin "list.append") [.ref a, y]) Q E s₂) E s)
    (hl : env.kindOf x = some .cell) (hk : env.scope.kind = .function) (hd : (x == ("__debug__" : Str)) = false)
    (hbase : attributeBase (.Name x p) "append" env (eval (.Name x p) env) = eval (.Name x p) env)
    (hfew : ((backTo pos (starEach [elt] env)).all (fun x => !x.1) && (backToKw pos (keywordEach [] env)).all (fun x => x.1.isSome)
      && decide (([elt] : List Expr).length + ([] : List Keyword).length + (if ([] : List Keyword).isEmpty then 0 else 1) < 30)) = true)
    (hline : (apos.endLine == pos.line) = true)
    (htrees : backTo pos (starEach [elt] env) = [(false, eval elt env)]) :
    wpAny (model prog w) A (eval (.Call (.Attribute (.Name x p) "append" apos) [elt] [] pos) env) Q E s :=
  wpAny_Call_append hbase hfew hline htrees (ldC hc hI ⟨a, _, rfl, ⟨_, n, F.objs _ hm, rfl, rfl, rfl⟩, h⟩ hl hk hd)
theorem sz_facts {size share : Int} (hz : 1 ≤ size ∧ size ≤ 3) (hs : 1 ≤ share ∧ share ≤ 2) : 0 < size * share * 22906492245 ∧ 0 < levelOf size ∧ levelOf size < 2 ^ 60 := by
  have h1 : size = 1 ∨ size = 2 ∨ size = 3 := by lia
  have h2 : share = 1 ∨ share = 2 := by lia
  rcases h1 with rfl | rfl | rfl <;> rcases h2 with rfl | rfl <;> decide
theorem h64_facts {n : Nat} (h1 : 1 ≤ n) (h3 : n ≤ 3) : (64 : Int) ^ ((n : Nat) : Int).toNat - 1 ≠ 0 ∧ ((64 : Int) ^ ((n : Nat) : Int).toNat - 1).natAbs < 1073741824 ∧ (64 : Int) ^ n ≤ 262144 := by
  have : n = 1 ∨ n = 2 ∨ n = 3 := by lia
  rcases this with e | e | e <;> rw [e] <;> decide
theorem share_facts (h : Int) : 1 ≤ shareOf h ∧ shareOf h ≤ 2 := by
  have a := Int.fmod_nonneg_of_pos (h.fdiv 81) (show (0 : Int) < 2 by decide)
  have b := Int.fmod_lt_of_pos (h.fdiv 81) (show (0 : Int) < 2 by decide)
  unfold shareOf; lia
/-- one word's colour -/
theorem law_turn {P U aH aW i n1 n2 : Nat} {ps us vH vW : List Value} {hs : List Int} {ws : List (List Int)} {c : List Int} {N h : Int} {tw tp tn : Tok} {Q : Flow → Shared → Prop} (hA : A.depth < 880) (hh : A.handled = none) (hu : A.units + 64 < cLine) (G : GL H s₀.heap) (hX : ∀ b ∈ [L, P, U], 138 ≤ b)
    (F : Fm s₀ [L, P, U] L l [(P, lo ps n1), (U, lo us n2)] s) (hi4 : i < 4) (hpl : ps.length = i) (hul : us.length = i)
    (hcW : s₀.heap.IsCell (L + 2) (some (.ref aW))) (hlW : s₀.heap.IsList aW vW.toArray) (hW : ListsOf s₀.heap vW ws) (hci : ws[i]? = some c) (hc1 : 1 ≤ c.length) (hc3 : c.length ≤ 3)
    (hlH : s₀.heap.IsList aH vH.toArray) (hH : Heaps vH hs) (hhi : hs[i]? = some h) (hcU : s₀.heap.IsCell (L + 5) (some (.ref U)))
    (hPU : P ≠ U) (hLP : L + 5 < P) (hLU : L + 5 < U) (hOld : aW ≠ P ∧ aW ≠ U ∧ aW ≠ L ∧ aH ≠ P ∧ aH ≠ U ∧ aH ≠ L) (hdW : ∀ (j d : Nat), vW[j]? = some (.ref d) → d ≠ P ∧ d ≠ U ∧ d ≠ L)
    (k1 : lk l (Str.ofString "number") = some (.int N tn)) (k2 : lk l (Str.ofString "place") = some (.int (i : Nat) tp)) (k3 : lk l (Str.ofString "whole") = some (.int 68719476735 tw)) (k4 : lk l (Str.ofString "heaps") = some (.ref aH)) (k5 : lk l (Str.ofString "parts") = some (.ref P))
    (hN : 0 ≤ N ∧ N < 64 ^ c.length) (ok : PaintOk (partOf N c.length) i (shareOf h) c.length)
    (hQ : ∀ l' n1 n2 t1 t2 s', Fm s₀ [L, P, U] L l' [(P, lo (ps ++ [.int (partOf N c.length) t1]) n1), (U, lo (us ++ [.float (hueP (partOf N c.length) (shareOf h) c.length) t2]) n2)] s' →
      lk l' (Str.ofString "whole") = some (.int 68719476735 tw) → lk l' (Str.ofString "heaps") = some (.ref aH) → lk l' (Str.ofString "parts") = some (.ref P) → Q .next s') :
    wpAny (model prog w) A (execs turnBody (lawEnv L cd)) Q E s := by
  walk_at "as"
  walk_at "es"
  obtain ⟨d, vs, hv1, hdl, hdi⟩ := hW.2 i c hci
  have hds : d < s₀.heap.objs.size := exLt hdl
  have hi' : ((i : Nat) : Int).toNat = i := Int.toNat_natCast i
  have K0 : Kp [L, P, U] s₀ s := F.kp
  have hcx : ∀ k, 0 < k → k < 6 → L + k ∉ [L, P, U] := by intro k h1 h2; simp; lia
  have hlW1 : ∀ {l' : List (Str × Value)} {news' s'}, Fm s₀ [L, P, U] L l' news' s' → s'.heap.IsList aW vW.toArray := fun F' => lkp hlW F'.kp (by simp; exact ⟨hOld.2.2.1, hOld.1, hOld.2.1⟩)
  have hlH1 : ∀ {l' : List (Str × Value)} {news' s'}, Fm s₀ [L, P, U] L l' news' s' → s'.heap.IsList aH vH.toArray := fun F' => lkp hlH F'.kp (by simp; exact ⟨hOld.2.2.2.2.2, hOld.2.2.2.1, hOld.2.2.2.2.1⟩)
  have h64 := h64_facts hc1 hc3
  refine ldC (c := L + 2) (by walk_at "u") (ckp hcW K0 (hcx 2 (by decide) (by decide))) ?_ (by walk_at "u") (by walk_at "u") (by decide +kernel)
  walk_at "es"
  refine tailL (hlW1 (by assumption)) (by lia) (by lia) (by rw [hi']; exact hv1) ?_ (by walk_at "u")
  walk_at "es"
  refine kLen (by assumption) (lkp hdl (Fm.kp (by assumption)) ?_) (by rw [hdi.length]; lia) fun _ _ _ => ?_
  · have := hdW i d hv1; simp; exact ⟨this.2.2, this.1, this.2.1⟩
  rw [hdi.length]
  walk_at "sg"
  walk_at "as"
  walk_at "es"
  obtain ⟨th, hth⟩ := hH.vals.get i h hhi
  refine tailL (hlH1 (by assumption)) (by lia) (by lia) (by rw [hi']; exact hth) ?_ (by walk_at "u")
  walk_at "es"
  rw [show 1 + (h.fdiv 81).fmod 2 = shareOf h from rfl]
  walk_at "sg"
  walk_at "ex"
  refine wpAny_Expr ?_
  walk_at "es"
  refine appendL (by assumption) (by simp) (by simpa using Ne.symm hPU) (by rw [hpl]; simp [sizeLine]; lia) fun s₇ F7 => ?_
  have hsh := share_facts h
  have e3 : (68719476735 : Int).fdiv 3 = 22906492245 := by decide
  rw [show N * (68719476735 : Int).fdiv (64 ^ ((c.length : Nat) : Int).toNat - 1) = partOf N c.length from rfl] at F7
  generalize hvp : Value.int (partOf N c.length) _ = vp at F7
  have hlast : (ps ++ [vp]).getLast? = some vp := by simp
  have hvp' : ∃ t, vp = .int (partOf N c.length) t := ⟨_, hvp.symm⟩
  clear hvp
  obtain ⟨tq, rfl⟩ := hvp'
  generalize partOf N c.length = part at *
  generalize shareOf h = share at *
  have hz : (1 : Int) ≤ ((c.length : Nat) : Int) ∧ ((c.length : Nat) : Int) ≤ 3 := by lia
  generalize ((c.length : Nat) : Int) = size at *
  walk_at "as"
  walk_at "es"
  rw [e3]
  walk_at "es"
  walk_at "sg"
  walk_at "as"
  walk_at "es"
  refine tailLast (Fm.isList (by assumption) (List.Mem.head _)) hlast ?_ (by walk_at "u")
  walk_at "es"
  rw [e3]
  walk_at "es"
  refine ⟨Fm.kp (by assumption), ?_⟩
  rename_i s₈ F8
  refine paint_spec (by lia) hh (G.keptX F8.kp hX) (by decide) hsh.1 hsh.2 hz.1 hz.2 fun Du dv nd s₉ hdv hDu hDn K9 => ?_
  have F9 := (F8.kept K9).more hDu (a := Du) (by have := F8.lt; show Du ≠ L; have h1 : L < s₈.heap.objs.size := this; lia)
  walk_at "sg"
  have hw0 : (68719476735 : Int) ≠ 0 := by decide
  have hpb := big1023 ok.pb.1 (by have := ok.pb.2; lia)
  have hsb := big1023 (n := share) (by lia) (by lia)
  have h20 : (2 : Int) ≠ 0 := by decide
  have hpi := ok.hp
  walk_at "as"
  walk_at "es"
  refine tailLast (Fm.isList (by assumption) (List.Mem.tail _ (List.Mem.head _))) hlast ?_ (by walk_at "u")
  walk_at "es"
  refine ⟨Fm.kp (by assumption), ?_⟩
  rename_i s₁₀ F10
  refine hsv_spec (h := hArg part i) (sx := sArg share) (v := levelOf size) (by lia) (G.keptX F10.kp hX) ok.s0 ok.hy ok.hi ok.hv fun Pa pv s₁₁ hpv hPa hPan K11 => ?_
  have F11 := (F10.kept K11).more hPa (a := Pa) (by have h1 : L < s₁₀.heap.objs.size := F10.lt; show Pa ≠ L; lia)
  have hPaP : Pa ≠ P ∧ Pa ≠ U := by
    have h1 : P < s₁₀.heap.objs.size := F10.ltN (p := (P, _)) (List.Mem.tail _ (List.Mem.head _))
    have h2 : U < s₁₀.heap.objs.size := F10.ltN (p := (U, _)) (List.Mem.tail _ (List.Mem.tail _ (List.Mem.head _)))
    lia
  walk_at "sg"
  rename_i s₁₂ F12 _
  walk_at "ex"
  refine wpAny_If ?_
  refine' wpAny_isTrue_Compare1 ?_ ?hs
  (case hs => kernel_rfl!)
  have F12b := F12.rebase []
  refine compV (cl := []) s₁₂ [] (by walk_at "u") (by walk_at "u") (by decide +kernel) (by decide +kernel) ?_ (by intro _; rfl)
  walk_at "es"
  have hT12 : s₁₂.heap.IsTuple Pa pv.toArray := F12.isTuple (List.Mem.head _)
  have hPs : Pa < s₁₂.heap.objs.size := exLt hT12
  have hpl3 := hpv.length
  have hG12 := G.keptX F12.kp hX
  have hGs12 := hG12.size
  refine iterG (makesT hT12) .refl (by simp) fun I D C s₁₃ hIs hID hDC hI hD hC hit F13 k13 => ?_
  have hT13 : s₁₃.heap.IsTuple Pa pv.toArray := exMv hT12 (k13 _)
  have hne : (Pa : Nat) ≠ I := by lia
  have hpol : (paintOf (hArg part i) (sArg share) (levelOf size)).length ≤ 3 := by
    have := congrArg List.length ok.ok
    simp [dueOf] at this
    lia
  refine compE (env := lawEnv L cd) (Walks.tuple hh I Pa hne pv.toArray) F13 ⟨⟨_, hit, rfl, rfl⟩, hT13⟩ (by intro b hb; simp at hb ⊢; lia) hI (by lia) (by simp [sizeLine]; lia)
    (fun j zs objs => objs = [] ∧ IntsAre zs (((paintOf (hArg part i) (sArg share) (levelOf size)).take j).map fun x => truncF (roundN x))) ⟨rfl, by simpa using IntsAre.nil⟩ ?_ ?_ (by walk_at "u") (by walk_at "u") (fun _ _ x => let ⟨⟨_, ho, _⟩, _⟩ := x; Heap.lt_size ho)
  · rintro j v s₁₄ l₁ zs k objs E' hlt hv ⟨rfl, hzs⟩ hzl F14 K14 _ _
    obtain ⟨x, hx, hxv⟩ := numsAt hpv (i := j) (v := v) (by simpa using hv)
    have hxm := List.mem_of_getElem? hx
    have hfin := ok.fin x hxm
    have hG14 := hG12.keptX K14 (by intro b hb; simp at hb; lia)
    have hX14 : ∀ b ∈ [C, D], 138 ≤ b := by intro b hb; simp at hb; lia
    have hend : ∀ t s', Fm s₁₄ [C, D] C ((Str.ofString "one", v) :: l₁) [(D, lo zs k)] s' → ∃ objs', Fm s₁₄ [C, D] C ((Str.ofString "one", v) :: l₁) ((D, lo zs k) :: objs') s' ∧ (∀ p ∈ objs', p.1 ≠ D ∧ p.1 ≠ I) ∧ objs' = [] ∧ IntsAre (zs ++ [.int (truncF (roundN x)) t]) (((paintOf (hArg part i) (sArg share) (levelOf size)).take (j + 1)).map fun x => truncF (roundN x)) := by
      intro t s' F'
      refine ⟨[], F', by simp, rfl, ?_⟩
      rw [List.take_add_one, hx, List.map_append]
      exact ints_snoc hzs _ _
    cases x with
    | i n =>
      obtain ⟨tx, rfl⟩ := hxv
      have hfn := ok.fits n hxm
      walk_at "es"
      exact hend _ _ (by assumption)
    | f y =>
      obtain ⟨tx, rfl⟩ := hxv
      walk_at "es"
      exact hend _ _ (by assumption)
  · rintro l₁ zs k objs s₁₄ ⟨rfl, hzs⟩ hzl F14
    have e9 : ((paintOf (hArg part i) (sArg share) (levelOf size)).take pv.toArray.size).map (fun x => truncF (roundN x)) = dueOf part 22906492245 share size := by
      rw [List.take_of_length_le (by simp [hpl3]), ok.ok]
    rw [e9] at hzs
    refine ⟨rfl, zs, k, l₁, [], F14, fun s₁₅ K15 h15 _ => ?_⟩
    have F15 := F12.after K15
    dsimp only
    walk_at "es"
    refine ne_intsK ⟨_, h15, rfl, k, rfl⟩ hzs (F15.isList (List.Mem.tail _ (List.Mem.head _))) hdv hu ?_
    rw [show (!decide (dueOf part 22906492245 share size = dueOf part 22906492245 share size)) = false by simp]
    walk_at "es"
    walk_at "nil"
    have Gz : GL H s₀.heap := G
    obtain ⟨q0, hq0⟩ := hdv.get 0 (dueAt part 22906492245 share size 0) rfl
    obtain ⟨q1, hq1⟩ := hdv.get 1 (dueAt part 22906492245 share size 22906492245) rfl
    obtain ⟨q2, hq2⟩ := hdv.get 2 (dueAt part 22906492245 share size (2 * 22906492245)) rfl
    walk_at "as"
    walk_at "es"
    refine tailL (Fm.isList (by assumption) (List.Mem.tail _ (List.Mem.head _))) (by decide) (by decide) hq0 ?_ (by walk_at "u")
    walk_at "es"
    refine tailL (Fm.isList (by assumption) (List.Mem.tail _ (List.Mem.head _))) (by decide) (by decide) hq1 ?_ (by walk_at "u")
    walk_at "es"
    refine tailL (Fm.isList (by assumption) (List.Mem.tail _ (List.Mem.head _))) (by decide) (by decide) hq2 ?_ (by walk_at "u")
    walk_at "es"
    refine ⟨Fm.kp (by assumption), ?_⟩
    rename_i s₁₆ F16
    have hsz0 := sz_facts hz hsh
    refine rgb_spec (M := levelOf size) (D := size * share * 22906492245) (by lia) hh (G.keptX F16.kp hX) ok.mx ok.mn hsz0.1 hsz0.2.1 ok.pos.1 ok.pos.2.1 ok.pos.2.2 hsz0.2.2 fun Ta tv s₁₇ htv htok hTa hTan K17 => ?_
    have F17 := (F16.kept K17).more hTa (a := Ta) (by have h1 : L < s₁₆.heap.objs.size := F16.lt; show Ta ≠ L; lia)
    walk_at "sg"
    rename_i s₁₈ F18 _
    cases htv with
    | cons h1 htv =>
    cases htv with
    | cons h2 htv =>
    cases htv with
    | cons h3 htv =>
    cases htv
    obtain ⟨z1, rfl⟩ := h1
    obtain ⟨z2, rfl⟩ := h2
    obtain ⟨z3, rfl⟩ := h3
    obtain ⟨z4, hz4, hz40⟩ := htok
    obtain rfl : z2 = z4 := by simpa using hz4
    have hwf := ok.w
    have hbf := ok.bfin
    walk_at "ex"
    refine wpAny_If ?_
    refine' wpAny_isTrue_Compare1 ?_ ?hs
    (case hs => kernel_rfl!)
    walk_at "es"
    refine tailT (Fm.isTuple (by assumption) (List.Mem.head _)) (by decide) (by decide) rfl ?_ (by walk_at "u")
    walk_at "es"
    refine tailT (Fm.isTuple (by assumption) (List.Mem.head _)) (by decide) (by decide) rfl ?_ (by walk_at "u")
    walk_at "es"
    refine tailT (Fm.isTuple (by assumption) (List.Mem.head _)) (by decide) (by decide) rfl ?_ (by walk_at "u")
    walk_at "es"
    refine mkT (by assumption) (by simp [sizeLine]) fun T1 s₂₀ hT1 hLT1 _ F20 => ?_
    walk_at "es"
    refine tailLast (Fm.isList (by assumption) (List.Mem.tail _ (List.Mem.tail _ (List.Mem.tail _ (List.Mem.tail _ (List.Mem.head _)))))) hlast ?_ (by walk_at "u")
    walk_at "es2"
    refine mkT (by assumption) (by simp [sizeLine]) fun T2 s₂₁ hT2 hLT2 _ F21 => ?_
    rename_i hta _ _
    obtain ⟨mc, hn1, hn2⟩ := (G.keptX F21.kp hX).told
    refine PySem.EqBoolInt.of_rcne (k := false) (SeqAt.RcNeAt.tuples (e := fun _ => true) (F21.isTuple (List.Mem.tail _ (List.Mem.head _))) (F21.isTuple (List.Mem.head _)) (by lia) ?_) ?_
    · intro j j1 j2
      have hj : j = 0 ∨ j = 1 ∨ j = 2 := by simp at j1; lia
      rcases hj with rfl | rfl | rfl
      · exact eqTrue (SeqAt.EqAt.int_int _ _ _ _) (beq_iff_eq.mpr ok.back)
      · exact eqF hn1 hn2 hz40 hta ok.sh
      · exact eqTrue (SeqAt.EqAt.int_int _ _ _ _) (beq_iff_eq.mpr rfl)
    walk_at "es"
    walk_at "nil"
    have F21' := F21.sub (news' := [(Ta, tu [.float (hueP part share size) z1, .float (divF (size * share * 22906492245) (levelOf size)) z2, .int (levelOf size) z3]), (P, lo (ps ++ [.int part tq]) (n1 + 1)), (U, lo us n2)]) (by
      intro p hp
      simp only [List.mem_cons, List.not_mem_nil, or_false] at hp
      rcases hp with rfl | rfl | rfl <;> walk_at "mem")
    walk_at "ex"
    refine wpAny_Expr ?_
    refine kAppendC (c := L + 5) (a := U) F21' (by walk_at "u") (ckp hcU F21.kp (hcx 5 (by decide) (by decide))) (List.Mem.tail _ (List.Mem.tail _ (List.Mem.head _))) ?_ (by walk_at "u") (by walk_at "u") (by decide +kernel) (by walk_at "u") (by walk_at "u") (by rfl) (by walk_at "u")
    walk_at "es"
    refine tailT (Fm.isTuple (by assumption) (List.Mem.head _)) (by decide) (by decide) rfl ?_ (by walk_at "u")
    rename_i s₂₂ F22
    have F23 := F22.sub (news' := [(U, lo us n2), (P, lo (ps ++ [.int part tq]) (n1 + 1))]) (by intro p hp; simp only [List.mem_cons, List.not_mem_nil, or_false] at hp; rcases hp with rfl | rfl <;> walk_at "mem")
    refine appendL F23 (by simp) (by simpa using hPU) (by rw [hul]; simp [sizeLine]; lia) fun s₂₃ F24 => ?_
    try dsimp only
    walk_at "nx"
    walk_at "nil"
    refine hQ _ _ _ _ _ _ (F24.sub (by intro p hp; simp only [List.mem_cons, List.not_mem_nil, or_false] at hp; rcases hp with rfl | rfl <;> walk_at "mem")) (by walk_at "lk") (by walk_at "lk") (by walk_at "lk")
end
section
open PySem PySem.W PySem.Calls PyProof.Rows PySem.Spec
set_option maxHeartbeats 4000000
variable {H : Heap} {w : World} {A : Around} {E : Value → Shared → Prop} {s s₀ : Shared} {X : List Nat} {L : Nat} {l : List (Str × Value)} {news : List (Nat × Obj)} {cd : Value}
inductive FltsAre : List Value → List UInt64 → Prop
  | nil : FltsAre [] []
  | cons {x : UInt64} {t : Tok} {vs : List Value} {xs : List UInt64} : FltsAre vs xs → FltsAre (.float x t :: vs) (x :: xs)
theorem FltsAre.snoc {vs : List Value} {xs : List UInt64} (h : FltsAre vs xs) (x : UInt64) (t : Tok) : FltsAre (vs ++ [.float x t]) (xs ++ [x]) := by
  induction h with
  | nil => exact .cons .nil
  | cons _ ih => exact .cons ih
theorem FltsAre.length {vs : List Value} {xs : List UInt64} (h : FltsAre vs xs) : vs.length = xs.length := by
  induction h with
  | nil => rfl
  | cons _ ih => simp [ih]
theorem FltsAre.at {vs : List Value} {xs : List UInt64} (h : FltsAre vs xs) : ∀ {i : Nat} {x : UInt64}, xs[i]? = some x → ∃ t, vs[i]? = some (.float x t) := by
  induction h with
  | nil => intro i x e; simp at e
  | cons h ih =>
    intro i x e
    cases i with
    | zero => simp at e; exact ⟨_, by simp [e]; rfl⟩
    | succ i => simp at e; obtain ⟨t, ht⟩ := ih e; exact ⟨t, by simpa using ht⟩
noncomputable def partOfW (c : List Int) : Int := partOf (numOf c) c.length
noncomputable def partsOf (ws : List (List Int)) : List Int := ws.map partOfW
noncomputable def hueOfW (p : List Int × Int) : UInt64 := hueP (partOfW p.1) (shareOf p.2) p.1.length
noncomputable def huesOf (ws : List (List Int)) (hs : List Int) : List UInt64 := (ws.zip hs).map hueOfW
theorem listsKpX {s' : Shared} {vs : List Value} {rows : List (List Int)} (h : ListsOf s.heap vs rows) (k : Kp X s s') (hX : ∀ (j d : Nat), vs[j]? = some (.ref d) → d ∉ X) : ListsOf s'.heap vs rows :=
  h.mv fun i d _ h1 h2 => lkp h2 k (hX i d h1)
/-- parts and hues -/
theorem law_g14 {aH aW aN : Nat} {vH vW vN : List Value} {hs : List Int} {ws : List (List Int)} {o5 : Obj} {tw : Tok} {Q : Flow → Shared → Prop} (hA : A.depth < 880) (hh : A.handled = none) (hu : A.units + 64 < cLine) (G : GL H s.heap) (hL8 : 138 ≤ L)
    (F : Fm s [L, L + 5] L l [(L + 5, o5)] s) (ho5 : o5.data = .cell none) (hlH : s.heap.IsList aH vH.toArray) (hH : Heaps vH hs) (hkH : lk l (Str.ofString "heaps") = some (.ref aH))
    (hcW : s.heap.IsCell (L + 2) (some (.ref aW))) (hlW : s.heap.IsList aW vW.toArray) (hW : ListsOf s.heap vW ws) (hw4 : ws.length = 4) (hww : ∀ x ∈ ws, 1 ≤ x.length ∧ x.length ≤ 3 ∧ 0 ≤ numOf x ∧ numOf x < 64 ^ x.length)
    (hlN : s.heap.IsList aN vN.toArray) (hN : IntsAre vN (ws.map numOf)) (hkN : lk l (Str.ofString "numbers") = some (.ref aN)) (hkw : lk l (Str.ofString "whole") = some (.int 68719476735 tw))
    (hok : ∀ (i : Nat) (c : List Int) (h : Int), ws[i]? = some c → hs[i]? = some h → PaintOk (partOfW c) i (shareOf h) c.length)
    (hQ : ∀ (aP aU : Nat) vP vU l' o5 s', o5.data = .cell (some (.ref aU)) → s'.heap.IsList aP vP.toArray → IntsAre vP (partsOf ws) → s'.heap.IsList aU vU.toArray → FltsAre vU (huesOf ws hs) → lk l' (Str.ofString "parts") = some (.ref aP) →
      Fm s [L, L + 5] L l' [(L + 5, o5)] s' → LawFrom w A L cd 17 Q E s') :
    LawFrom w A L cd 14 Q E s := by
  have hX : ∀ b ∈ [L, L + 5], 138 ≤ b := by intro b hb; simp at hb; lia
  have hGs := G.size
  have hLs : L < s.heap.objs.size := F.lt
  have hcs : L + 5 < s.heap.objs.size := F.ltN (p := (L + 5, o5)) (List.Mem.head _)
  refine exL (by decide) ?_
  refine' wpAny_Assign_Name ?_ ?hs
  (case hs => kernel_rfl!)
  walk_at "es"
  refine mkL (by assumption) (by simp [sizeLine]) fun P s₁ hP hLP hnP F1 => ?_
  have hPs : s.heap.objs.size ≤ P := hP
  walk_at "st"
  rename_i s₂ F2 _
  dsimp only
  refine exL (by decide) ?_
  refine' wpAny_Assign_Name ?_ ?hs
  (case hs => kernel_rfl!)
  walk_at "es"
  refine mkL (by assumption) (by simp [sizeLine]) fun U s₃ hU hLU hnU F3 => ?_
  have hPU : P < U := hnU (P, lo [] 0) (List.Mem.head _)
  refine stCell (env := lawEnv L cd) (rest := [(U, lo [] 0), (P, lo [] 0)]) F3 (List.Mem.tail _ (List.Mem.tail _ (List.Mem.head _))) ho5 (by simp) ?_ (fun s₄ o4 ho4 F4 k4 => ?_) (by rw [cells17']; walk_at "u") (by walk_at "u") (by walk_at "u")
  · intro p hp
    simp at hp
    rcases hp with rfl | rfl
    · exact ⟨List.Mem.head _, by show U ≠ L + 5; lia⟩
    · exact ⟨List.Mem.tail _ (List.Mem.head _), by show P ≠ L + 5; lia⟩
  dsimp only
  refine exL (by decide) ?_
  refine wpAny_For ?_ (by intro _; rfl)
  have nsF := F.ns
  have lo5 : ∀ {a : Nat} {v : Array Value}, s.heap.IsList a v → a ≠ L ∧ a ≠ L + 5 ∧ a ≠ P ∧ a ≠ U ∧ a < s.heap.objs.size := by
    intro a v h
    have h1 := list_ne_ns h F.ns
    have h2 := list_ne_cell h ⟨_, F.objs (L + 5, o5) (List.Mem.head _), ho5⟩
    have h3 : a < s.heap.objs.size := exLt h
    exact ⟨h1, h2, by lia, by lia, h3⟩
  have keep4 : ∀ {a : Nat} {v : Array Value}, s.heap.IsList a v → s₄.heap.IsList a v := fun {a v} h => lkp h F4.kp (by have := lo5 h; simp; lia)
  have hlN4 := keep4 hlN
  walk_at "es"
  refine call_enumerate_list hlN4 fun h6 he6 hi6 hz6 k6 => ?_
  have F6 := F4.kept (s' := { s₄ with heap := h6 }) ⟨h6, s₄.toks, rfl, k6⟩
  walk_at "es"
  refine wpAny_pyIter_enum he6 ?_
  have hLz : L < s₄.heap.objs.size := F4.lt
  have hPz : P < s₄.heap.objs.size := F4.ltN (p := (P, lo [] 0)) (by simp)
  have hUz : U < s₄.heap.objs.size := F4.ltN (p := (U, lo [] 0)) (by simp)
  have hNz : aN < s₄.heap.objs.size := exLt hlN4
  have hNo := lo5 hlN
  have G4 := G.keptX F4.kp hX
  have FB : Fm s₄ [L, P, U] L ((Str.ofString "parts", .ref P) :: l) [(P, lo [] 0), (U, lo [] 0)] { s₄ with heap := h6 } := by
    refine ⟨⟨⟨h6, s₄.toks, rfl⟩, fun b o _ e => k6 b o e⟩, F6.ns, fun p hp => F6.objs p ?_, fun p hp => F6.off p ?_⟩
    · simp at hp ⊢; rcases hp with rfl | rfl <;> simp
    · simp at hp ⊢; rcases hp with rfl | rfl <;> simp
  have hpl : (partsOf ws).length = 4 := by simp [partsOf, hw4]
  have hhl : (huesOf ws hs).length = 4 := by simp [huesOf, hw4, hH.four]
  have hc4 : ∀ k : Nat, 0 < k → k < 5 → ∀ {v}, s.heap.IsCell (L + k) v → s₄.heap.IsCell (L + k) v := fun k h1 h2 v h => ckp h F4.kp (by simp; lia)
  have hdS : ∀ (j d : Nat), vW[j]? = some (.ref d) → d ≠ L ∧ d ≠ L + 5 ∧ d ≠ P ∧ d ≠ U := by
    intro j d hj
    obtain ⟨d', us, c, e1, _, h2, _⟩ := hW.get hj
    cases e1
    have := lo5 h2
    exact ⟨this.1, this.2.1, this.2.2.1, this.2.2.2.1⟩
  refine forEnum (env := lawEnv L cd) hh FB he6 hi6 (by obtain ⟨o, ho, r⟩ := hlN4; exact ⟨o, k6 _ _ ho, r⟩) (by lia) (by lia) (by lia)
    (by show s₄.heap.objs.size + 1 ∉ [L, P, U]; simp; lia) (by show s₄.heap.objs.size ∉ [L, P, U]; simp; lia) (by show aN ∉ [L, P, U]; simp; lia) (List.Mem.head _) (get_above (by lia)) (get_above (by lia))
    (fun i l₁ news₁ => ∃ ps us n1 n2, news₁ = [(P, lo ps n1), (U, lo us n2)] ∧ IntsAre ps ((partsOf ws).take i) ∧ FltsAre us ((huesOf ws hs).take i) ∧ lk l₁ (Str.ofString "whole") = some (.int 68719476735 tw) ∧ lk l₁ (Str.ofString "heaps") = some (.ref aH) ∧ lk l₁ (Str.ofString "parts") = some (.ref P)) ?_
    ⟨[], [], 0, 0, rfl, by simpa using IntsAre.nil, by simpa using FltsAre.nil, by walk_at "lk", by walk_at "lk", by walk_at "lk"⟩ ?_ ?_ (by walk_at "u") (by walk_at "u") (by walk_at "u")
  · rintro i l₁ news₁ ⟨ps, us, n1, n2, rfl, _⟩ p hp
    simp at hp
    rcases hp with rfl | rfl
    · exact ⟨by show P ≠ _; lia, by show P ≠ _; lia⟩
    · exact ⟨by show U ≠ _; lia, by show U ≠ _; lia⟩
  · rintro i v tk s₆ l₁ news₁ E' hv ⟨ps, us, n1, n2, rfl, hps, hus, hl1, hl2, hl3⟩ F7 K7
    obtain ⟨num, tn, hn1, rfl⟩ := intsAt hN (i := i) (v := v) (by simpa using hv)
    rw [List.getElem?_map] at hn1
    obtain ⟨c, hci, rfl⟩ := Option.map_eq_some_iff.mp hn1
    have hi4 : i < 4 := by have := (List.getElem?_eq_some_iff.mp hci).1; lia
    have hhi : hs[i]? = some (hs[i]'(by rw [hH.four]; exact hi4)) := List.getElem?_eq_getElem _
    have hwc := hww c (List.mem_of_getElem? hci)
    have hp1 : (partsOf ws)[i]? = some (partOfW c) := by unfold partsOf; rw [List.getElem?_map, hci]; rfl
    have hp2 : (huesOf ws hs)[i]? = some (hueOfW (c, hs[i]'(by rw [hH.four]; exact hi4))) := by
      unfold huesOf
      rw [List.getElem?_map, (List.getElem?_zip_eq_some (z := (c, hs[i]'(by rw [hH.four]; exact hi4)))).mpr ⟨hci, hhi⟩]; rfl
    have k64 : Kp [L, P, U] s₄ s₆ := K7
    have hX6 : ∀ b ∈ [L, P, U], 138 ≤ b := by intro b hb; simp at hb; lia
    have key : ∀ {a : Nat} {v : Array Value}, s.heap.IsList a v → s₆.heap.IsList a v := fun {a v} h => lkp (keep4 h) k64 (by have := lo5 h; simp; lia)
    have hHo := lo5 hlH
    have hWo := lo5 hlW
    have hWL : ListsOf s₆.heap vW ws := listsKpX (listsKpX hW F4.kp (fun j d hj => by have := hdS j d hj; simp; exact ⟨this.1, this.2.1⟩)) k64 (fun j d hj => by have := hdS j d hj; simp; exact ⟨this.1, this.2.2.1, this.2.2.2⟩)
    refine law_turn (i := i) (c := c) (N := numOf c) (h := hs[i]'(by rw [hH.four]; exact hi4)) hA hh hu (G4.keptX k64 hX6) hX6 F7 hi4 (by rw [hps.length]; simp; lia) (by rw [hus.length]; simp; lia) (ckp (hc4 2 (by decide) (by decide) hcW) k64 (by simp; lia)) (key hlW) hWL hci hwc.1 hwc.2.1
      (key hlH) hH hhi (ckp ⟨_, F4.objs (L + 5, o4) (List.Mem.head _), ho4⟩ k64 (by simp; lia)) (by lia) (by lia) (by lia) ⟨hWo.2.2.1, hWo.2.2.2.1, hWo.1, hHo.2.2.1, hHo.2.2.2.1, hHo.1⟩ (fun j d hj => by have := hdS j d hj; exact ⟨this.2.2.1, this.2.2.2, this.1⟩)
      (by walk_at "lk") (by walk_at "lk") (by walk_at "lk") (by walk_at "lk") (by walk_at "lk") hwc.2.2 (hok i c _ hci hhi) fun l' m1 m2 t1 t2 s₇ F8 q1 q2 q3 => ?_
    refine ⟨l', _, F8, _, _, _, _, rfl, ?_, ?_, q1, q2, q3⟩
    · rw [List.take_add_one, hp1]; exact ints_snoc hps _ _
    · rw [List.take_add_one, hp2]; exact hus.snoc _ _
  · rintro l₁ news₁ s₆ ⟨ps, us, n1, n2, rfl, hps, hus, hl1, hl2, hl3⟩ F7
    have hvs : vN.toArray.size = 4 := by simp [hN.length, hw4]
    rw [hvs] at hps hus
    rw [List.take_of_length_le (by lia)] at hps
    rw [List.take_of_length_le (by lia)] at hus
    dsimp only
    have kk : Kp [P, U, L, L + 5] s s₆ := (F4.kp.mono (by intro z hz; simp at hz ⊢; lia)).trans (F7.kp.mono (by intro z hz; simp at hz ⊢; lia))
    have hPn : s.heap.get? P = none := get_above hPs
    have hUn : s.heap.get? U = none := get_above (by lia)
    refine hQ P U ps us l₁ o4 s₆ ho4 (F7.isList (List.Mem.head _)) hps (F7.isList (List.Mem.tail _ (List.Mem.head _))) hus hl3 ⟨(kk.drop hPn).drop hUn, F7.ns, ?_, ?_⟩
    · intro p hp
      rw [List.mem_singleton.mp hp]
      exact F7.kp.keep _ _ (by simp; lia) (F4.objs _ (List.Mem.head _))
    · intro p hp
      rw [List.mem_singleton.mp hp]
      show L + 5 ≠ L; lia
end
section
open PySem PySem.W PySem.Calls PyProof.Rows PySem.Spec
set_option maxHeartbeats 4000000
variable {H : Heap} {w : World} {A : Around} {E : Value → Shared → Prop} {s s₀ : Shared} {X : List Nat} {L : Nat} {l : List (Str × Value)} {news : List (Nat × Obj)} {cd : Value}
noncomputable def ordC (a b c : Nat) : List (List Int) := if card3 (a : Int) b c = 3 then [[(a : Int), b, c, 6 - a - b - c]] else []
noncomputable def accC (a b c : Nat) : List (List Int) := (List.range c).flatMap (ordC a b)
noncomputable def accB (a b : Nat) : List (List Int) := (List.range b).flatMap fun b' => accC a b' 4
noncomputable def accA (a : Nat) : List (List Int) := (List.range a).flatMap fun a' => accB a' 4
theorem accC_succ (a b c : Nat) : accC a b (c + 1) = accC a b c ++ ordC a b c := by simp [accC, List.range_succ, List.flatMap_append]
theorem accB_succ (a b : Nat) : accB a (b + 1) = accB a b ++ accC a b 4 := by simp [accB, List.range_succ, List.flatMap_append]
theorem accA_succ (a : Nat) : accA (a + 1) = accA a ++ accB a 4 := by simp [accA, List.range_succ, List.flatMap_append]
theorem ordC_len (a b c : Nat) : (ordC a b c).length ≤ 1 := by unfold ordC; split <;> simp
theorem accC_len (a b : Nat) : ∀ c, (accC a b c).length ≤ c
  | 0 => by simp [accC]
  | c + 1 => by rw [accC_succ, List.length_append]; have := accC_len a b c; have := ordC_len a b c; lia
theorem accB_len (a : Nat) : ∀ b, (accB a b).length ≤ 4 * b
  | 0 => by simp [accB]
  | b + 1 => by rw [accB_succ, List.length_append]; have := accB_len a b; have := accC_len a b 4; lia
theorem accA_len : ∀ a, (accA a).length ≤ 16 * a
  | 0 => by simp [accA]
  | a + 1 => by rw [accA_succ, List.length_append]; have := accA_len a; have := accB_len a 4; lia
/-- lists that the ledger bears, all -/
noncomputable def LL (objs : List (Nat × Obj)) (vs : List Value) (rows : List (List Int)) : Prop := vs.length = rows.length ∧ ListsN objs vs rows rows.length
theorem LL.nil : LL [] [] [] := ⟨rfl, fun j c hj => absurd hj (by simp)⟩
theorem LL.snoc {objs : List (Nat × Obj)} {vs : List Value} {rows : List (List Int)} {d n : Nat} {us : List Value} {c : List Int} (h : LL objs vs rows) (hi : IntsAre us c) : LL ((d, lo us n) :: objs) (vs ++ [.ref d]) (rows ++ [c]) := by
  refine ⟨by simp [h.1], ?_⟩
  have h2 : ListsN objs vs (rows ++ [c]) rows.length := fun j c' hj hc => h.2 j c' hj (by rwa [List.getElem?_append_left hj] at hc)
  have := h2.snoc (d := d) (n := n) (us := us) h.1 (by simp) hi
  simpa using this
/-- the orders -/
theorem law_g17 {Q : Flow → Shared → Prop} (hA : A.depth < 880) (hh : A.handled = none) (G : GL H s.heap) (hL8 : 138 ≤ L) (F : Fm s [L] L l [] s)
    (hcode : ∃ (c : Nat) (o : Obj) (vs : Array Value), cd = .ref c ∧ s.heap.get? c = some o ∧ o.data = .fields vs)
    (hQ : ∀ (aO : Nat) vO l' s', s'.heap.IsList aO vO.toArray → ListsOf s'.heap vO (accA 4) → lk l' (Str.ofString "orders") = some (.ref aO) → (∀ y, y ≠ (Str.ofString "orders") → lk l' y = lk l y) →
      Fm s [L] L l' [] s' → LawFrom w A L cd 18 Q E s') :
    LawFrom w A L cd 17 Q E s := by
  obtain ⟨cc, oc, vc, rfl, hcc, hcv⟩ := hcode
  have hGs := G.size
  have hLs : L < s.heap.objs.size := F.lt
  have hccs : cc < s.heap.objs.size := Heap.lt_size hcc
  refine exL (by decide) ?_
  refine compU (env := lawEnv L (.ref cc)) (cl := []) s [] (by walk_at "u") (by walk_at "u") (by walk_at "u") (by decide +kernel) (by decide +kernel) F (List.Mem.head _) (by simp) (by simp) (by simp) ?_ (by walk_at "u") (by walk_at "u") (by intro _; rfl)
  have hX0 : ∀ b ∈ ([] : List Nat), 138 ≤ b := by simp
  have F0 := F.rebase []
  walk_at "es"
  refine kRange1 (by assumption) fun r u v s₁ hr hLr hnr F1 _ => ?_
  refine iterG (makesR (F1.objs _ (List.Mem.head _)) (by decide) (by decide) (by decide)) F1.kp (by simp) fun I D C s₃ hIs hID hDC hI hD hC hit F3 k3 => ?_
  have hrI : r < I := Nat.lt_of_lt_of_le (F1.ltN (p := (r, _)) (List.Mem.head _)) hIs
  have hcD : cc ≠ D := fun q => by rw [q, hD] at hcc; cases hcc
  have hcC : cc ≠ C := fun q => by rw [q, hC] at hcc; cases hcc
  refine compStartG (i := 0) rfl (Walks.range hh I 0 1 4) hit (compWalkN (env := compEnvC _ _ C (lawEnv L (.ref cc))) rfl rfl (Walks.range hh I 0 1 4) F3 hit (by intro b hb; simp at hb ⊢; lia) (by intro b hb; rw [List.mem_singleton.mp hb]; exact hI) (List.Mem.head _)
    (fun i l₁ news₁ => ∃ vs k objs, news₁ = (D, lo vs k) :: objs ∧ LL objs vs (accA i) ∧ ∀ p ∈ objs, C < p.1) ?_ ⟨[], 0, [], rfl, LL.nil, by simp⟩ ?_ ?_ (by walk_at "u") (by walk_at "u") (by intro _; rfl))
  · rintro i l₁ news₁ ⟨vs, k, objs, rfl, _, ho⟩ p hp
    rcases List.mem_cons.mp hp with rfl | hp
    · simp; lia
    · have := ho p hp; simp; lia
  · rintro i v s₄ l₁ news₁ E' hlt ⟨ta, rfl⟩ ⟨vs, k, objs, rfl, hLL, hno⟩ F4 K4 hst4
    rw [show (0 : Int) + (i : Int) * 1 = i by lia] at F4
    have hX4 : ∀ b ∈ [C, D], 138 ≤ b := by intro b hb; simp at hb; lia
    have G4 := G.keptX K4 hX4
    have hC4 : C < s₄.heap.objs.size := F4.lt
    have hD4 : D < s₄.heap.objs.size := F4.ltN (p := (D, lo vs k)) (List.Mem.head _)
    have hcc4 := K4.keep _ _ (by simp [hcD, hcC]) hcc
    walk_at "es"
    refine kRange1 (by assumption) fun r2 u2 v2 s₅ hr2 hLr2 hnr2 F5 _ => ?_
    have hCr2 : C < r2 := hLr2
    have hDr2 : D < r2 := hnr2 (D, lo vs k) (by first | exact List.Mem.head _ | simp)
    have hor2 : ∀ p ∈ objs, p.1 < r2 := fun p hp => hnr2 p (List.Mem.tail _ hp)
    have h5s : r2 < s₅.heap.objs.size := F5.ltN (p := (r2, _)) (List.Mem.head _)
    have hI2 : s₄.heap.get? s₅.heap.objs.size = none := F5.sizeNew (by intro b hb; simp at hb; lia)
    refine (makesR (w := w) (A := A) (F5.objs (r2, _) (List.Mem.head _)) (by decide) (by decide) (by decide)).2 _ _ ?_
    have F6 := (F5.push (riO 0 (4 - 0))).sub (news' := (D, lo vs k) :: objs) (fun p hp => List.Mem.tail _ hp)
    generalize hI2e : s₅.heap.objs.size = I2 at *
    refine compStartG (i := 0) rfl (Walks.range hh I2 0 1 4) (by rw [← hI2e]; exact Heap.get?_push_size _ rfl) (compWalkN (env := compEnvC _ _ C (lawEnv L (.ref cc))) rfl rfl (Walks.range hh I2 0 1 4) F6 (by rw [← hI2e]; exact Heap.get?_push_size _ rfl) (by intro b hb; simp at hb ⊢; lia) (by intro b hb; rw [List.mem_singleton.mp hb]; exact hI2) (List.Mem.head _)
      (fun j l₁ news₁ => ∃ vs k objs ta, news₁ = (D, lo vs k) :: objs ∧ LL objs vs (accA i ++ accB i j) ∧ lk l₁ (Str.ofString "a") = some (.int (i : Int) ta) ∧ ∀ p ∈ objs, C < p.1 ∧ p.1 ≠ I2) ?_ ⟨vs, k, objs, ta, rfl, by simpa [accB] using hLL, lk_hit, fun p hp => ⟨hno p hp, by have := hor2 p hp; lia⟩⟩ ?_ ?_ (by walk_at "u") (by walk_at "u") (by intro _; rfl))
    · rintro j l₂ news₂ ⟨vs, k, objs, ta, rfl, _, _, ho⟩ p hp
      rcases List.mem_cons.mp hp with rfl | hp
      · simp; lia
      · have := ho p hp; simp; lia
    · rintro j v s₆ l₂ news₂ E2 hlt2 ⟨tb, rfl⟩ ⟨vs, k, objs, ta, rfl, hLL, hla, hno2⟩ F7 K7 hst6
      rw [show (0 : Int) + (j : Int) * 1 = j by lia] at F7
      have G6 := G4.keptX K7 hX4
      have hC6 : C < s₆.heap.objs.size := F7.lt
      have hcc6 := K7.keep _ _ (by simp [hcD, hcC]) hcc4
      have hI26 : I2 < s₆.heap.objs.size := Heap.lt_size hst6
      walk_at "es"
      refine kRange1 (by assumption) fun r3 u3 v3 s₇ hr3 hLr3 hnr3 F8 _ => ?_
      have hCr3 : C < r3 := hLr3
      have hDr3 : D < r3 := hnr3 (D, lo vs k) (by first | exact List.Mem.head _ | simp)
      have hor3 : ∀ p ∈ objs, p.1 < r3 := fun p hp => hnr3 p (List.Mem.tail _ hp)
      have h7s : r3 < s₇.heap.objs.size := F8.ltN (p := (r3, _)) (List.Mem.head _)
      have hI3 : s₆.heap.get? s₇.heap.objs.size = none := F8.sizeNew (by intro b hb; simp at hb; lia)
      refine (makesR (w := w) (A := A) (F8.objs (r3, _) (List.Mem.head _)) (by decide) (by decide) (by decide)).2 _ _ ?_
      have F9 := (F8.push (riO 0 (4 - 0))).sub (news' := (D, lo vs k) :: objs) (fun p hp => List.Mem.tail _ hp)
      generalize hI3e : s₇.heap.objs.size = I3 at *
      refine compStartG (i := 0) rfl (Walks.range hh I3 0 1 4) (by rw [← hI3e]; exact Heap.get?_push_size _ rfl) (compWalkT (env := compEnvC _ _ C (lawEnv L (.ref cc))) rfl rfl (Walks.range hh I3 0 1 4) F9 (by rw [← hI3e]; exact Heap.get?_push_size _ rfl) (by intro b hb; simp at hb ⊢; lia) (by intro b hb; rw [List.mem_singleton.mp hb]; exact hI3) (List.Mem.head _)
        (fun m l₁ news₁ => ∃ vs k objs ta tb, news₁ = (D, lo vs k) :: objs ∧ LL objs vs (accA i ++ accB i j ++ accC i j m) ∧ lk l₁ (Str.ofString "a") = some (.int (i : Int) ta) ∧ lk l₁ (Str.ofString "b") = some (.int (j : Int) tb) ∧ ∀ p ∈ objs, C < p.1 ∧ p.1 ≠ I2 ∧ p.1 ≠ I3) ?_
        ⟨vs, k, objs, ta, tb, rfl, by simpa [accC] using hLL, by walk_at "lk", lk_hit, fun p hp => ⟨(hno2 p hp).1, (hno2 p hp).2, by have := hor3 p hp; lia⟩⟩ ?_ ?_ (by walk_at "u") (by walk_at "u"))
      · rintro m l₃ news₃ ⟨vs, k, objs, ta, tb, rfl, _, _, _, ho⟩ p hp
        rcases List.mem_cons.mp hp with rfl | hp
        · simp; lia
        · have := ho p hp; simp; lia
      · rintro m v s₈ l₃ news₃ E3 hlt3 ⟨tc, rfl⟩ ⟨vs, k, objs, ta, tb, rfl, hLL, hla, hlb, hno3⟩ F10 K10 hst8
        rw [show (0 : Int) + (m : Int) * 1 = m by lia] at F10
        have G8 := G6.keptX K10 hX4
        have hcc8 := K10.keep _ _ (by simp [hcD, hcC]) hcc6
        have hC8 : C < s₈.heap.objs.size := F10.lt
        have hI38 : I3 < s₈.heap.objs.size := Heap.lt_size hst8
        refine' wpAny_isTrue_Compare1 ?_ ?hs
        (case hs => kernel_rfl!)
        walk_at "es"
        refine kSet3 (by assumption) (by walk_at "lk") (by walk_at "lk") (by walk_at "lk") ⟨cc, oc, vc, rfl, hcc8, hcv⟩ (by walk_at "u") (by walk_at "u") (by walk_at "u") (by walk_at "u") (by decide +kernel) (by decide +kernel) (by decide +kernel) fun SD S s₉ F11 hS _ => ?_
        walk_at "es"
        refine kLenSet (by assumption) hS (by unfold card3; split <;> split <;> decide) fun _ _ _ => ?_
        walk_at "es"
        have hvl := hLL.1
        rw [List.length_append, List.length_append] at hvl
        have b1 := accA_len i
        have b2 := accB_len i j
        have b3 := accC_len i j m
        by_cases q : card3 (i : Int) j m = 3
        · rw [if_pos (by rw [q]; rfl)]
          walk_at "es"
          rename_i s₉₉ F99
          refine mkL F99 (by simp [sizeLine]) fun D' s₁₀ hD' hLD' hnD' F12 => ?_
          have hDD' : D < D' := hnD' (D, lo vs k) (List.Mem.head _)
          have hCD' : C < D' := hLD'
          have hs8 : I2 < D' ∧ I3 < D' := by
            have h2 := F99.kp.keep _ _ (by simp; lia) (K10.keep _ _ (by simp; lia) hst6)
            have h3 := F99.kp.keep _ _ (by simp; lia) hst8
            exact ⟨hD'.lt h2, hD'.lt h3⟩
          have F13 := F12.sub (news' := (D, lo vs k) :: (D', lo [.int (i : Int) ta, .int (j : Int) tb, .int (m : Int) tc, .int (6 - (i : Int) - (j : Int) - (m : Int)) _] 0) :: objs) (by
            intro p hp
            rcases List.mem_cons.mp hp with rfl | hp
            · exact List.Mem.tail _ (List.Mem.head _)
            · rcases List.mem_cons.mp hp with rfl | hp
              · exact List.Mem.head _
              · exact List.Mem.tail _ (List.Mem.tail _ hp))
          refine appendL F13 (by simp) ?_ (by simp [sizeLine]; lia) fun s₁₁ F14 => ?_
          · intro p hp
            rcases List.mem_cons.mp hp with rfl | hp
            · show D' ≠ D; lia
            · have := (hno3 p hp).1; lia
          refine ⟨_, _, F14, _, _, _, ta, tb, rfl, ?_, by walk_at "lk", by walk_at "lk", ?_⟩
          · have e : ordC i j m = [[(i : Int), j, m, 6 - i - j - m]] := by unfold ordC; rw [if_pos q]
            rw [accC_succ, e, ← List.append_assoc]
            exact hLL.snoc (.cons _ _ (.cons _ _ (.cons _ _ (.cons _ _ .nil))))
          · intro p hp
            rcases List.mem_cons.mp hp with rfl | hp
            · exact ⟨hCD', by show D' ≠ I2; lia, by show D' ≠ I3; lia⟩
            · exact hno3 p hp
        · rw [if_neg (by simp; lia)]
          refine ⟨_, _, by assumption, vs, k, objs, ta, tb, rfl, ?_, by walk_at "lk", by walk_at "lk", hno3⟩
          have e : ordC i j m = [] := by unfold ordC; rw [if_neg q]
          rw [accC_succ, e, List.append_nil]
          exact hLL
      · rintro l₃ news₃ s₈ ⟨vs, k, objs, ta, tb, rfl, hLL, hla, hlb, hno3⟩ F10
        refine ⟨rfl, l₃, _, F10, vs, k, objs, ta, rfl, ?_, hla, fun p hp => ⟨(hno3 p hp).1, (hno3 p hp).2.1⟩⟩
        rw [accB_succ, ← List.append_assoc]
        exact hLL
    · rintro l₂ news₂ s₆ ⟨vs, k, objs, ta, rfl, hLL, hla, hno2⟩ F7
      refine ⟨rfl, l₂, _, F7, vs, k, objs, rfl, ?_, fun p hp => (hno2 p hp).1⟩
      rw [accA_succ]
      exact hLL
  · rintro l₁ news₁ s₄ ⟨vs, k, objs, rfl, hLL, hno⟩ F4
    refine ⟨rfl, vs, k, l₁, objs, F4, (by intro p hp; have := hno p hp; show p.1 ≠ L; lia), fun s₅ F5 => ?_⟩
    dsimp only
    refine hQ D vs _ s₅ (F5.isList (List.Mem.head _)) (hLL.2.to hLL.1 fun p hp => F5.objs p (List.Mem.tail _ (List.mem_append_left _ hp))) lk_hit (fun y hy => by simp [lk, hy]) (F5.sub (by simp))
end
section
open PySem PySem.W PySem.Calls PyProof.Rows PySem.Spec
set_option maxHeartbeats 4000000
variable {H : Heap} {w : World} {A : Around} {E : Value → Shared → Prop} {s s₀ : Shared} {X : List Nat} {L : Nat} {l : List (Str × Value)} {news : List (Nat × Obj)} {cd : Value}
noncomputable def ordersN : List (List Nat) := (accA 4).map (·.map Int.toNat)
theorem ordersN_eq : accA 4 = ordersN.map (fun o => o.map fun (p : Nat) => (p : Int)) := by decide +kernel
theorem ordersN_ok : ∀ o ∈ ordersN, o.length = 4 ∧ ∀ p ∈ o, p < 4 := by decide +kernel
theorem ordersN_len : ordersN.length = 24 := by decide +kernel
/-- the letters of some words run together -/
noncomputable def dsOf (ws : List (List Int)) (o : List Nat) : List Int := (o.map fun p => ws.getD p []).flatten
noncomputable def runNums (ws : List (List Int)) : List Int := ordersN.map fun o => numOf (dsOf ws o)
/-- the runs -/
theorem law_g18 {aR aO : Nat} {vR vO : List Value} {ws rows : List (List Int)} {Q : Flow → Shared → Prop} (hA : A.depth < 880) (hh : A.handled = none) (G : GL H s.heap) (hL8 : 138 ≤ L) (F : Fm s [L] L l [] s)
    (hcR : s.heap.IsCell (L + 3) (some (.ref aR))) (hlR : s.heap.IsList aR vR.toArray) (hR : ListsOf s.heap vR rows) (hrn : rows.length = 4) (hrl : ∀ r ∈ rows, r.length ≤ 3)
    (hlO : s.heap.IsList aO vO.toArray) (hO : ListsOf s.heap vO (accA 4)) (hkO : lk l (Str.ofString "orders") = some (.ref aO))
    (hw : ∀ o : List Nat, o ≠ [] → o.length ≤ 4 → (∀ p ∈ o, p < 4) → Word (runOf rows o) (dsOf ws o) ∧ (runOf rows o).length ≤ 20)
    (hQ : ∀ (aX : Nat) vX l' s', s'.heap.IsList aX vX.toArray → IntsAre vX (runNums ws) → lk l' (Str.ofString "runs") = some (.ref aX) → (∀ y, y ≠ (Str.ofString "runs") → lk l' y = lk l y) →
      Fm s [L] L l' [] s' → LawFrom w A L cd 19 Q E s') :
    LawFrom w A L cd 18 Q E s := by
  have hGs := G.size
  have hLs : L < s.heap.objs.size := F.lt
  have hOs : aO < s.heap.objs.size := exLt hlO
  have hRs : aR < s.heap.objs.size := exLt hlR
  refine exL (by decide) ?_
  refine compU (env := lawEnv L cd) (cl := [(Str.ofString "rows", L + 3)]) s [] (by walk_at "u") (by walk_at "u") (by walk_at "u") (by decide +kernel) (by decide +kernel) F (List.Mem.head _) (by simp) (by simp) (by simp) ?_ (by walk_at "u") (by walk_at "u") (by intro _; rfl)
  have hvs : vO.toArray.size = 24 := by have := hO.1; rw [ordersN_eq, List.length_map, ordersN_len] at this; simpa using this
  walk_at "es"
  refine iterG (makesL hlO) .refl (by simp) fun I D C s₃ hIs hID hDC hI hD hC hit F3 k3 => ?_
  have hl3 : s₃.heap.IsList aO vO.toArray := exMv hlO (k3 _)
  have hne : (aO : Nat) ≠ I := by lia
  refine compE (env := lawEnv L cd) (Walks.list hh I aO hne vO.toArray) F3 ⟨⟨_, hit, rfl, rfl⟩, hl3⟩ (by intro b hb; simp at hb ⊢; lia) hI (by lia) (by rw [hvs]; decide)
    (fun i vs objs => objs = [] ∧ IntsAre vs ((runNums ws).take i)) ⟨rfl, by simpa using IntsAre.nil⟩ ?_ ?_ (by walk_at "u") (by walk_at "u") (fun _ _ x => listIter_lt x)
  · rintro i v s₄ l₁ vs k objs E' hlt hv ⟨rfl, hvI⟩ hvl F4 K4 _ _
    obtain ⟨d, us, c, rfl, hci, hdl, hdi⟩ := hO.get (i := i) (v := v) (by simpa using hv)
    have hds : d < s.heap.objs.size := exLt hdl
    have G4 := G.keptX K4 (by intro b hb; simp at hb; lia)
    have hX : ∀ b ∈ [C, D], 138 ≤ b := by intro b hb; simp at hb; lia
    rw [ordersN_eq, List.getElem?_map] at hci
    obtain ⟨o, hoi, rfl⟩ := Option.map_eq_some_iff.mp hci
    obtain ⟨ho4, hop⟩ := ordersN_ok o (List.mem_of_getElem? hoi)
    obtain ⟨hw1, hw2⟩ := hw o (by intro q; rw [q] at ho4; cases ho4) (by lia) hop
    have hL3 : L + 3 < s.heap.objs.size := exLt hcR
    walk_at "es"
    refine ldC (c := L + 3) (by walk_at "u") (ckp hcR K4 (by simp; lia)) ?_ (by walk_at "u") (by walk_at "u") (by decide +kernel)
    walk_at "es"
    refine ⟨F4.kp, ?_⟩
    have hR4 : ListsOf s₄.heap vR rows := listsKpX hR K4 (fun j d hj => by
      obtain ⟨d', us, c, e1, _, h2, _⟩ := hR.get hj
      cases e1
      have : d < s.heap.objs.size := exLt h2
      simp; lia)
    refine run_spec (by lia) hh G4 (lkp hlR K4 (by simp; lia)) hR4 (lkp hdl K4 (by simp; lia)) hdi hw1 hw2 (fun p hp => by have := hop p hp; lia) (by lia) (by lia) hrl fun t s₅ K5 => ?_
    refine ⟨[], F4.kept K5, by simp, rfl, ?_⟩
    rw [List.take_add_one, show (runNums ws)[i]? = some (numOf (dsOf ws o)) by unfold runNums; rw [List.getElem?_map, hoi]; rfl]
    exact ints_snoc hvI _ _
  · rintro l₁ vs k objs s₄ ⟨rfl, hvI⟩ hvl F4
    rw [hvs, List.take_of_length_le (by unfold runNums; rw [List.length_map, ordersN_len]; decide)] at hvI
    refine ⟨rfl, vs, k, l₁, [], F4, (by intro p hp; nomatch hp), fun s₅ F5 => ?_⟩
    dsimp only
    exact hQ D vs _ s₅ (F5.isList (List.Mem.head _)) hvI lk_hit (fun y hy => by simp [lk, hy]) (F5.sub (by simp))
end
section
open PySem PySem.W PySem.Calls PyProof.Rows
set_option maxHeartbeats 4000000
noncomputable abbrev fltKind : PyProof.Rows.KeyKind where
  α := Int
  blt a b := decide (a < b)
  irrefl a := by simp
  trans a b c h1 h2 := by simp only [decide_eq_true_eq] at *; lia
  negTrans a b c h := by simp only [decide_eq_true_eq] at *; lia
  total a b h1 h2 := by simp only [decide_eq_false_iff_not] at *; lia
  keyOf v := match v with | .float x _ => if Float64.isFinite x = true then some (Float64.val x) else none | _ => none
  dflt := 0
theorem fin_decode {x : UInt64} (h : Float64.isFinite x = true) : ∃ a m e, Float64.decode x = .fin a m e := by
  unfold Float64.isFinite at h
  cases hd : Float64.decode x with
  | nan => rw [hd] at h; cases h
  | inf a => rw [hd] at h; cases h
  | fin a m e => exact ⟨a, m, e, rfl⟩
theorem cmp_lt {x y : UInt64} (hx : Float64.isFinite x = true) (hy : Float64.isFinite y = true) : (Float64.cmp x y == some Ordering.lt) = decide (Float64.val x < Float64.val y) := by
  obtain ⟨a, m, e, h1⟩ := fin_decode hx
  obtain ⟨b, k, f, h2⟩ := fin_decode hy
  rw [Float64.cmp_right h1 h2]
  rcases Int.lt_trichotomy (Float64.val x) (Float64.val y) with h | h | h
  · rw [Int.compare_eq_lt.mpr h, decide_eq_true h]; rfl
  · rw [Int.compare_eq_eq.mpr h, decide_eq_false (by lia)]; rfl
  · rw [Int.compare_eq_gt.mpr h, decide_eq_false (by lia)]; rfl
theorem fltKind_oneLt : fltKind.OneLt := by
  intro prog w A E s x y a b Q ha hb h
  cases x <;> simp only [fltKind, reduceCtorEq] at ha
  cases y <;> simp only [fltKind, reduceCtorEq] at hb
  rename_i x t y u
  by_cases hx : Float64.isFinite x = true
  · by_cases hy : Float64.isFinite y = true
    · rw [if_pos hx] at ha
      rw [if_pos hy] at hb
      cases ha; cases hb
      rw [oneLt'_eq]
      simp only [if_true]
      refine wpAny_bind (wpAny_cRoomFor_byValue rfl ?_)
      refine wpAny_bind (wpAny_callSpecialIfBound?_slot (AutoFloatOps.typeIs_float s x t) PySem.F.slot_float_lt (call_gives PySem.F.slot_float_lt (AutoFloatOps.typeIs_float s x t) PySem.F.entry_float_lt (PySem.F.args_float_lt_2 _ _) (AutoFloatG5.float___lt___float_float_0 x t y u) ?_))
      dsimp only
      rw [cmp_lt hx hy]
      exact wpAny_truthy_bool h
    · rw [if_neg hy] at hb; cases hb
  · rw [if_neg hx] at ha; cases ha
theorem flts_mapM_first : ∀ {vs : List Value} {xs : List UInt64}, FltsAre vs xs → vs.mapM firstOfTuple' = pure (vs.map fun _ => none)
  | _, _, .nil => by simp
  | _, _, .cons (x := x) (t := t) h => by rw [List.mapM_cons, show firstOfTuple' (.float x t) = pure none from rfl, flts_mapM_first h]; simp
theorem flts_mapM_type : ∀ {vs : List Value} {xs : List UInt64}, FltsAre vs xs → vs.mapM typeOf = pure (vs.map fun _ => Value.type "float")
  | _, _, .nil => by simp
  | _, _, .cons (x := x) (t := t) h => by
    rw [List.mapM_cons, flts_mapM_type h]
    show (pure (Value.type "float") >>= fun b => pure _ >>= fun bs => pure (b :: bs)) = _
    simp
theorem keyKind_flts {v₁ v₂ : Value} {vs : List Value} {xs : List UInt64} (hI : FltsAre (v₁ :: v₂ :: vs) xs) : keyKind' (v₁ :: v₂ :: vs).toArray = pure oneType' := by
  rw [keyKind'_eq, List.mapM_toArray, flts_mapM_first hI]
  simp only [map_pure, pure_bind]
  rw [if_neg (by simp), if_neg (by simp)]
  rw [oneTypeOnly'_eq, List.mapM_toArray, flts_mapM_type hI]
  simp only [map_pure, pure_bind]
  have hall : ((List.map (fun _ => Value.type "float") (v₁ :: v₂ :: vs)).toArray.all fun x => x == Value.type "float") = true := by
    simp only [List.all_toArray, List.all_map, List.all_eq_true]
    intro _ _
    rfl
  have h0 : (List.map (fun _ => Value.type "float") (v₁ :: v₂ :: vs)).toArray[0]? = some (Value.type "float") := by simp
  rw [h0]
  simp only [hall, if_true, pure_bind, Option.isSome_some]
/-- what the sort leaves -/
noncomputable def OutF (xs : List UInt64) (vs out : List Value) : Prop := ∃ ps : List (Int × Value), ps.Perm ((xs.map Float64.val).zip vs) ∧ out = ps.map (·.2) ∧ ps.Pairwise (fun p q => p.1 ≤ q.1)
noncomputable def fval (v : Value) : Int := match v with | .float x _ => Float64.val x | _ => 0
theorem flts_vals : ∀ {vs : List Value} {xs : List UInt64}, FltsAre vs xs → vs.map fval = xs.map Float64.val
  | _, _, .nil => rfl
  | _, _, .cons h => by simp [fval, flts_vals h]
theorem flts_all : ∀ {vs : List Value} {xs : List UInt64}, FltsAre vs xs → (∀ x ∈ xs, Float64.isFinite x = true) → ∀ v ∈ vs, fltKind.keyOf v = some (fval v)
  | _, _, .nil, _, v, hv => by cases hv
  | _, _, .cons (x := x) (t := t) h, hf, v, hv => by
    rcases List.mem_cons.mp hv with rfl | hv
    · show (if Float64.isFinite x = true then some (Float64.val x) else none) = _
      rw [if_pos (hf x (List.mem_cons_self ..))]; rfl
    · exact flts_all h (fun y hy => hf y (List.mem_cons_of_mem _ hy)) v hv
theorem outF_of {keys : Array Value} {vs : List Value} {xs : List UInt64} (hk : FltsAre keys.toList xs) (hf : ∀ x ∈ xs, Float64.isFinite x = true) {ys : Array Keyed} (hp : ys.Perm (keys.zip vs.toArray)) (hs : SortedToK fltKind ys ys.size) :
    OutF xs vs (ys.map (·.2)).toList := by
  have hl : ys.toList.Perm (keys.toList.zip vs) := by rw [← ksk_zip]; exact Array.perm_iff_toList_perm.mp hp
  have hkey : ∀ p ∈ ys.toList, fltKind.keyOf p.1 = some (fval p.1) := fun p hp' => flts_all hk hf p.1 (List.of_mem_zip (a := p.1) (b := p.2) (hl.mem_iff.mp hp')).1
  refine ⟨ys.toList.map (fun p : Keyed => (fval p.1, p.2)), ?_, ?_, ?_⟩
  · have e2 : (keys.toList.zip vs).map (fun p : Keyed => (fval p.1, p.2)) = (xs.map Float64.val).zip vs := by
      rw [← flts_vals hk, List.zip_map_left]
      exact List.map_congr_left fun ⟨x, y⟩ _ => rfl
    rw [← e2]
    exact hl.map _
  · rw [Array.toList_map, List.map_map]; rfl
  · rw [List.pairwise_iff_getElem]
    intro i j hi hj hij
    have hi' : i < ys.size := by simpa using hi
    have hj' : j < ys.size := by simpa using hj
    have q := hs i j (Nat.le_of_lt hij) hj'
    have ei : KK fltKind ys i = fval (ys[i]).1 := by
      unfold KK
      rw [Array.getElem?_eq_getElem hi']
      show (fltKind.keyOf (ys[i]).1).getD fltKind.dflt = _
      rw [hkey (ys[i]) (by simp)]; rfl
    have ej : KK fltKind ys j = fval (ys[j]).1 := by
      unfold KK
      rw [Array.getElem?_eq_getElem hj']
      show (fltKind.keyOf (ys[j]).1).getD fltKind.dflt = _
      rw [hkey (ys[j]) (by simp)]; rfl
    unfold KeyOrd.kle at q
    rw [ei, ej] at q
    have q2 : ¬ (fval (ys[j]).1 < fval (ys[i]).1) := by simpa using q
    simp only [List.getElem_map, Array.getElem_toList]
    omega
section
variable {w : World} {A : Around} {E : Value → Shared → Prop} {s : Shared} {a : Addr} {vs : List Value} {xs : List UInt64} {P : PySem.Fin → Shared → Prop}
/-- what stands, but a -/
noncomputable def But (a : Addr) (s s' : Shared) : Prop := (∃ h tk, s' = { s with heap := h, toks := tk }) ∧ ∀ b o, b ≠ a → s.heap.get? b = some o → s'.heap.get? b = some o
theorem sortF_tail {kS : Addr} {keys : Array Value} {e e1 : Nat} {st : SortSt} (hkS : s.heap.get? kS = some (seqObj "list" keys e)) (ha : s.heap.get? a = some (seqObj "list" #[] e1)) (hka : kS ≠ a)
    (hk : FltsAre keys.toList xs) (hf : ∀ x ∈ xs, Float64.isFinite x = true) (hlen : xs.length = vs.length) (h64 : vs.length < 64) (hp : (arrOf st).Perm (keys.zip vs.toArray)) (hs : SortedToK fltKind (arrOf st) (arrOf st).size) (hfl : failedOf st = none)
    (h : ∀ h' tk out c, (∀ b o, b ≠ a → b ≠ kS → s.heap.get? b = some o → h'.get? b = some o) → h'.get? a = some (seqObj "list" out c) → OutF xs vs out.toList → P (.done (.ret .none)) { s with heap := h', toks := tk }) :
    wpAny (model prog w) A (ksk_tail a false e1 (.ref kS) st) P E s := by
  have hsz : keys.size = vs.length := by
    have h1 := hk.length
    rw [Array.length_toList] at h1
    lia
  have hsz2 : (arrOf st).size = vs.length := by rw [hp.size_eq, Array.size_zip, hsz, List.size_toArray, Nat.min_self]
  have s1 := Heap.SameBut.update s.heap kS (Obj.mapSeq fun _ => (#[] : Array Value))
  have na1 : (s.heap.update kS (Obj.mapSeq fun _ => (#[] : Array Value))).get? a = some (seqObj "list" #[] e1) := (s1.2 a hka.symm).trans ha
  have s2 := Heap.SameBut.update (s.heap.update kS (Obj.mapSeq fun _ => (#[] : Array Value))) a (Obj.mapSeq fun _ => (arrOf st).map (·.2))
  obtain ⟨c2, hc2⟩ : ∃ c2, ((s.heap.update kS (Obj.mapSeq fun _ => (#[] : Array Value))).update a (Obj.mapSeq fun _ => (arrOf st).map (·.2))).get? a = some (seqObj "list" ((arrOf st).map (·.2)) c2) :=
    ⟨_, get?_update_seq na1 fun _ => (arrOf st).map (·.2)⟩
  unfold ksk_tail
  dsimp only
  refine wpAny_bind (listUpdate_at hkS rfl ?_ (by rw [hsz, sizeLine_eq]; lia) (Nat.zero_le _))
  refine wpAny_bind (wpAny_letGo ?_)
  refine wpAny_bind (seqEpoch_at na1 rfl ?_)
  simp only [Bool.false_eq_true, if_false]
  refine wpAny_bind (listUpdate_at na1 rfl ?_ (Nat.zero_le _) (by rw [Array.size_map, hsz2, sizeLine_eq]; lia))
  rw [hfl]
  simp only [bne_self_eq_false, Bool.false_eq_true, if_false]
  exact wpAny_pure (h _ s.toks _ c2 (fun b o hb hb2 eo => (s2.2 b hb).trans ((s1.2 b hb2).trans eo)) hc2 (outF_of hk hf hp hs))
theorem sortF_end {kS : Addr} {keys : Array Value} {e e1 : Nat} (hkS : s.heap.get? kS = some (seqObj "list" keys e)) (ha : s.heap.get? a = some (seqObj "list" #[] e1)) (hka : kS ≠ a)
    (hk : FltsAre keys.toList xs) (hf : ∀ x ∈ xs, Float64.isFinite x = true) (hlen : xs.length = vs.length) (h64 : vs.length < 64) (h2 : 2 ≤ vs.length)
    (h : ∀ h' tk out c, (∀ b o, b ≠ a → b ≠ kS → s.heap.get? b = some o → h'.get? b = some o) → h'.get? a = some (seqObj "list" out c) → OutF xs vs out.toList → P (.done (.ret .none)) { s with heap := h', toks := tk }) :
    wpAny (model prog w) A (ksk_end a false vs.toArray e1 (.ref kS) keys) P E s := by
  have hsz : keys.size = vs.length := by
    have h1 := hk.length
    rw [Array.length_toList] at h1
    lia
  have hzs : (keys.zip vs.toArray).size = vs.length := by rw [Array.size_zip, hsz, List.size_toArray, Nat.min_self]
  have hkk : keyKind' keys = pure oneType' := by
    obtain ⟨v₁, v₂, rest, e⟩ : ∃ v₁ v₂ rest, keys.toList = v₁ :: v₂ :: rest := by
      have hl : 2 ≤ keys.toList.length := by rw [Array.length_toList]; lia
      cases q : keys.toList with
      | nil => rw [q] at hl; simp at hl
      | cons v₁ r =>
        cases r with
        | nil => rw [q] at hl; simp at hl
        | cons v₂ rest => exact ⟨v₁, v₂, rest, rfl⟩
    have ek : keys = (v₁ :: v₂ :: rest).toArray := by rw [← e, Array.toArray_toList]
    rw [e] at hk
    rw [ek]
    exact keyKind_flts hk
  have h0 : PyProof.Rows.KeysOf fltKind (keys.zip vs.toArray) := by
    intro p hp
    rw [ksk_zip] at hp
    obtain ⟨x, y⟩ := p
    exact ⟨_, flts_all hk hf x (List.of_mem_zip hp).1⟩
  unfold ksk_end
  dsimp only
  simp only [Bool.false_eq_true, if_false]
  have h2' : ¬ vs.toArray.size < 2 := by simp; lia
  rw [if_neg h2', if_neg h2', hkk]
  refine wpAny_bind (wpAny_pure ?_)
  refine wpAny_bind (wpAny_mono (wpS_sortRunsK (κ := fltKind) fltKind_oneLt (a₀ := keys.zip vs.toArray) (st := SortSt.mk' oneType' (keys.zip vs.toArray) #[] 7 none)
    (Q := fun _ st' => (arrOf st').Perm (keys.zip vs.toArray) ∧ failedOf st' = none ∧ SortedToK fltKind (arrOf st') (keys.zip vs.toArray).size)
    h0 ⟨Array.Perm.refl _, rfl, rfl, rfl⟩ (by rw [hzs]; lia) (by rw [hzs]; exact h64) fun st' a1 a2 a3 => ⟨a1, a2, a3⟩) ?_ fun _ _ e => e)
  rintro ⟨⟨⟩, st'⟩ s' ⟨rfl, hp, hf', hs⟩
  dsimp only
  exact sortF_tail hkS ha hka hk hf hlen h64 hp (by rw [hp.size_eq]; exact hs) hf' h
end
end
section
open PySem PySem.W PySem.Calls PyProof.Rows
set_option maxHeartbeats 4000000
section
variable {w : World} {A : Around} {E : Value → Shared → Prop} {s : Shared} {a : Addr} {vs : List Value} {xs : List UInt64} {P : PySem.Fin → Shared → Prop}
noncomputable def KeyCall (w : World) (A : Around) (f : Value) (s₀ : Shared) (a : Addr) (v : Value) (x : UInt64) : Prop :=
  ∀ (s' : Shared), But a s₀ s' → ∀ (E' : Value → Shared → Prop), wpAny (model prog w) A (call f [v]) (fun r s'' => ∃ t h tk, r = .float x t ∧ s'' = { s' with heap := h, toks := tk } ∧ ∀ b o, s'.heap.get? b = some o → h.get? b = some o) E' s'
theorem sortF_rest {kS : Addr} {f : Value} {e1 : Nat} {s₀ : Shared} (hs0 : But a s₀ s) (hk0 : s₀.heap.get? kS = none) (hkS : s.heap.get? kS = some (seqObj "list" #[] 0)) (ha : s.heap.get? a = some (seqObj "list" #[] e1)) (hka : kS ≠ a)
    (hf : ∀ x ∈ xs, Float64.isFinite x = true) (hlen : xs.length = vs.length) (h64 : vs.length < 64) (h2 : 2 ≤ vs.length)
    (turn : ∀ (i : Nat) (v : Value) (x : UInt64), vs[i]? = some v → xs[i]? = some x → KeyCall w A f s₀ a v x)
    (h : ∀ h' tk out c, (∀ b o, b ≠ a → b ≠ kS → s.heap.get? b = some o → h'.get? b = some o) → h'.get? a = some (seqObj "list" out c) → OutF xs vs out.toList → P (.done (.ret .none)) { s with heap := h', toks := tk }) :
    wpAny (model prog w) A (ksk_rest a f false vs.toArray e1 (.ref kS)) P E s := by
  unfold ksk_rest
  refine wpAny_bind (wpAny_rule ?_)
  first
    | rw [List.forIn_toArray]
    | (rw [← Array.forIn_toList]; simp only [List.toList_toArray])
    | rw [← Array.forIn_toList]
  refine wpAny_bind (ksk_fold (fun i s' => ∃ h' tk kA e, s' = { s with heap := h', toks := tk } ∧ (∀ b o, b ≠ kS → s.heap.get? b = some o → h'.get? b = some o) ∧ h'.get? kS = some (seqObj "list" kA e) ∧ FltsAre kA.toList (xs.take i)) vs 0 s
    ⟨s.heap, s.toks, #[], 0, rfl, fun _ _ _ e => e, hkS, by simpa using FltsAre.nil⟩ ?step ?done)
  case step =>
    rintro j y s' hy ⟨h', tk, kA, e, rfl, hkp, hkA, hk⟩
    simp only [Nat.zero_add] at hk ⊢
    have hj : j < vs.length := (List.getElem?_eq_some_iff.mp hy).1
    obtain ⟨x, hxj⟩ : ∃ x, xs[j]? = some x := ⟨_, List.getElem?_eq_getElem (by lia)⟩
    have hz : kA.size ≤ vs.length := by
      have h1 := hk.length
      rw [Array.length_toList, List.length_take] at h1
      lia
    obtain ⟨⟨g0, t0, es0⟩, hB⟩ := hs0
    have hbut : But a s₀ { s with heap := h', toks := tk } := by
      refine ⟨⟨h', tk, by rw [es0]⟩, fun b o hb eo => hkp b o (fun q => ?_) (hB b o hb eo)⟩
      rw [q, hk0] at eo; cases eo
    refine wpAny_bind (wpAny_attempt (wpAny_mono (turn j y x hy hxj _ hbut (fun _ _ => False)) (fun v s'' he => ?_) fun _ _ hF => hF.elim))
    obtain ⟨t2, g, tk2, rfl, rfl, hg⟩ := he
    dsimp only
    have nk := hg _ _ hkA
    have s1 := Heap.SameBut.update g kS (Obj.mapSeq (·.push (.float x t2)))
    obtain ⟨c2, hc2⟩ : ∃ c2, (g.update kS (Obj.mapSeq (·.push (.float x t2)))).get? kS = some (seqObj "list" (kA.push (.float x t2)) c2) := ⟨_, get?_update_seq nk (·.push (.float x t2))⟩
    have ek : xs.take (j + 1) = xs.take j ++ [x] := by rw [List.take_add_one, hxj]; simp
    have ea : (kA.push (Value.float x t2)).toList = kA.toList ++ [Value.float x t2] := by simp
    refine wpAny_bind (listUpdate_at nk rfl ?_ (by rw [sizeLine_eq]; lia) (Nat.le_trans (Nat.le_of_eq (Array.size_push ..)) (by rw [sizeLine_eq]; lia)))
    refine wpAny_pure ⟨rfl, _, _, kA.push (.float x t2), c2, rfl, fun b o hb eo => (s1.2 b hb).trans (hg _ _ (hkp b o hb eo)), hc2, by rw [ea, ek]; exact hk.snoc _ _⟩
  case done =>
    rintro s' ⟨h', tk, kA, e, rfl, hkp, hkA, hk⟩
    have hk' : FltsAre kA.toList xs := by
      have e3 : xs.take (0 + vs.length) = xs := List.take_of_length_le (by lia)
      rw [e3] at hk
      exact hk
    refine wpAny_bind (listItems_at hkA rfl ?_)
    refine sortF_end (s := { s with heap := h', toks := tk }) hkA (hkp a _ (Ne.symm hka) ha) hka hk' hf hlen h64 h2 fun h3 tk3 out c k3 g3 o3 => h h3 tk3 out c (fun b o hb hb2 eo => k3 b o hb hb2 (hkp b o hb2 eo)) g3 o3
theorem sortF_tree {f : Value} {n : Nat} (ho : s.heap.get? a = some (seqObj "list" vs.toArray n)) (hf : ∀ x ∈ xs, Float64.isFinite x = true) (hlen : xs.length = vs.length) (h64 : vs.length < 64) (h2 : 2 ≤ vs.length)
    (turn : ∀ (i : Nat) (v : Value) (x : UInt64), vs[i]? = some v → xs[i]? = some x → KeyCall w A f s a v x)
    (h : ∀ h' tk out c, (∀ b o, b ≠ a → s.heap.get? b = some o → h'.get? b = some o) → h'.get? a = some (seqObj "list" out c) → OutF xs vs out.toList → P (.done (.ret .none)) { s with heap := h', toks := tk }) :
    wpAny (model prog w) A (ksk_tree a f false) P E s := by
  have ha : a < s.heap.objs.size := Heap.lt_size ho
  have s1 := Heap.SameBut.update s.heap a (Obj.mapSeq fun _ => (#[] : Array Value))
  obtain ⟨e1, ho1⟩ : ∃ e1, (s.heap.update a (Obj.mapSeq fun _ => (#[] : Array Value))).get? a = some (seqObj "list" #[] e1) := ⟨_, get?_update_seq ho fun _ => #[]⟩
  have hkS : ((s.heap.update a (Obj.mapSeq fun _ => (#[] : Array Value))).push (seqObj "tuple" vs.toArray 0)).objs.size = s.heap.objs.size + 1 := by rw [size_push', Heap.size_update]
  have hka : (s.heap.objs.size + 1 : Nat) ≠ a := by have h9 : @LT.lt Nat _ a s.heap.objs.size := ha; lia
  unfold ksk_tree
  refine wpAny_bind (listItems_at ho rfl ?_)
  refine wpAny_bind (listUpdate_at ho rfl ?_ (by rw [List.size_toArray, sizeLine_eq]; lia) (Nat.zero_le _))
  refine wpAny_bind (seqEpoch_at ho1 rfl ?_)
  refine wpAny_bind (wpAny_newTuple ?_ (by show vs.length ≤ _; rw [sizeLine_eq]; lia))
  refine wpAny_bind (wpAny_newList ?_ (Nat.zero_le _))
  refine wpAny_holding ?_
  have hup : ∀ b o, b ≠ a → s.heap.get? b = some o → (((s.heap.update a (Obj.mapSeq fun _ => (#[] : Array Value))).push (seqObj "tuple" vs.toArray 0)).push (seqObj "list" #[] 0)).get? b = some o := fun b o hb eo =>
    Heap.get?_push_of_some _ (Heap.get?_push_of_some _ ((s1.2 b hb).trans eo))
  refine sortF_rest (s := { s with heap := ((s.heap.update a (Obj.mapSeq fun _ => (#[] : Array Value))).push (seqObj "tuple" vs.toArray 0)).push (seqObj "list" #[] 0) }) (kS := ((s.heap.update a (Obj.mapSeq fun _ => (#[] : Array Value))).push (seqObj "tuple" vs.toArray 0)).objs.size)
    ⟨⟨_, s.toks, rfl⟩, hup⟩ (by rw [hkS]; exact get_above (Nat.le_succ _)) (Heap.get?_push_size _ rfl) (Heap.get?_push_of_some _ (Heap.get?_push_of_some _ ho1)) (by rw [hkS]; exact hka) hf hlen h64 h2 turn fun h' tk out c k g o => h h' tk out c (fun b ob hb eo => k b ob hb (by rw [hkS]; exact Nat.ne_of_lt (Nat.lt_succ_of_lt (Heap.lt_size eo))) (hup b ob hb eo)) g o
/-- a range's items, collected -/
theorem collect_range {r : Addr} {b : Int} {t u v : Tok} {n : Nat} {Q : List Value → Shared → Prop} (hh : A.handled = none) (hr : s.heap.get? r = some (rgO 0 b t u v)) (hn : b = (n : Nat)) (hlen : n ≤ 1000)
    (hQ : ∀ (acc : List Value) h' tk, acc.length = n → IntsAre acc ((List.range n).map fun (i : Nat) => (i : Int)) → @LT.lt Nat _ s.heap.objs.size h'.objs.size → (∀ b o, s.heap.get? b = some o → h'.get? b = some o) → Q acc { s with heap := h', toks := tk }) :
    wpAny (model prog w) A (collect (.ref r)) Q E s := by
  have e : Builtin.Range.rangeSize 0 b 1 = (n : Int) := by
    unfold Builtin.Range.rangeSize
    rw [if_pos (by decide)]
    by_cases q : 0 < b
    · rw [if_pos q, Int.ediv_one]; lia
    · rw [if_neg q]; lia
  unfold collect
  refine wpAny_bind (wpAny_runValue (codeAny_builtin PySem.F.entry_proto_collect ?_))
  rw [Around.under_plainId PySem.F.plain_proto_collect _]
  show wpAny _ A.in1 (newList [] >>= fun l => again (.builtin "list.__iadd__" ⟨[l, .ref r], []⟩)) _ _ s
  refine wpAny_bind (wpAny_newObj_type ?_)
  refine wpAny_pure ⟨plainId_quiet PySem.F.plain_list_iadd _, codeAny_builtin PySem.F.entry_list_iadd ?_⟩
  rw [Around.under_plainId PySem.F.plain_list_iadd _]
  show wpAny _ A.in1 (Builtin.List.listExtendWith (.ref s.heap.objs.size) (.ref r) (.ref s.heap.objs.size)) _ _ _
  refine wpAny_extend_range (R := fun res s' => match res with | .ok (.ret v) => wpAny (model prog w) A (match v with | .ref a => (do match (← load a).data with | .seq xs _ => pure xs.toList | _ => unsupported "internal:collect") | _ => unsupported "internal:collect") Q E s' | .ok _ => False | .error e => E e s') hh (Heap.get?_push_of_some _ hr) (small_one (by lia) (by lia) (by lia) (by lia)) e (by lia) s.heap.objs.size (.ref s.heap.objs.size) 0 (Heap.get?_push_size _ rfl) fun h' tk acc' c' hk hS hI => ?_
  dsimp only
  refine wpAny_bind (wpAny_load hS ?_)
  refine wpAny_pure (hQ _ _ _ (by simpa using hI.1) ?_ (Heap.lt_size hS) fun b o eo => hk b o (Nat.ne_of_lt (Heap.lt_size eo)) (Heap.get?_push_of_some _ eo))
  have key : ∀ (vs : List Value) (m : Nat) (k : Nat), vs.length = m → (∀ j v, vs[j]? = some v → ∃ t, v = Value.int (0 + ((k + j : Nat) : Int) * 1) t) → IntsAre vs ((List.range' k m).map fun (i : Nat) => (i : Int)) := by
    intro vs
    induction vs with
    | nil => intro m k hm _; subst hm; exact .nil
    | cons x r ih =>
      intro m k hm hx
      subst hm
      obtain ⟨t, rfl⟩ := hx 0 x rfl
      rw [List.length_cons, List.range'_succ, List.map_cons]
      have e1 : (0 : Int) + ((k + 0 : Nat) : Int) * 1 = (k : Int) := by simp
      rw [e1]
      refine .cons _ t (ih _ (k + 1) rfl fun j v hj => ?_)
      obtain ⟨t, q⟩ := hx (j + 1) v (by simpa using hj)
      refine ⟨t, ?_⟩
      rw [q, show k + (j + 1) = k + 1 + j by lia]
  rw [List.range_eq_range']
  refine key _ _ 0 (by simpa using hI.1) fun j v hj => ?_
  obtain ⟨t, q⟩ := hI.2 j v (by simpa using hj)
  exact ⟨t, by rw [q]; simp⟩
/-- sorted(range(n), key=f) -/
theorem sortedF {r : Addr} {b : Int} {t u v : Tok} {n : Nat} {f : Nat} {Q : Value → Shared → Prop} (hh : A.handled = none) (hr : s.heap.get? r = some (rgO 0 b t u v)) (hn : b = (n : Nat)) (h2 : 2 ≤ n) (hlen : n < 64) (hxl : xs.length = n) (hf : ∀ x ∈ xs, Float64.isFinite x = true)
    (turn : ∀ (i : Nat) (ti : Tok) (x : UInt64) (D : Addr) (s' : Shared), xs[i]? = some x → @LE.le Nat _ s.heap.objs.size D → (∃ h tk, s' = { s with heap := h, toks := tk }) → (∀ b o, s.heap.get? b = some o → s'.heap.get? b = some o) → KeyCall w A.in1.in1 (.ref f) s' D (.int (i : Nat) ti) x)
    (h : ∀ D h' tk (out : List Value) c, s.heap.objs.size ≤ D → (∀ b o, s.heap.get? b = some o → h'.get? b = some o) → h'.get? D = some (lo out c) → (∃ vs, IntsAre vs ((List.range n).map fun (i : Nat) => (i : Int)) ∧ OutF xs vs out) → Q (.ref D) { s with heap := h', toks := tk }) :
    wpAny (model prog w) A (call (.builtin "sorted") [.ref r] [(Str.ofString "key", .ref f)]) Q E s := by
  refine call_function_entry_kw kind_sorted plain_sorted entry_sorted (ksk_s1 _ _) ?_
  unfold Builtin.«sorted»
  refine wpAny_bind (m := checkCount "sorted" 1 1 _) (wpAny_pure ?_)
  refine wpAny_bind (collect_range (A := A.in1) hh hr hn (by lia) fun vs h1 tk1 hvl hvi hsz hk1 => ?_)
  refine wpAny_bind (wpAny_newList ?_ (by rw [sizeLine_eq]; lia))
  have hoL : (h1.push (seqObj "list" vs.toArray 0)).get? h1.objs.size = some (seqObj "list" vs.toArray 0) := Heap.get?_push_size _ rfl
  refine wpAny_bind (wpAny_holding (wpAny_call_entry_kw slot_list_sort ⟨_, hoL, rfl⟩ entry_list_sort ?body (ksk_l1 _ _)))
  case body =>
    show wpAny (model prog w) A.in1.in1 (Builtin.«list.sort» ⟨[.ref h1.objs.size], [(Str.ofString "key", .ref f)]⟩) _ _ _
    rw [ksk_t1]
    have hk2 : ∀ b o, s.heap.get? b = some o → (h1.push (seqObj "list" vs.toArray 0)).get? b = some o := fun b o eo => Heap.get?_push_of_some _ (hk1 b o eo)
    have hle : @LE.le Nat _ s.heap.objs.size h1.objs.size := Nat.le_of_lt hsz
    refine sortF_tree (s := { s with heap := h1.push (seqObj "list" vs.toArray 0), toks := tk1 }) hoL hf (by lia) (by lia) (by lia) (fun i y x hy hx => ?_) fun h' tk out c hk3 g3 o3 => ⟨_, rfl, ?_⟩
    · obtain ⟨z, tz, hz, rfl⟩ := intsAt hvi hy
      have hi : i < n := by have := (List.getElem?_eq_some_iff.mp hy).1; lia
      rw [List.getElem?_map, List.getElem?_range hi] at hz
      simp at hz
      subst hz
      exact turn i tz x _ _ hx hle ⟨_, _, rfl⟩ hk2
    · refine wpAny_pure ⟨_, rfl, h _ h' tk out.toList c hle (fun b o eo => hk3 b o (fun q => ?_) (hk2 b o eo)) (by simpa using g3) ⟨vs, hvi, o3⟩⟩
      have h7 : @LT.lt Nat _ b h1.objs.size := Heap.lt_size (hk1 b o eo)
      exact absurd q (Nat.ne_of_lt h7)
end
end
section
open PySem PySem.W PySem.Calls PyProof.Rows PySem.Spec
set_option maxHeartbeats 4000000
variable {H : Heap} {w : World} {A : Around} {E : Value → Shared → Prop} {s s₀ : Shared} {X : List Nat} {L : Nat} {l : List (Str × Value)} {news : List (Nat × Obj)} {cd : Value}
noncomputable def lamE : Option Expr := match lawStmt 19 with | .Assign _ (.Call _ _ [k] _) _ => some k.value | _ => none
noncomputable def lamScope : Scope := match lamE with | some (.Lambda p b sc pos) => sc | _ => (fnScope 17)
noncomputable def lamParams : Arguments := match lamE with | some (.Lambda p b sc pos) => p | _ => (fnParams 17)
noncomputable def lamBody : Expr := match lamE with | some (.Lambda p b sc pos) => b | _ => default
noncomputable def lamPos : Pos := match lamE with | some (.Lambda p b sc pos) => pos | _ => default
/-- the key's call -/
theorem lam_call {f c' aU C : Nat} {qual : Str} {pm ctv : Value} {vU : List Value} {hs : List UInt64} {i : Nat} {ti : Tok} {x : UInt64} {Q : Value → Shared → Prop} (hA : A.depth < 890)
    (ho : s.heap.get? f = some (kla_obj "<lambda>" qual lamParams lamBody lamScope [(Str.ofString "hues", C)] pm c' ctv)) (hcd : s.heap.CodeRec (.ref c') qual) (hlim : s.heap.NoLimit)
    (hc : s.heap.IsCell C (some (.ref aU))) (hl : s.heap.IsList aU vU.toArray) (hU : FltsAre vU hs) (hx : hs[i]? = some x) (hi : i < 2 ^ 60)
    (h : ∀ t s', Keeps s s' → Q (.float x t) s') : wpAny (model prog w) A (call (.ref f) [.int (i : Nat) ti]) Q E s := by
  refine wpAny_call ?_
  refine kla_callFunE (by unfold recursionLimit; lia) ho rfl (by kernel_rfl) (by kernel_rfl) rfl hcd ?_
  have hb : bindArgs (kla_fn "<lambda>" qual lamParams lamBody lamScope [(Str.ofString "hues", C)] pm (.ref c') ctv) ⟨[.int (i : Nat) ti], []⟩ = pure [(Str.ofString "place", .int (i : Nat) ti)] := by walk_at "u"
  rw [hb]
  refine wpAny_pure (wpAny_newFunctionEnv (show ∀ x ∈ lamScope.names, x.2 ≠ .cell by decide +kernel) (by intro x hx; simp at hx; subst hx; kernel_rfl) (fun h₁ hns hsb => ⟨hlim.fresh _ hsb, ?_⟩) (by kernel_rfl))
  show codeAny _ _ (.expr lamBody (envX qual lamScope s.heap.objs.size f (.ref c') [(Str.ofString "hues", C)])) _ _
  have hk₁ : ∀ b o, s.heap.get? b = some o → h₁.get? b = some o := fun b o e => hsb.extBut b o (Nat.ne_of_lt (Heap.lt_size e)) (Heap.get?_push_of_some _ e)
  refine kla_codeExpr ?_
  have F : Fm { s with heap := h₁, toks := s.toks + [(Str.ofString "place", Value.int (i : Nat) ti)].length } [s.heap.objs.size] s.heap.objs.size [(Str.ofString "place", .int (i : Nat) ti)] [] { s with heap := h₁, toks := s.toks + [(Str.ofString "place", Value.int (i : Nat) ti)].length } := by
    refine Fm.of_ns ?_
    rw [List.reverse_singleton, lookup_lk] at hns
    exact hns
  obtain ⟨t, ht⟩ := hU.at hx
  refine Subscript_ ?_
  refine wpAny_Name (wpAny_loadName_free (c := C) (v := .ref aU) (by kernel_rfl) (by walk_at "u") (by walk_at "u") (exMv hc (hk₁ _)) ?_ (by decide +kernel)) (by decide +kernel)
  refine ldL F (by walk_at "lk") ?_ (by walk_at "u") (by walk_at "u") (by decide +kernel)
  refine tailL (exMv hl (hk₁ _)) (by lia) (by lia) (by simpa using ht) ?_ (by walk_at "u")
  exact h t _ ⟨h₁, _, rfl, hk₁⟩
theorem law_g19 {aU : Nat} {vU : List Value} {hs : List UInt64} {mg : Str → Option Value} {Q : Flow → Shared → Prop} (hA : A.depth < 880) (hh : A.handled = none) (G : GL H s.heap) (hL8 : 143 ≤ L) (F : Fm s [L] L l [] s)
    (hcU : s.heap.IsCell (L + 5) (some (.ref aU))) (hlU : s.heap.IsList aU vU.toArray) (hU : FltsAre vU hs) (hn : hs.length = 4) (hf : ∀ x ∈ hs, Float64.isFinite x = true)
    (hC : s.heap.IsCode 141 139 #[]) (hT : s.heap.TableAt 141 139 #[]) (hNs : s.heap.Ns mainGlobals mg) (hB : s.heap.BuiltinsAt mg 139)
    (hQ : ∀ (aR : Nat) (out idx : List Value) l' s', Kp [L, 139] s s' → s'.heap.IsList aR out.toArray → IntsAre idx ((List.range 4).map fun (i : Nat) => (i : Int)) → OutF hs idx out → lk l' (Str.ofString "rising") = some (.ref aR) →
      (∀ y, y ≠ (Str.ofString "rising") → lk l' y = lk l y) → (∃ more, s'.heap.get? 139 = some (tabObj more)) → Fm s' [L] L l' [] s' → LawFrom w A L (.ref 141) 20 Q E s') : LawFrom w A L (.ref 141) 19 Q E s := by
  have hX : ∀ b ∈ [L, 139], 138 ≤ b := by intro b hb; simp at hb; lia
  have hLs : L < s.heap.objs.size := F.lt
  have hXL : ∀ b ∈ [L], 138 ≤ b := by intro b hb; simp at hb; lia
  obtain ⟨bm, ob, b1, b2, b3, b4, b5, b6, b7, b8⟩ := hB
  have hbL : bm ≠ L := by
    obtain ⟨o, es, ep, ho, hd, _⟩ := F.ns
    rintro rfl
    rw [b5] at ho; cases ho; rw [b8] at hd; cases hd
  refine exL (by decide) ?_
  refine' wpAny_Assign_Name ?_ ?hs
  case hs => walk_at "u"
  refine wpAny_Call_Name_kw ?_
  refine ldB G F hXL (by walk_at "mem") ?_ (by walk_at "u") (by walk_at "u") (by walk_at "u") (by walk_at "u") (by decide +kernel)
  refine callWith_kw ?_ (by walk_at "u") (by walk_at "u") (by walk_at "u") (by walk_at "u")
  walk_at "es"
  refine kRange1 (by assumption) fun r u v s₁ hr hLr hnr F1 _ => ?_
  walk_at "es"
  have k1 : ∀ b o, b ≠ L → s.heap.get? b = some o → s₁.heap.get? b = some o := fun b o hb e => F1.kp.keep b o (by simpa using hb) e
  have hmL : (mainGlobals : Nat) ≠ L := by
    have h9 : @LT.lt Nat _ mainGlobals 138 := by decide
    exact Nat.ne_of_lt (Nat.lt_of_lt_of_le h9 (by lia))
  have hNs1 : s₁.heap.Ns mainGlobals mg := by obtain ⟨o, es, ep, ho, q⟩ := hNs; exact ⟨o, es, ep, k1 _ _ hmL ho, q⟩
  have hC1 : CodeHd s₁.heap 141 139 := by obtain ⟨o, vs, file, tf, flags, tg, inF, text, tt, e1, q⟩ := CodeHd.of hC hT; exact ⟨o, vs, file, tf, flags, tg, inF, text, tt, k1 _ _ (by lia) e1, q⟩
  refine kws_cons ?_
  refine kla_eval (by walk_at "u") ?_
  refine kla_makeFunction (clos := [(Str.ofString "hues", L + 5)]) (c := 141) (P := 139) (ps := #[]) (mg := mg) (by walk_at "u") rfl hNs1 rfl hC1 (k1 _ _ (by lia) hT.2) (by simp [TriplesOk]) (by rfl) (by decide) ⟨bm, ob, b1, b2, b3, b4, k1 _ _ hbL b5, b6, b7, b8⟩ ?_
  intro c' ctv h' tk hx hge hlt hcr htb
  refine kws_nil ?_
  have K3 : Kp [139] s₁ { s₁ with heap := h'.push (kla_obj "<lambda>" ((lawEnv L (.ref 141)).qual ++ Str.ofString "<lambda>") lamParams lamBody lamScope [(Str.ofString "hues", L + 5)] ((mg (Str.ofString "__name__")).getD .none) c' ctv), toks := tk } :=
    ⟨⟨_, _, rfl⟩, fun b o hb e => Heap.get?_push_of_some _ (hx b o (by simpa using hb) e)⟩
  have hfn : (h'.push (kla_obj "<lambda>" ((lawEnv L (.ref 141)).qual ++ Str.ofString "<lambda>") lamParams lamBody lamScope [(Str.ofString "hues", L + 5)] ((mg (Str.ofString "__name__")).getD .none) c' ctv)).get? h'.objs.size = some (kla_obj "<lambda>" ((lawEnv L (.ref 141)).qual ++ Str.ofString "<lambda>") lamParams lamBody lamScope [(Str.ofString "hues", L + 5)] ((mg (Str.ofString "__name__")).getD .none) c' ctv) := Heap.get?_push_size _ rfl
  show wpAny _ _ (call (.builtin "sorted") [.ref r] [(Str.ofString "key", .ref h'.objs.size)]) _ _ { s₁ with heap := h'.push (kla_obj "<lambda>" ((lawEnv L (.ref 141)).qual ++ Str.ofString "<lambda>") lamParams lamBody lamScope [(Str.ofString "hues", L + 5)] ((mg (Str.ofString "__name__")).getD .none) c' ctv), toks := tk }
  generalize hs3 : ({ s₁ with heap := h'.push (kla_obj "<lambda>" ((lawEnv L (.ref 141)).qual ++ Str.ofString "<lambda>") lamParams lamBody lamScope [(Str.ofString "hues", L + 5)] ((mg (Str.ofString "__name__")).getD .none) c' ctv), toks := tk } : Shared) = s3 at K3
  have hfn3 : s3.heap.get? h'.objs.size = some (kla_obj "<lambda>" ((lawEnv L (.ref 141)).qual ++ Str.ofString "<lambda>") lamParams lamBody lamScope [(Str.ofString "hues", L + 5)] ((mg (Str.ofString "__name__")).getD .none) c' ctv) := by rw [← hs3]; exact hfn
  have hcr3 : s3.heap.CodeRec (.ref c') ((lawEnv L (.ref 141)).qual ++ Str.ofString "<lambda>") := by rw [← hs3]; exact hcr.keeps fun b o e => Heap.get?_push_of_some _ e
  have hLs : L < s.heap.objs.size := F.lt
  have hL5 : L + 5 < s.heap.objs.size := exLt hcU
  have hUs : aU < s.heap.objs.size := exLt hlU
  have hUL : aU ≠ L := list_ne_ns hlU F.ns
  have hU9 : aU ≠ 139 := by
    obtain ⟨o, ho, _, n, hd⟩ := hlU
    rintro rfl
    rw [hT.2] at ho; cases ho; cases hd
  have F3 : Fm s [L, 139] L l [(r, rgO 0 4 u _ v)] s3 := (F1.wide (by simp)).keptX K3 (by simp) (by simp; lia) (by intro p hp; simp at hp; subst hp; simp; lia)
  have G3 := G.keptX F3.kp (by intro b hb; simp at hb; lia)
  have hr3 := F3.objs _ (List.Mem.head _)
  have hcU3 : s3.heap.IsCell (L + 5) (some (.ref aU)) := ckp hcU F3.kp (by simp; lia)
  have hlU3 : s3.heap.IsList aU vU.toArray := lkp hlU F3.kp (by simp; lia)
  have h139' : ∃ more, s3.heap.get? 139 = some (tabObj more) := by rw [← hs3]; exact ⟨_, Heap.get?_push_of_some _ htb⟩
  refine sortedF (n := 4) (xs := hs) (w := w) hh hr3 rfl (by decide) (by decide) hn hf (fun i ti x D s' hx hD hs' hk' => ?_) fun D h4 tk4 out c hD k4 hl4 hout => ?_
  · intro s'' hbut E'
    obtain ⟨⟨h5, tk5, es5⟩, hB5⟩ := hbut
    have old : ∀ b o, s3.heap.get? b = some o → s''.heap.get? b = some o := fun b o e => hB5 b o (by
      have h8 : @LT.lt Nat _ b s3.heap.objs.size := Heap.lt_size e
      exact Nat.ne_of_lt (Nat.lt_of_lt_of_le h8 hD)) (hk' b o e)
    refine lam_call (aU := aU) (C := L + 5) (vU := vU) (hs := hs) ?_ (old _ _ hfn3) (hcr3.keeps old) ((G3.keeps old).lim) (exMv hcU3 (old _)) (exMv hlU3 (old _)) hU hx ?_ fun t s6 K6 => ?_
    · show A.depth < 890
      lia
    · have := (List.getElem?_eq_some_iff.mp hx).1; lia
    · obtain ⟨h6, tk6, rfl, k6⟩ := K6
      exact ⟨t, h6, tk6, rfl, rfl, k6⟩
  · have K4 : Kp [] s3 { s3 with heap := h4, toks := tk4 } := ⟨⟨_, _, rfl⟩, fun b o _ e => k4 b o e⟩
    have h7 : @LT.lt Nat _ L s3.heap.objs.size := F3.lt
    have hDL : (D : Nat) ≠ L := Nat.ne_of_gt (Nat.lt_of_lt_of_le h7 hD)
    have F4 := (F3.after K4).more hl4 hDL
    walk_at "st"
    rename_i s5 F5 K5
    have h139 : (139 : Nat) ≠ L := by lia
    exact hQ D out _ _ s5 (F5.kp) ⟨_, F5.objs _ (List.Mem.head _), rfl, _, rfl⟩ hout.choose_spec.1 hout.choose_spec.2 lk_hit (fun y hy => by simp [lk, hy]) (let ⟨more, hm⟩ := h139'; ⟨more, K5.keep 139 _ (by show 139 ∉ [L]; rw [List.mem_singleton]; exact h139) (k4 _ _ hm)⟩) ((F5.rebase [L]).sub (by simp))
end
section
open PySem PySem.W PySem.Calls PyProof.Rows PySem.Spec
set_option maxHeartbeats 4000000
variable {H : Heap} {w : World} {A : Around} {E : Value → Shared → Prop} {s s₀ : Shared} {X : List Nat} {L : Nat} {l : List (Str × Value)} {news : List (Nat × Obj)} {cd : Value}
/-- the end of xs[::-1] -/
noncomputable def SliceRev (a : Nat) (Q : Value → Shared → Prop) (u : Value) (s₂ : Shared) : Prop :=
  ∃ (t : Tok) (vs : List Value) (s₀ : Shared) (X : List Nat) (L : Nat) (l : List (Str × Value)) (news : List (Nat × Obj)), u = .int (-1) t ∧ s₂.heap.IsList a vs.toArray ∧ vs.length ≤ sizeLine ∧ Fm s₀ X L l news s₂ ∧
    ∀ D s', Above D s₂ → L < D → (∀ p ∈ news, p.1 < D) → Fm s₀ X L l ((D, lo vs.reverse 0) :: news) s' → Q (.ref D) s'
theorem SliceRev.intro {a : Nat} {vs : List Value} {t : Tok} {Q : Value → Shared → Prop} (F : Fm s₀ X L l news s) (hl : s.heap.IsList a vs.toArray) (hsz : vs.length ≤ sizeLine)
    (h : ∀ D s', Above D s → L < D → (∀ p ∈ news, p.1 < D) → Fm s₀ X L l ((D, lo vs.reverse 0) :: news) s' → Q (.ref D) s') : SliceRev a Q (.int (-1) t) s := ⟨t, vs, s₀, X, L, l, news, rfl, hl, hsz, F, h⟩
theorem sliceRev {env : Env} {value e : Expr} {p : Pos} {a : Nat} {Q : Value → Shared → Prop}
    (h : wpAny (model prog w) A (eval e env) (SliceRev a Q) E s)
    (hs : ∀ o i, subscripted (.Slice none none (some e) p) false o i = operate [o, i] (getItem o i)) :
    wpAny (model prog w) A (eval (.Slice none none (some e) p) env) (fun i s₂ => wpAny (model prog w) A (subscriptTail value (.Slice none none (some e) p) (.ref a) i) Q E s₂) E s := by
  refine wpAny_Slice (wpAny_pure (wpAny_pure (wpAny_mono h (fun u s₂ h₂ => ?_) fun _ _ x => x)))
  obtain ⟨t, vs, s₀, X, L, l, news, rfl, hl, hsz, F, hQ⟩ := h₂
  refine tail_any (Heap.IsList.typeIs (s := { s₂ with heap := s₂.heap.push _ }) (hl.push _)) list_getitem_lookup (wpAny_getItem_list_slice (hl.push _) (Heap.IsSliceOf.new ..) .none .none (.int _ t) (by simp) ?_ (by simpa using hsz)) (hs _ _)
  rw [krv_pick, List.toList_toArray]
  have F1 := F.push { cls := .type "slice", data := .fields #[.none, .none, .int (-1) t] }
  have F2 := F1.pushN (lo vs.reverse 0) rfl
  exact hQ _ _ (by show s₂.heap.objs.size ≤ _; rw [Heap.size_push]; exact Nat.le_succ _) F1.lt (fun p hp => F1.ltN hp) F2
theorem kMinL {a : Nat} {vs : List Value} {ns : List Int} {Q : Value → Shared → Prop} (hh : A.handled = none) (hl : s.heap.IsList a vs.toArray) (hi : IntsAre vs ns) (hne : 0 < ns.length)
    (h : ∀ M (t : Tok) s', M ∈ ns → (∀ b, b ∈ ns → M ≤ b) → Keeps s s' → Q (.int M t) s') : wpAny (model prog w) A (call (.builtin "min") [.ref a]) Q E s := by
  obtain ⟨xs, e⟩ := hi.allInts.items
  have hns : ns = xs.toList.map (·.1) := by
    rw [← hi.numsOf, ← nums_intItems, ← e]
  have hsz : 0 < xs.size := by
    have h3 := hne; rw [hns, List.length_map, Array.length_toList] at h3; exact h3
  rw [e] at hl
  refine min_intList hh hl hsz fun v h' tk hv hk => ?_
  obtain ⟨t, rfl⟩ := intItems_at hv
  obtain ⟨h1, h2⟩ := argBest_lt (numAt xs) (xs.size - 1)
  refine h _ t _ ?_ (fun a ha => ?_) ⟨h', tk, rfl, hk⟩
  · rw [hns, numAt_eq]; exact getD_mem (by rw [List.length_map, Array.length_toList]; omega)
  · rw [hns] at ha
    obtain ⟨j, hj, rfl⟩ := mem_getD ha
    rw [List.length_map, Array.length_toList] at hj
    rw [← numAt_eq]; exact h2 j (by omega)
theorem kMaxL {a : Nat} {vs : List Value} {ns : List Int} {Q : Value → Shared → Prop} (hh : A.handled = none) (hl : s.heap.IsList a vs.toArray) (hi : IntsAre vs ns) (hne : 0 < ns.length)
    (h : ∀ M (t : Tok) s', M ∈ ns → (∀ b, b ∈ ns → b ≤ M) → Keeps s s' → Q (.int M t) s') : wpAny (model prog w) A (call (.builtin "max") [.ref a]) Q E s := by
  obtain ⟨xs, e⟩ := hi.allInts.items
  have hns : ns = xs.toList.map (·.1) := by
    rw [← hi.numsOf, ← nums_intItems, ← e]
  have hsz : 0 < xs.size := by
    have h3 := hne; rw [hns, List.length_map, Array.length_toList] at h3; exact h3
  rw [e] at hl
  refine max_intList hh hl hsz fun v h' tk hv hk => ?_
  obtain ⟨t, rfl⟩ := intItems_at hv
  obtain ⟨h1, h2⟩ := argBest_gt (numAt xs) (xs.size - 1)
  refine h _ t _ ?_ (fun a ha => ?_) ⟨h', tk, rfl, hk⟩
  · rw [hns, numAt_eq]; exact getD_mem (by rw [List.length_map, Array.length_toList]; omega)
  · rw [hns] at ha
    obtain ⟨j, hj, rfl⟩ := mem_getD ha
    rw [List.length_map, Array.length_toList] at hj
    rw [← numAt_eq]; exact h2 j (by omega)
theorem dsOf_take {ws : List (List Int)} {o : List Nat} {i p : Nat} (h : o[i]? = some p) : dsOf ws (o.take (i + 1)) = dsOf ws (o.take i) ++ ws.getD p [] := by
  unfold dsOf
  rw [List.take_add_one, h, List.map_append, List.flatten_append]
  simp
theorem dsOf_len {ws : List (List Int)} (h3 : ∀ x ∈ ws, x.length ≤ 3) : ∀ (o : List Nat), (dsOf ws o).length ≤ 3 * o.length
  | [] => by simp [dsOf]
  | p :: o => by
    have := dsOf_len h3 o
    have h1 : (ws.getD p []).length ≤ 3 := by
      rw [List.getD_eq_getElem?_getD]
      cases hp : ws[p]? with
      | none => simp
      | some x => exact h3 x (List.mem_of_getElem? hp)
    unfold dsOf at *
    simp only [List.map_cons, List.flatten_cons, List.length_append, List.length_cons]
    lia
theorem law_g20 {aW aS aX : Nat} {vW vS vX : List Value} {ws : List (List Int)} {o : List Nat} {rn : List Int} {Q : Flow → Shared → Prop} (hA : A.depth < 880) (hh : A.handled = none) (G : GL H s.heap) (hL8 : 138 ≤ L) (F : Fm s [L] L l [] s)
    (hcW : s.heap.IsCell (L + 2) (some (.ref aW))) (hlW : s.heap.IsList aW vW.toArray) (hW : ListsOf s.heap vW ws) (hw4 : ws.length = 4) (hw3 : ∀ x ∈ ws, x.length ≤ 3)
    (hlS : s.heap.IsList aS vS.toArray) (hS : IntsAre vS (o.map fun (p : Nat) => (p : Int))) (ho4 : o.length = 4) (hop : ∀ p ∈ o, p < 4) (hkS : lk l (Str.ofString "rising") = some (.ref aS))
    (hlX : s.heap.IsList aX vX.toArray) (hX : IntsAre vX rn) (hne : 0 < rn.length) (hkX : lk l (Str.ofString "runs") = some (.ref aX))
    (heq : ∀ M ∈ rn, (∀ a ∈ rn, M ≤ a) → M = numOf (dsOf ws o))
    (hQ : ∀ s', Fm s [L] L l [] s' → LawFrom w A L cd 21 Q E s') : LawFrom w A L cd 20 Q E s := by
  have hGs := G.size
  have hLs : L < s.heap.objs.size := F.lt
  have hWs : aW < s.heap.objs.size := exLt hlW
  have hSs : aS < s.heap.objs.size := exLt hlS
  have hL2 : L + 2 < s.heap.objs.size := exLt hcW
  have hX0 : ∀ b ∈ [L], 138 ≤ b := by intro b hb; simp at hb; lia
  refine exL (by decide) ?_
  refine wpAny_If ?_
  refine' wpAny_isTrue_Compare1 ?_ ?hs
  (case hs => kernel_rfl!)
  walk_at "es"
  refine kMinL hh hlX hX hne fun M tM s₁ hM hMle K1 => ?_
  have F1 := F.kept K1
  have M1 := heq M hM hMle
  have K1' := K1
  obtain ⟨h1, tk1, es1, k1⟩ := K1
  have k1' : ∀ b o, s.heap.get? b = some o → s₁.heap.get? b = some o := by rw [es1]; exact k1
  have hcW1 : s₁.heap.IsCell (L + 2) (some (.ref aW)) := exMv hcW (k1' _)
  have hlW1 : s₁.heap.IsList aW vW.toArray := exMv hlW (k1' _)
  have hlS1 : s₁.heap.IsList aS vS.toArray := exMv hlS (k1' _)
  walk_at "es"
  refine compV (cl := [(Str.ofString "words", L + 2)]) s₁ [] (by walk_at "u") (by walk_at "u") (by decide +kernel) (by decide +kernel) ?_ (by intro _; rfl)
  have G1 := G.kept K1'
  have hWs1 : aW < s₁.heap.objs.size := exLt hlW1
  have hSs1 : aS < s₁.heap.objs.size := exLt hlS1
  have hL21 : L + 2 < s₁.heap.objs.size := exLt hcW1
  walk_at "es"
  refine iterG (makesL hlS1) .refl (by simp) fun I D C s₃ hIs hID hDC hI hD hC hit F3 k3 => ?_
  have hl3 : s₃.heap.IsList aS vS.toArray := exMv hlS1 (k3 _)
  have hneS : (aS : Nat) ≠ I := by lia
  have hS' : IntsAre vS (o.map fun (p : Nat) => (p : Int)) := hS
  have hoo4 : o.length = 4 := ho4
  have hop' : ∀ p ∈ o, p < 4 := hop
  refine compStartG rfl (Walks.list hh I aS hneS vS.toArray) ⟨⟨_, hit, rfl, rfl⟩, hl3⟩ (compWalkN (env := compEnvC _ _ C (lawEnv L cd)) rfl rfl (Walks.list hh I aS hneS vS.toArray) F3 ⟨⟨_, hit, rfl, rfl⟩, hl3⟩ (by intro b hb; simp at hb ⊢; lia) (by intro b hb; rw [List.mem_singleton.mp hb]; exact hI) (List.Mem.head _)
    (fun i l₁ news₁ => ∃ us k, news₁ = [(D, lo us k)] ∧ IntsAre us (dsOf ws (o.take i))) ?_ ⟨[], 0, rfl, by simpa [dsOf] using IntsAre.nil⟩ ?_ ?_ (by walk_at "u") (by walk_at "u") (by intro _; rfl))
  · rintro i l₁ news₁ ⟨us, k, rfl, _⟩ p hp
    rw [List.mem_singleton.mp hp]
    simp; lia
  · rintro i v s₄ l₁ news₁ E' hlt hv ⟨us, k, rfl, hus⟩ F4 K4 _
    obtain ⟨z0, tz0, hz0, rfl⟩ := intsAt hS' (by simpa using hv)
    rw [List.getElem?_map] at hz0
    obtain ⟨p, hpi, rfl⟩ := Option.map_eq_some_iff.mp hz0
    have hp4 : p < 4 := hop' p (List.mem_of_getElem? hpi)
    obtain ⟨c, hci⟩ : ∃ c, ws[p]? = some c := ⟨_, List.getElem?_eq_getElem (by lia)⟩
    obtain ⟨d0, us', hvd, hdl, hdi⟩ := hW.2 p c hci
    obtain ⟨d, rfl⟩ : ∃ d : Nat, d = d0 := ⟨_, rfl⟩
    have hgd : ws.getD p [] = c := by rw [List.getD_eq_getElem?_getD, hci]; rfl
    have hd1 : s₁.heap.IsList d us'.toArray := exMv hdl (k1' _)
    have hds0 : d < s₁.heap.objs.size := exLt hd1
    walk_at "es"
    refine ldC (c := L + 2) (by walk_at "u") (ckp hcW1 K4 (by simp; lia)) ?_ (by walk_at "u") (by walk_at "u") (by decide +kernel)
    walk_at "es"
    refine tailL (lkp hlW1 K4 (by simp; lia)) (by lia) (by lia) (by simpa using hvd) ?_ (by walk_at "u")
    have hd4 : s₄.heap.IsList d us'.toArray := lkp hd1 K4 (by simp; lia)
    refine wpAny_pyIter_list hd4 ?_
    have hds : d < s₄.heap.objs.size := exLt hd4
    have F5 := F4.push (s := s₄) { cls := .type "list_iterator", data := .fields #[.ref d, .int 0 0] }
    have hCs : C < s₄.heap.objs.size := F4.lt
    have hDs : D < s₄.heap.objs.size := F4.ltN (p := (D, lo us k)) (List.Mem.head _)
    have hwl : us'.toArray.size = c.length := by simp [hdi.length]
    have hul := hus.length
    have hr3 := hw3 c (List.mem_of_getElem? hci)
    have hfi := dsOf_len hw3 (o.take i)
    have hti : (o.take i).length ≤ 4 := by rw [List.length_take, hoo4]; lia
    refine compStartG rfl (Walks.list hh s₄.heap.objs.size d (Nat.ne_of_lt hds) us'.toArray) ⟨⟨_, Heap.get?_push_size _ rfl, rfl, rfl⟩, hd4.push _⟩ (compWalkE (env := compEnvC _ _ C (lawEnv L cd)) rfl rfl (Walks.list hh s₄.heap.objs.size d (Nat.ne_of_lt hds) us'.toArray) F5 ⟨⟨_, Heap.get?_push_size _ rfl, rfl, rfl⟩, hd4.push _⟩ ?_ (by intro b hb; rw [List.mem_singleton.mp hb]; exact get_above (Nat.le_refl _)) (List.Mem.head _)
      (fun j l₁ news₁ => ∃ us k, news₁ = [(D, lo us k)] ∧ IntsAre us (dsOf ws (o.take i) ++ c.take j)) ?_ ⟨us, k, rfl, by simpa using hus⟩ ?_ ?_ (by walk_at "u") (by walk_at "u"))
    · intro b hb
      simp at hb ⊢
      lia
    · rintro j l₁ news₁ ⟨us, k, rfl, _⟩ p hp
      rw [List.mem_singleton.mp hp]
      simp; lia
    · rintro j v s₅ l₂ news₂ E2 hlt2 hv2 ⟨us2, k2, rfl, hus2⟩ F6 K6 _
      obtain ⟨z, tz, hz1, rfl⟩ := intsAt hdi (by simpa using hv2)
      walk_at "es"
      have hul2 := hus2.length
      have htj : (c.take j).length ≤ 3 := Nat.le_trans (List.length_take_le' _ _) hr3
      rw [List.length_append] at hul2
      refine appendL (by assumption) (by simp) (by simp) (by show us2.length ≤ 16777216; lia) fun s₆ F7 => ⟨_, _, F7, _, _, rfl, ?_⟩
      rw [List.take_add_one, hz1, ← List.append_assoc]
      exact ints_snoc hus2 _ _
    · rintro l₂ news₂ s₅ ⟨us2, k2, rfl, hus2⟩ F6
      refine ⟨rfl, l₂, _, F6, us2, k2, rfl, ?_⟩
      rw [hwl, List.take_length] at hus2
      rw [dsOf_take hpi, hgd]
      exact hus2
  · rintro l₁ news₁ s₄ ⟨us, k, rfl, hus⟩ F4
    rw [show vS.toArray.size = 4 by rw [List.size_toArray, hS'.length, List.length_map, hoo4], ← hoo4, List.take_length] at hus
    refine ⟨rfl, us, k, l₁, [], F4, fun s₅ K5 h5 _ => ?_⟩
    dsimp only
    have K15 : Kp [L] s₁ s₅ := K5.mono (by simp)
    walk_at "es"
    refine ⟨F1.kp.trans K15, ?_⟩
    refine number_spec (by lia) hh (G1.keptX K5 (by simp)) ⟨_, h5, rfl, k, rfl⟩ hus fun tN s₆ K6 => ?_
    rw [← M1]
    walk_at "es"
    rw [show (M != M) = false by simp]
    walk_at "es"
    try walk_at "nx"
    exact wpAny_execs_nil (hQ _ ((F1.after K5).kept K6))
theorem law_g21 {aW aS aX : Nat} {vW vS vX : List Value} {ws : List (List Int)} {o : List Nat} {rn : List Int} {Q : Flow → Shared → Prop} (hA : A.depth < 880) (hh : A.handled = none) (G : GL H s.heap) (hL8 : 138 ≤ L) (F : Fm s [L] L l [] s)
    (hcW : s.heap.IsCell (L + 2) (some (.ref aW))) (hlW : s.heap.IsList aW vW.toArray) (hW : ListsOf s.heap vW ws) (hw4 : ws.length = 4) (hw3 : ∀ x ∈ ws, x.length ≤ 3)
    (hlS : s.heap.IsList aS vS.toArray) (hS : IntsAre vS (o.map fun (p : Nat) => (p : Int))) (ho4 : o.length = 4) (hop : ∀ p ∈ o, p < 4) (hkS : lk l (Str.ofString "rising") = some (.ref aS))
    (hlX : s.heap.IsList aX vX.toArray) (hX : IntsAre vX rn) (hne : 0 < rn.length) (hkX : lk l (Str.ofString "runs") = some (.ref aX))
    (heq : ∀ M ∈ rn, (∀ a ∈ rn, a ≤ M) → M = numOf (dsOf ws o.reverse))
    (hQ : ∀ s', Fm s [L] L l [] s' → LawFrom w A L cd 22 Q E s') : LawFrom w A L cd 21 Q E s := by
  have hGs := G.size
  have hLs : L < s.heap.objs.size := F.lt
  have hWs : aW < s.heap.objs.size := exLt hlW
  have hSs : aS < s.heap.objs.size := exLt hlS
  have hL2 : L + 2 < s.heap.objs.size := exLt hcW
  have hX0 : ∀ b ∈ [L], 138 ≤ b := by intro b hb; simp at hb; lia
  refine exL (by decide) ?_
  refine wpAny_If ?_
  refine' wpAny_isTrue_Compare1 ?_ ?hs
  (case hs => kernel_rfl!)
  walk_at "es"
  refine kMaxL hh hlX hX hne fun M tM s₁ hM hMle K1 => ?_
  have F1 := F.kept K1
  have M1 := heq M hM hMle
  have K1' := K1
  obtain ⟨h1, tk1, es1, k1⟩ := K1
  have k1' : ∀ b o, s.heap.get? b = some o → s₁.heap.get? b = some o := by rw [es1]; exact k1
  have hcW1 : s₁.heap.IsCell (L + 2) (some (.ref aW)) := exMv hcW (k1' _)
  have hlW1 : s₁.heap.IsList aW vW.toArray := exMv hlW (k1' _)
  have hlS1 : s₁.heap.IsList aS vS.toArray := exMv hlS (k1' _)
  walk_at "es"
  refine compV (cl := [(Str.ofString "words", L + 2)]) s₁ [] (by walk_at "u") (by walk_at "u") (by decide +kernel) (by decide +kernel) ?_ (by intro _; rfl)
  have G1 := G.kept K1'
  have hWs1 : aW < s₁.heap.objs.size := exLt hlW1
  have hSs1 : aS < s₁.heap.objs.size := exLt hlS1
  have hL21 : L + 2 < s₁.heap.objs.size := exLt hcW1
  have FR := F1.rebase []
  walk_at "es"
  refine sliceRev (a := aS) ?_ (by intro _ _; walk_at "u")
  walk_at "es"
  refine SliceRev.intro (by assumption) (vs := vS) ?_ ?_ fun D0 s₂ hD0 hLD0 _ F2 => ?_
  · refine lkp hlS1 (Fm.kp (by assumption)) (by simp)
  · rw [hS.length, List.length_map, ho4]; simp [sizeLine]
  refine iterG (makesL (F2.isList (List.Mem.head _))) F2.kp (by simp) fun I D C s₃ hIs hID hDC hI hD hC hit F3 k3 => ?_
  have hD02 : D0 < s₂.heap.objs.size := F2.ltN (p := (D0, _)) (List.Mem.head _)
  have hl3 : s₃.heap.IsList D0 vS.reverse.toArray := exMv (F2.isList (List.Mem.head _)) (k3 _)
  have hneS : (D0 : Nat) ≠ I := by lia
  have hWs2 : aW < s₂.heap.objs.size := by obtain ⟨o, ho, _⟩ := hlW1; exact Heap.lt_size (F2.kp.keep _ _ (by simp) ho)
  have hL22 : L + 2 < s₂.heap.objs.size := by obtain ⟨o, ho, _⟩ := hcW1; exact Heap.lt_size (F2.kp.keep _ _ (by simp) ho)
  have hS' : IntsAre vS.reverse (o.reverse.map fun (p : Nat) => (p : Int)) := by rw [List.map_reverse]; exact hS.reverse
  have hoo4 : o.reverse.length = 4 := by rw [List.length_reverse]; exact ho4
  have hop' : ∀ p ∈ o.reverse, p < 4 := fun p hp => hop p (List.mem_reverse.mp hp)
  refine compStartG rfl (Walks.list hh I D0 hneS vS.reverse.toArray) ⟨⟨_, hit, rfl, rfl⟩, hl3⟩ (compWalkN (env := compEnvC _ _ C (lawEnv L cd)) rfl rfl (Walks.list hh I D0 hneS vS.reverse.toArray) F3 ⟨⟨_, hit, rfl, rfl⟩, hl3⟩ (by intro b hb; simp at hb ⊢; lia) (by intro b hb; rw [List.mem_singleton.mp hb]; exact hI) (List.Mem.head _)
    (fun i l₁ news₁ => ∃ us k, news₁ = [(D, lo us k)] ∧ IntsAre us (dsOf ws (o.reverse.take i))) ?_ ⟨[], 0, rfl, by simpa [dsOf] using IntsAre.nil⟩ ?_ ?_ (by walk_at "u") (by walk_at "u") (by intro _; rfl))
  · rintro i l₁ news₁ ⟨us, k, rfl, _⟩ p hp
    rw [List.mem_singleton.mp hp]
    simp; lia
  · rintro i v s₄ l₁ news₁ E' hlt hv ⟨us, k, rfl, hus⟩ F4 K4 _
    obtain ⟨z0, tz0, hz0, rfl⟩ := intsAt hS' (by simpa using hv)
    rw [List.getElem?_map] at hz0
    obtain ⟨p, hpi, rfl⟩ := Option.map_eq_some_iff.mp hz0
    have hp4 : p < 4 := hop' p (List.mem_of_getElem? hpi)
    obtain ⟨c, hci⟩ : ∃ c, ws[p]? = some c := ⟨_, List.getElem?_eq_getElem (by lia)⟩
    obtain ⟨d0, us', hvd, hdl, hdi⟩ := hW.2 p c hci
    obtain ⟨d, rfl⟩ : ∃ d : Nat, d = d0 := ⟨_, rfl⟩
    have hgd : ws.getD p [] = c := by rw [List.getD_eq_getElem?_getD, hci]; rfl
    have hd1 : s₁.heap.IsList d us'.toArray := exMv hdl (k1' _)
    have hds0 : d < s₁.heap.objs.size := exLt hd1
    have hds2 : d < s₂.heap.objs.size := by obtain ⟨o, ho, _⟩ := hd1; exact Heap.lt_size (F2.kp.keep _ _ (by simp) ho)
    walk_at "es"
    refine ldC (c := L + 2) (by walk_at "u") (ckp hcW1 K4 (by simp; lia)) ?_ (by walk_at "u") (by walk_at "u") (by decide +kernel)
    walk_at "es"
    refine tailL (lkp hlW1 K4 (by simp; lia)) (by lia) (by lia) (by simpa using hvd) ?_ (by walk_at "u")
    have hd4 : s₄.heap.IsList d us'.toArray := lkp hd1 K4 (by simp; lia)
    refine wpAny_pyIter_list hd4 ?_
    have hds : d < s₄.heap.objs.size := exLt hd4
    have F5 := F4.push (s := s₄) { cls := .type "list_iterator", data := .fields #[.ref d, .int 0 0] }
    have hCs : C < s₄.heap.objs.size := F4.lt
    have hDs : D < s₄.heap.objs.size := F4.ltN (p := (D, lo us k)) (List.Mem.head _)
    have hwl : us'.toArray.size = c.length := by simp [hdi.length]
    have hul := hus.length
    have hr3 := hw3 c (List.mem_of_getElem? hci)
    have hfi := dsOf_len hw3 (o.reverse.take i)
    have hti : (o.reverse.take i).length ≤ 4 := by rw [List.length_take, hoo4]; lia
    refine compStartG rfl (Walks.list hh s₄.heap.objs.size d (Nat.ne_of_lt hds) us'.toArray) ⟨⟨_, Heap.get?_push_size _ rfl, rfl, rfl⟩, hd4.push _⟩ (compWalkE (env := compEnvC _ _ C (lawEnv L cd)) rfl rfl (Walks.list hh s₄.heap.objs.size d (Nat.ne_of_lt hds) us'.toArray) F5 ⟨⟨_, Heap.get?_push_size _ rfl, rfl, rfl⟩, hd4.push _⟩ ?_ (by intro b hb; rw [List.mem_singleton.mp hb]; exact get_above (Nat.le_refl _)) (List.Mem.head _)
      (fun j l₁ news₁ => ∃ us k, news₁ = [(D, lo us k)] ∧ IntsAre us (dsOf ws (o.reverse.take i) ++ c.take j)) ?_ ⟨us, k, rfl, by simpa using hus⟩ ?_ ?_ (by walk_at "u") (by walk_at "u"))
    · intro b hb
      simp at hb ⊢
      lia
    · rintro j l₁ news₁ ⟨us, k, rfl, _⟩ p hp
      rw [List.mem_singleton.mp hp]
      simp; lia
    · rintro j v s₅ l₂ news₂ E2 hlt2 hv2 ⟨us2, k2, rfl, hus2⟩ F6 K6 _
      obtain ⟨z, tz, hz1, rfl⟩ := intsAt hdi (by simpa using hv2)
      walk_at "es"
      have hul2 := hus2.length
      have htj : (c.take j).length ≤ 3 := Nat.le_trans (List.length_take_le' _ _) hr3
      rw [List.length_append] at hul2
      refine appendL (by assumption) (by simp) (by simp) (by show us2.length ≤ 16777216; lia) fun s₆ F7 => ⟨_, _, F7, _, _, rfl, ?_⟩
      rw [List.take_add_one, hz1, ← List.append_assoc]
      exact ints_snoc hus2 _ _
    · rintro l₂ news₂ s₅ ⟨us2, k2, rfl, hus2⟩ F6
      refine ⟨rfl, l₂, _, F6, us2, k2, rfl, ?_⟩
      rw [hwl, List.take_length] at hus2
      rw [dsOf_take hpi, hgd]
      exact hus2
  · rintro l₁ news₁ s₄ ⟨us, k, rfl, hus⟩ F4
    rw [show vS.reverse.toArray.size = 4 by rw [List.size_toArray, hS'.length, List.length_map, hoo4], ← hoo4, List.take_length] at hus
    refine ⟨rfl, us, k, l₁, [], F4, fun s₅ K5 h5 _ => ?_⟩
    dsimp only
    have K15 : Kp [L] s₁ s₅ := K5.mono (by simp)
    walk_at "es"
    refine ⟨F1.kp.trans K15, ?_⟩
    refine number_spec (by lia) hh (G1.keptX K5 (by simp)) ⟨_, h5, rfl, k, rfl⟩ hus fun tN s₆ K6 => ?_
    rw [← M1]
    walk_at "es"
    rw [show (M != M) = false by simp]
    walk_at "es"
    try walk_at "nx"
    exact wpAny_execs_nil (hQ _ ((F1.after K5).kept K6))
end
section
open PySem PySem.W PySem.Calls PyProof.Rows PySem.Spec
set_option maxHeartbeats 4000000
section
variable {w : World} {A : Around} {E : Value → Shared → Prop} {s s₀ : Shared} {X : List Nat} {L : Nat} {l : List (Str × Value)} {news : List (Nat × Obj)} {env : Env}
/-- a for over a range, from pyIter on -/
theorem forR {Q : Flow → Shared → Prop} {x : Str} {px : Pos} {body : List Stmt} {r n : Nat} {b : Int} {t u v : Tok} (hh : A.handled = none) (F : Fm s₀ X env.locals l news s) (hr : s.heap.get? r = some (rgO 0 b t u v)) (hb : b = (n : Nat)) (hn : n < 1000)
    (hLX : env.locals ∈ X) (hX : ∀ b ∈ X, b < s.heap.objs.size)
    (J : Nat → List (Str × Value) → List (Nat × Obj) → Prop) (hJn : ∀ i l₁ news₁, J i l₁ news₁ → ∀ p ∈ news₁, p.1 < s.heap.objs.size) (h0 : J 0 l news)
    (turn : ∀ (i : Nat) (t : Tok) s₁ l₁ news₁ E', i < n → J i l₁ news₁ → Fm s₁ X env.locals ((x, .int (i : Nat) t) :: l₁) news₁ s₁ → Kp X s₀ s₁ →
      wpAny (model prog w) A (execs body env) (TurnEnd s₁ X env.locals (J (i + 1)) Q) E' s₁)
    (done : ∀ l₁ news₁ s₁, J n l₁ news₁ → Fm s₀ X env.locals l₁ news₁ s₁ → Q .next s₁)
    (hl' : env.kindOf x = some .local) (hk : env.scope.kind = .function) {Er : Value → Shared → Prop} :
    wpAny (model prog w) A (pyIter (.ref r)) (fun it s₂ => codeAny (model prog w) A (.forLoop (.Name x px) it body [] env) (fun r s' => match r with | .ok f => Q f s' | .error e => Er e s') s₂) E s := by
  subst hb
  refine (makesR (w := w) (A := A) hr (by decide) (by lia) (by lia)).2 _ _ ?_
  have F' := F.push (s := s) (riO 0 ((n : Int) - 0))
  have hst : IsRangeIter (s.heap.push (riO 0 ((n : Int) - 0))) s.heap.objs.size (0 + ((0 : Nat) : Int) * 1) ((n : Int) - ((0 : Nat) : Int)) 1 := by
    exact Heap.get?_push_size (h := s.heap) (o := riO 0 ((n : Int) - 0)) rfl
  refine forWalkN (l := l) (news := news) (Walks.range hh s.heap.objs.size 0 1 n) F' hst ?_ ?_ hLX J ?_ h0 (fun i v s₁ l₁ n₁ E' hi hP hJ F1 K1 => ?_) done hl' hk
  · intro b hb hbX
    rw [List.mem_singleton.mp hb] at hbX
    exact Nat.lt_irrefl _ (hX _ hbX)
  · intro b hb
    rw [List.mem_singleton.mp hb]
    exact F.sizeNew hX
  · intro i l₁ news₁ hJ p hp
    exact fun hw => absurd (hJn i l₁ news₁ hJ p hp) (by rw [List.mem_singleton.mp hw]; exact Nat.lt_irrefl _)
  · obtain ⟨t, rfl⟩ := hP
    rw [show (0 : Int) + (i : Int) * 1 = ((i : Nat) : Int) by lia] at F1
    exact turn i t s₁ l₁ n₁ E' hi hJ F1 K1
end
variable {H : Heap} {w : World} {A : Around} {E : Value → Shared → Prop} {s s₀ : Shared} {X : List Nat} {L : Nat} {l : List (Str × Value)} {news : List (Nat × Obj)} {cd : Value}
theorem law_g23 {Q : Flow → Shared → Prop} (h : Q (.ret (.bool true)) s) : LawFrom w A L cd 23 Q E s := by
  refine exL (by decide) ?_
  refine wpAny_Return_some ?_
  exact wpAny_Constant_bool h
theorem law_g22 {aR aP : Nat} {vR vP : List Value} {ws rows : List (List Int)} {pt : List Int} {Q : Flow → Shared → Prop} (hA : A.depth < 880) (hh : A.handled = none) (hu : A.units + 64 < cLine) (G : GL H s.heap) (hL8 : 138 ≤ L) (F : Fm s [L] L l [] s)
    (hcR : s.heap.IsCell (L + 3) (some (.ref aR))) (hlR : s.heap.IsList aR vR.toArray) (hR : ListsOf s.heap vR rows) (hrn : rows.length = 4) (hrl : ∀ r ∈ rows, r.length ≤ 3)
    (hlP : s.heap.IsList aP vP.toArray) (hP : IntsAre vP pt) (hp4 : pt.length = 4) (hkP : lk l (Str.ofString "parts") = some (.ref aP))
    (hw : ∀ o : List Nat, o ≠ [] → o.length ≤ 4 → (∀ p ∈ o, p < 4) → Word (runOf rows o) (dsOf ws o) ∧ (runOf rows o).length ≤ 20)
    (hcmp : ∀ (i j : Nat) (x y : Int), j < i → pt[i]? = some x → pt[j]? = some y → (numOf (dsOf ws [i, j]) > numOf (dsOf ws [j, i]) ↔ x > y) ∧ (numOf (dsOf ws [i, j]) = numOf (dsOf ws [j, i]) ↔ x = y))
    (hQ : ∀ l' s', Fm s [L] L l' [] s' → LawFrom w A L cd 23 Q E s') : LawFrom w A L cd 22 Q E s := by
  have hGs := G.size
  have hLs : L < s.heap.objs.size := F.lt
  have hRs : aR < s.heap.objs.size := exLt hlR
  have hPs : aP < s.heap.objs.size := exLt hlP
  have hL3 : L + 3 < s.heap.objs.size := exLt hcR
  have hRL := list_ne_ns hlR F.ns
  have hPL := list_ne_ns hlP F.ns
  have hX : ∀ b ∈ [L], 138 ≤ b := by intro b hb; simp at hb; lia
  have hRk : ∀ {s' : Shared}, Kp [L] s s' → ListsOf s'.heap vR rows := fun {s'} K => listsKpX hR K (fun j d hj => by
    obtain ⟨d', us, c, e1, _, h2, _⟩ := hR.get hj
    cases e1
    have := list_ne_ns h2 F.ns
    simpa using this)
  refine exL (by decide) ?_
  refine wpAny_For ?_ (by intro _; rfl)
  walk_at "es"
  refine kRange1 (by assumption) fun r u v s₁ hr hLr hnr F1 _ => ?_
  refine forR (env := lawEnv L cd) (n := 4) hh (F1.sub (news' := []) (by simp)) (F1.objs _ (List.Mem.head _)) rfl (by decide) (List.Mem.head _) (by intro b hb; rw [List.mem_singleton.mp hb]; exact F1.lt)
    (fun _ l₁ news₁ => news₁ = [] ∧ lk l₁ (Str.ofString "parts") = some (.ref aP)) (by rintro i l₁ news₁ ⟨rfl, _⟩ p hp; nomatch hp) ⟨rfl, hkP⟩ ?_ ?_ (by walk_at "u") (by walk_at "u")
  · rintro i ti s₂ l₁ news₁ E' hi ⟨rfl, hk1⟩ F2 K2
    have G2 := G.keptX K2 hX
    walk_at "ex"
    refine wpAny_For ?_ (by intro _; rfl)
    walk_at "es"
    refine kRange1 (by assumption) fun r2 u2 v2 s₃ hr2 hLr2 hnr2 F3 _ => ?_
    refine forR (env := lawEnv L cd) (n := i) hh (F3.sub (news' := []) (by simp)) (F3.objs _ (List.Mem.head _)) rfl (by lia) (List.Mem.head _) (by intro b hb; rw [List.mem_singleton.mp hb]; exact F3.lt)
      (fun _ l₁ news₁ => news₁ = [] ∧ lk l₁ (Str.ofString "parts") = some (.ref aP) ∧ ∃ t, lk l₁ (Str.ofString "first") = some (.int (i : Nat) t)) (by rintro i l₁ news₁ ⟨rfl, _⟩ p hp; nomatch hp) ⟨rfl, by walk_at "lk", ti, lk_hit⟩ ?_ ?_ (by walk_at "u") (by walk_at "u")
    · rintro j tj s₄ l₂ news₂ E2 hj ⟨rfl, hk2, tf, hkf⟩ F4 K4
      have K24 := K2.trans K4
      have G4 := G2.keptX K4 hX
      have hcR4 := ckp hcR K24 (by simp)
      have hlR4 : s₄.heap.IsList aR vR.toArray := lkp hlR K24 (by simp; exact hRL)
      have hlP4 : s₄.heap.IsList aP vP.toArray := lkp hlP K24 (by simp; exact hPL)
      walk_at "as"
      walk_at "es"
      refine ldC (c := L + 3) (by walk_at "u") hcR4 ?_ (by walk_at "u") (by walk_at "u") (by decide +kernel)
      walk_at "es"
      refine mkL (by assumption) (by simp [sizeLine]) fun D1 s₅ hD1 hLD1 _ F5 => ?_
      walk_at "es"
      refine ⟨F5.kp, ?_⟩
      obtain ⟨hw1, hw2⟩ := hw [i, j] (by simp) (by simp) (by intro p hp; simp at hp; lia)
      refine run_spec (order := [i, j]) (by lia) hh (G4.keptX F5.kp hX) (lkp hlR4 F5.kp (by simp; exact hRL)) (hRk (K24.trans F5.kp)) (F5.isList (List.Mem.head _)) (.cons _ _ (.cons _ _ .nil)) hw1 hw2 (by intro p hp; simp at hp; lia) (by lia) (by simp) hrl fun t1 s₆ K6 => ?_
      have F6 := (F5.sub (news' := []) (by simp)).kept K6
      walk_at "st"
      rename_i s₇ F7 _
      walk_at "as"
      walk_at "es"
      refine ldC (c := L + 3) (by walk_at "u") (ckp hcR4 F7.kp (by simp)) ?_ (by walk_at "u") (by walk_at "u") (by decide +kernel)
      walk_at "es"
      refine mkL (by assumption) (by simp [sizeLine]) fun D2 s₈ hD2 hLD2 _ F8 => ?_
      walk_at "es"
      refine ⟨F8.kp, ?_⟩
      obtain ⟨hw3, hw4⟩ := hw [j, i] (by simp) (by simp) (by intro p hp; simp at hp; lia)
      refine run_spec (order := [j, i]) (by lia) hh (G4.keptX F8.kp hX) (lkp hlR4 F8.kp (by simp; exact hRL)) (hRk (K24.trans F8.kp)) (F8.isList (List.Mem.head _)) (.cons _ _ (.cons _ _ .nil)) hw3 hw4 (by intro p hp; simp at hp; lia) (by lia) (by simp) hrl fun t2 s₉ K9 => ?_
      have F9 := (F8.sub (news' := []) (by simp)).kept K9
      walk_at "st"
      rename_i s₁₀ F10 _
      have hlP10 : s₁₀.heap.IsList aP vP.toArray := lkp hlP4 F10.kp (by simp; exact hPL)
      obtain ⟨x, hx⟩ : ∃ x, pt[i]? = some x := ⟨_, List.getElem?_eq_getElem (by lia)⟩
      obtain ⟨y, hy⟩ : ∃ y, pt[j]? = some y := ⟨_, List.getElem?_eq_getElem (by lia)⟩
      obtain ⟨tx, hvx⟩ := hP.get _ _ hx
      obtain ⟨ty, hvy⟩ := hP.get _ _ hy
      obtain ⟨c1, c2⟩ := hcmp i j x y hj hx hy
      walk_at "ex"
      refine wpAny_If ?_
      refine' wpAny_isTrue_Compare1 ?_ ?hs
      (case hs => kernel_rfl!)
      walk_at "es"
      refine mkT (by assumption) (by simp [sizeLine]) fun T1 s₁₁ hT1 hLT1 _ F11 => ?_
      have hlP11 : s₁₁.heap.IsList aP vP.toArray := lkp hlP4 F11.kp (by simp; exact hPL)
      walk_at "es"
      refine tailL hlP11 (by lia) (by lia) (by simpa using hvx) ?_ (by walk_at "u")
      walk_at "es"
      refine tailL hlP11 (by lia) (by lia) (by simpa using hvy) ?_ (by walk_at "u")
      walk_at "es"
      refine tailL hlP11 (by lia) (by lia) (by simpa using hvx) ?_ (by walk_at "u")
      walk_at "es"
      refine tailL hlP11 (by lia) (by lia) (by simpa using hvy) ?_ (by walk_at "u")
      walk_at "es"
      refine mkT (by assumption) (by simp [sizeLine]) fun T2 s₁₂ hT2 hLT2 _ F12 => ?_
      refine PySem.EqBoolInt.of_rcne (k := false) (SeqAt.RcNeAt.tuples (e := fun _ => true) (F12.isTuple (List.Mem.tail _ (List.Mem.head _))) (F12.isTuple (List.Mem.head _)) (by lia) ?_) ?_
      · intro k k1 k2
        have hk : k = 0 ∨ k = 1 := by simp at k1; lia
        rcases hk with rfl | rfl
        · refine eqTrue (SeqAt.EqAt.bool_bool _ _) ?_
          rw [beq_iff_eq]
          exact decide_eq_decide.mpr c1
        · refine eqTrue (SeqAt.EqAt.bool_bool _ _) ?_
          rw [beq_iff_eq, Bool.eq_iff_iff, beq_iff_eq, beq_iff_eq]
          exact c2
      walk_at "es"
      walk_at "nil"
      refine wpAny_execs_nil (⟨_, _, (F12.sub (news' := []) (by simp)), rfl, by walk_at "lk", tf, by walk_at "lk"⟩)
    · rintro l₂ news₂ s₄ ⟨rfl, hk2, _⟩ F4
      try walk_at "nx"
      exact wpAny_execs_nil ⟨_, _, F4, rfl, hk2⟩
  · rintro l₁ news₁ s₂ ⟨rfl, hk1⟩ F2
    exact hQ _ _ F2
end
section
open PySem PySem.W PySem.Calls PyProof.Rows
section
variable (prog : Program) (w : World) (sub : Ctx → Pos → SharedT → Option (Result × SharedT))
/-- a thing read, where it lives -/
noncomputable def rd (s : SharedT) (a : Nat) : Option Obj := bif Nat.blt a s.n then (s.tree.get a).bind alive else none
/-- an evaluator of a tree without generators -/
noncomputable def evA {α : Type} (Γ : Ctx) (t : Sem α) : Pos → SharedT → Option (Except Value α × Pos × SharedT) :=
  Sem.rec (motive := fun _ => Pos → SharedT → Option (Except Value α × Pos × SharedT))
    (fun a p s => some (.ok a, p, s)) (fun e p s => some (.error e, p, s)) (fun _ _ _ => none) (fun _ _ _ => none)
    (fun _ _ ih p s => ih () p s) (fun p' _ ih _ s => ih () p' s)
    (fun a _ _ ih p s => (rd s a).bind fun o => ih o p s)
    (fun a _ f _ ih p s => (rd s a).bind fun _ => ih () p { s with tree := s.tree.set a f })
    (fun o _ ih p s => bif ((s.tree.ins s.n o).get s.n).isSome then ih s.n p { s with tree := s.tree.ins s.n o, n := s.n + 1 } else none)
    (fun a _ ih p s => bif Nat.blt a s.n then (s.tree.get a).bind fun o => ih (alive o) p s else ih none p s)
    (fun _ _ ih p s => ih () p s) (fun _ _ _ _ _ => none)
    (fun _ ih p s => ih s.toks p { s with toks := s.toks + 1 })
    (fun _ ih p s => ih ⟨prog, w.params⟩ p s)
    (fun _ _ _ _ _ _ => none) (fun _ _ _ _ _ _ => none)
    (fun c h _ _ _ ih p s => (sub (Γ.enter c h p) p s).bind fun x => ih x.1 p x.2)
    (fun own _ ih p s => ih (if own then Γ.own else Γ.handled) p s)
    (fun _ _ _ _ _ => none) (fun _ _ _ _ _ => none) (fun _ _ _ _ _ _ _ => none) (fun _ _ _ _ _ _ _ => none)
    (fun _ ih p s => ih ((Γ.code, p) :: Γ.below) p s) (fun _ _ _ _ _ => none) (fun _ ih p s => ih 0 p s) (fun _ _ _ _ _ _ _ _ => none) t
end
noncomputable def evEnd (go : Code → Pos → SharedT → Option (Result × SharedT)) (x : Except Value Fin × Pos × SharedT) : Option (Result × SharedT) :=
  Except.casesOn (motive := fun _ => Option (Result × SharedT)) x.1 (fun e => some (.error e, x.2.2)) fun f => PySem.Fin.casesOn (motive := fun _ => Option (Result × SharedT)) f (fun v => some (.ok v, x.2.2)) fun c => bif c.quiet then go c x.2.1 x.2.2 else none
noncomputable def evC (dn : Code → Sem Fin) (prog : Program) (w : World) (n : Nat) : Ctx → Pos → SharedT → Option (Result × SharedT) :=
  Nat.rec (motive := fun _ => Ctx → Pos → SharedT → Option (Result × SharedT)) (fun _ _ _ => none) (fun _ ih Γ p s => (evA prog w ih Γ (dn Γ.code) p s).bind (evEnd fun c p' s' => ih (Γ.goto c) p' s')) n
section
variable {den : Code → Sem Fin} {prog : Program} {w : World} {sub : Ctx → Pos → SharedT → Option (Result × SharedT)}
theorem rd_some {s : SharedT} {a : Nat} {o : Obj} (h : rd s a = some o) : ∃ o₁, s.tree.get a = some o₁ ∧ alive o₁ = some o ∧ a < s.n := by
  unfold rd at h
  cases hb : Nat.blt a s.n with
  | false => rw [hb] at h; cases h
  | true =>
    rw [hb] at h
    obtain ⟨o₁, h1, h2⟩ := Option.bind_eq_some_iff.mp h
    exact ⟨o₁, h1, h2, Nat.le_of_ble_eq_true hb⟩
theorem evA_sound (hsub : ∀ Γ p s r s', sub Γ p s = some (r, s') → ∀ R : Result → Shared → Prop, R r s'.abs → wpCode ⟨den, prog, w⟩ Γ R p s.abs) {α : Type} :
    ∀ (t : Sem α) (Γ : Ctx) (p : Pos) (s : SharedT) (r : Except Value α) (p' : Pos) (s' : SharedT), evA prog w sub Γ t p s = some (r, p', s') →
      ∀ (Q : α → Pos → Shared → Prop) (E : Value → Pos → Shared → Prop), (match r with | .ok a => Q a p' s'.abs | .error e => E e p' s'.abs) → Sem.wp ⟨den, prog, w⟩ Γ t Q E p s.abs := by
  intro t
  induction t with
  | pure a => intro Γ p s r p' s' h Q E q; cases h; rw [Sem.wp]; exact q
  | raise e => intro Γ p s r p' s' h Q E q; cases h; rw [Sem.wp]; exact q
  | rule tag k ih => intro Γ p s r p' s' h Q E q; rw [Sem.wp]; exact ih () _ _ _ _ _ _ h Q E q
  | «at» p₀ k ih => intro Γ p s r p' s' h Q E q; rw [Sem.wp]; exact ih () _ _ _ _ _ _ h Q E q
  | load a part k ih =>
    intro Γ p s r p' s' h Q E q
    obtain ⟨o', ho, h⟩ := Option.bind_eq_some_iff.mp h
    obtain ⟨o, hg, ha, hb⟩ := rd_some ho
    rw [Sem.wp]
    exact ⟨o', by rw [← ha]; exact abs_get (life := s.life) hb hg, ih o' _ _ _ _ _ _ h Q E q⟩
  | update a part f k ih =>
    intro Γ p s r p' s' h Q E q
    obtain ⟨o', ho, h⟩ := Option.bind_eq_some_iff.mp h
    obtain ⟨o, hg, ha, hb⟩ := rd_some ho
    have e := abs_get (life := s.life) hb hg
    rw [Sem.wp]
    refine ⟨by show ((absHeap s.tree s.n s.life).get? a).isSome = true; rw [e, ha]; rfl, ?_⟩
    have := ih () _ _ _ _ _ _ h Q E q
    have e2 := absHeap_set (t := s.tree) (n := s.n) (life := s.life) (f := f) hg
    show Sem.wp _ _ _ _ _ _ { s.abs with heap := (absHeap s.tree s.n s.life).update a f }
    rw [← e2]; exact this
  | loadIfAlive a k ih =>
    intro Γ p s r p' s' h Q E q
    replace h : (bif Nat.blt a s.n then (s.tree.get a).bind fun o => evA prog w sub Γ (k (alive o)) p s else evA prog w sub Γ (k none) p s) = some (r, p', s') := h
    rw [Sem.wp]
    show Sem.wp _ _ (k ((absHeap s.tree s.n s.life).get? a)) _ _ _ _
    cases hb : Nat.blt a s.n with
    | false =>
      rw [hb] at h
      rw [abs_get_none (fun q => by rw [show Nat.blt a s.n = true from Nat.ble_eq_true_of_le q] at hb; cases hb)]
      exact ih _ _ _ _ _ _ _ h Q E q
    | true =>
      rw [hb] at h
      obtain ⟨o, hg, h⟩ := Option.bind_eq_some_iff.mp h
      rw [abs_get (life := s.life) (Nat.le_of_ble_eq_true hb : a < s.n) hg]
      exact ih _ _ _ _ _ _ _ h Q E q
  | point l k ih => intro Γ p s r p' s' h Q E q; rw [Sem.wp]; exact ih () _ _ _ _ _ _ h Q E q
  | alloc o k ih =>
    intro Γ p s r p' s' h Q E q
    replace h : (bif ((s.tree.ins s.n o).get s.n).isSome then evA prog w sub Γ (k s.n) p { s with tree := s.tree.ins s.n o, n := s.n + 1 } else none) = some (r, p', s') := h
    cases hb : ((s.tree.ins s.n o).get s.n).isSome with
    | false => rw [hb] at h; cases h
    | true =>
      rw [hb] at h
      rw [Sem.wp]
      have := ih _ _ _ _ _ _ _ h Q E q
      show Sem.wp _ _ (k (absHeap s.tree s.n s.life).objs.size) _ _ _ { s.abs with heap := (absHeap s.tree s.n s.life).push o }
      rw [absHeap_size, ← absHeap_ins hb]; exact this
  | fresh k ih => intro Γ p s r p' s' h Q E q; rw [Sem.wp]; exact ih _ _ _ _ _ _ _ h Q E q
  | ask k ih => intro Γ p s r p' s' h Q E q; rw [Sem.wp]; exact ih _ _ _ _ _ _ _ h Q E q
  | handled own k ih => intro Γ p s r p' s' h Q E q; rw [Sem.wp]; exact ih _ _ _ _ _ _ _ h Q E q
  | stack k ih => intro Γ p s r p' s' h Q E q; rw [Sem.wp]; exact ih _ _ _ _ _ _ _ h Q E q
  | thread k ih => intro Γ p s r p' s' h Q E q; rw [Sem.wp]; exact ih _ _ _ _ _ _ _ h Q E q
  | call c hd g l k ih =>
    intro Γ p s r p' s' h Q E q
    obtain ⟨⟨r₁, s₁⟩, hs, h⟩ := Option.bind_eq_some_iff.mp h
    rw [Sem.wp]
    exact hsub _ _ _ _ _ hs _ (ih r₁ _ _ _ _ _ _ h Q E q)
  | _ => intro Γ p s r p' s' h; cases h
theorem evC_sound (n : Nat) : ∀ (Γ : Ctx) (p : Pos) (s : SharedT) (r : Result) (s' : SharedT), evC den prog w n Γ p s = some (r, s') → ∀ R : Result → Shared → Prop, R r s'.abs → wpCode ⟨den, prog, w⟩ Γ R p s.abs := by
  induction n with
  | zero => intro Γ p s r s' h; cases h
  | succ n ih =>
    intro Γ p s r s' h R q
    obtain ⟨⟨r₁, p₁, s₁⟩, he, h⟩ := Option.bind_eq_some_iff.mp h
    have key := evA_sound ih (den Γ.code) Γ p s r₁ p₁ s₁ he (Sem.finPost ⟨den, prog, w⟩ Γ R) (fun e _ s' => R (.error e) s')
    refine (Sem.wp_iff_runs (M := ⟨den, prog, w⟩) (Γ := Γ) (den Γ.code) R p s.abs).mp (key ?_)
    cases r₁ with
    | error e => cases h; exact q
    | ok f =>
      cases f with
      | done f => cases h; exact q
      | again c =>
        replace h : (bif c.quiet then evC den prog w n (Γ.goto c) p₁ s₁ else none) = some (r, s') := h
        cases hq : c.quiet with
        | false => rw [hq] at h; cases h
        | true =>
          rw [hq] at h
          exact ⟨hq, ih _ _ _ _ _ h R q⟩
end
/-- the boot's things -/
noncomputable def bootT (q : Params) : BT := (((((((((((BT.nil.ins 0 (boot_o_0 q)).ins 1 (boot_o_1 q)).ins 2 (boot_o_2 q)).ins 3 (boot_o_3 q)).ins 4 (boot_o_4 q)).ins 5 (boot_o_5 q)).ins 6 (boot_o_6 q)).ins 7 (boot_o_7 q)).ins 8 (boot_o_8 q)).ins 9 (boot_o_9 q)).ins 10 (boot_o_10 q))
noncomputable def S0 (w : World) (os : OsState) : SharedT := ⟨bootT w.params, 11, {}, #[], boot_drawn, boot_toks, os⟩
theorem S0_abs (w : World) (os : OsState) : (S0 w os).abs = ⟨boot_heap w.params, #[], boot_drawn, boot_toks, os⟩ := by kernel_rfl
noncomputable def denQ : Code → Sem Fin := PySem.W.Fast.tw11892475500146522536 PySem.W.Fast.tw14364793385576792824
theorem denQ_eq : denote treeTable = denQ := by rw [PySem.W.Fast.te11892475500146522536, PySem.W.Fast.te14364793385576792824]; rfl
theorem denT : denote table = denQ := by rw [table_eq_tree, denQ_eq]
noncomputable def execsQ : List Stmt → Env → Sem Flow := PySem.W.Fast.tw12563942051412417395
end
section
open PySem PySem.W PySem.Calls PyProof.Rows
set_option maxHeartbeats 1000000
section
variable {w : World} {A : Around} {E : Value → Shared → Prop} {s s₀ : Shared} {env : Env}
noncomputable abbrev ik (w : World) := intKind prog w
theorem wp_updateDict_part {M : Model} {Γ : Ctx} {d : Addr} {f : Array DictEntry → Array DictEntry} {part : Option Value} {Q : Unit → Pos → Shared → Prop} {E : Value → Pos → Shared → Prop} {p : Pos} {s : Shared} (h : Sem.wp M Γ (updateDict d f part) Q E p s) : Sem.wp M Γ (updateDict d f) Q E p s := by
  unfold updateDict at h ⊢
  rw [Sem.wp_bind'] at h ⊢
  obtain ⟨o, ho, h⟩ := h
  refine ⟨o, ho, ?_⟩
  rw [Sem.wp] at h ⊢
  cases hd : o.data <;> simp only [hd] at h ⊢ <;> try exact h
theorem wp_updateDictKeys_part {M : Model} {Γ : Ctx} {d : Addr} {f : Array DictEntry → Array DictEntry} {part : Option Value} {Q : Unit → Pos → Shared → Prop} {E : Value → Pos → Shared → Prop} {p : Pos} {s : Shared} (h : Sem.wp M Γ (updateDictKeys d f part) Q E p s) : Sem.wp M Γ (updateDictKeys d f) Q E p s := by
  unfold updateDictKeys at h ⊢
  rw [Sem.wp_bind'] at h ⊢
  obtain ⟨o, ho, h⟩ := h
  refine ⟨o, ho, ?_⟩
  rw [Sem.wp] at h ⊢
  cases hd : o.data <;> simp only [hd] at h ⊢ <;> try exact h
theorem dictPut_of {M : Model} {d : Addr} {key v : Value} {hh : Int} {Q : Unit → Shared → Prop} (h : wpAny M A (dictSetHashed d key hh v) Q E s) : wpAny M A (dictPut d hh key v) Q E s := by
  intro Γ p hΓ
  have h1 := h Γ p hΓ
  unfold dictSetHashed at h1
  unfold dictPut
  simp only [Sem.wp_holding, Sem.wp_bind'] at h1 ⊢
  refine Sem.wp_mono _ _ _ (fun r p s hr => ?_) (fun _ _ _ e => e) _ _ h1
  cases r with
  | some i => exact wp_updateDict_part (by simpa [Sem.wp_bind', Sem.wp_cmd_rule, Sem.wp_cmd_point] using hr)
  | none => exact wp_updateDictKeys_part (by simpa [Sem.wp_bind', Sem.wp_cmd_rule, Sem.wp_cmd_point] using hr)
/-- one dict into another -/
theorem merge_dict {d o : Addr} {kvs more : List (Int × Value)} {Q : Unit → Shared → Prop} (hdo : d ≠ o) (hoS : (o == sysModules) = false)
    (hd : s.heap.DictOf (ik w) d kvs) (hne : kvs ≠ []) (ho : s.heap.DictOf (ik w) o more) (hsz : kvs.length + more.length ≤ sizeLine)
    (hQ : ∀ h', h'.DictOf (ik w) d (merged kvs more) → Heap.SameBut d s.heap h' → Q () { s with heap := h' }) :
    wpAny (model prog w) A (mergeMapping d (.ref o) false) Q E s := by
  obtain ⟨od, esd, epd, hod, hcd, hdd, hkd, hpd, hnd⟩ := id hd
  obtain ⟨oo, eso, epo, hoo, hco, hdo', hko, hpo, hno⟩ := id ho
  have hlen : more.length = eso.size := by rw [← hpo.length]; simp
  have hde : esd.isEmpty = false := by
    have := hpd.length
    have h0 : 0 < kvs.length := List.length_pos_iff.mpr hne
    cases q : esd.isEmpty with
    | false => rfl
    | true => rw [Array.isEmpty_iff.mp q] at this; simp at this; lia
  unfold mergeMapping
  refine wpAny_bind (wpAny_isInstance (T := "dict") ⟨_, hoo, hco.1⟩ PySem.F.sub_dict_dict ?_)
  rw [if_pos rfl]
  refine wpAny_bind (wpAny_specialOf (T := "dict") ⟨_, hoo, hco.1⟩ PySem.F.slot_dict_iter.lookup ?_)
  refine wpAny_bind (wpAny_pure ?_)
  rw [show ((some (Value.builtin "dict.__iter__") == some (Value.builtin "dict.__iter__")) = true) by decide]
  dsimp only
  rw [if_neg (by rw [hoS]; exact Bool.false_ne_true)]
  refine wpAny_bind (wpAny_dictEntries hod hdd ?_)
  rw [if_neg (by rw [hde]; exact Bool.false_ne_true)]
  refine wpAny_bind (wpAny_dictEntries hoo hdo' ?_)
  refine wpAny_bind (wpAny_dictEpoch hoo hdo' ?_)
  refine wpAny_bind ?_
  rw [List.range_eq_range']
  refine wpAny_forIn_list _
    (fun rest _ s' => ∃ h' i, s' = { s with heap := h' } ∧ rest = List.range' i (eso.size - i) ∧ i ≤ eso.size ∧ h'.DictOf (ik w) d (merged kvs (more.take i)) ∧ h'.get? o = some oo ∧ Heap.SameBut d s.heap h')
    _ ?_ ?_ _ _ ⟨s.heap, 0, rfl, by simp, Nat.zero_le _, by simpa [merged] using hd, hoo, Heap.SameBut.refl _ _⟩
  · rintro x rest b s' ⟨h', i, rfl, hr, hi, hd', hoo', hs'⟩
    have hlt : i < eso.size := by
      rcases Nat.lt_or_ge i eso.size with h | h
      · exact h
      · rw [Nat.sub_eq_zero_of_le h] at hr; simp at hr
    obtain ⟨rfl, hrest⟩ : x = i ∧ rest = List.range' (i + 1) (eso.size - (i + 1)) := by
      have e : eso.size - i = (eso.size - (i + 1)) + 1 := by lia
      rw [e, List.range'_succ] at hr
      injection hr with h1 h2
      exact ⟨h1, h2⟩
    refine wpAny_bind (wpAny_dictEntries hoo' hdo' ?_)
    rw [Array.getElem?_eq_getElem hlt]
    obtain ⟨kv, hkv⟩ : ∃ kv, more[x]? = some kv := ⟨more[x]'(by rw [hlen]; exact hlt), List.getElem?_eq_getElem _⟩
    obtain ⟨k, v⟩ := kv
    obtain ⟨hkey, hval⟩ := hpo.get? (e := eso[x]) (by simp [hlt]) hkv
    obtain ⟨k', hkey', hhash⟩ := hko eso[x] (Array.getElem_mem hlt)
    obtain rfl : k' = k := (ik w).inj _ _ _ hkey' hkey
    have hmx : (merged kvs (more.take x)).length ≤ sizeLine := by
      have := merged_length_le kvs (more.take x)
      simp at this
      lia
    dsimp only
    rw [hhash, hval]
    refine wpAny_bind (wpAny_holding ?_)
    simp only [Bool.false_eq_true, if_false]
    refine dictPut_of (wpAny_dictSetHashed_pairs (knd := ik w) (hsz := hmx) hkey hd' fun h₁ hd₁ hs₁ => ?_)
    have hoo₁ : h₁.get? o = some oo := (hs₁.2 o (Ne.symm hdo)).trans hoo'
    refine wpAny_bind (wpAny_dictEpoch hoo₁ hdo' ?_)
    rw [if_neg (by simp)]
    refine wpAny_pure ⟨h₁, x + 1, rfl, hrest, hlt, ?_, hoo₁, hs'.trans hs₁⟩
    rw [merged_take_succ kvs more x _ hkv]; exact hd₁
  · rintro b s' ⟨h', i, rfl, hr, hi, hd', hoo', hs'⟩
    have e : i = eso.size := by
      have := congrArg List.length hr
      simp at this; lia
    subst e
    rw [List.take_of_length_le (by lia)] at hd'
    exact wpAny_pure (hQ h' hd' hs')
/-- a pair of constants -/
noncomputable def PairIs (env : Env) (p : Sem Value × Sem Value) (kv : Int × Str) : Prop := ∃ ki kp xi xp pos, p = (eval (.Constant (.int kv.1) ki kp) env, do let x ← eval (.Constant (.str kv.2) xi xp) env; standAt pos; pure x)
inductive PairsIs (env : Env) : List (Sem Value × Sem Value) → List (Int × Str) → Prop
  | nil : PairsIs env [] []
  | cons {p : Sem Value × Sem Value} {kv : Int × Str} {ps : List (Sem Value × Sem Value)} {kvs : List (Int × Str)} : PairIs env p kv → PairsIs env ps kvs → PairsIs env (p :: ps) (kv :: kvs)
theorem PairsIs.length {ps : List (Sem Value × Sem Value)} {kvs : List (Int × Str)} (h : PairsIs env ps kvs) : ps.length = kvs.length := by
  induction h with
  | nil => rfl
  | cons _ _ ih => simp [ih]
theorem PairsIs.snoc {ps : List (Sem Value × Sem Value)} {kvs : List (Int × Str)} {p : Sem Value × Sem Value} {kv : Int × Str} (h : PairsIs env ps kvs) (hp : PairIs env p kv) : PairsIs env (ps ++ [p]) (kvs ++ [kv]) := by
  induction h with
  | nil => exact .cons hp .nil
  | cons a _ ih => exact .cons a ih
/-- the values that came of them -/
inductive ValsAre : List (Int × Value) → List (Int × Str) → Prop
  | nil : ValsAre [] []
  | cons {k : Int} {x : Str} {t : Tok} {vs : List (Int × Value)} {kvs : List (Int × Str)} : ValsAre vs kvs → ValsAre ((k, .str x t) :: vs) ((k, x) :: kvs)
theorem ValsAre.append {a b : List (Int × Value)} {c d : List (Int × Str)} (h : ValsAre a c) (k : ValsAre b d) : ValsAre (a ++ b) (c ++ d) := by
  induction h with
  | nil => exact k
  | cons _ ih => exact .cons ih
theorem ValsAre.keys {a : List (Int × Value)} {c : List (Int × Str)} (h : ValsAre a c) : a.map (·.1) = c.map (·.1) := by
  induction h with
  | nil => rfl
  | cons _ ih => simp [ih]
theorem ValsAre.length {a : List (Int × Value)} {c : List (Int × Str)} (h : ValsAre a c) : a.length = c.length := by
  have := congrArg List.length h.keys; simpa using this
theorem ValsAre.at {a : List (Int × Value)} {c : List (Int × Str)} (h : ValsAre a c) (k : Int) : match (c.find? fun p => p.1 == k).map (·.2) with | some x => ∃ t, valueAt a k = some (.str x t) | none => valueAt a k = none := by
  induction h with
  | nil => rfl
  | @cons k' x t vs kvs _ ih =>
    by_cases q : k' = k
    · subst q
      simp [valueAt]
    · have q1 : (k' == k) = false := by simpa using q
      simp only [List.find?_cons, q1, valueAt, decide_eq_false q] at ih ⊢
      exact ih
theorem pair_key {p : Sem Value × Sem Value} {kv : Int × Str} {Q : Value → Shared → Prop} (hp : PairIs env p kv) (h : Q (.int kv.1 s.toks) { s with toks := s.toks + 1 }) : wpAny (model prog w) A p.1 Q E s := by
  obtain ⟨ki, kp, xi, xp, pos, rfl⟩ := hp
  exact wpAny_Constant_int (env := env) (k := ki) (pos := kp) h
theorem pair_val {p : Sem Value × Sem Value} {kv : Int × Str} {Q : Value → Shared → Prop} (hp : PairIs env p kv) (h : Q (.str kv.2 s.toks) { s with toks := s.toks + 1 }) : wpAny (model prog w) A p.2 Q E s := by
  obtain ⟨ki, kp, xi, xp, pos, rfl⟩ := hp
  exact wpAny_bind (wpAny_Constant_str (env := env) (k := xi) (pos := xp) (wpAny_bind (wpAny_standAt (wpAny_pure h))))
theorem evalPairs_consts : ∀ (ps : List (Sem Value × Sem Value)) (kvs : List (Int × Str)) (s : Shared) (Q : List (Value × Value) → Shared → Prop), PairsIs env ps kvs →
    (∀ vs vals tk, Carries (ik w) vs vals → ValsAre vals kvs → Q vs { s with toks := tk }) → wpAny (model prog w) A (evalPairs ps) Q E s
  | _, _, s, Q, .nil, hQ => evalPairs_nil (hQ [] [] s.toks trivial .nil)
  | (pk, pv) :: ps, kv :: kvs, s, Q, .cons hp hps, hQ => by
    refine evalPairs_cons (pair_key hp (pair_val hp (evalPairs_consts ps kvs _ _ hps fun vs vals tk hc hv => ?_)))
    exact hQ _ ((kv.1, .str kv.2 _) :: vals) tk ⟨by simp [intKind, Value.isInt], rfl, hc⟩ (.cons hv)
theorem storeLong {d : Addr} : ∀ (ps : List (Sem Value × Sem Value)) (kvs : List (Int × Str)) (acc : List (Int × Value)) (s : Shared) (Q : PUnit → Shared → Prop), PairsIs env ps kvs → s.heap.DictOf (ik w) d acc → acc.length + kvs.length ≤ sizeLine →
    (∀ h' vals tk, ValsAre vals kvs → h'.DictOf (ik w) d (merged acc vals) → Heap.SameBut d s.heap h' → Q PUnit.unit { s with heap := h', toks := tk }) →
    wpAny (model prog w) A (forIn ps PUnit.unit fun x (_ : PUnit) => (do let kv ← x.1; let vv ← holding [kv] x.2; holding [kv, vv] (dictSet d kv vv); pure (ForInStep.yield PUnit.unit) : Sem (ForInStep PUnit))) Q E s
  | _, _, acc, s, Q, .nil, hm, _, hQ => by
    rw [List.forIn_nil]
    exact wpAny_pure (hQ s.heap [] s.toks .nil (by simpa [merged] using hm) (Heap.SameBut.refl _ _))
  | (pk, pv) :: ps, kv :: kvs, acc, s, Q, .cons hp hps, hm, hsz, hQ => by
    rw [List.length_cons] at hsz
    rw [List.forIn_cons]
    refine wpAny_bind (wpAny_bind (pair_key hp (wpAny_bind (wpAny_holding (pair_val hp (wpAny_bind (wpAny_holding (wpAny_dictSet_pairs (knd := ik w) (k := kv.1) (key := .int kv.1 s.toks) (hsz := by lia) (by simp [intKind, Value.isInt]) hm fun h₁ hm₁ hs₁ => wpAny_pure ?_))))))))
    refine storeLong ps kvs (stored acc kv.1 _) _ Q hps hm₁ (Nat.le_trans (Nat.add_le_add_right (stored_length_le acc kv.1 _) _) (by lia)) fun h' vals tk hv hm' hs' => ?_
    exact hQ h' ((kv.1, .str kv.2 _) :: vals) tk (.cons hv) (by simpa [merged] using hm') (hs₁.trans hs')
/-- a dict of some pairs -/
theorem sub_spec {ps : List (Sem Value × Sem Value)} {kvs : List (Int × Str)} {Q : Addr → Shared → Prop} (hp : PairsIs env ps kvs) (hn : (kvs.map (·.1)).Nodup) (hsz : kvs.length ≤ sizeLine)
    (hQ : ∀ h' vals tk, ValsAre vals kvs → h'.DictOf (ik w) s.heap.objs.size vals → (∀ b o, s.heap.get? b = some o → h'.get? b = some o) → h'.objs.size = s.heap.objs.size + 1 → Q s.heap.objs.size { s with heap := h', toks := tk }) :
    wpAny (model prog w) A (subDict ps) Q E s := by
  have hnew := Heap.DictOf.new (knd := ik w) s.heap
  have fin : ∀ h' vals tk, ValsAre vals kvs → h'.DictOf (ik w) s.heap.objs.size (merged [] vals) → Heap.SameBut s.heap.objs.size (s.heap.push { cls := .type "dict", data := .dict #[] }) h' → Q s.heap.objs.size { s with heap := h', toks := tk } := by
    intro h' vals tk hv hm hs
    rw [merged_nil_of_nodup _ (by rw [hv.keys]; exact hn)] at hm
    refine hQ h' vals tk hv hm (fun b o e => ?_) (by rw [hs.1, Heap.size_push])
    have : b ≠ s.heap.objs.size := Nat.ne_of_lt (Heap.lt_size e)
    exact (hs.2 b this).trans (Heap.get?_push_of_some _ e)
  unfold subDict
  refine wpAny_bind (wpAny_alloc ?_)
  refine wpAny_bind (wpAny_holding ?_)
  by_cases hl : ps.length ≤ 15
  · rw [if_pos hl]
    refine wpAny_bind (evalPairs_consts ps kvs _ _ hp fun vs vals tk hc hv => ?_)
    refine wpAny_holding ?_
    refine wpAny_bind (wpAny_storeAll (knd := ik w) vs vals [] _ _ hc hnew (by have := hv.length; simp; lia) fun h' hm' hs' => wpAny_pure (wpAny_pure (fin h' vals _ hv hm' hs')))
  · rw [if_neg hl]
    refine wpAny_bind (wpAny_rule ?_)
    refine wpAny_bind (storeLong ps kvs [] _ _ hp hnew (by simpa using hsz) fun h' vals tk hv hm' hs' => wpAny_pure (wpAny_pure (fin h' vals tk hv hm' hs')))
/-- how far the display has come: c dicts made, done stored -/
structure Dst (w : World) (s₀ : Shared) (c : Nat) (done : List (Int × Str)) (s : Shared) : Prop where
  same : ∃ h tk, s = { s₀ with heap := h, toks := tk }
  keep : ∀ b o, s₀.heap.get? b = some o → s.heap.get? b = some o
  size : s.heap.objs.size = s₀.heap.objs.size + c
  live : ∀ i, i < c → ∃ o, s.heap.get? (s₀.heap.objs.size + i) = some o
  dict : 0 < c → ∃ vals, ValsAre vals done ∧ s.heap.DictOf (ik w) s₀.heap.objs.size vals
  none : c = 0 → done = []
theorem Dst.start {s₀ : Shared} : Dst w s₀ 0 [] s₀ := ⟨⟨_, _, rfl⟩, fun _ _ e => e, rfl, fun _ h => absurd h (by lia), fun h => absurd h (by lia), fun _ => rfl⟩
/-- the first run -/
theorem Dst.first {ps : List (Sem Value × Sem Value)} {kvs : List (Int × Str)} {Q : Addr → Shared → Prop} (D : Dst w s₀ 0 [] s) (hp : PairsIs env ps kvs) (hn : (kvs.map (·.1)).Nodup) (hsz : kvs.length ≤ sizeLine)
    (hQ : ∀ s', Dst w s₀ 1 kvs s' → Q s₀.heap.objs.size s') : wpAny (model prog w) A (subDict ps) Q E s := by
  have e0 : s.heap.objs.size = s₀.heap.objs.size := D.size
  refine sub_spec (w := w) hp hn hsz fun h' vals tk hv hd hk hs => ?_
  rw [e0] at hd ⊢
  obtain ⟨h0, t0, e⟩ := D.same
  refine hQ _ ⟨⟨h', tk, by rw [e]⟩, fun b o q => hk b o (D.keep b o q), by show h'.objs.size = _; lia, fun i hi => ?_, fun _ => ⟨vals, hv, hd⟩, fun q => absurd q (by lia)⟩
  obtain ⟨o, _, _, ho, _⟩ := hd
  rw [show i = 0 by lia]
  exact ⟨o, ho⟩
/-- a later run -/
theorem Dst.more {c : Nat} {done : List (Int × Str)} {ps : List (Sem Value × Sem Value)} {kvs : List (Int × Str)} {Q : Addr → Shared → Prop} (D : Dst w s₀ c done s) (hc : 0 < c) (hne : done ≠ []) (hp : PairsIs env ps kvs) (hn : ((done ++ kvs).map (·.1)).Nodup) (hsz : done.length + kvs.length ≤ sizeLine) (hlo : sysModules < s₀.heap.objs.size)
    (hQ : ∀ a s', (∀ {E' : Value → Shared → Prop} {Q' : Unit → Shared → Prop}, (∀ s'', Dst w s₀ (c + 1) (done ++ kvs) s'' → Q' () s'') → wpAny (model prog w) A (mergeMapping s₀.heap.objs.size (.ref a) false) Q' E' s') → Q a s') : wpAny (model prog w) A (subDict ps) Q E s := by
  have hn2 : (kvs.map (·.1)).Nodup := by rw [List.map_append, List.nodup_append] at hn; exact hn.2.1
  refine sub_spec (w := w) hp hn2 (by lia) fun h' vals tk hv hd hk hs => ?_
  obtain ⟨v0, hv0, hd0⟩ := D.dict hc
  refine hQ _ _ fun {E' Q'} hQ' => ?_
  have e0 := D.size
  have hv0l := hv0.length
  have hvl := hv.length
  have hd0' : h'.DictOf (ik w) s₀.heap.objs.size v0 := by obtain ⟨o, es, ep, ho, r⟩ := hd0; exact ⟨o, es, ep, hk _ _ ho, r⟩
  have n1 : (s₀.heap.objs.size : Nat) ≠ s.heap.objs.size := by lia
  have n2 : ¬ ((s.heap.objs.size : Nat) = sysModules) := by have h9 : @LT.lt Nat _ sysModules s₀.heap.objs.size := hlo; lia
  refine merge_dict (w := w) n1 (by simpa using n2) hd0' (by intro q; rw [q] at hv0l; simp at hv0l; exact hne (List.length_eq_zero_iff.mp hv0l.symm)) hd (by lia) fun h2 hd2 hs2 => hQ' _ ?_
  rw [merged_append_of_fresh _ _ (by rw [List.map_append, hv0.keys, hv.keys, ← List.map_append]; exact hn)] at hd2
  obtain ⟨h0, t0, e⟩ := D.same
  obtain ⟨od2, _, _, hod2, _⟩ := id hd2
  obtain ⟨od, _, _, hod, _⟩ := hd
  have hs2' : h2.objs.size = h'.objs.size := hs2.1
  refine ⟨⟨h2, tk, by rw [e]⟩, fun b o q => ?_, by show h2.objs.size = _; lia, fun i hi => ?_, fun _ => ⟨_, hv0.append hv, hd2⟩, fun q => absurd q (by lia)⟩
  · exact (hs2.2 b (Nat.ne_of_lt (Heap.lt_size q))).trans (hk b o (D.keep b o q))
  · by_cases q0 : i = 0
    · subst q0; exact ⟨od2, hod2⟩
    · by_cases q1 : i < c
      · obtain ⟨o, ho⟩ := D.live i q1
        have n3 : (s₀.heap.objs.size + i : Nat) ≠ s₀.heap.objs.size := by lia
        exact ⟨o, (hs2.2 _ n3).trans (hk _ _ ho)⟩
      · have : i = c := by lia
        subst this
        rw [← e0]
        exact ⟨od, (hs2.2 _ (Ne.symm n1)).trans hod⟩
theorem display_spec {ps : List (Sem Value × Sem Value)} {kvs : List (Int × Str)} {Q : Value → Shared → Prop} (hp : PairsIs env ps kvs) (hn : (kvs.map (·.1)).Nodup) (hsz : kvs.length ≤ sizeLine) (hne : kvs ≠ []) (hlo : sysModules < s₀.heap.objs.size)
    (hQ : ∀ s', Dst w s₀ ((kvs.length + 16) / 17) kvs s' → Q (.ref s₀.heap.objs.size) s') : wpAny (model prog w) A (dictDisplay (ps.map fun p => (some p.1, p.2))) Q E s₀ := by
  unfold dictDisplay
  dsimp only
  refine wpAny_bind ?_
  refine wpAny_forIn_list _
    (fun rest st s' => ∃ ps1 ps2 done runk restk c, rest = ps2.map (fun p => (some p.1, p.2)) ∧ st = ((if c = 0 then none else some s₀.heap.objs.size), ps1) ∧ PairsIs env ps1 runk ∧ PairsIs env ps2 restk ∧ kvs = done ++ (runk ++ restk) ∧ ps1.length < 17 ∧ done.length = 17 * c ∧ Dst w s₀ c done s')
    _ ?_ ?_ _ _ ⟨[], ps, [], [], kvs, 0, rfl, rfl, .nil, hp, rfl, by decide, rfl, .start⟩
  · rintro x rest st s' ⟨ps1, ps2, done, runk, restk, c, hr, rfl, h1, h2, hk, hl, hdl, D⟩
    cases h2 with
    | nil => cases hr
    | @cons p kv ps2 restk hp1 hp2 =>
      rw [List.map_cons] at hr
      injection hr with hr1 hr2
      subst hr1 hr2
      dsimp only
      have hrun := h1.snoc hp1
      have hrl := hrun.length
      have hkl := congrArg List.length hk
      simp at hkl hrl
      by_cases q : ps1.length = 16
      · rw [if_pos (by simp [q])]
        rw [if_neg (by simp)]
        have hk' : kvs = (done ++ (runk ++ [kv])) ++ ([] ++ restk) := by rw [hk]; simp
        have hnd : ((done ++ (runk ++ [kv])).map (·.1)).Nodup := by
          rw [hk', List.map_append, List.nodup_append] at hn; exact hn.1
        by_cases hc : c = 0
        · subst hc
          have hd0 : done = [] := D.none rfl
          subst hd0
          rw [if_pos rfl]
          refine wpAny_bind (wpAny_bind ?_)
          refine D.first hrun (by simpa using hnd) (by simp; lia) fun s1 D1 => wpAny_pure (wpAny_pure ?_)
          exact ⟨[], ps2, runk ++ [kv], [], restk, 1, rfl, rfl, .nil, hp2, by simpa using hk', by decide, by simp; lia, D1⟩
        · rw [if_neg hc]
          refine wpAny_bind (wpAny_bind (wpAny_holding ?_))
          refine D.more (by lia) (by intro q; rw [q] at hdl; simp at hdl; lia) hrun hnd (by simp; lia) hlo fun a s1 hm => ?_
          refine wpAny_bind (wpAny_onRaise (wpAny_holding (hm fun s2 D2 => wpAny_pure (wpAny_pure ?_))))
          exact ⟨[], ps2, done ++ (runk ++ [kv]), [], restk, c + 1, rfl, by simp, .nil, hp2, hk', by decide, by simp; lia, D2⟩
      · rw [if_neg (by simp; lia)]
        refine wpAny_pure ?_
        exact ⟨ps1 ++ [p], ps2, done, runk ++ [kv], restk, c, rfl, rfl, hrun, hp2, by rw [hk]; simp, by simp; lia, hdl, D⟩
  · rintro st s' ⟨ps1, ps2, done, runk, restk, c, hr, rfl, h1, h2, hk, hl, hdl, D⟩
    have : ps2 = [] := by cases ps2 with | nil => rfl | cons _ _ => cases hr
    subst this
    cases h2
    rw [List.append_nil] at hk
    have hrl := h1.length
    have hkl := congrArg List.length hk
    simp at hkl
    dsimp only
    by_cases q : ps1 = []
    · subst q
      cases h1
      rw [if_pos (by rfl)]
      rw [List.append_nil] at hk
      subst hk
      have hc : c ≠ 0 := fun q => hne (D.none q)
      rw [if_neg hc]
      refine wpAny_bind (wpAny_pure (wpAny_pure (hQ _ ?_)))
      rw [show (kvs.length + 16) / 17 = c by lia]
      exact D
    · rw [if_neg (by simpa using q)]
      have h0 : 0 < ps1.length := List.length_pos_iff.mpr q
      subst hk
      by_cases hc : c = 0
      · subst hc
        have hd0 : done = [] := D.none rfl
        subst hd0
        rw [if_pos rfl]
        refine wpAny_bind (wpAny_bind ?_)
        refine D.first h1 (by simpa using hn) (by simp at hsz; lia) fun s1 D1 => wpAny_pure (wpAny_pure (hQ _ ?_))
        simp at hrl ⊢
        rw [show (runk.length + 16) / 17 = 1 by lia]
        exact D1
      · rw [if_neg hc]
        refine wpAny_bind (wpAny_bind (wpAny_holding ?_))
        refine D.more (by lia) (by intro q; rw [q] at hdl; simp at hdl; lia) h1 hn (by simp at hsz; lia) hlo fun a s1 hm => ?_
        refine wpAny_bind (wpAny_onRaise (wpAny_holding (hm fun s2 D2 => wpAny_pure (wpAny_pure (hQ _ ?_)))))
        rw [show ((done ++ runk).length + 16) / 17 = c + 1 by simp; lia]
        exact D2
end
end
section
open PySem PySem.W PySem.Calls PyProof.Rows
set_option maxHeartbeats 0
noncomputable def Γ0 : Ctx := Ctx.of (.builtin "claim.caller" {}) []
noncomputable def topBody : List Stmt := behindTheImports prog
noncomputable def env0 : Env := { scope := prog.main.scope, locals := mainNs, globals := mainNs, cells := [], code := .ref 13, frame := some 14 }
noncomputable def Γ1 : Ctx := Γ0.enter (.body topBody env0) none default
noncomputable def pre0 : Sem (Value × Addr) := do
  let code ← moduleCode prog.main
  let frame ← newBodyFrame code mainNs mainNs
  pure (code, frame)
noncomputable abbrev wOf (w : World) (a b : Bool) : World := (w.withFollow "set-order" a).withFollow "special-get-raises" b
theorem wOf_self (w : World) : wOf w (w.params.followText "set-order") ((w.withFollow "set-order" (w.params.followText "set-order")).params.followText "special-get-raises") = w := by
  unfold wOf
  rw [World.withFollow_self, World.withFollow_self]
noncomputable def ev (W : World) {α : Type} (Γ : Ctx) (t : Sem α) (p : Pos) (s : SharedT) : Option (Except Value α × Pos × SharedT) := evA prog W (evC denQ prog W 300) Γ t p s
noncomputable def stOf {α : Type} (x : Option (Except Value α × Pos × SharedT)) (d : SharedT) : SharedT := match x with | some (_, _, s) => s | none => d
noncomputable def S1 (W : World) (os : OsState) : SharedT := stOf (ev W Γ0 pre0 default (S0 W os)) (S0 W os)
noncomputable def S8 (W : World) (os : OsState) : SharedT := stOf (ev W Γ1 (execsQ (topBody.take 8) env0) default (S1 W os)) (S0 W os)
theorem e1 (w : World) (os : OsState) : ev w Γ0 pre0 default (S0 w os) = some (.ok (.ref 13, 14), default, S1 w os) := by kernel_rfl
end
section
open PySem PySem.W PySem.Calls PyProof.Rows
set_option maxHeartbeats 0
noncomputable def insAll : List Obj → Nat → BT → BT
  | [], _, t => t
  | o :: r, i, t => insAll r (i + 1) (t.ins i o)
noncomputable def insOk : List Obj → Nat → BT → Bool
  | [], _, _ => true
  | o :: r, i, t => ((t.ins i o).get i).isSome && insOk r (i + 1) (t.ins i o)
noncomputable def S9 (W : World) (os : OsState) (l : List Obj) (life : Life) (tk : Nat) : SharedT := ⟨insAll l 54 (S8 W os).tree, 93, life, #[], boot_drawn, tk, os⟩
noncomputable def treeB : Sem Flow := do storeName env0 (Str.ofString "b3_exceptions") (.ref 54); execsQ (topBody.drop 9) env0
noncomputable def S10 (Γ : Ctx) (p : Pos) (W : World) (os : OsState) (l : List Obj) (life : Life) (tk : Nat) : SharedT := stOf (ev W Γ treeB p (S9 W os l life tk)) (S0 W os)
/-- the 39 dicts -/
noncomputable abbrev l39 (f : Nat → Obj) : List Obj := (List.range 39).map f
noncomputable def aliveAt (t : BT) (b : Nat) : Bool := match t.get b with | some o => (match alive o with | some _ => true | none => false) | none => false
end
section
open PySem PySem.W PySem.Calls PyProof.Rows
set_option maxHeartbeats 0
noncomputable def fdOf (o : Option Obj) : FuncData := match o with | some ⟨_, _, .func fd, _⟩ => fd | _ => default
noncomputable def refOf : Value → Nat | .ref a => a | _ => 0
noncomputable def dataOf (o : Option Obj) : Data := match o with | some o => o.data | none => .plain
noncomputable def codeOk (t : BT) (a c : Nat) (n : Str) : Bool := Nat.blt c a && match t.get c with
  | some ⟨_, _, .fields vs, _⟩ => (match (vs[1]? : Option Value) with | some (.str x _) => x == n | _ => false)
  | _ => false
noncomputable def cRef (t : BT) (a : Nat) : Nat := refOf (fdOf (t.get a)).code
/-- the defs, law too -/
noncomputable def fnsL : List (Nat × Nat) := fns ++ [(142, 17)]
noncomputable def fnObs (t : BT) : List (Data × Bool) := fnsL.map fun p => (dataOf (t.get p.1), codeOk t p.1 (cRef t p.1) (fnName p.2) && aliveAt t p.1 && aliveAt t (cRef t p.1) && (!Nat.beq p.1 142 || Nat.beq (cRef t p.1) 141))
noncomputable def fnExp (t : BT) : List (Data × Bool) := fnsL.map fun p => (.func (docDef (fnName p.2) (fnParams p.2) (fnBody p.2) (fnScope p.2) (fdOf (t.get p.1)).pyModule (.ref (cRef t p.1)) (fdOf (t.get p.1)).doc), true)
/-- the set -/
noncomputable def setEs (o : Option Obj) : Array (Int × Value) := match o with | some ⟨_, _, .set es _ _, _⟩ => es | _ => #[]
noncomputable def setT (o : Option Obj) : SetTable := match o with | some ⟨_, _, .set _ _ t, _⟩ => t | _ => default
noncomputable def setEp (o : Option Obj) : Nat := match o with | some ⟨_, _, .set _ ep _, _⟩ => ep | _ => 0
noncomputable def elemOk (e : Int × Value) : Bool := match e.2 with | .int k _ => e.1 == hashInt k && e.2.scannable | _ => false
noncomputable def elemInt (e : Int × Value) : Int := match e.2 with | .int k _ => k | _ => 0
noncomputable def setOk (t : BT) : Bool := (setEs (t.get 43)).toList.all elemOk && (setT (t.get 43)).fits (setEs (t.get 43)).size && decide ((setEs (t.get 43)).size < scanBound) && b1Nums.all (fun k => ((setEs (t.get 43)).toList.map elemInt).contains k) && ((setEs (t.get 43)).toList.map elemInt).all b1Has
/-- the law's code -/
noncomputable def lawVs (t : BT) : Array Value := match t.get 141 with | some ⟨_, _, .fields vs, _⟩ => vs | _ => #[]
noncomputable def vStr : Value → Str | .str x _ => x | _ => Str.empty
noncomputable def vInt : Value → Int | .int x _ => x | _ => 0
noncomputable def vBool : Value → Bool | .bool x => x | _ => false
noncomputable def vTok : Value → Tok | .int _ t => t | .str _ t => t | _ => 0
noncomputable def lawObs (t : BT) : Option Obj × Bool × Value × Value × Value × Value × Value := (t.get 141, decide (11 < (lawVs t).size), (lawVs t).getD 11 .none, (lawVs t).getD 18 .none, (lawVs t).getD 7 .none, (lawVs t).getD 9 .none, (lawVs t).getD 10 .none)
noncomputable def lawExp (t : BT) : Option Obj × Bool × Value × Value × Value × Value × Value :=
  (some ⟨.type "code", (t.get 141).bind (·.dict), .fields (lawVs t), ((t.get 141).map (·.slots)).getD #[]⟩, true, .ref 139, .str (vStr ((lawVs t).getD 18 .none)) (vTok ((lawVs t).getD 18 .none)),
    .int (vInt ((lawVs t).getD 7 .none)) (vTok ((lawVs t).getD 7 .none)), .bool (vBool ((lawVs t).getD 9 .none)), .int (vInt ((lawVs t).getD 10 .none)) (vTok ((lawVs t).getD 10 .none)))
noncomputable def setObs (t : BT) := (t.get 43, t.get 139, setOk t, lawObs t)
noncomputable def setExp (t : BT) : Option Obj × Option Obj × Bool × (Option Obj × Bool × Value × Value × Value × Value × Value) := (some { cls := .type "set", data := .set (setEs (t.get 43)) (setEp (t.get 43)) (setT (t.get 43)) }, some { cls := .none, data := .fields #[] }, true, lawExp t)
/-- the looks at the whole -/
noncomputable def looks (h0 h : Heap) : Bool :=
  h.isNs mainGlobals && h.isNs builtinsNs && h.isNs cStatics && PySem.W.staticsOk [] h0 h && h.accountedOkI [] && namesBound prog h && laidKept h0 h && h.bmainOk
  && ownVals.all (fun p => decide (h.nsMap mainGlobals p.1 = some p.2)) && blts.all (fun p => (h.nsMap mainGlobals p.1).isNone) && blts.all (fun p => decide (h.nsMap builtinsNs p.1 = some p.2))
  && decide (h.nsMap mainGlobals (Str.ofString "law") = some (.ref 142)) && (h.nsMap cStatics "sys.recursionlimit").isNone && (h.nsMap cStatics sharingNotToldKey).isNone
noncomputable def oldAt (t : BT) : List (Option Obj) := [0, 1, 4, 5, 6, 7, 8, 9, 10, 54].map t.get
noncomputable def oldExp (W : World) (o0 : Obj) : List (Option Obj) := [some (boot_o_0 W.params), some (boot_o_1 W.params), some (boot_o_4 W.params), some (boot_o_5 W.params), some (boot_o_6 W.params), some (boot_o_7 W.params), some (boot_o_8 W.params), some (boot_o_9 W.params), some (boot_o_10 W.params), some o0]
theorem mods_nil : importedModules prog.main.body = [] := by kernel_rfl
theorem head_all (Γ : Ctx) (p : Pos) (w : World) (os : OsState) (a b : Bool) (life : Life) (tk : Nat) (f : Nat → Obj) :
    (ev (wOf w a b) Γ1 (execsQ (topBody.take 8) env0) default (S1 (wOf w a b) os),
     ((S8 (wOf w a b) os).n, (S8 (wOf w a b) os).gens, (S8 (wOf w a b) os).drawn, (S8 (wOf w a b) os).os, (S8 (wOf w a b) os).life, (List.range 54).all (aliveAt (S8 (wOf w a b) os).tree)),
     (ev (wOf w a b) Γ treeB p (S9 (wOf w a b) os (l39 f) life tk), insOk (l39 f) 54 (S8 (wOf w a b) os).tree),
     (fun s : SharedT => (s.n, s.gens, s.drawn, s.os, oldAt s.tree, fnObs s.tree, setObs s.tree, looks (boot_heap (wOf w a b).params) s.abs.heap, s.abs.heap.bltView)) (S10 Γ p (wOf w a b) os (l39 f) life tk)) =
    (some (.ok .next, ⟨53, 0, 54, 30⟩, S8 (wOf w a b) os), (54, #[], boot_drawn, os, {}, true), (some (.ok .next, ⟨106, 0, 161, 15⟩, S10 Γ p (wOf w a b) os (l39 f) life tk), true),
     (fun s : SharedT => (143, #[], boot_drawn, os, oldExp (wOf w a b) (f 0), fnExp s.tree, setExp s.tree, true, bltViewBooted)) (S10 Γ p (wOf w a b) os (l39 f) life tk)) := by
  cases a <;> cases b <;> kernel_rfl
theorem e8 (w : World) (os : OsState) (a b : Bool) : ev (wOf w a b) Γ1 (execsQ (topBody.take 8) env0) default (S1 (wOf w a b) os) = some (.ok .next, ⟨53, 0, 54, 30⟩, S8 (wOf w a b) os) := (Prod.mk.inj (head_all Γ0 default w os a b {} 0 fun _ => boot_o_0 w.params)).1
theorem s8_facts (w : World) (os : OsState) (a b : Bool) : ((S8 (wOf w a b) os).n, (S8 (wOf w a b) os).gens, (S8 (wOf w a b) os).drawn, (S8 (wOf w a b) os).os, (S8 (wOf w a b) os).life, (List.range 54).all (aliveAt (S8 (wOf w a b) os).tree)) = (54, #[], boot_drawn, os, {}, true) :=
  (Prod.mk.inj (Prod.mk.inj (head_all Γ0 default w os a b {} 0 fun _ => boot_o_0 w.params)).2).1
end
section
open PySem PySem.W PySem.Calls PyProof.Rows
set_option maxHeartbeats 1000000
theorem top_reached {p : Program} {w : World} {s₀ : Shared} {R : Shared → Prop} (hz : s₀.asleep)
    (h : Sem.wp (model p w) Γ0 (topStub p).cur (fun fin _ s => (∃ f, fin = .done f) ∧ R s ∧ s.gens = #[]) (fun _ _ _ => False) default s₀) :
    ∃ n t s₁, schedN (denote table) p w n (.single s₀ (topStub p)) = .running (.single s₁ t) ∧ through t = true ∧ R s₁ ∧ s₁.gens = #[] ∧ s₁.heap.life = s₀.heap.life := by
  obtain ⟨n, s', σ, p', leaf, hr, hfo, hl⟩ := wp_reaches (M := model p w) (c := .builtin "claim.caller" {}) h
  rcases hl with ⟨a, rfl, ⟨f, rfl⟩, hR, hg⟩ | ⟨e, _, hE⟩
  · obtain rfl : σ = s' := Shared.eq_of_forget_eq hfo hg
    obtain ⟨n2, r, s2, hn2, _⟩ := (wp_iff_halts (M := model p w) (c := .builtin "claim.caller" {}) (topStub p).cur (fun r s' => True) default s₀).mp
      (Sem.wp_mono _ _ _ (fun fin p s q => by obtain ⟨⟨f, rfl⟩, h1, h2⟩ := q; exact ⟨trivial, by rw [h2]; simp [leftWithCleanup]⟩) (fun _ _ _ q => q.elim) _ _ h)
    obtain ⟨s3, h3, _, hc⟩ := runNI_real _ _ _ hn2 (outcomeOf_ends r)
    have hne : ∀ k s₂, runN (denote table) p w k s₀ (topStub p) ≠ .halted (.unsupported "lifetime:generator-with-cleanup-left-suspended") s₂ := by
      intro k s₂ hk
      have a := runN_mono (denote table) p w n2 k s₀ (topStub p) _ s3 h3
      have b := runN_mono (denote table) p w k n2 s₀ (topStub p) _ s₂ hk
      rw [Nat.add_comm, b] at a
      injection a with a1 _
      exact absurd (outcomeOf_ends r) (by rw [← a1]; simp [Outcome.ends])
    have e := schedN_eq_runN (denote table) p w s₀ (topStub p) hz ⟨hc, hne⟩ n
    rw [show runN (denote table) p w n s₀ (topStub p) = _ from hr] at e
    exact ⟨n, _, σ, e, rfl, hR, hg, runN_life_running hr⟩
  · exact hE.elim
noncomputable def thenDo (b : List Stmt) (env : Env) : Flow → Sem Flow
  | .next => execs b env
  | f => pure f
theorem execs_app (env : Env) (b : List Stmt) : ∀ a : List Stmt, execs (a ++ b) env = execs a env >>= thenDo b env
  | [] => rfl
  | st :: a => by
    rw [List.cons_append, arm_execs_cons, arm_execs_cons, bind_assoc]
    congr 1
    funext f
    cases f with
    | next => exact execs_app env b a
    | _ => rfl
/-- the table's statement -/
noncomputable def b3K : List (Option Expr) := match topBody[(8 : Nat)]? with | some (.Assign _ (.Dict ks _ _) _) => ks | _ => []
noncomputable def b3V : List Expr := match topBody[(8 : Nat)]? with | some (.Assign _ (.Dict _ vs _) _) => vs | _ => []
noncomputable def b3P : Pos := match topBody[(8 : Nat)]? with | some (.Assign _ (.Dict _ _ p) _) => p | _ => default
noncomputable def b3Q : Pos := match topBody[(8 : Nat)]? with | some (.Assign _ _ p) => p | _ => default
noncomputable def b3X : Pos := match topBody[(8 : Nat)]? with | some (.Assign [.Name _ p] _ _) => p | _ => default
theorem topSplit : topBody = topBody.take 8 ++ (.Assign [.Name (Str.ofString "b3_exceptions") b3X] (.Dict b3K b3V b3P) b3Q) :: topBody.drop 9 := by kernel_rfl
/-- the table's rows -/
noncomputable def rowOf (p : Option Expr × Expr) : (Int × Nat × Pos) × (Str × Nat × Pos) :=
  (match p.1 with | some (.Constant (.int i) a b) => (i, a, b) | _ => default, match p.2 with | .Constant (.str x) c d => (x, c, d) | _ => default)
noncomputable def b3D : List ((Int × Nat × Pos) × (Str × Nat × Pos)) := (b3K.zip b3V).map rowOf
noncomputable def keyE (r : (Int × Nat × Pos) × (Str × Nat × Pos)) : Option Expr := some (.Constant (.int r.1.1) r.1.2.1 r.1.2.2)
noncomputable def valE (r : (Int × Nat × Pos) × (Str × Nat × Pos)) : Expr := .Constant (.str r.2.1) r.2.2.1 r.2.2.2
noncomputable def kvOf (r : (Int × Nat × Pos) × (Str × Nat × Pos)) : Int × Str := (r.1.1, r.2.1)
theorem b3_rows : (b3K, b3V, b3Pairs) = (b3D.map keyE, b3D.map valE, b3D.map kvOf) := by kernel_rfl
noncomputable def ascFrom (a : Int) (l : List (Int × Str)) : Bool := match l with
  | [] => true
  | p :: r => decide (a < p.1) && ascFrom p.1 r
theorem b3_chk : (b3D.length == 650 && ascFrom (-1) b3Pairs) = true := by kernel_rfl
theorem asc_pair (l : List (Int × Str)) : ∀ a, ascFrom a l = true → (∀ p ∈ l, a < p.1) ∧ l.Pairwise fun p q => p.1 < q.1 := by
  induction l with
  | nil => intro a _; exact ⟨by simp, .nil⟩
  | cons p r ih =>
    intro a h
    replace h : (decide (a < p.1) && ascFrom p.1 r) = true := h
    obtain ⟨h1, h2⟩ := Bool.and_eq_true_iff.mp h
    replace h1 := of_decide_eq_true h1
    obtain ⟨k1, k2⟩ := ih _ h2
    refine ⟨fun q hq => ?_, .cons k1 k2⟩
    rcases List.mem_cons.mp hq with rfl | hq
    · exact h1
    · exact Int.lt_trans h1 (k1 q hq)
theorem b3_up : b3Pairs.Pairwise fun p q => p.1 < q.1 := (asc_pair _ _ (Bool.and_eq_true_iff.mp b3_chk).2).2
/-- a sorted list as a tree -/
inductive Tr where
  | lf
  | nd (l : Tr) (p : Int × Str) (r : Tr)
noncomputable def Tr.list (t : Tr) : List (Int × Str) := match t with
  | lf => []
  | nd l p r => l.list ++ p :: r.list
noncomputable def Tr.look (k : Int) (t : Tr) : Option Str := match t with
  | lf => none
  | nd l p r => if k < p.1 then l.look k else if p.1 < k then r.look k else some p.2
theorem Tr.look_eq (k : Int) (t : Tr) (h : t.list.Pairwise fun p q => p.1 < q.1) : (t.list.find? fun p => p.1 == k).map (·.2) = t.look k := by
  induction t with
  | lf => rfl
  | nd l p r hl hr =>
    obtain ⟨h1, h2, h3⟩ := List.pairwise_append.mp h
    obtain ⟨h4, h5⟩ := List.pairwise_cons.mp h2
    show ((l.list ++ p :: r.list).find? fun p => p.1 == k).map (·.2) = if k < p.1 then l.look k else if p.1 < k then r.look k else some p.2
    rw [List.find?_append, List.find?_cons]
    by_cases q1 : k < p.1
    · have e1 : (p.1 == k) = false := beq_eq_false_iff_ne.mpr fun e => by rw [e] at q1; exact Int.lt_irrefl _ q1
      have e2 : (r.list.find? fun p => p.1 == k) = none := List.find?_eq_none.mpr fun x hx e => by
        have := h4 x hx
        rw [eq_of_beq e] at this
        exact Int.lt_irrefl _ (Int.lt_trans q1 this)
      rw [if_pos q1, e1, e2, ← hl h1]
      cases (l.list.find? fun p => p.1 == k) <;> rfl
    · have e0 : (l.list.find? fun p => p.1 == k) = none := List.find?_eq_none.mpr fun x hx e => by
        have := h3 x hx p (List.mem_cons_self ..)
        rw [eq_of_beq e] at this
        exact q1 this
      rw [if_neg q1, e0, Option.none_or]
      by_cases q2 : p.1 < k
      · have e1 : (p.1 == k) = false := beq_eq_false_iff_ne.mpr fun e => by rw [e] at q2; exact Int.lt_irrefl _ q2
        rw [if_pos q2, e1, ← hr h5]
      · rw [if_neg q2, show p.1 = k from Int.le_antisymm (Int.not_lt.mp q1) (Int.not_lt.mp q2) |>.symm ▸ rfl, beq_self_eq_true]
        rfl
noncomputable def grow (f n : Nat) (l : List (Int × Str)) : Tr × List (Int × Str) := match f with
  | 0 => (.lf, l)
  | f + 1 => match n with
    | 0 => (.lf, l)
    | n + 1 => match grow f (n / 2) l with
      | (a, p :: l) => match grow f (n - n / 2) l with
        | (b, l) => (.nd a p b, l)
      | (a, []) => (a, [])
noncomputable def b3T : Tr := (grow 12 650 b3Pairs).1
theorem b3T_list : b3Pairs = b3T.list := by kernel_rfl
theorem b3_look (k : Int) : b3At k = b3T.look k := by
  have h := b3_up
  unfold b3At
  rw [b3T_list] at h ⊢
  exact Tr.look_eq k _ h
theorem pairsIs_of (env : Env) (pos : Pos) (D : List ((Int × Nat × Pos) × (Str × Nat × Pos))) : PairsIs env (pairTrees (D.map keyE) (D.map valE) env pos) (D.map kvOf) := by
  induction D with
  | nil => exact .nil
  | cons r D ih => exact .cons ⟨r.1.2.1, r.1.2.2, r.2.2.1, r.2.2.2, pos, rfl⟩ ih
theorem dict_eval {w : World} {A : Around} {E : Value → Shared → Prop} {s : Shared} {env : Env} {Q : Value → Shared → Prop} {ks : List (Option Expr)} {vs : List Expr} {pos : Pos} {kvs : List (Int × Str)}
    (h1 : ks.all (·.isSome) = true) (hl : ks.length = vs.length) (hp : PairsIs env (pairTrees ks vs env pos) kvs) (hn : (kvs.map (·.1)).Nodup) (h5 : kvs.length = 650) (hlo : sysModules < s.heap.objs.size) (hQ : ∀ s', Dst w s 39 kvs s' → Q (.ref s.heap.objs.size) s') :
    wpAny (model prog w) A (eval (.Dict ks vs pos) env) Q E s := by
  rw [arm_eval_Dict, zip_pairTrees _ _ _ _ h1 hl]
  refine wpAny_bind (wpAny_standAt (display_spec hp hn (by rw [h5]; simp [sizeLine]) (by intro q; rw [q] at h5; simp at h5) hlo fun s' D => hQ s' ?_))
  rw [h5] at D
  exact D
theorem b3_eval {w : World} {A : Around} {E : Value → Shared → Prop} {s : Shared} {env : Env} {Q : Value → Shared → Prop} (hlo : sysModules < s.heap.objs.size) (hQ : ∀ s', Dst w s 39 b3Pairs s' → Q (.ref s.heap.objs.size) s') :
    wpAny (model prog w) A (eval (.Dict b3K b3V b3P) env) Q E s := by
  obtain ⟨eK, e⟩ := Prod.mk.inj b3_rows
  obtain ⟨eV, eP⟩ := Prod.mk.inj e
  have h5 : b3D.length = 650 := eq_of_beq (Bool.and_eq_true_iff.mp b3_chk).1
  have hn : (b3Pairs.map (·.1)).Nodup := List.pairwise_map.mpr (b3_up.imp fun h => Int.ne_of_lt h)
  rw [eP] at hQ hn
  rw [eK, eV]
  generalize b3D = D at *
  generalize b3P = P
  exact dict_eval (by simp [keyE]) (by simp) (pairsIs_of env P D) hn (by simpa using h5) hlo hQ
end
section
open PySem PySem.W PySem.Calls PyProof.Rows
set_option maxHeartbeats 1000000
theorem getDs {α : Type} (d : α) (n : Nat) (l : List α) (h : l.length = n) : l = (List.range n).map fun i => l.getD i d := by
  apply List.ext_getElem?
  intro i
  rw [List.getElem?_map]
  by_cases q : i < n
  · have e := List.getElem?_eq_getElem (h ▸ q : i < l.length)
    rw [List.getElem?_range q, Option.map_some, List.getD_eq_getElem?_getD, e]; rfl
  · rw [List.getElem?_eq_none (by lia), List.getElem?_eq_none (by simp; lia)]; rfl
noncomputable def ResOf {α : Type} (r : Except Value α) (Q : α → Pos → Shared → Prop) (E : Value → Pos → Shared → Prop) (p : Pos) (s : Shared) : Prop := match r with | .ok a => Q a p s | .error e => E e p s
theorem ev_sound (w : World) {α : Type} {t : Sem α} {Γ : Ctx} {p p' : Pos} {s s' : SharedT} {r : Except Value α} (h : ev w Γ t p s = some (r, p', s')) {Q : α → Pos → Shared → Prop} {E : Value → Pos → Shared → Prop}
    (q : ResOf r Q E p' s'.abs) : Sem.wp (model prog w) Γ t Q E p s.abs := by
  have e : model prog w = ⟨denQ, prog, w⟩ := by unfold model; rw [denT]
  rw [e]
  exact evA_sound (den := denQ) (fun Γ p s r s' hh => evC_sound 300 Γ p s r s' hh) t Γ p s r p' s' h Q E q
theorem execs_Q : execs = execsQ := PySem.W.Fast.te12563942051412417395
theorem absHeap_all (life : Life) : ∀ (l : List Obj) (n : Nat) (t : BT), insOk l n t = true → absHeap (insAll l n t) (n + l.length) life = ⟨(absHeap t n life).objs ++ l.toArray, life⟩
  | [], n, t, _ => by
    show absHeap t (n + 0) life = _
    rw [Nat.add_zero]
    show absHeap t n life = ⟨(absHeap t n life).objs ++ #[], life⟩
    rw [Array.append_empty]; rfl
  | o :: r, n, t, h => by
    simp only [insOk, Bool.and_eq_true] at h
    obtain ⟨h1, h2⟩ := h
    have ih := absHeap_all life r (n + 1) (t.ins n o) h2
    show absHeap (insAll r (n + 1) (t.ins n o)) (n + (r.length + 1)) life = _
    rw [show n + (r.length + 1) = n + 1 + r.length by lia, ih, absHeap_ins h1]
    show (⟨(absHeap t n life).objs.push o ++ r.toArray, life⟩ : Heap) = _
    congr 1
    apply Array.ext'
    simp
theorem alive_self {o o' : Obj} (h : alive o = some o') : o' = o := by
  obtain ⟨c, d, dt, sl⟩ := o
  cases dt <;> simp [alive] at h <;> exact h.symm
theorem get_raw {h : Heap} {b : Nat} {o : Obj} (e : h.get? b = some o) : h.objs[b]? = some o := by
  unfold Heap.get? at e
  split at e
  · cases e
  · exact e
theorem aliveAt_get {t : BT} {n b : Nat} {life : Life} (hb : b < n) (h : aliveAt t b = true) : ∃ o, t.get b = some o ∧ (absHeap t n life).get? b = some o := by
  unfold aliveAt at h
  cases e : t.get b with
  | none => rw [e] at h; cases h
  | some o =>
    rw [e] at h
    cases ea : alive o with
    | none => simp only [ea] at h; cases h
    | some o' =>
      have := alive_self ea
      subst this
      exact ⟨o', rfl, by rw [abs_get hb e, ea]⟩
/-- what the top leaves -/
structure TopEnd (w : World) (os : OsState) (s : Shared) : Prop where
  gens : s.gens = #[]
  drawn : s.drawn = boot_drawn
  os : s.os = os
  old : ∀ b ∈ ([0, 1, 4, 5, 6, 7, 8, 9, 10] : List Nat), s.heap.get? b = (boot_heap w.params).get? b
  fn : ∀ p ∈ fnsL, ∃ o pm c oc vs t doc, c < p.1 ∧ s.heap.get? p.1 = some o ∧ o.data = .func (docDef (fnName p.2) (fnParams p.2) (fnBody p.2) (fnScope p.2) pm (.ref c) doc) ∧ s.heap.get? c = some oc ∧ oc.data = .fields vs ∧ vs[1]? = some (.str (fnName p.2) t) ∧ (p.1 = 142 → c = 141)
  set : ∃ n, s.heap.SetOf (ik w) 43 b1Has n
  dic : ∃ f, s.heap.MapOf (ik w) 54 f ∧ ∀ k, match b3At k with | some x => ∃ t, f k = some (.str x t) | none => f k = none
  law : s.heap.IsCode 141 139 #[] ∧ s.heap.TableAt 141 139 #[]
  look : looks (boot_heap w.params) s.heap = true
  blt : s.heap.bltView = bltViewBooted
theorem fn_of {t : BT} {life : Life} (h : fnObs t = fnExp t) : ∀ p ∈ fnsL, ∃ o pm c oc vs tk doc, c < p.1 ∧ (absHeap t 143 life).get? p.1 = some o ∧ o.data = .func (docDef (fnName p.2) (fnParams p.2) (fnBody p.2) (fnScope p.2) pm (.ref c) doc) ∧ (absHeap t 143 life).get? c = some oc ∧ oc.data = .fields vs ∧ vs[1]? = some (.str (fnName p.2) tk) ∧ (p.1 = 142 → c = 141) := by
  intro p hp
  have hp143 : p.1 < 143 := by
    have : ∀ p ∈ fnsL, p.1 < 143 := by decide
    exact this p hp
  have h1 := List.map_eq_map_iff.mp h p hp
  obtain ⟨h2, h3⟩ := Prod.mk.inj h1
  simp only [Bool.and_eq_true] at h3
  obtain ⟨⟨⟨h4, h5⟩, h6⟩, h9⟩ := h3
  have h10 : p.1 = 142 → cRef t p.1 = 141 := by
    intro q
    rw [q] at h9 ⊢
    exact Nat.eq_of_beq_eq_true (by simpa using h9)
  unfold codeOk at h4
  rw [Bool.and_eq_true] at h4
  obtain ⟨h7, h8⟩ := h4
  have hc : cRef t p.1 < p.1 := Nat.le_of_ble_eq_true h7
  obtain ⟨o, e1, e2⟩ := aliveAt_get (life := life) hp143 h5
  obtain ⟨oc, e3, e4⟩ := aliveAt_get (life := life) (Nat.lt_trans hc hp143) h6
  rw [e3] at h8
  obtain ⟨cc, cd, cdt, cs⟩ := oc
  cases cdt <;> simp only [] at h8 <;> try (cases h8; done)
  rename_i vs
  cases ev : vs[1]? with
  | none => rw [ev] at h8; cases h8
  | some v =>
    rw [ev] at h8
    cases v <;> simp only [] at h8 <;> try (cases h8; done)
    rename_i x tk
    obtain rfl : x = fnName p.2 := eq_of_beq h8
    refine ⟨o, (fdOf (t.get p.1)).pyModule, cRef t p.1, _, vs, tk, (fdOf (t.get p.1)).doc, hc, e2, ?_, e4, rfl, ev, h10⟩
    rw [← h2, e1]; rfl
theorem set_of {w : World} {t : BT} {life : Life} (h : setObs t = setExp t) : ∃ n, (absHeap t 143 life).SetOf (ik w) 43 b1Has n := by
  obtain ⟨h1, h2⟩ := Prod.mk.inj h
  obtain ⟨_, h2⟩ := Prod.mk.inj h2
  have h2 := (Prod.mk.inj h2).1
  unfold setOk at h2
  simp only [Bool.and_eq_true, decide_eq_true_eq] at h2
  obtain ⟨⟨⟨⟨k1, k2⟩, k3⟩, k4⟩, k5⟩ := h2
  refine ⟨_, _, setEs (t.get 43), setEp (t.get 43), setT (t.get 43), (abs_get (by decide) h1).trans rfl, ⟨rfl, rfl, rfl⟩, rfl, ?_, ?_, k3, k2, rfl⟩
  · intro e he
    have := List.all_eq_true.mp k1 e he
    obtain ⟨hh, v⟩ := e
    cases v <;> simp only [elemOk] at this <;> try (cases this; done)
    rename_i k tk
    rw [Bool.and_eq_true] at this
    exact ⟨⟨k, by simp [intKind, Value.isInt], eq_of_beq this.1⟩, this.2⟩
  · intro k
    constructor
    · intro hk
      unfold b1Has at hk
      obtain ⟨z, hz, e⟩ := List.any_eq_true.mp hk
      obtain rfl : z = k := eq_of_beq e
      have := List.all_eq_true.mp k4 z hz
      obtain ⟨el, hel, e⟩ := List.mem_map.mp (List.contains_iff_mem.mp this)
      have ok := List.all_eq_true.mp k1 el hel
      refine ⟨el, hel, ?_⟩
      obtain ⟨hh, v⟩ := el
      cases v <;> simp only [elemOk] at ok <;> try (cases ok; done)
      simp only [elemInt] at e
      subst e
      simp [intKind, Value.isInt]
    · rintro ⟨el, hel, hi⟩
      have := List.all_eq_true.mp k5 (elemInt el) (List.mem_map.mpr ⟨el, hel, rfl⟩)
      obtain ⟨hh, v⟩ := el
      obtain ⟨tk, rfl⟩ := Value.isInt_shape hi
      exact this
theorem law_of {t : BT} {life : Life} (h : setObs t = setExp t) : (absHeap t 143 life).IsCode 141 139 #[] ∧ (absHeap t 143 life).TableAt 141 139 #[] := by
  obtain ⟨_, h2⟩ := Prod.mk.inj h
  obtain ⟨h3, h2⟩ := Prod.mk.inj h2
  have e139 : (absHeap t 143 life).get? 139 = some { cls := .none, data := .fields #[] } := (abs_get (by decide) h3).trans rfl
  obtain ⟨e, h2⟩ := Prod.mk.inj (Prod.mk.inj h2).2
  obtain ⟨h6, h2⟩ := Prod.mk.inj h2
  obtain ⟨k11, h2⟩ := Prod.mk.inj h2
  obtain ⟨k18, h2⟩ := Prod.mk.inj h2
  obtain ⟨k7, h2⟩ := Prod.mk.inj h2
  obtain ⟨k9, k10⟩ := Prod.mk.inj h2
  replace h6 := of_decide_eq_true h6
  have e141 := (abs_get (life := life) (n := 143) (by decide) e).trans rfl
  refine ⟨⟨_, lawVs t, _, _, _, _, _, _, _, _, e141, rfl, k11, k18, k7, k9, k10, e139, rfl, trivial, by decide⟩, ⟨_, lawVs t, e141, rfl, rfl, ?_⟩, e139⟩
  rw [Array.getElem?_eq_getElem h6]
  have : (lawVs t).getD 11 .none = (lawVs t)[11] := by simp [Array.getD, h6]
  rw [← this, k11]
theorem top_end_gen {w : World} {os : OsState} {z8 : SharedT} {s' : Shared} {Γ : Ctx} {p pp : Pos} {tree : Sem Flow} (f1 : z8.n = 54) (f2 : z8.gens = #[]) (f3 : z8.drawn = boot_drawn) (f4 : z8.os = os) (f6 : (List.range 54).all (aliveAt z8.tree) = true)
    (run : ∀ (life : Life) (tk : Nat) (f : Nat → Obj), ∃ z : SharedT, (ev w Γ tree p ⟨insAll (l39 f) 54 z8.tree, 93, life, #[], boot_drawn, tk, os⟩, insOk (l39 f) 54 z8.tree) = (some (.ok .next, pp, z), true) ∧
      (z.n, z.gens, z.drawn, z.os, oldAt z.tree, fnObs z.tree, setObs z.tree, looks (boot_heap w.params) z.abs.heap, z.abs.heap.bltView) = (143, #[], boot_drawn, os, oldExp w (f 0), fnExp z.tree, setExp z.tree, true, bltViewBooted))
    (D : Dst w z8.abs 39 b3Pairs s') {Q : Flow → Pos → Shared → Prop} {E : Value → Pos → Shared → Prop}
    (hQ : ∀ p s, TopEnd w os s → Q .next p s) : Sem.wp (model prog w) Γ tree Q E p s' := by
  have e8n : z8.abs.heap.objs.size = 54 := (absHeap_size _ _ _).trans f1
  obtain ⟨h, tk, rfl⟩ := D.same
  have hsz : h.objs.size = 93 := by have := D.size; rw [e8n] at this; exact this
  have hl : (h.objs.toList.drop 54).length = 39 := by simp [hsz]
  have d0 : Obj := boot_o_0 w.params
  have hlo : h.objs.toList.drop 54 = l39 fun i => (h.objs.toList.drop 54).getD i d0 := getDs d0 39 _ hl
  obtain ⟨f, hlo⟩ : ∃ f, h.objs.toList.drop 54 = l39 f := ⟨_, hlo⟩
  have hlive : ∀ i, i < 54 → ∃ o, z8.tree.get i = some o ∧ h.objs[i]? = some o := by
    intro i hi
    have := List.all_eq_true.mp f6 i (List.mem_range.mpr hi)
    obtain ⟨o, e1, e2⟩ := aliveAt_get (n := 54) (life := z8.life) hi this
    refine ⟨o, e1, get_raw (D.keep i o ?_)⟩
    show (absHeap _ z8.n _).get? i = some o
    rw [f1]; exact e2
  obtain ⟨z, e10', f10⟩ := run h.life tk f
  obtain ⟨e11, e12⟩ := Prod.mk.inj e10'
  rw [← hlo] at e11 e12
  generalize hll : h.objs.toList.drop 54 = l at *
  have habs : ({ z8.abs with heap := h, toks := tk } : Shared) = SharedT.abs ⟨insAll l 54 z8.tree, 93, h.life, #[], boot_drawn, tk, os⟩ := by
    have hh : absHeap (insAll l 54 z8.tree) 93 h.life = h := by
      have := absHeap_all h.life l 54 z8.tree e12
      rw [hl] at this
      rw [this]
      obtain ⟨objs, life⟩ := h
      congr 1
      apply Array.ext'
      rw [Array.toList_append]
      show (BT.list _ 54) ++ l = objs.toList
      rw [← List.take_append_drop 54 objs.toList, show objs.toList.drop 54 = l from hll]
      congr 1
      apply List.ext_getElem?
      intro i
      by_cases hi : i < 54
      · obtain ⟨o, e1, e2⟩ := hlive i hi
        rw [List.getElem?_take_of_lt hi, BT.list, List.getElem?_map, List.getElem?_range hi]
        have : objs.toList[i]? = some o := by simpa using e2
        rw [this]
        simp [e1]
      · rw [List.getElem?_eq_none (by simp [BT.list]; lia), List.getElem?_eq_none (by simp; lia)]
    unfold SharedT.abs
    dsimp only
    rw [hh, f2, f3, f4]
  rw [habs]
  have hdict : ∃ vals, ValsAre vals b3Pairs ∧ Heap.DictOf (ik w) h 54 vals := by have := D.dict (by decide); rw [e8n] at this; exact this
  refine ev_sound w e11 (hQ _ _ ?_)
  simp only [Prod.mk.injEq] at f10
  obtain ⟨g1, g2, g3, g4, g5, g6, g7, g8, g9⟩ := f10
  have hz : z.abs.heap = absHeap z.tree 143 z.life := by show absHeap z.tree z.n z.life = _; rw [g1]
  have hg : ∀ (i : Nat), i < 143 → ∀ o, z.tree.get i = some o → z.abs.heap.get? i = alive o := fun i hi o ho => by rw [hz]; exact abs_get hi ho
  unfold oldAt oldExp at g5
  simp only [List.map_cons, List.map_nil, List.cons.injEq] at g5
  obtain ⟨c0, c1, c4, c5, c6, c7, c8, c9, c10, c54, _⟩ := g5
  refine ⟨g2, g3, g4, ?_, by rw [hz]; exact fn_of g6, by rw [hz]; exact set_of g7, ?_, by rw [hz]; exact law_of g7, g8, g9⟩
  · intro b hb
    simp only [List.mem_cons, List.not_mem_nil, or_false] at hb
    rcases hb with rfl | rfl | rfl | rfl | rfl | rfl | rfl | rfl | rfl
    · rw [hg _ (by decide) _ c0]; rfl
    · rw [hg _ (by decide) _ c1]; rfl
    · rw [hg _ (by decide) _ c4]; rfl
    · rw [hg _ (by decide) _ c5]; rfl
    · rw [hg _ (by decide) _ c6]; rfl
    · rw [hg _ (by decide) _ c7]; rfl
    · rw [hg _ (by decide) _ c8]; rfl
    · rw [hg _ (by decide) _ c9]; rfl
    · rw [hg _ (by decide) _ c10]; rfl
  · obtain ⟨vals, hv, hd⟩ := hdict
    obtain ⟨o, es, ep, ho, r⟩ := hd
    have h54 : h.objs[54]? = some o := get_raw ho
    have ho0 : o = f 0 := by
      have e1 : l[0]? = some o := by rw [← hll, List.getElem?_drop]; simpa using h54
      rw [hlo] at e1
      exact (Option.some.inj e1).symm
    rw [← ho0] at c54
    have hgo : z.abs.heap.get? 54 = some o := by
      rw [hg _ (by decide) _ c54]
      obtain ⟨c, d, dt, sl⟩ := o
      have := r.2.1
      dsimp only at this
      subst this
      rfl
    have hd' : Heap.DictOf (ik w) z.abs.heap 54 vals := ⟨o, es, ep, hgo, r⟩
    refine ⟨_, hd'.mapOf, fun k => ?_⟩
    have := hv.at k
    unfold b3At
    exact this
theorem top_end (w : World) (os : OsState) (a b : Bool) {s' : Shared} (D : Dst (wOf w a b) (S8 (wOf w a b) os).abs 39 b3Pairs s') (Γ : Ctx) (p : Pos) {Q : Flow → Pos → Shared → Prop} {E : Value → Pos → Shared → Prop}
    (hQ : ∀ p s, TopEnd (wOf w a b) os s → Q .next p s) : Sem.wp (model prog (wOf w a b)) Γ treeB Q E p s' := by
  have f8 := s8_facts w os a b
  obtain ⟨f1, f8⟩ := Prod.mk.inj f8
  obtain ⟨f2, f8⟩ := Prod.mk.inj f8
  obtain ⟨f3, f8⟩ := Prod.mk.inj f8
  obtain ⟨f4, f8⟩ := Prod.mk.inj f8
  obtain ⟨f5, f6⟩ := Prod.mk.inj f8
  exact top_end_gen f1 f2 f3 f4 f6 (fun life tk f => have h := (Prod.mk.inj (Prod.mk.inj (head_all Γ p w os a b life tk f)).2).2; ⟨_, (Prod.mk.inj h).1, (Prod.mk.inj h).2⟩) D hQ
end
section
open PySem PySem.W PySem.Calls PyProof.Rows
set_option maxHeartbeats 1000000
theorem Sem.wp_body {w : World} {Γ : Ctx} {b : List Stmt} {env : Env} {R : Result → Shared → Prop} {p : Pos} {s : Shared} (hΓ : Γ.code = .body b env) (hann : hasAnns b = false) (hdoc : docOf b = none)
    (h : Sem.wp (model prog w) Γ (execs b env) (fun f _ s' => R (.ok f) s') (fun _ _ _ => False) p s) : wpCode (model prog w) Γ R p s := by
  refine (Sem.wp_iff_runs (M := model prog w) (Γ := Γ) ((model prog w).den Γ.code) R p s).mp ?_
  rw [hΓ]
  show Sem.wp _ Γ (do blockStart b env; return Fin.done (← (execs b env).onRaise (leaving env))) _ _ p s
  have hb : blockStart b env = pure () := by
    unfold blockStart
    rw [hann, hdoc]
    cases interactive env <;> rfl
  rw [hb]
  simp only [Sem.wp_bind', Sem.wp_pure', Sem.wp_onRaise]
  exact Sem.wp_mono _ _ _ (fun f _ s' q => q) (fun _ _ _ q => q.elim) _ _ h
theorem topBody_ann : hasAnns topBody = false ∧ docOf topBody = none := by constructor <;> kernel_rfl
theorem b3_swap {line : Nat} {env : Env} : swapsWith (.Dict b3K b3V b3P) (some (.Name (Str.ofString "b3_exceptions") b3X)) line env = pure false := by kernel_rfl
structure Box (P : Prop) : Prop where
  go : P
theorem ev_box (w : World) {α : Type} {t : Sem α} {Γ : Ctx} {p p' : Pos} {s s' : SharedT} {a : α} (h : ev w Γ t p s = some (.ok a, p', s')) {Q : α → Pos → Shared → Prop} {E : Value → Pos → Shared → Prop} (q : Box (Q a p' s'.abs)) : Box (Sem.wp (model prog w) Γ t Q E p s.abs) := ⟨ev_sound w h q.go⟩
theorem bind_box {M : Model} {α β : Type} {Γ : Ctx} {m : Sem α} {f : α → Sem β} {Q : β → Pos → Shared → Prop} {E : Value → Pos → Shared → Prop} {p : Pos} {s : Shared} (h : Box (Sem.wp M Γ m (fun a p s => Sem.wp M Γ (f a) Q E p s) E p s)) : Box (Sem.wp M Γ (m >>= f) Q E p s) := ⟨by rw [Sem.wp_bind']; exact h.go⟩
theorem mono_box {M : Model} {α : Type} {Γ : Ctx} {m : Sem α} {Q Q' : α → Pos → Shared → Prop} {p : Pos} {s : Shared} (h : Box (Sem.wp M Γ m Q (fun _ _ _ => False) p s)) (hQ : ∀ a p s, Q a p s → Q' a p s) : Box (Sem.wp M Γ m Q' (fun _ _ _ => False) p s) := ⟨Sem.wp_mono _ _ _ hQ (fun _ _ _ q => q) _ _ h.go⟩
theorem exec_assign {w : World} {Γ : Ctx} {A : Around} (hΓ : Γ.In A) {env : Env} {x : Str} {px pos : Pos} {value : Expr} {Q : Flow → Pos → Shared → Prop} {p : Pos} {s : Shared}
    (hs : swapsWith value (some (.Name x px)) pos.line env = pure false)
    (h : wpAny (model prog w) A (eval value env) (fun v s₁ => ∀ p, Box (Sem.wp (model prog w) Γ (storeName env x v) (fun _ p s => Q .next p s) (fun _ _ _ => False) p s₁)) (fun _ _ => False) s) :
    Box (Sem.wp (model prog w) Γ (exec (.Assign [.Name x px] value pos) env) Q (fun _ _ _ => False) p s) := by
  refine ⟨?_⟩
  simp only [exec_Assign_Name env x px value pos hs, Sem.wp_bind', Sem.wp_cmd_standAt, Sem.wp_bindName, Sem.wp_pure']
  exact Sem.wp_mono _ Γ _ (fun v p s₁ h₁ => (h₁ _).go) (fun _ _ _ h' => h'.elim) _ _ (h Γ _ hΓ)
theorem execs_cons' (st : Stmt) (r : List Stmt) (env : Env) : execs (st :: r) env = exec st env >>= thenDo r env := by
  rw [arm_execs_cons]
  congr 1
noncomputable def b3S : Stmt := .Assign [.Name (Str.ofString "b3_exceptions") b3X] (.Dict b3K b3V b3P) b3Q
noncomputable abbrev QF (w : World) (os : OsState) : Flow → Pos → Shared → Prop := fun f _ s => f = .next ∧ TopEnd w os s
noncomputable abbrev QE : Value → Pos → Shared → Prop := fun _ _ _ => False
noncomputable def QC (w : World) (os : OsState) (f : Flow) (p : Pos) (s : Shared) : Prop := Sem.wp (model prog w) Γ1 (thenDo (topBody.drop 9) env0 f) (QF w os) QE p s
noncomputable def QB (w : World) (os : OsState) (v : Value) (s : Shared) : Prop := ∀ p, Box (Sem.wp (model prog w) Γ1 (storeName env0 (Str.ofString "b3_exceptions") v) (fun _ p s => QC w os .next p s) QE p s)
noncomputable abbrev A1 : Around := { handled := none, depth := frameCount Γ1.below + Γ1.code.weight, frames := none, guards := none, units := Γ1.units }
theorem inA1 : Γ1.In A1 := ⟨rfl, Nat.le_refl _, (fun _ h => by cases h), (fun _ h => by cases h), Nat.le_refl _⟩
theorem midB (w : World) (os : OsState) (a b : Bool) (s' : Shared) (D : Dst (wOf w a b) (S8 (wOf w a b) os).abs 39 b3Pairs s') : QB (wOf w a b) os (.ref 54) s' := by
  intro p
  have this := Box.mk (top_end w os a b D Γ1 p (Q := QF (wOf w a b) os) (E := QE) (fun p s T => ⟨rfl, T⟩))
  unfold treeB at this
  rw [Sem.wp_bind', ← execs_Q] at this
  unfold QC thenDo
  dsimp only
  exact this
theorem midX (w : World) (os : OsState) {z : Shared} (e8n : z.heap.objs.size = 54) (hb : ∀ s', Dst w z 39 b3Pairs s' → QB w os (.ref 54) s') (p : Pos) : Box (Sem.wp (model prog w) Γ1 (exec b3S env0) (QC w os) QE p z) := by
  have hd : ∀ s', Dst w z 39 b3Pairs s' → QB w os (.ref z.heap.objs.size) s' := by rw [e8n]; exact hb
  have hh := @b3_eval w A1 (fun _ _ => False) z env0 (QB w os) (by rw [e8n]; decide) hd
  have hS : swapsWith (.Dict b3K b3V b3P) (some (.Name (Str.ofString "b3_exceptions") b3X)) b3Q.line env0 = pure false := b3_swap
  exact exec_assign inA1 hS hh
theorem mid_wp (w : World) (os : OsState) (a b : Bool) : Box (Sem.wp (model prog (wOf w a b)) Γ1 (execs (b3S :: topBody.drop 9) env0) (QF (wOf w a b) os) QE ⟨53, 0, 54, 30⟩ (S8 (wOf w a b) os).abs) := by
  have e8n : (S8 (wOf w a b) os).abs.heap.objs.size = 54 := (absHeap_size _ _ _).trans (Prod.mk.inj (s8_facts w os a b)).1
  have hX := midX (wOf w a b) os e8n (midB w os a b) ⟨53, 0, 54, 30⟩
  rw [execs_cons']
  exact bind_box hX
theorem body_wp (w : World) (os : OsState) (a b : Bool) : Box (Sem.wp (model prog (wOf w a b)) Γ1 (execs topBody env0) (QF (wOf w a b) os) QE default (S1 (wOf w a b) os).abs) := by
  have es : execs topBody env0 = execsQ (topBody.take 8) env0 >>= thenDo (b3S :: topBody.drop 9) env0 := by
    rw [← execs_Q, ← execs_app]
    exact congrArg (fun l => execs l env0) topSplit
  rw [es]
  have hm := mid_wp w os a b
  refine bind_box (ev_box (wOf w a b) (e8 w os a b) ?_)
  exact hm
theorem code_wp (w : World) (os : OsState) (a b : Bool) : Box (wpCode (model prog (wOf w a b)) Γ1 (fun r s => r = .ok .next ∧ TopEnd (wOf w a b) os s) default (S1 (wOf w a b) os).abs) := by
  have h2 := mono_box (Q' := fun f _ s => (Except.ok f : Result) = .ok .next ∧ TopEnd (wOf w a b) os s) (body_wp w os a b) (fun f p s q => ⟨by rw [q.1], q.2⟩)
  exact ⟨@Sem.wp_body (wOf w a b) Γ1 topBody env0 (fun r s => r = .ok .next ∧ TopEnd (wOf w a b) os s) default _ rfl topBody_ann.1 topBody_ann.2 h2.go⟩
theorem wpCode_ok {w : World} {Γ : Ctx} {R : Shared → Prop} {p : Pos} {s : Shared} {R' : Result → Shared → Prop} (h : wpCode (model prog w) Γ (fun r s => r = .ok .next ∧ R s) p s) (hR : ∀ s, R s → R' (.ok .next) s) : wpCode (model prog w) Γ R' p s := by
  obtain ⟨r, s', h1, rfl, T⟩ := h
  exact ⟨_, s', h1, hR _ T⟩
noncomputable abbrev QT (w : World) (os : OsState) : Fin → Pos → Shared → Prop := fun fin _ s => (∃ f, fin = .done f) ∧ TopEnd w os s ∧ s.gens = #[]
noncomputable def treeR (x : Value × Addr) : Sem Fin := do let _ ← run (.body topBody { scope := prog.main.scope, locals := mainNs, globals := mainNs, cells := [], code := x.1, frame := some x.2 }); ret .none
theorem run_box {w : World} {Γ : Ctx} {c : Code} {Q : Flow → Pos → Shared → Prop} {p : Pos} {s : Shared} {R : Shared → Prop} (h : Box (wpCode (model prog w) (Γ.enter c none p) (fun r s => r = .ok .next ∧ R s) p s)) (hQ : ∀ s, R s → Q .next p s) : Box (Sem.wp (model prog w) Γ (run c) Q QE p s) := by
  refine ⟨?_⟩
  rw [Sem.wp_run]
  exact wpCode_ok h.go hQ
theorem run_wp (w : World) (os : OsState) (a b : Bool) : Box (Sem.wp (model prog (wOf w a b)) Γ0 (treeR (.ref 13, 14)) (QT (wOf w a b) os) QE default (S1 (wOf w a b) os).abs) := by
  have hc := code_wp w os a b
  unfold treeR
  exact bind_box (run_box hc (fun s T => ⟨⟨_, rfl⟩, T, T.gens⟩))
theorem stub_wp (w : World) (os : OsState) (a b : Bool) : Box (Sem.wp (model prog (wOf w a b)) Γ0 (topStub prog).cur (QT (wOf w a b) os) QE default (S0 (wOf w a b) os).abs) := by
  have hr := run_wp w os a b
  have e : (topStub prog).cur = pre0 >>= treeR := by
    simp only [pre0, bind_assoc, pure_bind]
    rfl
  rw [e]
  exact bind_box (ev_box (wOf w a b) (e1 (wOf w a b) os) hr)
end
section
open PySem PySem.W PySem.Calls PyProof.Rows
set_option maxHeartbeats 4000000
/-- what the law's call finds -/
structure LawIn (w : World) (H : Heap) : Prop where
  ok : TopOK H
  tw : TopW w H
  fn : ∃ o pm oc vs t doc, H.get? 142 = some o ∧ o.data = .func (docDef (fnName 17) (fnParams 17) (fnBody 17) (fnScope 17) pm (.ref 141) doc) ∧ H.get? 141 = some oc ∧ oc.data = .fields vs ∧ vs[1]? = some (.str (fnName 17) t)
  code : H.IsCode 141 139 #[]
  tab : H.TableAt 141 139 #[]
  main : ∃ bm ob, H.nsMap mainGlobals "__builtins__" = some (.ref bm) ∧ bm ≠ builtinsNs ∧ H.get? bm = some ob ∧ ob.cls = .type "module" ∧ ob.dict = some builtinsNs ∧ ob.data = .plain
  ns : H.isNs mainGlobals = true
noncomputable def LawCall : Prop := ∀ (w : World) (H : Heap) (s : Shared) (a : Nat) (vs : List Value) (ns : List Int), LawIn w H → (∀ b o, H.get? b = some o → s.heap.get? b = some o) → s.heap.IsList a vs.toArray → IntsAre vs ns → vs.length ≤ 1048576 → 143 ≤ a →
  wpAny (model prog w) callerA (PySem.call (.ref 142) [.ref a]) (fun v s' => v = .bool true ∧ (∃ h tk, s' = { s with heap := h, toks := tk }) ∧ OldK s.heap s'.heap) (fun _ _ => False) s
theorem looks_parts {h0 h : Heap} (x : looks h0 h = true) : (h.isNs mainGlobals = true ∧ h.isNs builtinsNs = true ∧ h.isNs cStatics = true) ∧ PySem.W.staticsOk [] h0 h = true ∧ h.accountedOkI [] = true ∧ namesBound prog h = true ∧ laidKept h0 h = true ∧ h.bmainOk = true ∧
    (∀ p ∈ ownVals, h.nsMap mainGlobals p.1 = some p.2) ∧ (∀ p ∈ blts, h.nsMap mainGlobals p.1 = none) ∧ (∀ p ∈ blts, h.nsMap builtinsNs p.1 = some p.2) ∧ h.nsMap mainGlobals (Str.ofString "law") = some (.ref 142) ∧ h.nsMap cStatics "sys.recursionlimit" = none ∧ h.nsMap cStatics sharingNotToldKey = none := by
  unfold looks at x
  simp only [Bool.and_eq_true, decide_eq_true_eq, List.all_eq_true, Option.isNone_iff_eq_none] at x
  obtain ⟨⟨⟨⟨⟨⟨⟨⟨⟨⟨⟨⟨⟨a1, a2⟩, a3⟩, a4⟩, a5⟩, a6⟩, a7⟩, a8⟩, a9⟩, b1⟩, b2⟩, b3⟩, b4⟩, b5⟩ := x
  exact ⟨⟨a1, a2, a3⟩, a4, a5, a6, a7, a8, a9, b1, b2, b3, b4, b5⟩
theorem lawIn_of {w : World} {os : OsState} {s : Shared} (T : TopEnd w os s) : LawIn w s.heap := by
  obtain ⟨⟨i1, i2, i3⟩, _, _, _, _, x6, x7, x8, x9, x10, x11, x12⟩ := looks_parts T.look
  have hf : ∀ p ∈ fns, p ∈ fnsL ∧ p.1 < 138 := by
    intro p hp
    exact ⟨List.mem_append_left _ hp, by have : ∀ p ∈ fns, p.1 < 138 := by decide
                                         exact this p hp⟩
  refine ⟨⟨⟨_, .of_isNs i1, x7, x8⟩, ⟨_, .of_isNs i2, x9⟩, ⟨_, .of_isNs i3, x11⟩, ⟨_, .of_isNs i3, x12⟩, fun p hp => ?_, ?_⟩, ⟨T.set, T.dic⟩, ?_, T.law.1, T.law.2, ?_, i1⟩
  · obtain ⟨o, pm, c, oc, vs, t, doc, h1, h2, h3, h4, h5, h6, _⟩ := T.fn p (hf p hp).1
    exact ⟨o, pm, c, oc, vs, t, doc, (hf p hp).2, Nat.lt_trans h1 (hf p hp).2, h2, h3, h4, h5, h6⟩
  · obtain ⟨o, pm, c, oc, vs, t, doc, h1, h2, _⟩ := T.fn (137, 16) (by decide)
    exact ⟨o, h2⟩
  · obtain ⟨o, pm, c, oc, vs, t, doc, h1, h2, h3, h4, h5, h6, h7⟩ := T.fn (142, 17) (by decide)
    obtain rfl : c = 141 := h7 rfl
    exact ⟨o, pm, oc, vs, t, doc, h2, h3, h4, h5, h6⟩
  · exact Heap.bmainOk_spec x6
theorem topRan_of {w : World} {os : OsState} {s s₀ : Shared} (e0 : s₀ = ⟨boot_heap w.params, #[], boot_drawn, boot_toks, os⟩) (T : TopEnd w os s) (hl : s.heap.life = s₀.heap.life)
    (hr : ∃ n t, schedN (denote table) prog w n (.single s₀ (topStub prog)) = .running (.single s t) ∧ through t = true) : TopRan prog w s₀ s := by
  obtain ⟨⟨i1, i2, i3⟩, x2, x3, x4, x5, x6, x7, x8, x9, x10, x11, x12⟩ := looks_parts T.look
  subst e0
  refine ⟨hr, hl, Shared.rest_eq T.os, ?_, ?_, ?_, Pin.keysAreStrs_of i1, fun x hx => (Pin.builtinOf_eq i2 x).trans (Heap.of_bltView i2 T.blt x hx), ?_, fun g hg => ?_, names_of_bound x4, laid_of_kept x5⟩
  · intro b o hb hn
    have hlt : @LT.lt Nat _ b 11 := Heap.lt_size hb
    have h1 : ¬ @Eq Nat b 3 := fun q => hn (.inl q)
    have h2 : ¬ @Eq Nat b 2 := fun q => hn (.inr (.inl q))
    rw [T.old b ?_]; exact hb
    have key : ∀ b : Nat, b < 11 → ¬ b = 3 → ¬ b = 2 → b = 0 ∨ b = 1 ∨ b = 4 ∨ b = 5 ∨ b = 6 ∨ b = 7 ∨ b = 8 ∨ b = 9 ∨ b = 10 := by intro b _ _ _; lia
    have := key b hlt h1 h2
    rcases this with rfl | rfl | rfl | rfl | rfl | rfl | rfl | rfl | rfl <;> simp
  · rw [mods_nil]; exact Heap.accountedI_of_ok x3
  · rw [mods_nil]; exact statics_of_ok x2
  · obtain ⟨bm, ob, a, _, c, d, f, _⟩ := Heap.bmainOk_spec x6
    exact ⟨bm, ob, (Pin.globalOf_eq i1 _).trans a, c, d, f⟩
  · rw [T.gens] at hg; simp at hg
theorem the_law {w : World} {H : Heap} (L : LawIn w H) (hg : H.nsMap mainGlobals (Str.ofString "law") = some (.ref 142)) : isTheDefsW prog H (Str.ofString "law") := by
  obtain ⟨o, pm, oc, vs, t, doc, h1, h2, _⟩ := L.fn
  refine ⟨142, o, _, fnParams 17, fnBody 17, fnScope 17, (Pin.globalOf_eq L.ns _).trans hg, h1, h2, by kernel_rfl, by kernel_rfl, by kernel_rfl, rfl, rfl, rfl, rfl, rfl, rfl, .inl ⟨by kernel_rfl, rfl⟩, [], by kernel_rfl, .inl ⟨rfl, rfl⟩⟩
theorem list_of_has {d : WData} (h : WShape.has [] d (.list .int) = true) : ∃ xs, d = .list xs ∧ WShape.hasItems [] xs .int = true := by
  cases d <;> first | exact ⟨_, rfl, (Bool.or_false _).symm.trans h⟩ | exact absurd h Bool.false_ne_true
theorem ints_of_has {xs : List WData} (h : WShape.hasItems [] xs .int = true) : ∃ ns : List Int, xs = ns.map WData.int := by
  induction xs with
  | nil => exact ⟨[], rfl⟩
  | cons d r ih =>
    replace h : (WShape.has [] d .int && WShape.hasItems [] r .int) = true := h
    obtain ⟨h1, h2⟩ := Bool.and_eq_true_iff.mp h
    obtain ⟨ns, rfl⟩ := ih h2
    obtain ⟨i, rfl⟩ := hasW_int h1
    exact ⟨i :: ns, rfl⟩
theorem reads_ints {cl : Str → Option Addr} {h : Heap} : ∀ (ns : List Int) (vs : List Value) (as : List Addr), ReadsAllW [] cl h vs (ns.map WData.int) as → IntsAre vs ns
  | [], vs, as, r => by cases r; exact .nil
  | n :: ns, vs, as, r => by
    obtain ⟨v, vs', as1, as2, rfl, rfl, r1, r2⟩ := readsAllW_cons_inv r
    obtain ⟨t, rfl, _⟩ := readsW_int_inv r1
    exact .cons n t (reads_ints ns vs' as2 r2)
end
section
open PySem PySem.W PySem.Calls PyProof.Rows
set_option maxHeartbeats 4000000
noncomputable abbrev theRow : OpenRow := PySem.Challenge.rw_rl0087_01.row
theorem row_ok : (opensWell prog && (frees theRow.toRowW && theRow.within.isEmpty)) = true := by kernel_rfl
theorem row_open : opening prog = plainProg prog.main.scope.names := by kernel_rfl
theorem row_fence (s : Shared) : fenceModules? prog s = some s := by
  unfold fenceModules?
  rfl
theorem holds_of (hlaw : LawCall) (said : theRow.wellSaid = true) : theRow.Holds := by
  obtain ⟨o1, k5⟩ := Bool.and_eq_true_iff.mp row_ok
  obtain ⟨k5, k6⟩ := Bool.and_eq_true_iff.mp k5
  obtain ⟨hsame, hu, ha, hap, hm⟩ := frees_parts k5
  have hw : theRow.toRowW.promised := ⟨[.list []], by decide +kernel, by decide +kernel⟩
  refine ⟨said, hw, ⟨⟨rfl, rfl, rfl, rfl, rfl, by decide +kernel⟩, o1, rfl⟩, hw.witness, fun w => ?_⟩
  obtain ⟨s₀, h2, h3⟩ := Option.map_eq_some_iff.mp (boot_open (N := 600) row_open (by decide) row_fence w)
  unfold fencedOpening at h2
  rw [← table_eq_tree] at h2
  obtain ⟨s, h4, h5⟩ := Option.bind_eq_some_iff.mp h2
  have A := AfterImport.of_importEnds h4
  refine ⟨⟨s, A⟩, fun s' hs' => ?_⟩
  obtain rfl : s' = s := AfterImport.unique hs' A
  have z : s₀.asleep := Shared.asleep_of_life (fence_lifeW h5) A.life
  obtain ⟨H0, g0, d0, t0, os⟩ := s₀
  simp only [Prod.mk.injEq] at h3
  obtain ⟨rfl, rfl, rfl, rfl⟩ := h3
  have hstub : Box (Sem.wp (model prog w) Γ0 (topStub prog).cur (QT w os) QE default ⟨boot_heap w.params, #[], boot_drawn, boot_toks, os⟩) := by
    have := stub_wp w os (w.params.followText "set-order") ((w.withFollow "set-order" (w.params.followText "set-order")).params.followText "special-get-raises")
    rw [wOf_self, S0_abs] at this
    exact this
  obtain ⟨n, t, s₁, hrun, hthr, T, hgens, hlife⟩ := top_reached (R := TopEnd w os) z hstub.go
  have TR := topRan_of rfl T hlife ⟨n, t, hrun, hthr⟩
  have L := lawIn_of T
  have hg := (looks_parts T.look).2.2.2.2.2.2.2.2.2.1
  refine ⟨_, h5, rfl, s₁, TR, ?_, (fun x hx => nomatch hx), (fun x hx => nomatch hx), ?_⟩
  · intro n hn
    have e : (if theRow.pinned then [theRow.name] else []) = [Str.ofString "law"] := rfl
    rw [e] at hn
    rw [List.mem_singleton.mp hn]
    exact the_law L hg
  · have hz : s₁.asleep := Shared.asleep_of_life hlife z
    refine ClaimW.callFrom_of_specG (c := theRow.toRowW.claim) (tree := fun vs => do match ← nsGet mainNs theRow.name with
      | some f => do ret (← PySem.call f vs)
      | none => unsupported "claim.caller:no-such-global") hz hgens fun args hpre hlay ord hord => ?_
    obtain ⟨⟨vs, s₂⟩, hlaid⟩ := Option.isSome_iff_exists.mp (layAllW_isSome (R := theRow.records) (cl := classAt s₁.heap) (P := w.params) (ord := ord) (fun c hc => nomatch hc) args theRow.args s₁ (pre_splitW hpre).1)
    have keeps := layAllW_keeps _ _ _ hlaid
    have hal := layAllW_rest _ _ _ hlaid
    obtain ⟨as, hrd, hin, hold⟩ := reads_layAllW hord _ _ _ hlaid hlay s₂.heap (fun _ _ e => e)
    have LL : Laid theRow.records w s₁ s₂ args vs as := ⟨⟨ord, hord, hlaid⟩, hrd, hin, hold, keeps, hal.1.trans hgens, hal.2.2.1⟩
    have hi := ident_freeW (r := theRow.toRowW) hu ha hap
    have hwi : theRow.toRowW.claim.within = [] := List.isEmpty_iff.mp k6
    refine ⟨vs, s₂, hlaid, ?_⟩
    obtain ⟨d, r, rfl, hd, hr⟩ := hasAllW_cons (R := theRow.records) (ds := args) (e := WShape.list .int) (es := []) (pre_splitW hpre).1
    obtain rfl := hasAllW_nil hr
    obtain ⟨v, vs', as1, as2, rfl, rfl, r1, r2⟩ := readsAllW_cons_inv hrd
    obtain ⟨rfl, rfl⟩ := readsAllW_nil_inv r2
    obtain ⟨xs, rfl, hxs⟩ := list_of_has hd
    obtain ⟨ns, rfl⟩ := ints_of_has hxs
    obtain ⟨a, arr, as', rfl, hlist, hitems, rfl⟩ := readsW_list_inv r1
    have hints := reads_ints ns _ _ hitems
    have hlen : (ns.map WData.int).length ≤ 1048576 := length_le_of_layableW (by simpa [WData.layableAll] using hlay)
    have ha143 : 143 ≤ a := by
      obtain ⟨o, _, _, _, _, _, h1, _⟩ := L.fn
      have h143 : @LT.lt Nat _ 142 s₁.heap.objs.size := Heap.lt_size h1
      have := (hin.2.2 a (by simp)).1
      exact Nat.le_trans h143 this
    have hcall := hlaw w s₁.heap s₂ a arr.toList ns L keeps (by simpa using hlist) hints (by have := hints.length; simp at hlen ⊢; simp at this; lia) ha143
    refine wpAny_bind (wpAny_nsGet (m := s₁.heap.nsMap mainGlobals) ((Heap.Ns.of_isNs L.ns).keeps keeps) ?_)
    rw [show s₁.heap.nsMap mainGlobals theRow.name = some (.ref 142) from hg]
    refine wpAny_bind (wpAny_mono hcall (fun v s₃ q => wpAny_pure ⟨_, rfl, ?_⟩) fun _ _ q => q.elim)
    obtain ⟨rfl, ⟨h, tk, rfl⟩, hK⟩ := q
    have G : GoodWG theRow.toRowW.claim (classAt s₁.heap) (ExcName.means s₁.heap) [.list (ns.map WData.int)] s₂ (.ok (.ret (.bool true))) { s₂ with heap := h, toks := tk } := by
      refine ⟨.inl ⟨_, .bool true, [], rfl, fun _ => rfl,   .bool _, (by wrow_post), fun _ => ⟨by simp, by simp⟩⟩, hK, rfl, .of_eq LL.gens⟩
    have zz := G.laid (c := theRow.toRowW.claim) hsame hwi hi LL
    exact ⟨zz.1, zz.2.1, zz.2.2, fun q => nomatch q⟩
end
section
open PySem PySem.W PySem.Calls PyProof.Rows PySem.Spec
set_option maxHeartbeats 4000000
noncomputable def rowsOf (hs : List Int) : List (List Int) := (wordsOf hs).map codesOf
noncomputable def turnI (hs : List Int) : Int := (hs.getD 3 0).fdiv 162
noncomputable def hueAt (hs : List Int) (p : Nat) : Int := Float64.val ((huesOf (wordsOf hs) hs).getD p 0)
/-- what the plain laws say of four heaps -/
structure Plain (hs : List Int) : Prop where
  w4 : (wordsOf hs).length = 4
  wlen : ∀ x ∈ wordsOf hs, 1 ≤ x.length ∧ x.length ≤ 3 ∧ 0 ≤ numOf x ∧ numOf x < 64 ^ x.length
  word : ∀ x ∈ wordsOf hs, Word (codesOf x) x
  codes : ∀ r ∈ rowsOf hs, r.length ≤ 3 ∧ ∀ c ∈ r, 0 ≤ c ∧ c < 30000
  low : ∀ c ∈ (typedOf (rowsOf hs) (turnI hs)).cps.toList, (foldSign c).length ≤ 3 ∧ Builtin.Str.tooLong (Txt.lower (one c)).length = false ∧ ((b3At c).getD (Txt.lower (one c))).length ≤ 3
  tlen : (typedOf (rowsOf hs) (turnI hs)).length ≤ 100
  fold : foldText (typedOf (rowsOf hs) (turnI hs)).cps.toList = (rowsOf hs).flatten
  paint : ∀ (i : Nat) (c : List Int) (h : Int), (wordsOf hs)[i]? = some c → hs[i]? = some h → PaintOk (partOfW c) i (shareOf h) c.length
  hfin : ∀ x ∈ huesOf (wordsOf hs) hs, Float64.isFinite x = true
  run : ∀ o : List Nat, o ≠ [] → o.length ≤ 4 → (∀ p ∈ o, p < 4) → Word (runOf (rowsOf hs) o) (dsOf (wordsOf hs) o) ∧ (runOf (rowsOf hs) o).length ≤ 20
  least : ∀ o : List Nat, o.Perm [0, 1, 2, 3] → o.Pairwise (fun p q => hueAt hs p ≤ hueAt hs q) → ∀ M ∈ runNums (wordsOf hs), (∀ a ∈ runNums (wordsOf hs), M ≤ a) → M = numOf (dsOf (wordsOf hs) o)
  most : ∀ o : List Nat, o.Perm [0, 1, 2, 3] → o.Pairwise (fun p q => hueAt hs p ≤ hueAt hs q) → ∀ M ∈ runNums (wordsOf hs), (∀ a ∈ runNums (wordsOf hs), a ≤ M) → M = numOf (dsOf (wordsOf hs) o.reverse)
  cmp : ∀ (i j : Nat) (x y : Int), j < i → (partsOf (wordsOf hs))[i]? = some x → (partsOf (wordsOf hs))[j]? = some y →
    (numOf (dsOf (wordsOf hs) [i, j]) > numOf (dsOf (wordsOf hs) [j, i]) ↔ x > y) ∧ (numOf (dsOf (wordsOf hs) [i, j]) = numOf (dsOf (wordsOf hs) [j, i]) ↔ x = y)
noncomputable def natOf (v : Value) : Nat := match v with | .int n _ => n.toNat | _ => 0
theorem zipAt {xs : List UInt64} {idx : List Value} (hl : xs.length = idx.length) (hi : IntsAre idx ((List.range idx.length).map fun (i : Nat) => (i : Int))) {p : Int × Value} (hp : p ∈ (xs.map Float64.val).zip idx) :
    p.1 = Float64.val (xs.getD (natOf p.2) 0) ∧ ∃ t, p.2 = .int (natOf p.2 : Nat) t := by
  obtain ⟨k, hk⟩ := List.mem_iff_getElem?.mp hp
  rw [List.getElem?_zip_eq_some] at hk
  obtain ⟨h1, h2⟩ := hk
  obtain ⟨n, t, hn, e⟩ := intsAt hi h2
  have hk2 : k < idx.length := (List.getElem?_eq_some_iff.mp h2).1
  rw [List.getElem?_map, List.getElem?_range hk2] at hn
  simp only [Option.map_some, Option.some.injEq] at hn
  subst hn
  rw [e]
  refine ⟨?_, t, rfl⟩
  rw [List.getElem?_map] at h1
  obtain ⟨x, hx, e1⟩ := Option.map_eq_some_iff.mp h1
  show p.1 = Float64.val (xs.getD k 0)
  rw [List.getD_eq_getElem?_getD, hx]
  exact e1.symm
theorem outIs {xs : List UInt64} {idx out : List Value} (hx : xs.length = 4) (hi : IntsAre idx ((List.range 4).map fun (i : Nat) => (i : Int))) (h : OutF xs idx out) :
    ∃ o : List Nat, IntsAre out (o.map fun (p : Nat) => (p : Int)) ∧ o.Perm [0, 1, 2, 3] ∧ o.Pairwise (fun p q => Float64.val (xs.getD p 0) ≤ Float64.val (xs.getD q 0)) := by
  obtain ⟨ps, hp, rfl, hs⟩ := h
  have hl : idx.length = 4 := by have := hi.length; simpa using this
  have hz : ∀ p ∈ ps, p.1 = Float64.val (xs.getD (natOf p.2) 0) ∧ ∃ t, p.2 = .int (natOf p.2 : Nat) t := fun p hm => zipAt (by lia) (by rw [hl]; exact hi) (hp.subset hm)
  refine ⟨ps.map fun p => natOf p.2, ?_, ?_, ?_⟩
  · have : ∀ qs : List (Int × Value), (∀ p ∈ qs, ∃ t, p.2 = .int (natOf p.2 : Nat) t) → IntsAre (qs.map (·.2)) ((qs.map fun p => natOf p.2).map fun (p : Nat) => (p : Int)) := by
      intro qs
      induction qs with
      | nil => intro _; exact .nil
      | cons q r ih =>
        intro h
        obtain ⟨t, e⟩ := h q (List.mem_cons_self ..)
        have := ih fun p hp => h p (List.mem_cons_of_mem _ hp)
        simp only [List.map_cons]
        rw [e]
        exact .cons _ _ this
    exact this ps fun p hm => (hz p hm).2
  · have h1 := hp.map fun p => natOf p.2
    have e1 : ((xs.map Float64.val).zip idx).map (fun p => natOf p.2) = idx.map natOf := by
      rw [show (fun p : Int × Value => natOf p.2) = natOf ∘ Prod.snd from rfl, ← List.map_map, List.map_snd_zip (by simp; lia)]
    rw [e1] at h1
    have e2 : ∀ {vs : List Value} {ns : List Int}, IntsAre vs ns → vs.map natOf = ns.map Int.toNat := by
      intro vs ns h
      induction h with
      | nil => rfl
      | cons n t h ih => simp [natOf, ih]
    rw [e2 hi] at h1
    exact h1.trans (List.Perm.of_eq (by decide))
  · rw [List.pairwise_map]
    refine hs.imp_of_mem fun {a b} ha hb hab => ?_
    rw [← (hz a ha).1, ← (hz b hb).1]
    exact hab
end
section
open PySem PySem.W PySem.Calls PyProof.Rows PySem.Spec
set_option maxHeartbeats 4000000
section
variable {w : World} {A : Around} {E : Value → Shared → Prop} {s s' s₀ : Shared} {X : List Nat} {L : Nat} {l : List (Str × Value)} {news : List (Nat × Obj)} {m : Str → Option Value}
/-- callFnC for a def whose code is known -/
theorem callFnK {i : Nat} {a : Nat} {args : List Value} {cd pm doc : Value} {o : Obj} {Q : Value → Shared → Prop} (bs : List (Str × Value)) (l : List (Str × Value)) (hA : A.depth < 900) (hl : s.heap.NoLimit)
    (h1 : s.heap.get? a = some o) (h2 : o.data = .func (docDef (fnName i) (fnParams i) (fnBody i) (fnScope i) pm cd doc)) (h3 : s.heap.CodeRec cd (fnName i))
    (hbind : bindArgs (docDef (fnName i) (fnParams i) (fnBody i) (fnScope i) pm cd doc) ⟨args, []⟩ = pure bs)
    (hkind : ∀ n, ∀ x ∈ bs, (fnScope i).names.lookup x.1 = some .local ∨ ((fnScope i).names.lookup x.1 = some .cell ∧ ((cellsFrom n (fnScope i).names []).lookup x.1).isSome = true))
    (hbl : bindL (fun x => (fnScope i).names.lookup x) bs (fun _ => none) = lk l)
    (h : ∀ s₁, Keeps s s₁ → Fm s₁ [s.heap.objs.size] s.heap.objs.size l [] s₁ → Cl s.heap.objs.size (cellsFrom (s.heap.objs.size + 1) (fnScope i).names []) s₁.heap (bindC (fun x => (fnScope i).names.lookup x) bs fun _ => none) →
      wpAny (model prog w) (A.deeper (envOfC (fnName i) (fnScope i) s.heap.objs.size a cd)) (execs (fnBody i) (envOfC (fnName i) (fnScope i) s.heap.objs.size a cd))
        (fun f s' => Q (match f with | .ret v => v | _ => .none) s') (fun _ _ => False) s₁)
    (hco : (fnScope i).isCoroutine = false) (hgen : (fnScope i).isGenerator = false) (hk : (fnScope i).kind = .function) :
    wpAny (model prog w) A (call (.ref a) args) Q E s := by
  refine wpAny_call (call_cells_ret (binds := bs) (by unfold recursionLimit; lia) h1 h2 hl h3 hbind (hkind _) (fun h₁ tk Fr0 C0 => ?_) hco hgen hk)
  have hns := Fr0.ns
  rw [show bindL (envOfC (fnName i) (fnScope i) s.heap.objs.size a cd).kindOf bs (fun _ => none) = lk l from hbl] at hns
  refine wpAny_mono (h _ ⟨h₁, tk, rfl, Fr0.keep⟩ (Fm.of_ns hns) C0) (fun f s' q => ?_) fun _ _ x => x
  cases f <;> exact q
theorem ckL {k : Nat} {v : Option Value} (h : s.heap.IsCell (L + (k + 1)) v) (K : Kp [L] s s') : s'.heap.IsCell (L + (k + 1)) v := ckp h K (by simp)
theorem ckC {k j : Nat} {v : Option Value} (h : s.heap.IsCell (L + (k + 1)) v) (K : Kp [L, L + j] s s') (hk : Nat.beq (k + 1) j = false) : s'.heap.IsCell (L + (k + 1)) v :=
  ckp h K (by simp; intro e; rw [e, Nat.beq_refl] at hk; cases hk)
theorem lsL {a : Nat} {v : Array Value} (h : s.heap.IsList a v) (ns : s.heap.Ns L m) (K : Kp [L] s s') : s'.heap.IsList a v := lkp h K (by simpa using list_ne_ns h ns)
theorem lsC {a k : Nat} {v : Array Value} {u : Option Value} (h : s.heap.IsList a v) (ns : s.heap.Ns L m) (hc : s.heap.IsCell (L + k) u) (K : Kp [L, L + k] s s') : s'.heap.IsList a v :=
  lkp h K (by simp; exact ⟨list_ne_ns h ns, list_ne_cell h hc⟩)
theorem llL {vs : List Value} {rows : List (List Int)} (h : ListsOf s.heap vs rows) (ns : s.heap.Ns L m) (K : Kp [L] s s') : ListsOf s'.heap vs rows :=
  h.mv fun _ _ _ _ h2 => lsL h2 ns K
theorem llC {k : Nat} {vs : List Value} {rows : List (List Int)} {u : Option Value} (h : ListsOf s.heap vs rows) (ns : s.heap.Ns L m) (hc : s.heap.IsCell (L + k) u) (K : Kp [L, L + k] s s') : ListsOf s'.heap vs rows :=
  h.mv fun _ _ _ _ h2 => lsC h2 ns hc K
theorem lsI {a I b n : Nat} {v : Array Value} (h : s.heap.IsList a v) (ns : s.heap.Ns L m) (hI : s.heap.get? I = some (itO b n)) (K : Kp [L, I] s s') : s'.heap.IsList a v :=
  lkp h K (by
    simp
    refine ⟨list_ne_ns h ns, ?_⟩
    obtain ⟨o, ho, _, k, hd⟩ := h
    rintro rfl
    rw [ho] at hI; cases hI; cases hd)
theorem llI {I b n : Nat} {vs : List Value} {rows : List (List Int)} (h : ListsOf s.heap vs rows) (ns : s.heap.Ns L m) (hI : s.heap.get? I = some (itO b n)) (K : Kp [L, I] s s') : ListsOf s'.heap vs rows :=
  h.mv fun _ _ _ _ h2 => lsI h2 ns hI K
theorem lsT {a P : Nat} {v ps : Array Value} (h : s.heap.IsList a v) (ns : s.heap.Ns L m) (hT : s.heap.get? P = some (tabObj ps)) (K : Kp [L, P] s s') : s'.heap.IsList a v :=
  lkp h K (by
    simp
    refine ⟨list_ne_ns h ns, ?_⟩
    obtain ⟨o, ho, _, k, hd⟩ := h
    rintro rfl
    rw [ho] at hT; cases hT; cases hd)
theorem llT {P : Nat} {vs : List Value} {ps : Array Value} {rows : List (List Int)} (h : ListsOf s.heap vs rows) (ns : s.heap.Ns L m) (hT : s.heap.get? P = some (tabObj ps)) (K : Kp [L, P] s s') : ListsOf s'.heap vs rows :=
  h.mv fun _ _ _ _ h2 => lsT h2 ns hT K
theorem Fm.plain (F : Fm s₀ X L l news s) : Fm s [L] L l [] s := (F.rebase [L]).sub (by simp)
theorem Fm.atC {k : Nat} {o : Obj} (F : Fm s₀ X L l news s) (hk : 0 < k) (ho : s.heap.get? (L + k) = some o) : Fm s [L, L + k] L l [(L + k, o)] s := ((F.rebase [L, L + k]).sub (by simp)).more ho (by lia)
structure Bs (s₀ s : Shared) : Prop where
  same : ∃ h tk, s = { s₀ with heap := h, toks := tk }
  old : ∀ b o, s₀.heap.get? b = some o → s.heap.get? b = some o
theorem Bs.stepN (B : Bs s₀ s) (K : Kp X s s') (hX : ∀ b ∈ X, s₀.heap.get? b = none) : Bs s₀ s' :=
  ⟨by obtain ⟨h, tk, rfl⟩ := B.same; obtain ⟨h', tk', rfl⟩ := K.same; exact ⟨h', tk', rfl⟩, fun b o e => K.keep b o (fun hm => by rw [hX b hm] at e; cases e) (B.old b o e)⟩
theorem Bs.step (B : Bs s₀ s) (K : Kp X s s') (hX : ∀ b ∈ X, s₀.heap.objs.size ≤ b) : Bs s₀ s' :=
  ⟨by obtain ⟨h, tk, rfl⟩ := B.same; obtain ⟨h', tk', rfl⟩ := K.same; exact ⟨h', tk', rfl⟩, fun b o e => K.keep b o (fun hm => absurd (Heap.lt_size e) (Nat.not_lt.mpr (hX b hm))) (B.old b o e)⟩
end
theorem law_all (P : ∀ vH hs, Heaps vH hs → Plain hs) : LawCall := by
  intro w H s a vs ns LI hold hlS hi hsz ha
  obtain ⟨o, pm, oc, cvs, ct, doc, f1, f2, f3, f4, f5⟩ := LI.fn
  have hG : GL H s.heap := ⟨LI.ok, fun b o _ e => hold b o e⟩
  have h142 := hold _ _ f1
  have hL8 : @LE.le Nat _ 143 s.heap.objs.size := Heap.lt_size h142
  refine callFnK (i := 17) [(Str.ofString "script", .ref a)] [(Str.ofString "script", .ref a)] (by decide) hG.lim h142 f2 ⟨141, oc, cvs, ct, rfl, hold _ _ f3, f4, f5⟩ (by walk_at "u") (fun n x hx => ?_) ?_ (fun s1 K0 F1 C0 => ?_) (by walk_at "u") (by walk_at "u") (by walk_at "u")
  · simp only [List.mem_cons, List.not_mem_nil, or_false] at hx
    subst hx
    exact .inl (by walk_at "u")
  · unfold bindL
    rw [if_pos (by decide +kernel)]
    unfold bindL
    rfl
  rw [cells17] at C0
  obtain ⟨L, hL⟩ : ∃ L, L = s.heap.objs.size := ⟨_, rfl⟩
  rw [← hL] at F1 C0 hL8 ⊢
  have hcm : bindC (fun x => (fnScope 17).names.lookup x) [(Str.ofString "script", .ref a)] (fun _ => none) = fun _ => none := by
    unfold bindC
    rw [if_pos (by decide +kernel)]
    unfold bindC
    rfl
  rw [hcm] at C0
  have hcell : ∀ x c, (x, c) ∈ [(Str.ofString "hues", L + 1 + 4), (Str.ofString "tape", L + 1 + 3), (Str.ofString "rows", L + 1 + 2), (Str.ofString "words", L + 1 + 1), (Str.ofString "letters", L + 1)] →
      List.lookup x [(Str.ofString "hues", L + 1 + 4), (Str.ofString "tape", L + 1 + 3), (Str.ofString "rows", L + 1 + 2), (Str.ofString "words", L + 1 + 1), (Str.ofString "letters", L + 1)] = some c → s1.heap.IsCell c none := fun x c _ e => C0.cell x c e
  have c1 : s1.heap.IsCell (L + 1) none := C0.cell (Str.ofString "letters") _ (by walk_at "u")
  have c2 : s1.heap.IsCell (L + 2) none := C0.cell (Str.ofString "words") _ (by walk_at "u")
  have c3 : s1.heap.IsCell (L + 3) none := C0.cell (Str.ofString "rows") _ (by walk_at "u")
  have c4 : s1.heap.IsCell (L + 4) none := C0.cell (Str.ofString "tape") _ (by walk_at "u")
  have c5 : s1.heap.IsCell (L + 5) none := C0.cell (Str.ofString "hues") _ (by walk_at "u")
  clear C0 hcell hcm
  have B1 : Bs s s1 := by obtain ⟨h, tk, rfl, k⟩ := K0; exact ⟨⟨h, tk, rfl⟩, k⟩
  have GB : ∀ {s' : Shared}, Bs s s' → GL H s'.heap := fun {s'} B => ⟨LI.ok, fun b o _ e => B.old b o (hold b o e)⟩
  have hX1 : ∀ b ∈ [L], s.heap.objs.size ≤ b := by rw [← hL]; simp
  have hX2 : ∀ k, ∀ b ∈ [L, L + k], s.heap.objs.size ≤ b := by rw [← hL]; simp
  have hL8' : 138 ≤ L := by lia
  generalize hAd : callerA.deeper (envOfC (fnName 17) (fnScope 17) L 142 (.ref 141)) = A
  have hA : A.depth < 880 := by rw [← hAd]; exact of_decide_eq_true (by kernel_rfl!)
  have hh : A.handled = none := by rw [← hAd]; rfl
  have hu : A.units + 64 < cLine := by rw [← hAd]; exact of_decide_eq_true (by kernel_rfl!)
  have hfr : A.frames = some [lawEnv L (.ref 141)] := by rw [← hAd]; rfl
  have hlS1 : s1.heap.IsList a vs.toArray := exMv hlS (B1.old _)
  suffices hgo : LawFrom w A L (.ref 141) 0 (fun f s' => (match f with | .ret v => v | _ => .none) = .bool true ∧ (∃ h tk, s' = { s with heap := h, toks := tk }) ∧ OldK s.heap s'.heap) (fun _ _ => False) s1 by
    exact hgo.go
  -- letters
  obtain ⟨o1, ho1, hd1⟩ := c1
  refine law_g1 hA hh (GB B1) hL8' (F1.atC (by decide) ho1) hd1 hlS1 hi (by rw [sizeLine_eq]; lia) fun aH vH hs aL o1' s2 hH hd1' hvL hlH F2 => ?_
  obtain ⟨vL, hlL, hvL⟩ := hvL
  have PL := P vH hs hH
  have B2 := B1.step F2.kp (hX2 1)
  have c1 : s2.heap.IsCell (L + 1) (some (.ref aL)) := ⟨_, F2.objs _ (List.Mem.head _), hd1'⟩
  replace c2 := ckC c2 F2.kp rfl
  replace c3 := ckC c3 F2.kp rfl
  replace c4 := ckC c4 F2.kp rfl
  replace c5 := ckC c5 F2.kp rfl
  -- words
  have c2' := c2
  obtain ⟨o2, ho2, hd2⟩ := c2'
  refine law_g2 hA hh (GB B2) hL8' (F2.atC (by decide) ho2) hd2 hH hlH (by walk_at "lk") c1 hlL hvL fun aW vW o2' s3 hd2' hlW hW F3 => ?_
  have B3 := B2.step F3.kp (hX2 2)
  replace hlH := lsC hlH F2.ns c2 F3.kp
  replace c2 : s3.heap.IsCell (L + 2) (some (.ref aW)) := ⟨_, F3.objs _ (List.Mem.head _), hd2'⟩
  replace c3 := ckC c3 F3.kp rfl
  replace c4 := ckC c4 F3.kp rfl
  replace c5 := ckC c5 F3.kp rfl
  -- rows
  have c3' := c3
  obtain ⟨o3, ho3, hd3⟩ := c3'
  refine law_g3 hA hh (GB B3) hL8' (F3.atC (by decide) ho3) hd3 c2 hlW hW (Nat.le_of_eq PL.w4) (fun x hx => ⟨(PL.wlen x hx).1, (PL.wlen x hx).2.1⟩) fun aR vR o3' s4 hd3' hlR hR F4 => ?_
  have B4 := B3.step F4.kp (hX2 3)
  replace hlH := lsC hlH F3.ns c3 F4.kp
  replace hlW := lsC hlW F3.ns c3 F4.kp
  replace hW := llC hW F3.ns c3 F4.kp
  replace c2 := ckC c2 F4.kp rfl
  replace c3 : s4.heap.IsCell (L + 3) (some (.ref aR)) := ⟨_, F4.objs _ (List.Mem.head _), hd3'⟩
  replace c4 := ckC c4 F4.kp rfl
  replace c5 := ckC c5 F4.kp rfl
  -- unseen, beside
  refine law_g4 hA hh (GB B4) hL8' F4.plain fun aU vU aB vB l5 s5 hlU hU hlB hB hkU hkB hk5 F5 => ?_
  have B5 := B4.step F5.kp hX1
  replace hlH := lsL hlH F4.ns F5.kp
  replace hlW := lsL hlW F4.ns F5.kp
  replace hW := llL hW F4.ns F5.kp
  replace hlR := lsL hlR F4.ns F5.kp
  replace hR := llL hR F4.ns F5.kp
  replace c2 := ckL c2 F5.kp
  replace c3 := ckL c3 F5.kp
  replace c4 := ckL c4 F5.kp
  replace c5 := ckL c5 F5.kp
  have hkH5 : lk l5 (Str.ofString "heaps") = some (.ref aH) := by rw [hk5 _ (by decide +kernel) (by decide +kernel)]; walk_at "lk"
  refine law_g6 hA hh hu (GB B5) LI.tw hL8' F5.plain hlB hB hkB fun s6 F6 => ?_
  have B6 := B5.step F6.kp hX1
  replace hlH := lsL hlH F5.ns F6.kp
  replace hlW := lsL hlW F5.ns F6.kp
  replace hW := llL hW F5.ns F6.kp
  replace hlR := lsL hlR F5.ns F6.kp
  replace hR := llL hR F5.ns F6.kp
  replace hlU := lsL hlU F5.ns F6.kp
  replace c2 := ckL c2 F6.kp
  replace c3 := ckL c3 F6.kp
  replace c4 := ckL c4 F6.kp
  replace c5 := ckL c5 F6.kp
  have hr4 : (rowsOf hs).length = 4 := by unfold rowsOf; rw [List.length_map]; exact PL.w4
  refine law_g7 hA hh (GB B6) LI.tw hL8' F6.plain hlH hH hkH5 c3 hlR hR (Nat.le_of_eq hr4) (fun r hr => (PL.codes r hr).1) (fun r hr => (PL.codes r hr).2) hlU hU hkU PL.low PL.tlen fun aK vK l7 s7 hlK hK hkK hk7 F7 => ?_
  have B7 := B6.step F7.kp hX1
  replace hlH := lsL hlH F6.ns F7.kp
  replace hlW := lsL hlW F6.ns F7.kp
  replace hW := llL hW F6.ns F7.kp
  replace hlR := lsL hlR F6.ns F7.kp
  replace hR := llL hR F6.ns F7.kp
  replace c2 := ckL c2 F7.kp
  replace c3 := ckL c3 F7.kp
  replace c4 := ckL c4 F7.kp
  replace c5 := ckL c5 F7.kp
  have hkH7 : lk l7 (Str.ofString "heaps") = some (.ref aH) := by rw [hk7 _ (by decide +kernel) (by decide +kernel) (by decide +kernel)]; exact hkH5
  rw [show foldText (typedOf (wordsOf hs |>.map codesOf) ((hs.getD 3 0).fdiv 162)).cps.toList = (rowsOf hs).flatten from PL.fold] at hK
  refine law_g9 hh hu hL8' F7.plain c3 hlR hR (Nat.le_of_eq hr4) (fun r hr => (PL.codes r hr).1) hlK hK hkK rfl fun s8 F8 => ?_
  have B8 := B7.step F8.kp hX1
  replace hlH := lsL hlH F7.ns F8.kp
  replace hlW := lsL hlW F7.ns F8.kp
  replace hW := llL hW F7.ns F8.kp
  replace hlR := lsL hlR F7.ns F8.kp
  replace hR := llL hR F7.ns F8.kp
  replace hlK := lsL hlK F7.ns F8.kp
  replace c2 := ckL c2 F8.kp
  replace c3 := ckL c3 F8.kp
  replace c4 := ckL c4 F8.kp
  replace c5 := ckL c5 F8.kp
  -- tape, numbers
  have c4' := c4
  have c5' := c5
  obtain ⟨o4, ho4, hd4⟩ := c4'
  refine law_g10 hA hh (GB B8) hL8' (F8.atC (by decide) ho4) hd4 c2 hlW hW (Nat.le_of_eq PL.w4) (fun x hx => ⟨PL.word x hx, (PL.wlen x hx).2.1⟩) hlK hK hkK fun I aN vN l9 o4' s9 hd4' hIz hIn hI hlN hN hkN hk9 F9 => ?_
  have B9 := B8.step F9.kp (hX2 4)
  replace hlH := lsC hlH F8.ns c4 F9.kp
  replace hlW := lsC hlW F8.ns c4 F9.kp
  replace hW := llC hW F8.ns c4 F9.kp
  replace hlR := lsC hlR F8.ns c4 F9.kp
  replace hR := llC hR F8.ns c4 F9.kp
  replace hlK := lsC hlK F8.ns c4 F9.kp
  replace c2 := ckC c2 F9.kp rfl
  replace c3 := ckC c3 F9.kp rfl
  replace c4 : s9.heap.IsCell (L + 4) (some (.ref I)) := ⟨_, F9.objs _ (List.Mem.head _), hd4'⟩
  replace c5 := ckC c5 F9.kp rfl
  have hkH9 : lk l9 (Str.ofString "heaps") = some (.ref aH) := by rw [hk9 _ (by decide +kernel)]; exact hkH7
  refine law_g12 hA hh hu (GB B9) hL8' F9.plain c2 hlW hW (Nat.le_of_eq PL.w4) hlN hN hkN fun s10 F10 => ?_
  have hIL : I ≠ L := by
    obtain ⟨o, es, ep, ho, hd, _⟩ := F9.ns
    rintro rfl
    rw [ho] at hI; cases hI; cases hd
  have B10 := B9.step F10.kp hX1
  replace hlH := lsL hlH F9.ns F10.kp
  replace hlW := lsL hlW F9.ns F10.kp
  replace hW := llL hW F9.ns F10.kp
  replace hlR := lsL hlR F9.ns F10.kp
  replace hR := llL hR F9.ns F10.kp
  replace hlK := lsL hlK F9.ns F10.kp
  replace hlN := lsL hlN F9.ns F10.kp
  replace c2 := ckL c2 F10.kp
  replace c3 := ckL c3 F10.kp
  replace c4 := ckL c4 F10.kp
  replace c5 := ckL c5 F10.kp
  replace hI := F10.kp.keep _ _ (by simpa using hIL) hI
  -- the iterator's end
  have hLI : L + 5 < I := Nat.lt_of_lt_of_le (exLt c5') hIz
  refine law_g13 hA hh hfr (GB B10) hL8' F10.plain c4 (by lia) hI hlK (List.getElem?_eq_none (by rw [hK.length]; exact Nat.le_refl _)) fun tw s13 F13 => ?_
  have B13 := B10.stepN F13.kp (by
    intro b hb
    simp only [List.mem_cons, List.not_mem_nil, or_false] at hb
    rcases hb with rfl | rfl
    · exact get_above (Nat.le_of_eq hL.symm)
    · cases e : s.heap.get? b with
      | none => rfl
      | some o => have := B8.old _ _ e; rw [hIn] at this; cases this)
  replace hlH := lsI hlH F10.ns hI F13.kp
  replace hlW := lsI hlW F10.ns hI F13.kp
  replace hlR := lsI hlR F10.ns hI F13.kp
  replace hlN := lsI hlN F10.ns hI F13.kp
  replace hW := llI hW F10.ns hI F13.kp
  replace hR := llI hR F10.ns hI F13.kp
  replace c2 := ckp c2 F13.kp (by simp; lia)
  replace c3 := ckp c3 F13.kp (by simp; lia)
  replace c5 := ckp c5 F13.kp (by simp; lia)
  -- parts, hues
  have c5'' := c5
  obtain ⟨o5, ho5, hd5⟩ := c5''
  refine law_g14 hA hh hu (GB B13) hL8' (F13.atC (by decide) ho5) hd5 hlH hH (by walk_at "lk") c2 hlW hW PL.w4 PL.wlen hlN hN (by walk_at "lk") lk_hit PL.paint fun aP aU vP vU l14 o5' s14 hd5' hlP hP hlU hU hkP F14 => ?_
  have B14 := B13.step F14.kp (hX2 5)
  replace hlW := lsC hlW F13.ns c5 F14.kp
  replace hlR := lsC hlR F13.ns c5 F14.kp
  replace hW := llC hW F13.ns c5 F14.kp
  replace hR := llC hR F13.ns c5 F14.kp
  replace c2 := ckC c2 F14.kp rfl
  replace c3 := ckC c3 F14.kp rfl
  replace c5 : s14.heap.IsCell (L + 5) (some (.ref aU)) := ⟨_, F14.objs _ (List.Mem.head _), hd5'⟩
  -- orders
  refine law_g17 hA hh (GB B14) hL8' F14.plain ⟨141, oc, cvs, rfl, B14.old _ _ (hold _ _ f3), f4⟩ fun aO vO l17 s17 hlO hO hkO hk17 F17 => ?_
  have B17 := B14.step F17.kp hX1
  replace hlW := lsL hlW F14.ns F17.kp
  replace hlR := lsL hlR F14.ns F17.kp
  replace hlP := lsL hlP F14.ns F17.kp
  replace hlU := lsL hlU F14.ns F17.kp
  replace hW := llL hW F14.ns F17.kp
  replace hR := llL hR F14.ns F17.kp
  replace c2 := ckL c2 F17.kp
  replace c3 := ckL c3 F17.kp
  replace c5 := ckL c5 F17.kp
  replace hkP : lk l17 (Str.ofString "parts") = some (.ref aP) := by rw [hk17 _ (by decide +kernel)]; exact hkP
  refine law_g18 hA hh (GB B17) hL8' F17.plain c3 hlR hR hr4 (fun r hr => (PL.codes r hr).1) hlO hO hkO PL.run fun aX vX l18 s18 hlX hX hkX hk18 F18 => ?_
  have B18 := B17.step F18.kp hX1
  replace hlW := lsL hlW F17.ns F18.kp
  replace hlR := lsL hlR F17.ns F18.kp
  replace hlP := lsL hlP F17.ns F18.kp
  replace hlU := lsL hlU F17.ns F18.kp
  replace hW := llL hW F17.ns F18.kp
  replace hR := llL hR F17.ns F18.kp
  replace c2 := ckL c2 F18.kp
  replace c3 := ckL c3 F18.kp
  replace c5 := ckL c5 F18.kp
  replace hkP : lk l18 (Str.ofString "parts") = some (.ref aP) := by rw [hk18 _ (by decide +kernel)]; exact hkP
  -- rising
  have hk0 : ∀ b o, H.get? b = some o → s18.heap.get? b = some o := fun b o e => B18.old _ _ (hold _ _ e)
  have hC18 := LI.code.keeps hk0
  have hT18 := LI.tab.keeps hk0
  have hNs18 : s18.heap.Ns mainGlobals (H.nsMap mainGlobals) := (Heap.Ns.of_isNs LI.ns).keeps hk0
  have hB18 : s18.heap.BuiltinsAt (H.nsMap mainGlobals) 139 := by
    obtain ⟨bm, ob, m1, m2, m3, m4, m5, m6⟩ := LI.main
    refine ⟨bm, ob, m1, m2, ?_, ?_, hk0 _ _ m3, m4, m5, m6⟩
    · obtain ⟨o, es, ep, ho, hd, _⟩ := Heap.Ns.of_isNs LI.ns
      rintro rfl
      rw [m3] at ho; cases ho; rw [m6] at hd; cases hd
    · have := LI.tab.2
      rintro rfl
      rw [m3] at this; cases this; cases m6
  have hul : (huesOf (wordsOf hs) hs).length = 4 := by unfold huesOf; rw [List.length_map, List.length_zip, PL.w4, hH.four]; rfl
  refine law_g19 hA hh (GB B18) hL8 F18.plain c5 hlU hU hul PL.hfin hC18 hT18 hNs18 hB18 fun aS out idx l19 s19 K19 hlS19 hidx hout hkS hk19 h139 F19 => ?_
  have G19 := (GB B18).keptX K19 (by intro b hb; simp at hb; lia)
  replace hlW := lsT hlW F18.ns hT18.2 K19
  replace hlR := lsT hlR F18.ns hT18.2 K19
  replace hlP := lsT hlP F18.ns hT18.2 K19
  replace hlX := lsT hlX F18.ns hT18.2 K19
  replace hW := llT hW F18.ns hT18.2 K19
  replace hR := llT hR F18.ns hT18.2 K19
  replace c2 := ckp c2 K19 (by simp; lia)
  replace c3 := ckp c3 K19 (by simp; lia)
  replace hkP : lk l19 (Str.ofString "parts") = some (.ref aP) := by rw [hk19 _ (by decide +kernel)]; exact hkP
  replace hkX : lk l19 (Str.ofString "runs") = some (.ref aX) := by rw [hk19 _ (by decide +kernel)]; exact hkX
  obtain ⟨ord, ho1', ho2', ho3'⟩ := outIs hul hidx hout
  have hord4 : ord.length = 4 := ho2'.length_eq
  have hordm : ∀ p ∈ ord, p < 4 := fun p hp => by have := ho2'.subset hp; simp at this; lia
  have hrl0 : 0 < (runNums (wordsOf hs)).length := by unfold runNums; rw [List.length_map, ordersN_len]; decide
  refine law_g20 hA hh G19 hL8' F19 c2 hlW hW PL.w4 (fun x hx => (PL.wlen x hx).2.1) hlS19 ho1' hord4 hordm hkS hlX hX hrl0 hkX (PL.least ord ho2' ho3') fun s20 F20 => ?_
  have G20 := G19.keptX F20.kp (by intro b hb; simp at hb; lia)
  replace hlW := lsL hlW F19.ns F20.kp
  replace hlR := lsL hlR F19.ns F20.kp
  replace hlP := lsL hlP F19.ns F20.kp
  replace hlX := lsL hlX F19.ns F20.kp
  replace hlS19 := lsL hlS19 F19.ns F20.kp
  replace hW := llL hW F19.ns F20.kp
  replace hR := llL hR F19.ns F20.kp
  replace c2 := ckL c2 F20.kp
  replace c3 := ckL c3 F20.kp
  refine law_g21 hA hh G20 hL8' F20.plain c2 hlW hW PL.w4 (fun x hx => (PL.wlen x hx).2.1) hlS19 ho1' hord4 hordm hkS hlX hX hrl0 hkX (PL.most ord ho2' ho3') fun s21 F21 => ?_
  have G21 := G20.keptX F21.kp (by intro b hb; simp at hb; lia)
  replace hlW := lsL hlW F20.ns F21.kp
  replace hlR := lsL hlR F20.ns F21.kp
  replace hlP := lsL hlP F20.ns F21.kp
  replace hW := llL hW F20.ns F21.kp
  replace hR := llL hR F20.ns F21.kp
  replace c2 := ckL c2 F21.kp
  replace c3 := ckL c3 F21.kp
  refine law_g22 hA hh hu G21 hL8' F21.plain c3 hlR hR hr4 (fun r hr => (PL.codes r hr).1) hlP hP (by unfold partsOf; rw [List.length_map]; exact PL.w4) hkP PL.run PL.cmp fun l22 s22 F22 => ?_
  refine law_g23 ⟨rfl, ?_, ?_⟩
  · obtain ⟨h, tk, e18⟩ := B18.same
    obtain ⟨h', tk', e19⟩ := ((K19.mono (Y := [L, 139]) (fun _ h => h)).trans ((F20.kp.trans (F21.kp.trans F22.kp)).mono (Y := [L, 139]) (by simp))).same
    rw [e18] at e19
    exact ⟨h', tk', e19⟩
  · have hkp : ∀ b o, b ≠ 139 → s.heap.get? b = some o → s22.heap.get? b = some o := fun b o hb e => by
      have hbL : b ≠ L := by rw [hL]; exact Nat.ne_of_lt (Heap.lt_size e)
      have e19 := K19.keep b o (by simp; exact ⟨hbL, hb⟩) (B18.old b o e)
      exact F22.kp.keep b o (by simpa using hbL) (F21.kp.keep b o (by simpa using hbL) (F20.kp.keep b o (by simpa using hbL) e19))
    obtain ⟨more, h139⟩ := h139
    have h139' : s22.heap.get? 139 = some (tabObj more) := F22.kp.keep _ _ (by simp; lia) (F21.kp.keep _ _ (by simp; lia) (F20.kp.keep _ _ (by simp; lia) h139))
    have ht₀ : s.heap.TableAt 141 139 #[] := LI.tab.keeps hold
    refine (OldK.refl s.heap).step_table (ps := #[]) (more := more) ht₀ ht₀ ⟨?_, ?_⟩ hkp (by decide)
    · obtain ⟨⟨o', vs', e1, e2⟩, _⟩ := ht₀
      exact ⟨o', vs', hkp _ _ (by decide) e1, e2⟩
    · rw [h139', Array.empty_append]
end
section
open PySem PySem.Float64
theorem repr_ex : ∀ (g q : Nat), q ≤ 2 ^ 53 → ∃ t, V t = q * 2 ^ g
  | 0, q, h => ⟨0 * 2 ^ 52 + q, V_at h (.inr rfl)⟩
  | g + 1, q, h => by
    by_cases h2 : 2 ^ 52 ≤ q
    · exact ⟨(g + 1) * 2 ^ 52 + q, V_at h (.inl h2)⟩
    · obtain ⟨t, ht⟩ := repr_ex g (2 * q) (by lia)
      refine ⟨t, ?_⟩
      rw [ht, Nat.pow_succ]; ac_rfl
theorem not_over {D W g : Nat} (hD : 0 < D) (hW : W ≤ D * 2 ^ (53 + g)) (hg : g ≤ 1900) : ¬ D * ((2 ^ 54 - 1) * 2 ^ 2045) ≤ 2 * W := by
  have h1 : 2 * W ≤ D * 2 ^ (54 + g) := by
    have e1 : D * 2 ^ (54 + g) = 2 * (D * 2 ^ (53 + g)) := by
      rw [show 54 + g = 53 + g + 1 from Nat.add_right_comm 53 1 g, Nat.pow_succ, ← Nat.mul_assoc, Nat.mul_comm]
    rw [e1]
    exact Nat.mul_le_mul_left 2 hW
  have hg2 : 54 + g < 2045 := Nat.lt_of_le_of_lt (Nat.add_le_add_left hg 54) (by decide)
  have h2 : 2 ^ (54 + g) < 2 ^ 2045 := Nat.pow_lt_pow_right (by decide) hg2
  have h3 : 2 ^ 2045 ≤ (2 ^ 54 - 1) * 2 ^ 2045 := Nat.le_mul_of_pos_left _ (by decide)
  have h4 : D * 2 ^ (54 + g) < D * ((2 ^ 54 - 1) * 2 ^ 2045) := Nat.mul_lt_mul_of_pos_left (Nat.lt_of_lt_of_le h2 h3) hD
  exact fun h => Nat.lt_irrefl _ (Nat.lt_of_lt_of_le h4 (Nat.le_trans h h1))
theorem near {r : UInt64} {neg : Bool} {W D g : Nat} (h : Right r neg W D) (hD : 0 < D) (hW : W ≤ D * 2 ^ (53 + g)) (hg : g ≤ 1900) :
    ∃ m e w, decode r = .fin neg m e ∧ val r = sgn neg w ∧ W ≤ D * w + D * 2 ^ g ∧ D * w ≤ W + D * 2 ^ g := by
  obtain ⟨t, rfl, ht, hi, hn⟩ := h
  have hlt : t < infMag := Nat.lt_of_le_of_ne ht fun e => not_over hD hW hg (hi.mp e)
  obtain ⟨m, e, hd, _⟩ := decode_pack neg hlt
  refine ⟨m, e, V t, hd, val_pack neg hlt, ?_⟩
  have hB : 0 < D * 2 ^ g := Nat.mul_pos hD (Nat.two_pow_pos _)
  have hq : W / (D * 2 ^ g) ≤ 2 ^ 53 := by
    refine Nat.div_le_of_le_mul ?_
    rw [Nat.mul_assoc, ← Nat.pow_add, Nat.add_comm g 53]; exact hW
  obtain ⟨t', ht'⟩ := repr_ex g _ hq
  have h1 := (hn hlt t').1
  rw [ht'] at h1
  have e1 : D * (W / (D * 2 ^ g) * 2 ^ g) = (D * 2 ^ g) * (W / (D * 2 ^ g)) := by ac_rfl
  rw [e1] at h1
  have h2 := Nat.div_add_mod W (D * 2 ^ g)
  have h3 := Nat.mod_lt W hB
  generalize (D * 2 ^ g) * (W / (D * 2 ^ g)) = j at *
  generalize W % (D * 2 ^ g) = z at *
  generalize D * 2 ^ g = B at *
  generalize D * V t = y at *
  unfold dist at h1
  lia
/-- exactly right, where the value is at hand -/
theorem exact {r : UInt64} {neg : Bool} {W D g q : Nat} (h : Right r neg W D) (hD : 0 < D) (hW : W = D * (q * 2 ^ g)) (hq : q ≤ 2 ^ 53) (hg : g ≤ 1900) :
    ∃ m e, decode r = .fin neg m e ∧ val r = sgn neg (q * 2 ^ g) := by
  obtain ⟨t, rfl, ht, hi, hn⟩ := h
  have hle : W ≤ D * 2 ^ (53 + g) := by rw [hW, Nat.pow_add]; exact Nat.mul_le_mul_left _ (Nat.mul_le_mul_right _ hq)
  have hlt : t < infMag := Nat.lt_of_le_of_ne ht fun e => not_over hD hle hg (hi.mp e)
  obtain ⟨m, e, hd, _⟩ := decode_pack neg hlt
  refine ⟨m, e, hd, ?_⟩
  rw [val_pack neg hlt]
  obtain ⟨t', ht'⟩ := repr_ex g q hq
  have h1 := (hn hlt t').1
  rw [ht', ← hW] at h1
  have h2 : dist W (D * V t) = 0 := by unfold dist at *; lia
  have h3 : D * V t = D * (q * 2 ^ g) := by rw [← hW]; unfold dist at h2; lia
  rw [Nat.eq_of_mul_eq_mul_left hD h3]
theorem near_int {r : UInt64} {neg : Bool} {N : Int} {D g : Nat} (h : Right r neg N.natAbs D) (hs : neg = true → N ≤ 0) (hs' : neg = false → 0 ≤ N) (hD : 0 < D) (hb : N.natAbs ≤ D * 2 ^ (53 + g)) (hg : g ≤ 1900) :
    (∃ m e, decode r = .fin neg m e) ∧ N - ((D * 2 ^ g : Nat) : Int) ≤ D * val r ∧ D * val r ≤ N + ((D * 2 ^ g : Nat) : Int) := by
  obtain ⟨m, e, w, hd, hv, h1, h2⟩ := near h hD hb hg
  refine ⟨⟨m, e, hd⟩, ?_⟩
  rw [hv]
  have e1 : (D : Int) * sgn neg w = sgn neg (D * w) := by unfold sgn; cases neg <;> simp [Int.mul_neg]
  rw [e1]
  generalize D * w = y at *
  generalize D * 2 ^ g = B at *
  unfold sgn
  cases neg
  · have := hs' rfl
    simp only [Bool.false_eq_true, if_false]; lia
  · have := hs rfl
    simp only [if_true]; lia
/-- the unit of the bounds -/
noncomputable def uG : Nat := 2 ^ 1014
theorem uG_pos : (0 : Int) < uG := Int.ofNat_lt.mpr (Nat.two_pow_pos _)
theorem uU : (2 : Nat) ^ 1074 = 2 ^ 60 * uG := by unfold uG; rw [← Nat.pow_add]
theorem uK (k : Nat) : (2 : Nat) ^ (1014 + k) = 2 ^ k * uG := by unfold uG; rw [← Nat.pow_add, Nat.add_comm]
/-- x is a, give or take e, in parts of 2^60 -/
structure Fx (x : UInt64) (a e : Int) : Prop where
  fin : ∃ b m k, decode x = .fin b m k
  lo : (a - e) * uG ≤ val x
  hi : val x ≤ (a + e) * uG
theorem Fx.isFin {x : UInt64} {a e : Int} (h : Fx x a e) : isFinite x = true := by
  obtain ⟨b, m, k, hd⟩ := h.fin
  unfold isFinite; rw [hd]
theorem Fx.mono {x : UInt64} {a e a' e' : Int} (h : Fx x a e) (h1 : a' - e' ≤ a - e) (h2 : a + e ≤ a' + e') : Fx x a' e' :=
  ⟨h.fin, Int.le_trans (Int.mul_le_mul_of_nonneg_right h1 (Int.le_of_lt uG_pos)) h.lo, Int.le_trans h.hi (Int.mul_le_mul_of_nonneg_right h2 (Int.le_of_lt uG_pos))⟩
theorem abs_bound {S : Int} {lo hi : Int} {k : Nat} (h1 : lo * uG ≤ S) (h2 : S ≤ hi * uG) (b1 : -(2 ^ (53 + k) : Int) ≤ lo) (b2 : hi ≤ (2 ^ (53 + k) : Int)) : S.natAbs ≤ 2 ^ (53 + (1014 + k)) := by
  have e1 : (2 : Nat) ^ (53 + (1014 + k)) = 2 ^ (53 + k) * uG := by rw [show 53 + (1014 + k) = 1014 + (53 + k) by omega, uK]
  have c1 := Int.mul_le_mul_of_nonneg_right b1 (Int.le_of_lt uG_pos)
  have c2 := Int.mul_le_mul_of_nonneg_right b2 (Int.le_of_lt uG_pos)
  rw [Int.neg_mul] at c1
  have e2 : ((2 ^ (53 + (1014 + k)) : Nat) : Int) = (2 ^ (53 + k) : Int) * uG := by rw [e1]; push_cast; rfl
  have : (S.natAbs : Int) ≤ ((2 ^ (53 + (1014 + k)) : Nat) : Int) := by rw [e2]; omega
  exact Int.ofNat_le.mp this
theorem zero_dec (n : Bool) : ∃ m e, decode (zero n) = .fin n m e := by obtain ⟨m, e, h, _⟩ := decode_pack n (t := 0) (by decide); exact ⟨m, e, h⟩
theorem zero_val (n : Bool) : val (zero n) = 0 := by
  have h := val_pack n (t := 0) (by decide)
  have e : sgn n (V 0) = 0 := by cases n <;> rfl
  exact h.trans e
theorem Fx.of_sum {r : UInt64} {S a e : Int} {k : Nat} {z : Bool} (h0 : S = 0 → r = zero z) (h1 : S ≠ 0 → Right r (decide (S < 0)) S.natAbs 1) (hl : (a - e) * uG ≤ S) (hh : S ≤ (a + e) * uG)
    (b1 : -(2 ^ (53 + k) : Int) ≤ a - e) (b2 : a + e ≤ (2 ^ (53 + k) : Int)) (hk : k ≤ 800) : Fx r a (e + 2 ^ k) := by
  have hp : (0 : Int) ≤ ((2 ^ k : Nat) : Int) * uG := Int.mul_nonneg (Int.natCast_nonneg _) (Int.le_of_lt uG_pos)
  have ek : (2 ^ k : Int) = ((2 ^ k : Nat) : Int) := by push_cast; rfl
  by_cases hS : S = 0
  · rw [h0 hS]
    obtain ⟨zm, ze, hz⟩ := zero_dec z
    refine ⟨⟨_, _, _, hz⟩, ?_, ?_⟩
    · rw [zero_val, ek, ← Int.sub_sub, Int.sub_mul]
      generalize ((2 ^ k : Nat) : Int) * uG = P at *
      generalize (a - e) * uG = Q at *
      lia
    · rw [zero_val, ek, ← Int.add_assoc, Int.add_mul]
      generalize ((2 ^ k : Nat) : Int) * uG = P at *
      generalize (a + e) * uG = Q at *
      lia
  · obtain ⟨⟨m, e', hd⟩, n1, n2⟩ := near_int (g := 1014 + k) (h1 hS) (fun h => by have := of_decide_eq_true h; lia) (fun h => by have := of_decide_eq_false h; lia) (by decide) (by rw [Nat.one_mul]; exact abs_bound hl hh b1 b2) (by lia)
    rw [Nat.one_mul, uK] at n1 n2
    push_cast at n1 n2
    rw [Int.one_mul] at n1 n2
    refine ⟨⟨_, _, _, hd⟩, ?_, ?_⟩
    · rw [← Int.sub_sub, Int.sub_mul]
      generalize (2 ^ k : Int) * uG = P at *
      generalize (a - e) * uG = Q at *
      lia
    · rw [← Int.add_assoc, Int.add_mul]
      generalize (2 ^ k : Int) * uG = P at *
      generalize (a + e) * uG = Q at *
      lia
theorem Fx.add {x y : UInt64} {a b e f : Int} (k : Nat) (hx : Fx x a e) (hy : Fx y b f) (b1 : -(2 ^ (53 + k) : Int) ≤ a + b - (e + f)) (b2 : a + b + (e + f) ≤ (2 ^ (53 + k) : Int)) (hk : k ≤ 800) : Fx (add x y) (a + b) (e + f + 2 ^ k) := by
  obtain ⟨s1, m1, e1, d1⟩ := hx.fin
  obtain ⟨s2, m2, e2, d2⟩ := hy.fin
  have h := add_right d1 d2
  refine Fx.of_sum (k := k) h.1 h.2 ?_ ?_ b1 b2 hk
  · have := hx.lo; have := hy.lo
    rw [show a + b - (e + f) = (a - e) + (b - f) by lia, Int.add_mul]; lia
  · have := hx.hi; have := hy.hi
    rw [show a + b + (e + f) = (a + e) + (b + f) by lia, Int.add_mul]; lia
theorem Fx.sub {x y : UInt64} {a b e f : Int} (k : Nat) (hx : Fx x a e) (hy : Fx y b f) (b1 : -(2 ^ (53 + k) : Int) ≤ a - b - (e + f)) (b2 : a - b + (e + f) ≤ (2 ^ (53 + k) : Int)) (hk : k ≤ 800) : Fx (sub x y) (a - b) (e + f + 2 ^ k) := by
  obtain ⟨s1, m1, e1, d1⟩ := hx.fin
  obtain ⟨s2, m2, e2, d2⟩ := hy.fin
  have h := sub_right d1 d2
  refine Fx.of_sum (k := k) h.1 h.2 ?_ ?_ b1 b2 hk
  · have := hx.lo; have := hy.hi
    rw [show a - b - (e + f) = (a - e) - (b + f) by lia, Int.sub_mul]; lia
  · have := hx.hi; have := hy.lo
    rw [show a - b + (e + f) = (a + e) - (b - f) by lia, Int.sub_mul]; lia
end
section
open PySem PySem.Float64
theorem uGk (k : Nat) : ((2 ^ (1014 + k) : Nat) : Int) = (2 ^ k : Int) * uG := by rw [uK]; push_cast; rfl
theorem ofInt_val {i : Int} (h : i.natAbs ≤ 2 ^ 53) : (∃ b m e, decode (ofInt i) = .fin b m e) ∧ val (ofInt i) = i * 2 ^ 60 * uG := by
  obtain ⟨m, e, hd, hv⟩ := exact (ofInt_right i) (by decide) (q := i.natAbs) (g := 1074) (by rw [Nat.one_mul]) h (by decide)
  refine ⟨⟨_, _, _, hd⟩, ?_⟩
  rw [hv, uU]
  unfold sgn
  generalize uG = u
  have ec : ((2 ^ 60 * u : Nat) : Int) = 2 ^ 60 * (u : Int) := by rw [Int.natCast_mul]; rfl
  by_cases hi : i < 0
  · rw [decide_eq_true hi, if_pos rfl]
    have e1 : (i.natAbs : Int) = -i := by lia
    rw [Int.natCast_mul, ec, e1, Int.neg_mul, Int.neg_neg, Int.mul_assoc]
  · rw [decide_eq_false hi, if_neg (by decide)]
    have e1 : (i.natAbs : Int) = i := by lia
    rw [Int.natCast_mul, ec, e1, Int.mul_assoc]
theorem Fx.ofInt {i : Int} (h : i.natAbs ≤ 2 ^ 53) : Fx (ofInt i) (i * 2 ^ 60) 0 := by
  obtain ⟨h1, h2⟩ := ofInt_val h
  exact ⟨h1, by rw [h2, Int.sub_zero]; exact Int.le_refl _, by rw [h2, Int.add_zero]; exact Int.le_refl _⟩
theorem le_cancel {n x y : Int} (hn : 0 < n) (h : n * x ≤ n * y) : x ≤ y := Int.le_of_mul_le_mul_left h hn
theorem Fx.divF {m n a e : Int} (k : Nat) (hn : 0 < n) (b1 : -(n * 2 ^ (53 + k)) ≤ m * 2 ^ 60) (b2 : m * 2 ^ 60 ≤ n * 2 ^ (53 + k)) (h1 : n * (a - e) + n * 2 ^ k ≤ m * 2 ^ 60) (h2 : m * 2 ^ 60 + n * 2 ^ k ≤ n * (a + e)) (hk : k ≤ 800) : Fx (divF m n) a e := by
  have hnn : (n.natAbs : Int) = n := by lia
  have hU : ((2 ^ 1074 : Nat) : Int) = 2 ^ 60 * uG := by rw [uU, Int.natCast_mul]; rfl
  obtain ⟨U, eU⟩ : ∃ U : Nat, U = 2 ^ 1074 := ⟨_, rfl⟩
  rw [← eU] at hU
  have hR : Right (Mine.divF m n) (decide (m < 0) != decide (n < 0)) (m * U).natAbs n.natAbs := by
    refine ofFrac_right (by lia) ?_ (by lia)
    rw [Int.natAbs_mul, Int.natAbs_natCast, eU]
  have hn0 : decide (n < 0) = false := decide_eq_false (by lia)
  have hp1074 : (0 : Int) < U := by rw [hU]; exact Int.mul_pos (by decide) uG_pos
  have hbd : (m * U).natAbs ≤ n.natAbs * 2 ^ (53 + (1014 + k)) := by
    have e1 : ((n.natAbs * 2 ^ (53 + (1014 + k)) : Nat) : Int) = n * 2 ^ (53 + k) * uG := by
      rw [Int.natCast_mul, hnn, show 53 + (1014 + k) = 1014 + (53 + k) by lia, uGk, Int.mul_assoc]
    have e2 : m * (U : Int) = m * 2 ^ 60 * uG := by rw [hU, Int.mul_assoc]
    have c1 := Int.mul_le_mul_of_nonneg_right b1 (Int.le_of_lt uG_pos)
    have c2 := Int.mul_le_mul_of_nonneg_right b2 (Int.le_of_lt uG_pos)
    rw [Int.neg_mul] at c1
    have : ((m * U).natAbs : Int) ≤ ((n.natAbs * 2 ^ (53 + (1014 + k)) : Nat) : Int) := by
      rw [e1, e2]
      generalize m * 2 ^ 60 * (uG : Int) = p at *
      generalize n * 2 ^ (53 + k) * (uG : Int) = q at *
      lia
    exact Int.ofNat_le.mp this
  obtain ⟨⟨mm, ee, hd⟩, n1, n2⟩ := near_int (g := 1014 + k) hR (fun h => by
      rw [hn0] at h
      have : m < 0 := by simpa using h
      exact Int.le_of_lt (Int.mul_neg_of_neg_of_pos this hp1074)) (fun h => by
      rw [hn0] at h
      have : 0 ≤ m := by simpa using h
      exact Int.mul_nonneg this (Int.le_of_lt hp1074)) (by lia) hbd (by lia)
  have e3 : ((n.natAbs * 2 ^ (1014 + k) : Nat) : Int) = n * 2 ^ k * uG := by
    rw [Int.natCast_mul, uGk, hnn, Int.mul_assoc]
  have e2 : m * (U : Int) = m * 2 ^ 60 * uG := by rw [hU, Int.mul_assoc]
  rw [e3, hnn, e2] at n1 n2
  have c1 := Int.mul_le_mul_of_nonneg_right h1 (Int.le_of_lt uG_pos)
  have c2 := Int.mul_le_mul_of_nonneg_right h2 (Int.le_of_lt uG_pos)
  rw [Int.add_mul] at c1 c2
  refine ⟨⟨_, _, _, hd⟩, le_cancel hn ?_, le_cancel hn ?_⟩
  · rw [← Int.mul_assoc]; lia
  · rw [← Int.mul_assoc]; lia
end
section
open PySem PySem.Float64
theorem val_sign {x : UInt64} {b : Bool} {m : Nat} {e : Int} (h : decode x = .fin b m e) : (b = true → val x ≤ 0) ∧ (b = false → 0 ≤ val x) := by
  rw [val_eq h]
  unfold sgn
  constructor
  · intro hb; subst hb; simp only [if_true]; omega
  · intro hb; subst hb; simp only [Bool.false_eq_true, if_false]; omega
/-- a product with an exact number n/d -/
theorem prod_near {x y : UInt64} {a e n d : Int} {k : Nat} {b1 b2 : Bool} {m1 m2 : Nat} {e1 e2 : Int} (hx : Fx x a e) (d1 : decode x = .fin b1 m1 e1) (d2 : decode y = .fin b2 m2 e2) {r : UInt64} (hR : Right r (b1 != b2) ((val x).natAbs * (val y).natAbs) (2 ^ 1074))
    (hv : val y * d = n * 2 ^ 60 * uG) (hd : 0 < d) (hn : 0 ≤ n) (bl : -(d * 2 ^ (53 + k)) ≤ n * (a - e)) (bh : n * (a + e) ≤ d * 2 ^ (53 + k)) (hk : k ≤ 800) :
    (∃ b m e, decode r = .fin b m e) ∧ n * val x - d * (2 ^ k * uG) ≤ d * val r ∧ d * val r ≤ n * val x + d * (2 ^ k * uG) := by
  have hU : ((2 ^ 1074 : Nat) : Int) = 2 ^ 60 * uG := by rw [uU, Int.natCast_mul]; rfl
  obtain ⟨U, eU⟩ : ∃ U : Nat, U = 2 ^ 1074 := ⟨_, rfl⟩
  rw [← eU] at hU hR
  have hUp : (0 : Int) < U := by rw [hU]; exact Int.mul_pos (by decide) uG_pos
  rw [← Int.natAbs_mul] at hR
  have hv' : val y * d = n * U := by rw [hv, hU, Int.mul_assoc]
  have s1 := val_sign d1
  have s2 := val_sign d2
  have hg : ((2 ^ (1014 + k) : Nat) : Int) = 2 ^ k * uG := uGk k
  have hlo := Int.mul_le_mul_of_nonneg_left hx.lo hn
  have hhi := Int.mul_le_mul_of_nonneg_left hx.hi hn
  have c1 := Int.mul_le_mul_of_nonneg_right bl (Int.le_of_lt uG_pos)
  have c2 := Int.mul_le_mul_of_nonneg_right bh (Int.le_of_lt uG_pos)
  rw [← Int.mul_assoc] at hlo hhi
  rw [Int.neg_mul] at c1
  have key : d * (val x * val y) = (n * val x) * U := by
    calc d * (val x * val y) = val x * (val y * d) := by rw [Int.mul_comm d, Int.mul_assoc]
      _ = val x * (n * U) := by rw [hv']
      _ = (n * val x) * U := by rw [← Int.mul_assoc, Int.mul_comm (val x) n]
  have hb : (val x * val y).natAbs ≤ U * 2 ^ (53 + (1014 + k)) := by
    have e3 : ((U * 2 ^ (53 + (1014 + k)) : Nat) : Int) = U * (2 ^ (53 + k) * uG) := by
      rw [Int.natCast_mul, show 53 + (1014 + k) = 1014 + (53 + k) by lia, uGk]
    have hq : (-(d * 2 ^ (53 + k) * uG) : Int) ≤ n * val x ∧ n * val x ≤ d * 2 ^ (53 + k) * uG := ⟨Int.le_trans c1 hlo, Int.le_trans hhi c2⟩
    have k1 := Int.mul_le_mul_of_nonneg_right hq.1 (Int.le_of_lt hUp)
    have k2 := Int.mul_le_mul_of_nonneg_right hq.2 (Int.le_of_lt hUp)
    rw [← key] at k1 k2
    rw [Int.neg_mul] at k1
    have e4 : d * 2 ^ (53 + k) * uG * U = d * (U * (2 ^ (53 + k) * uG)) := by
      rw [Int.mul_assoc d, Int.mul_assoc d, Int.mul_comm _ (U : Int)]
    rw [e4] at k1 k2
    rw [← Int.mul_neg] at k1
    have k3 := le_cancel hd k1
    have k4 := le_cancel hd k2
    have : ((val x * val y).natAbs : Int) ≤ ((U * 2 ^ (53 + (1014 + k)) : Nat) : Int) := by
      rw [e3]
      generalize (U : Int) * (2 ^ (53 + k) * uG) = q at *
      generalize val x * val y = p at *
      lia
    exact Int.ofNat_le.mp this
  obtain ⟨⟨m, e', hdr⟩, n1, n2⟩ := near_int (N := val x * val y) (g := 1014 + k) hR (fun h => by
      cases b1 <;> cases b2 <;> simp at h
      · exact Int.mul_nonpos_of_nonneg_of_nonpos (s1.2 rfl) (s2.1 rfl)
      · exact Int.mul_nonpos_of_nonpos_of_nonneg (s1.1 rfl) (s2.2 rfl)) (fun h => by
      cases b1 <;> cases b2 <;> simp at h
      · exact Int.mul_nonneg (s1.2 rfl) (s2.2 rfl)
      · exact Int.mul_nonneg_of_nonpos_of_nonpos (s1.1 rfl) (s2.1 rfl)) (by lia) hb (by lia)
  refine ⟨⟨_, _, _, hdr⟩, ?_⟩
  rw [Int.natCast_mul, hg] at n1 n2
  have m1' := Int.mul_le_mul_of_nonneg_left n1 (Int.le_of_lt hd)
  have m2' := Int.mul_le_mul_of_nonneg_left n2 (Int.le_of_lt hd)
  rw [Int.mul_sub, key] at m1'
  rw [Int.mul_add, key] at m2'
  have e5 : d * (U * val r) = U * (d * val r) := by rw [← Int.mul_assoc, Int.mul_comm d, Int.mul_assoc]
  have e6 : d * (U * (2 ^ k * uG)) = U * (d * (2 ^ k * uG)) := by rw [← Int.mul_assoc, Int.mul_comm d, Int.mul_assoc]
  rw [e5, e6, Int.mul_comm (n * val x)] at m1' m2'
  rw [← Int.mul_sub] at m1'
  rw [← Int.mul_add] at m2'
  exact ⟨le_cancel hUp m1', le_cancel hUp m2'⟩
theorem Fx.scale {x r : UInt64} {a e n d a' e' : Int} {k : Nat} (hx : Fx x a e) (hd : 0 < d) (hn : 0 ≤ n) (h : (∃ b m e, decode r = .fin b m e) ∧ n * val x - d * (2 ^ k * uG) ≤ d * val r ∧ d * val r ≤ n * val x + d * (2 ^ k * uG))
    (h1 : d * (a' - e') + d * 2 ^ k ≤ n * (a - e)) (h2 : n * (a + e) + d * 2 ^ k ≤ d * (a' + e')) : Fx r a' e' := by
  obtain ⟨hf, l1, l2⟩ := h
  have hlo := Int.mul_le_mul_of_nonneg_left hx.lo hn
  have hhi := Int.mul_le_mul_of_nonneg_left hx.hi hn
  have c1 := Int.mul_le_mul_of_nonneg_right h1 (Int.le_of_lt uG_pos)
  have c2 := Int.mul_le_mul_of_nonneg_right h2 (Int.le_of_lt uG_pos)
  rw [← Int.mul_assoc] at hlo hhi
  rw [Int.add_mul] at c1 c2
  refine ⟨hf, le_cancel hd ?_, le_cancel hd ?_⟩
  · rw [← Int.mul_assoc]
    rw [Int.mul_assoc d (2 ^ k)] at c1
    generalize d * (2 ^ k * (uG : Int)) = p at *
    generalize d * (a' - e') * (uG : Int) = q at *
    generalize n * (a - e) * (uG : Int) = z at *
    lia
  · rw [← Int.mul_assoc]
    rw [Int.mul_assoc d (2 ^ k)] at c2
    generalize d * (2 ^ k * (uG : Int)) = p at *
    generalize d * (a' + e') * (uG : Int) = q at *
    generalize n * (a + e) * (uG : Int) = z at *
    lia
theorem Fx.mul {x y : UInt64} {a e a' e' : Int} (n d : Int) (k : Nat) (hx : Fx x a e) (hy : ∃ b m e, decode y = .fin b m e) (hv : val y * d = n * 2 ^ 60 * uG) (hd : 0 < d) (hn : 0 ≤ n) (bl : -(d * 2 ^ (53 + k)) ≤ n * (a - e)) (bh : n * (a + e) ≤ d * 2 ^ (53 + k)) (hk : k ≤ 800)
    (h1 : d * (a' - e') + d * 2 ^ k ≤ n * (a - e)) (h2 : n * (a + e) + d * 2 ^ k ≤ d * (a' + e')) : Fx (mul x y) a' e' := by
  obtain ⟨b1, m1, e1, d1⟩ := hx.fin
  obtain ⟨b2, m2, e2, d2⟩ := hy
  exact hx.scale hd hn (prod_near hx d1 d2 (mul_right d1 d2) hv hd hn bl bh hk) h1 h2
theorem Fx.mul' {x y : UInt64} {a e a' e' : Int} (n d : Int) (k : Nat) (hx : Fx x a e) (hy : ∃ b m e, decode y = .fin b m e) (hv : val y * d = n * 2 ^ 60 * uG) (hd : 0 < d) (hn : 0 ≤ n) (bl : -(d * 2 ^ (53 + k)) ≤ n * (a - e)) (bh : n * (a + e) ≤ d * 2 ^ (53 + k)) (hk : k ≤ 800)
    (h1 : d * (a' - e') + d * 2 ^ k ≤ n * (a - e)) (h2 : n * (a + e) + d * 2 ^ k ≤ d * (a' + e')) : Fx (Float64.mul y x) a' e' := by
  obtain ⟨b1, m1, e1, d1⟩ := hx.fin
  obtain ⟨b2, m2, e2, d2⟩ := hy
  have h := mul_right d2 d1
  have hb : (b2 != b1) = (b1 != b2) := by cases b1 <;> cases b2 <;> rfl
  rw [Nat.mul_comm, hb] at h
  exact hx.scale hd hn (prod_near hx d1 d2 h hv hd hn bl bh hk) h1 h2
/-- a quotient by an int -/
theorem Fx.div {x y : UInt64} {a e a' e' : Int} (n : Int) (k : Nat) (hx : Fx x a e) {m2 : Nat} {e2 : Int} (hy : decode y = .fin false m2 e2) (hm : m2 ≠ 0) (hv : val y = n * 2 ^ 60 * uG) (hn : 0 < n) (bl : -(n * 2 ^ (53 + k)) ≤ a - e) (bh : a + e ≤ n * 2 ^ (53 + k)) (hk : k ≤ 800)
    (h1 : n * (a' - e') + n * 2 ^ k ≤ a - e) (h2 : a + e + n * 2 ^ k ≤ n * (a' + e')) : Fx (Float64.div x y) a' e' := by
  obtain ⟨b1, m1, e1, d1⟩ := hx.fin
  have hR := div_right d1 hy hm
  have hU : ((2 ^ 1074 : Nat) : Int) = 2 ^ 60 * uG := by rw [uU, Int.natCast_mul]; rfl
  obtain ⟨U, eU⟩ : ∃ U : Nat, U = 2 ^ 1074 := ⟨_, rfl⟩
  rw [← eU] at hU hR
  have hUp : (0 : Int) < U := by rw [hU]; exact Int.mul_pos (by decide) uG_pos
  have hvy : val y = n * U := by rw [hv, hU, Int.mul_assoc]
  have hyp : 0 < val y := by rw [hvy]; exact Int.mul_pos hn hUp
  have e0 : (val x).natAbs * U = (val x * U).natAbs := by rw [Int.natAbs_mul, Int.natAbs_natCast]
  rw [e0] at hR
  have hyn : ((val y).natAbs : Int) = n * U := by rw [← hvy]; lia
  have s1 := val_sign d1
  have hg : ((2 ^ (1014 + k) : Nat) : Int) = 2 ^ k * uG := uGk k
  have c1 := Int.mul_le_mul_of_nonneg_right bl (Int.le_of_lt uG_pos)
  have c2 := Int.mul_le_mul_of_nonneg_right bh (Int.le_of_lt uG_pos)
  rw [Int.neg_mul] at c1
  have hb : (val x * U).natAbs ≤ (val y).natAbs * 2 ^ (53 + (1014 + k)) := by
    have e3 : (((val y).natAbs * 2 ^ (53 + (1014 + k)) : Nat) : Int) = (n * 2 ^ (53 + k) * uG) * U := by
      rw [Int.natCast_mul, hyn, show 53 + (1014 + k) = 1014 + (53 + k) by lia, uGk, Int.mul_assoc n, Int.mul_assoc n, Int.mul_comm (U : Int), Int.mul_assoc n]
    have k1 := Int.mul_le_mul_of_nonneg_right (Int.le_trans c1 hx.lo) (Int.le_of_lt hUp)
    have k2 := Int.mul_le_mul_of_nonneg_right (Int.le_trans hx.hi c2) (Int.le_of_lt hUp)
    rw [Int.neg_mul] at k1
    have : ((val x * U).natAbs : Int) ≤ (((val y).natAbs * 2 ^ (53 + (1014 + k)) : Nat) : Int) := by
      rw [e3]
      generalize n * 2 ^ (53 + k) * (uG : Int) * U = q at *
      generalize val x * (U : Int) = p at *
      lia
    exact Int.ofNat_le.mp this
  obtain ⟨⟨m, e', hdr⟩, n1, n2⟩ := near_int (N := val x * U) (g := 1014 + k) hR (fun h => by
      cases b1 <;> simp at h
      exact Int.mul_nonpos_of_nonpos_of_nonneg (s1.1 rfl) (Int.le_of_lt hUp)) (fun h => by
      cases b1 <;> simp at h
      exact Int.mul_nonneg (s1.2 rfl) (Int.le_of_lt hUp)) (by lia) hb (by lia)
  rw [Int.natCast_mul, hg, hyn] at n1 n2
  have e5 : n * U * val (Float64.div x y) = (n * val (Float64.div x y)) * U := by rw [Int.mul_assoc, Int.mul_comm (U : Int), Int.mul_assoc]
  have e6 : n * U * (2 ^ k * uG) = (n * (2 ^ k * uG)) * U := by rw [Int.mul_assoc n, Int.mul_comm (U : Int), Int.mul_assoc n]
  rw [e5, e6] at n1 n2
  rw [← Int.sub_mul] at n1
  rw [← Int.add_mul] at n2
  have n1' := Int.le_of_mul_le_mul_right n1 hUp
  have n2' := Int.le_of_mul_le_mul_right n2 hUp
  refine hx.scale (n := 1) (d := n) (k := k) hn (by decide) ⟨⟨_, _, _, hdr⟩, by rw [Int.one_mul]; exact n1', by rw [Int.one_mul]; exact n2'⟩ (by rw [Int.one_mul]; exact h1) (by rw [Int.one_mul]; exact h2)
theorem fdiv_nat {m q k : Nat} (hk : 0 < k) (h1 : q * k ≤ m) (h2 : m < (q + 1) * k) : (m : Int).fdiv (k : Int) = q := by
  rw [Int.fdiv_eq_ediv_of_nonneg _ (Int.natCast_nonneg k), ← Int.natCast_ediv, Nat.div_eq_of_lt_le h1 h2]
/-- the whole part of a number not below nought -/
theorem trunc_at {x : UInt64} {n : Nat} (hfin : ∃ b m e, decode x = .fin b m e) (l1 : (n : Int) * 2 ^ 60 * uG ≤ val x) (l2 : val x < ((n : Int) + 1) * 2 ^ 60 * uG) : truncF x = n := by
  obtain ⟨b, m, c, hd⟩ := hfin
  have hU : ((2 ^ 1074 : Nat) : Int) = 2 ^ 60 * uG := by rw [uU, Int.natCast_mul]; rfl
  obtain ⟨U, eU⟩ : ∃ U : Nat, U = 2 ^ 1074 := ⟨_, rfl⟩
  rw [← eU] at hU
  have hUp : (0 : Int) < U := by rw [hU]; exact Int.mul_pos (by decide) uG_pos
  rw [Int.mul_assoc, ← hU] at l1 l2
  unfold truncF
  rw [PySem.Flt.toInt_fin hd]
  have hge := decode_ge hd
  have hv := val_eq hd
  cases b with
  | true =>
    have hs := (val_sign hd).1 rfl
    have hn0 : (0 : Int) ≤ n * U := Int.mul_nonneg (Int.natCast_nonneg _) (Int.le_of_lt hUp)
    have hn : n = 0 := by
      rcases Nat.eq_zero_or_pos n with h | h
      · exact h
      · have : (0 : Int) < n * U := Int.mul_pos (by lia) hUp
        lia
    have hm : m = 0 := by
      have hz : val x = 0 := by lia
      rw [hv] at hz
      unfold sgn at hz
      rw [if_pos rfl] at hz
      have hz2 : m * 2 ^ (c + 1074).toNat = 0 := by lia
      rcases Nat.mul_eq_zero.mp hz2 with h | h
      · exact h
      · exact absurd h (Nat.ne_of_gt (Nat.two_pow_pos _))
    subst hn hm
    unfold truncOf ceilOf floorOf
    simp [sgn]
  | false =>
    have hvm : val x = ((m * 2 ^ (c + 1074).toNat : Nat) : Int) := by rw [hv]; simp [sgn]
    unfold truncOf floorOf
    rw [if_neg (by decide)]
    have e0 : sgn false m = (m : Int) := by simp [sgn]
    rw [e0]
    rw [hvm] at l1 l2
    have l1' : n * U ≤ m * 2 ^ (c + 1074).toNat := by
      have : ((n * U : Nat) : Int) ≤ ((m * 2 ^ (c + 1074).toNat : Nat) : Int) := by rw [Int.natCast_mul]; exact l1
      exact Int.ofNat_le.mp this
    have l2' : m * 2 ^ (c + 1074).toNat < (n + 1) * U := by
      have : ((m * 2 ^ (c + 1074).toNat : Nat) : Int) < (((n + 1) * U : Nat) : Int) := by rw [Int.natCast_mul (n + 1)]; exact l2
      exact Int.ofNat_lt.mp this
    by_cases hc : c ≥ 0
    · rw [if_pos hc]
      have e1 : (c + 1074).toNat = c.toNat + 1074 := by lia
      rw [e1, Nat.pow_add, ← eU, ← Nat.mul_assoc] at l1' l2'
      have hUn : 0 < U := by lia
      have a1 := Nat.le_of_mul_le_mul_right l1' hUn
      have a2 := Nat.lt_of_mul_lt_mul_right l2'
      have : m * 2 ^ c.toNat = n := by lia
      rw [← this]; push_cast; rfl
    · rw [if_neg hc]
      have e1 : (1074 : Nat) = (-c).toNat + (c + 1074).toNat := by lia
      have e2 : U = 2 ^ (-c).toNat * 2 ^ (c + 1074).toNat := by rw [eU, ← Nat.pow_add, ← e1]
      rw [e2, ← Nat.mul_assoc] at l1' l2'
      have a1 := Nat.le_of_mul_le_mul_right l1' (Nat.two_pow_pos _)
      have a2 := Nat.lt_of_mul_lt_mul_right l2'
      have := fdiv_nat (Nat.two_pow_pos (-c).toNat) a1 a2
      push_cast at this
      exact this
theorem Fx.trunc {x : UInt64} {a e : Int} {n : Nat} (hx : Fx x a e) (h1 : (n : Int) * 2 ^ 60 ≤ a - e) (h2 : a + e < ((n : Int) + 1) * 2 ^ 60) : truncF x = n :=
  trunc_at hx.fin (Int.le_trans (Int.mul_le_mul_of_nonneg_right h1 (Int.le_of_lt uG_pos)) hx.lo) (Int.lt_of_le_of_lt hx.hi (Int.mul_lt_mul_of_pos_right h2 uG_pos))
theorem trunc_ex {x : UInt64} (hfin : ∃ b m e, decode x = .fin b m e) (h0 : 0 ≤ val x) : ∃ n : Nat, truncF x = n ∧ (n : Int) * 2 ^ 60 * uG ≤ val x ∧ val x < ((n : Int) + 1) * 2 ^ 60 * uG := by
  have hp : (0 : Int) < 2 ^ 60 * uG := Int.mul_pos (by decide) uG_pos
  have e1 := Int.mul_ediv_add_emod (val x) (2 ^ 60 * uG)
  have e2 := Int.emod_nonneg (val x) (Int.ne_of_gt hp)
  have e3 := Int.emod_lt_of_pos (val x) hp
  have e4 : 0 ≤ val x / (2 ^ 60 * uG) := Int.ediv_nonneg h0 (Int.le_of_lt hp)
  obtain ⟨n, hn⟩ := Int.eq_ofNat_of_zero_le e4
  rw [hn] at e1
  have l1 : (n : Int) * 2 ^ 60 * uG ≤ val x := by rw [Int.mul_assoc, Int.mul_comm]; omega
  have l2 : val x < ((n : Int) + 1) * 2 ^ 60 * uG := by
    rw [Int.mul_assoc, Int.add_mul, Int.one_mul, Int.mul_comm (n : Int)]; omega
  exact ⟨n, trunc_at hfin l1 l2, l1, l2⟩
end
section
open PySem PySem.Float64
theorem c1_dec : decode c1 = .fin false (2 ^ 52) (-52) := by
  have h : (match decode c1 with | .fin false m e => m == 2 ^ 52 && e == -52 | _ => false) = true := by decide +kernel
  revert h
  cases decode c1 with
  | nan => intro h; cases h
  | inf a => intro h; cases h
  | fin a m e =>
    cases a
    · intro h
      simp only [Bool.and_eq_true, beq_iff_eq] at h
      rw [h.1, h.2]
    · intro h; cases h
theorem fmod_small {x : UInt64} {a : Bool} {m : Nat} {e : Int} (hd : decode x = .fin a m e) {U : Nat} (hU : U = 2 ^ 1074) (h : (val x).natAbs < U) : (∃ m' e', decode (fmod x c1) = .fin a m' e') ∧ val (fmod x c1) = val x := by
  have hge := decode_ge hd
  have hle := (decode_le hd).1
  have hna := val_natAbs hd
  obtain ⟨g, hg⟩ : ∃ g, g = min e (-52 : Int) := ⟨_, rfl⟩
  have hg1 : g ≤ e := by lia
  have hg2 : g ≤ -52 := by lia
  have hg3 : -1074 ≤ g := by lia
  have e1 : m * 2 ^ (e - g).toNat * 2 ^ (g + 1074).toNat = m * 2 ^ (e + 1074).toNat := by
    rw [Nat.mul_assoc, ← Nat.pow_add, show (e - g).toNat + (g + 1074).toNat = (e + 1074).toNat by lia]
  have e2 : 2 ^ 52 * 2 ^ (-52 - g).toNat * 2 ^ (g + 1074).toNat = U := by
    rw [hU, Nat.mul_assoc, ← Nat.pow_add, ← Nat.pow_add, show 52 + ((-52 - g).toNat + (g + 1074).toNat) = 1074 by lia]
  have hlt : m * 2 ^ (e - g).toNat < 2 ^ 52 * 2 ^ (-52 - g).toNat := by
    refine Nat.lt_of_mul_lt_mul_right (a := 2 ^ (g + 1074).toNat) ?_
    rw [e1, e2, ← hna]; exact h
  have hf : fmod x c1 = ofBin a (m * 2 ^ (e - g).toNat) g := by
    unfold fmod
    rw [hd, c1_dec]
    simp only [align, sgn, ← hg]
    rw [if_neg (by decide)]
    simp only [Bool.false_eq_true, if_false, Int.toNat_natCast]
    rw [Nat.mod_eq_of_lt hlt]
  have hR : Right (fmod x c1) a (m * 2 ^ (e + 1074).toNat) 1 := by
    rw [hf, ← e1]
    unfold ofBin
    refine ofFrac_right (shift_pos _ _ _ (by decide)) ?_ (by decide)
    have := shift_one (m * 2 ^ (e - g).toNat) g 1074 (by lia)
    rw [Nat.mul_one]
    exact this
  have hv := val_eq hd
  by_cases hm : m = 0
  · subst hm
    obtain ⟨m', e', h1, h2⟩ := exact hR (by decide) (q := 0) (g := 0) (by simp) (by decide) (by decide)
    refine ⟨⟨_, _, h1⟩, ?_⟩
    rw [h2, hv]; simp
  · have hbig : (e + 1074).toNat ≤ 1074 := by
      apply Nat.le_of_not_lt
      intro hc
      have h1 : U ≤ 2 ^ (e + 1074).toNat := by rw [hU]; exact Nat.pow_le_pow_right (by decide) (Nat.le_of_lt hc)
      have h2 : 2 ^ (e + 1074).toNat ≤ m * 2 ^ (e + 1074).toNat := Nat.le_mul_of_pos_left _ (by lia)
      rw [hna] at h
      exact absurd h (Nat.not_lt.mpr (Nat.le_trans h1 h2))
    obtain ⟨m', e', h1, h2⟩ := exact hR (by decide) (q := m) (g := (e + 1074).toNat) (by rw [Nat.one_mul]) (Nat.le_of_lt hle) (Nat.le_trans hbig (by decide))
    exact ⟨⟨_, _, h1⟩, by rw [h2, hv]⟩
theorem copy0 : copysign (zero false) c1 = zero false := by decide +kernel
theorem lt_c1 : lt c1 (zero false) = false := by decide +kernel
theorem lt_zero {y : UInt64} {b : Bool} {m : Nat} {e : Int} (h : decode y = .fin b m e) : lt y (zero false) = decide (val y < 0) := by
  obtain ⟨zm, ze, hz⟩ := zero_dec false
  unfold lt
  rw [cmp_right h hz, zero_val]
  rcases Int.lt_trichotomy (val y) 0 with q | q | q
  · rw [Int.compare_eq_lt.mpr q, decide_eq_true q]; rfl
  · rw [q]; rfl
  · rw [Int.compare_eq_gt.mpr q, decide_eq_false (by lia)]; rfl
theorem c1_val : val c1 = 1 * 2 ^ 60 * uG := by
  have h : c1 = ofInt 1 := by decide +kernel
  rw [h]; exact (ofInt_val (by decide)).2
/-- x % 1.0 where x lies in [0, 1) -/
theorem Fx.mod1_pos {x : UInt64} {a e : Int} (hx : Fx x a e) (h0 : 0 ≤ val x) (h1 : a + e < 2 ^ 60) : Fx (divmod x c1).snd a e := by
  obtain ⟨b, m, c, hd⟩ := hx.fin
  have hU : ((2 ^ 1074 : Nat) : Int) = 2 ^ 60 * uG := by rw [uU, Int.natCast_mul]; rfl
  obtain ⟨U, eU⟩ : ∃ U : Nat, U = 2 ^ 1074 := ⟨_, rfl⟩
  rw [← eU] at hU
  have hlt : val x < U := by
    have := Int.mul_lt_mul_of_pos_right h1 uG_pos
    rw [← hU] at this
    exact Int.lt_of_le_of_lt hx.hi this
  obtain ⟨⟨m', e', hm⟩, hv⟩ := fmod_small hd eU (by lia)
  unfold divmod
  simp only
  by_cases hz : isZero (fmod x c1) = true
  · rw [if_pos hz]
    simp only [copy0]
    have hv0 : val x = 0 := by
      rw [← hv]
      unfold isZero at hz
      rw [hm] at hz
      cases m' with
      | zero => rw [val_eq hm]; simp [sgn]
      | succ k => simp at hz
    have := hx.lo
    have := hx.hi
    rw [hv0] at *
    exact ⟨⟨_, _, _, (zero_dec false).choose_spec.choose_spec⟩, by rw [zero_val]; assumption, by rw [zero_val]; assumption⟩
  · rw [if_neg hz, lt_c1, lt_zero hm, hv, decide_eq_false (by lia)]
    simp only [bne_self_eq_false, Bool.false_eq_true, if_false]
    exact ⟨⟨_, _, _, hm⟩, by rw [hv]; exact hx.lo, by rw [hv]; exact hx.hi⟩
/-- x % 1.0 where x lies in (-1, 0) -/
theorem Fx.mod1_neg {x : UInt64} {a e : Int} (hx : Fx x a e) (h0 : a + e < 0) (h1 : -(2 ^ 60 : Int) < a - e) (he : 0 ≤ e) : Fx (divmod x c1).snd (a + 2 ^ 60) (e + 2 ^ 8) := by
  obtain ⟨b, m, c, hd⟩ := hx.fin
  have hU : ((2 ^ 1074 : Nat) : Int) = 2 ^ 60 * uG := by rw [uU, Int.natCast_mul]; rfl
  obtain ⟨U, eU⟩ : ∃ U : Nat, U = 2 ^ 1074 := ⟨_, rfl⟩
  rw [← eU] at hU
  have hneg : val x < 0 := by
    have := Int.mul_lt_mul_of_pos_right h0 uG_pos
    rw [Int.zero_mul] at this
    exact Int.lt_of_le_of_lt hx.hi this
  have hgt : -(U : Int) < val x := by
    have := Int.mul_lt_mul_of_pos_right h1 uG_pos
    rw [Int.neg_mul, ← hU] at this
    exact Int.lt_of_lt_of_le this hx.lo
  obtain ⟨⟨m', e', hm⟩, hv⟩ := fmod_small hd eU (by lia)
  unfold divmod
  simp only
  have hz : ¬ isZero (fmod x c1) = true := by
    intro hz
    unfold isZero at hz
    rw [hm] at hz
    cases m' with
    | zero => have := val_eq hm; simp [sgn] at this; lia
    | succ k => simp at hz
  rw [if_neg hz, lt_c1, lt_zero hm, hv, decide_eq_true hneg]
  simp only [Bool.false_bne, if_true]
  have hF : Fx (fmod x c1) a e := ⟨⟨_, _, _, hm⟩, by rw [hv]; exact hx.lo, by rw [hv]; exact hx.hi⟩
  have hC : Fx c1 (2 ^ 60) 0 := ⟨⟨_, _, _, c1_dec⟩, by rw [c1_val]; simp, by rw [c1_val]; simp⟩
  have := hF.add 8 hC (by lia) (by lia) (by decide)
  rw [Int.add_zero] at this
  exact this
end
section
open PySem PySem.Float64
/-- how far a channel is lit -/
noncomputable def topA (part c : Int) : Int := max 0 (min 22906492245 (2 * 22906492245 - 2 * awayOf part 22906492245 c))
theorem due_top (part share size c : Int) : dueAt part 22906492245 share size c = size * ((2 - share) * 22906492245 + share * topA part c) := rfl
/-- the way round the ring -/
theorem away_of {part c y k : Int} (h : part - c = y + 68719476735 * k) (h0 : 0 ≤ y) (h1 : 2 * y ≤ 68719476735) : awayOf part 22906492245 c = y ∧ awayOf c 22906492245 part = y := by
  have e1 : (part - c).fmod 68719476735 = y := by
    rw [h, Int.fmod_eq_emod_of_nonneg _ (by decide), Int.add_mul_emod_self_left]
    exact Int.emod_eq_of_lt h0 (by lia)
  have e2 : y ≤ (c - part).fmod 68719476735 := by
    rw [show c - part = -y + 68719476735 * (-k) by lia, Int.fmod_eq_emod_of_nonneg _ (by decide), Int.add_mul_emod_self_left]
    lia
  unfold awayOf
  rw [show (3 * 22906492245 : Int) = 68719476735 by decide, e1]
  exact ⟨Int.min_eq_left e2, Int.min_eq_right e2⟩
theorem away_sym (p c : Int) : awayOf p 22906492245 c = awayOf c 22906492245 p := Int.min_comm _ _
theorem lit_hi {part c : Int} (k : Int) (h0 : -22906492245 ≤ 2 * (part - c - 68719476735 * k)) (h1 : 2 * (part - c - 68719476735 * k) ≤ 22906492245) : topA part c = 22906492245 := by
  have key : ∃ y, awayOf part 22906492245 c = y ∧ 2 * y ≤ 22906492245 := by
    by_cases q : 0 ≤ part - c - 68719476735 * k
    · exact ⟨_, (away_of (k := k) (by lia) q (by lia)).1, h1⟩
    · exact ⟨-(part - c - 68719476735 * k), (away_of (part := c) (c := part) (k := -k) (by lia) (by lia) (by lia)).2, by lia⟩
  obtain ⟨y, e, hy⟩ := key
  unfold topA
  rw [e, Int.min_eq_left (by lia)]
  exact Int.max_eq_right (by decide)
theorem lit_lo {part c : Int} (k : Int) (h0 : 22906492245 ≤ part - c - 68719476735 * k) (h1 : part - c - 68719476735 * k ≤ 2 * 22906492245) : topA part c = 0 := by
  have key : ∃ y, awayOf part 22906492245 c = y ∧ 22906492245 ≤ y := by
    by_cases q : 2 * (part - c - 68719476735 * k) ≤ 68719476735
    · exact ⟨_, (away_of (k := k) (by lia) (by lia) q).1, h0⟩
    · exact ⟨68719476735 - (part - c - 68719476735 * k), (away_of (part := c) (c := part) (k := -k - 1) (by lia) (by lia) (by lia)).2, by lia⟩
  obtain ⟨y, e, hy⟩ := key
  unfold topA
  rw [e]
  exact Int.max_eq_left (Int.le_trans (Int.min_le_right _ _) (by lia))
theorem lit_mid {part c y B : Int} (e : awayOf part 22906492245 c = y) (hB : 2 * 22906492245 - 2 * y = B) (b0 : 0 ≤ B) (b1 : B ≤ 22906492245) : topA part c = B := by
  unfold topA
  rw [e, hB, Int.min_eq_right b1]
  exact Int.max_eq_right b0
theorem lit_dn {part c B : Int} (k : Int) (h : 2 * 22906492245 - 2 * (part - c - 68719476735 * k) = B) (b0 : 0 ≤ B) (b1 : B ≤ 22906492245) : topA part c = B :=
  lit_mid (away_of (k := k) (by lia) (by lia) (by lia)).1 h b0 b1
theorem lit_up {part c B : Int} (k : Int) (h : 2 * 22906492245 - 2 * (c - part - 68719476735 * k) = B) (b0 : 0 ≤ B) (b1 : B ≤ 22906492245) : topA part c = B :=
  lit_mid (away_of (part := c) (c := part) (k := k) (by lia) (by lia) (by lia)).2 h b0 b1
/-- the lights of a part, by its sixth -/
noncomputable def LitAs (part : Int) (a b c : Int) : Prop := topA part 0 = a ∧ topA part 22906492245 = b ∧ topA part (2 * 22906492245) = c
section
variable {part B : Int} (b0 : 0 ≤ B) (b1 : B ≤ 22906492245)
include b0 b1
theorem lits0 (h : 2 * part = B) : LitAs part 22906492245 B 0 := ⟨lit_hi 0 (by lia) (by lia), lit_up 0 (by lia) b0 b1, lit_lo (-1) (by lia) (by lia)⟩
theorem lits1 (h : 2 * part = 22906492245 + B) : LitAs part (22906492245 - B) 22906492245 0 := ⟨lit_dn 0 (by lia) (by lia) (by lia), lit_hi 0 (by lia) (by lia), lit_lo (-1) (by lia) (by lia)⟩
theorem lits2 (h : 2 * part = 2 * 22906492245 + B) : LitAs part 0 22906492245 B := ⟨lit_lo 0 (by lia) (by lia), lit_hi 0 (by lia) (by lia), lit_up 0 (by lia) b0 b1⟩
theorem lits3 (h : 2 * part = 3 * 22906492245 + B) : LitAs part 0 (22906492245 - B) 22906492245 := ⟨lit_lo 0 (by lia) (by lia), lit_dn 0 (by lia) (by lia) (by lia), lit_hi 0 (by lia) (by lia)⟩
theorem lits4 (h : 2 * part = 4 * 22906492245 + B) : LitAs part B 0 22906492245 := ⟨lit_up (-1) (by lia) b0 b1, lit_lo 0 (by lia) (by lia), lit_hi 0 (by lia) (by lia)⟩
theorem lits5 (h : 2 * part = 5 * 22906492245 + B) : LitAs part 22906492245 0 (22906492245 - B) := ⟨lit_hi 1 (by lia) (by lia), lit_lo 0 (by lia) (by lia), lit_dn 0 (by lia) (by lia) (by lia)⟩
end
/-- a part stands in a sixth -/
theorem sixths {part : Int} (h0 : 0 < part) (h1 : part < 68719476735) : ∃ B, (0 < B ∧ B ≤ 22906492245) ∧
    (2 * part = B ∨ 2 * part = 22906492245 + B ∨ 2 * part = 2 * 22906492245 + B ∨ 2 * part = 3 * 22906492245 + B ∨ 2 * part = 4 * 22906492245 + B ∨ 2 * part = 5 * 22906492245 + B) := by
  refine ⟨2 * part - 22906492245 * ((2 * part - 1) / 22906492245), ?_⟩
  lia
theorem chFx {c A : Int} (hc : 0 < c) (h0 : 0 ≤ A) (h1 : A ≤ 22906492245) : ∃ p, (0 ≤ p ∧ p ≤ 2 ^ 60) ∧ 22906492245 * p ≤ (22906492245 - A) * 2 ^ 60 ∧ (22906492245 - A) * 2 ^ 60 < 22906492245 * p + 22906492245 ∧ Fx (divF (c * (22906492245 - A)) (c * 22906492245)) p 129 := by
  have l1 := Int.mul_ediv_self_le (x := (22906492245 - A) * 2 ^ 60) (k := 22906492245) (by decide)
  have l2 := Int.lt_mul_ediv_self_add (x := (22906492245 - A) * 2 ^ 60) (k := 22906492245) (by decide)
  generalize ((22906492245 - A) * 2 ^ 60) / 22906492245 = p at *
  refine ⟨p, by lia, l1, l2, ?_⟩
  have hA : 0 ≤ 22906492245 - A := Int.sub_nonneg_of_le h1
  have hA' : 22906492245 - A ≤ 22906492245 := Int.sub_le_self _ h0
  generalize 22906492245 - A = D at *
  clear h0 h1
  have hc' := Int.le_of_lt hc
  refine Fx.divF 7 (Int.mul_pos hc (by decide)) ?_ ?_ ?_ ?_ (by decide)
  · refine Int.le_trans (Int.neg_nonpos_of_nonneg (Int.mul_nonneg (Int.mul_nonneg hc' (by decide)) (by decide))) (Int.mul_nonneg (Int.mul_nonneg hc' hA) (by decide))
  · rw [Int.mul_assoc, Int.mul_assoc]
    exact Int.mul_le_mul_of_nonneg_left (by lia) hc'
  · rw [Int.mul_assoc, Int.mul_assoc, Int.mul_assoc, ← Int.mul_add]
    exact Int.mul_le_mul_of_nonneg_left (by lia) hc'
  · rw [Int.mul_assoc, Int.mul_assoc, Int.mul_assoc, ← Int.mul_add]
    exact Int.mul_le_mul_of_nonneg_left (by lia) hc'
theorem fx_c2 : Fx c2 (2 * 2 ^ 60) 0 := by rw [show c2 = ofInt 2 by decide +kernel]; exact Fx.ofInt (by decide)
theorem fx_c4 : Fx c4 (4 * 2 ^ 60) 0 := by rw [show c4 = ofInt 4 by decide +kernel]; exact Fx.ofInt (by decide)
theorem c6_val : val c6 = 6 * 2 ^ 60 * uG := by rw [show c6 = ofInt 6 by decide +kernel]; exact (ofInt_val (by decide)).2
theorem c6_dec : ∃ m e, m ≠ 0 ∧ decode c6 = .fin false m e := by
  have h : (match decode c6 with | .fin false m e => m != 0 | _ => false) = true := by decide +kernel
  revert h
  cases decode c6 with
  | nan => intro h; cases h
  | inf a => intro h; cases h
  | fin a m e =>
    cases a
    · intro h
      exact ⟨m, e, by simpa using h, rfl⟩
    · intro h; cases h
theorem Fx.nn {x : UInt64} {a e : Int} (h : Fx x a e) (h0 : e ≤ a) : 0 ≤ val x := Int.le_trans (Int.mul_nonneg (by omega) (Int.le_of_lt uG_pos)) h.lo
/-- a raw hue, divided and turned -/
theorem hue_pos {x : UInt64} {a : Int} (hx : Fx x a 2306) (h0 : 100000 ≤ a) (h1 : a < 6 * 2 ^ 60 - 100000) : Fx (divmod (Float64.div x c6) c1).snd (a / 6) 2000 := by
  obtain ⟨m, e, hm, hd⟩ := c6_dec
  have hF : Fx (Float64.div x c6) (a / 6) 2000 := hx.div 6 10 hd hm c6_val (by decide) (by omega) (by omega) (by decide) (by omega) (by omega)
  exact hF.mod1_pos (hF.nn (by omega)) (by omega)
theorem hue_neg {x : UInt64} {a : Int} (hx : Fx x a 2306) (h0 : a ≤ -100000) (h1 : -(6 * 2 ^ 60) + 100000 < a) : Fx (divmod (Float64.div x c6) c1).snd (a / 6 + 2 ^ 60) 2256 := by
  obtain ⟨m, e, hm, hd⟩ := c6_dec
  have hF : Fx (Float64.div x c6) (a / 6) 2000 := hx.div 6 10 hd hm c6_val (by decide) (by omega) (by omega) (by decide) (by omega) (by omega)
  exact hF.mod1_neg (by omega) (by omega) (by decide)
theorem sub_ch {x y : UInt64} {a b : Int} (hx : Fx x a 129) (hy : Fx y b 129) (ha : 0 ≤ a ∧ a ≤ 2 ^ 60) (hb : 0 ≤ b ∧ b ≤ 2 ^ 60) : Fx (Float64.sub x y) (a - b) 2306 :=
  (hx.sub 8 hy (by lia) (by lia) (by decide)).mono (by lia) (by lia)
theorem add_sub_ch {z x y : UInt64} {k a b : Int} (hz : Fx z k 0) (hk : 0 ≤ k ∧ k ≤ 4 * 2 ^ 60) (hx : Fx x a 129) (hy : Fx y b 129) (ha : 0 ≤ a ∧ a ≤ 2 ^ 60) (hb : 0 ≤ b ∧ b ≤ 2 ^ 60) : Fx (Float64.sub (Float64.add z x) y) (k + a - b) 2306 :=
  ((hz.add 10 hx (by lia) (by lia) (by decide)).sub 10 hy (by lia) (by lia) (by decide)).mono (by lia) (by lia)
/-- what is asked of a hue -/
noncomputable def HueOk (h : UInt64) (part : Int) : Prop := ∃ a, Fx h a 2256 ∧ 22906492245 * 3 * a ≤ part * 2 ^ 60 + 22906492245 * 30 ∧ part * 2 ^ 60 ≤ 22906492245 * 3 * a + 22906492245 * 30
theorem hueOk_pos {x : UInt64} {a part : Int} (hx : Fx x a 2306) (h0 : 100000 ≤ a) (h1 : a < 6 * 2 ^ 60 - 100000) (l1 : 22906492245 * a ≤ 2 * part * 2 ^ 60 + 22906492245) (l2 : 2 * part * 2 ^ 60 ≤ 22906492245 * a + 22906492245) : HueOk (divmod (Float64.div x c6) c1).snd part :=
  ⟨_, (hue_pos hx h0 h1).mono (a' := a / 6) (by lia) (by lia), by lia, by lia⟩
theorem hueOk_neg {x : UInt64} {a part : Int} (hx : Fx x a 2306) (h0 : a ≤ -100000) (h1 : -(6 * 2 ^ 60) + 100000 < a) (l1 : 22906492245 * a ≤ (2 * part - 6 * 22906492245) * 2 ^ 60 + 22906492245) (l2 : (2 * part - 6 * 22906492245) * 2 ^ 60 ≤ 22906492245 * a + 22906492245) : HueOk (divmod (Float64.div x c6) c1).snd part :=
  ⟨_, hue_neg hx h0 h1, by lia, by lia⟩
theorem hue_fx {part share size : Int} (h0 : 0 < part) (h1 : part < 68719476735) (hs : 0 < share) (hz : 0 < size) : HueOk (hueP part share size) part := by
  have hc : 0 < size * share := Int.mul_pos hz hs
  have hM : ∀ c, levelOf size - dueAt part 22906492245 share size c = size * share * (22906492245 - topA part c) := by
    intro c
    rw [due_top, Int.mul_sub, Int.mul_add, Int.mul_assoc size share (topA part c)]
    unfold levelOf
    rw [Int.sub_mul, Int.mul_sub, Int.mul_assoc size share, Int.mul_comm 2 size, Int.mul_assoc size 2]
    lia
  have hEq : ∀ c, dueAt part 22906492245 share size c = levelOf size ↔ topA part c = 22906492245 := by
    intro c
    have := hM c
    constructor
    · intro h
      rw [h, Int.sub_self] at this
      rcases Int.mul_eq_zero.mp this.symm with q | q
      · exact absurd q (Int.ne_of_gt hc)
      · exact (Int.sub_eq_zero.mp q).symm
    · intro h
      rw [h, Int.sub_self, Int.mul_zero] at this
      exact (Int.sub_eq_zero.mp this).symm
  unfold hueP hueOf rawHue
  rw [hM, hM, hM]
  have e0 := hEq 0
  have e1 := hEq 22906492245
  clear hM hEq hs hz
  generalize dueAt part 22906492245 share size 0 = d0 at *
  generalize dueAt part 22906492245 share size 22906492245 = d1 at *
  generalize dueAt part 22906492245 share size (2 * 22906492245) = d2 at *
  generalize levelOf size = M at *
  generalize size * share = c at *
  obtain ⟨B, ⟨b0, b1⟩, hB⟩ := sixths h0 h1
  have b0' := Int.le_of_lt b0
  have hBm : 0 ≤ 22906492245 - B ∧ 22906492245 - B ≤ 22906492245 := by lia
  obtain ⟨pz, kz, lz, rz, fz⟩ := chFx hc (A := 0) (by decide) (by decide)
  obtain ⟨pt, kt, lt, rt, ft⟩ := chFx hc (A := 22906492245) (by decide) (by decide)
  obtain rfl : pz = 2 ^ 60 := by clear kt lt rt h1 h0 hB b0 b1 b0' hBm; lia
  obtain rfl : pt = 0 := by clear kz lz rz h1 h0 hB b0 b1 b0' hBm; lia
  clear lz rz lt rt
  rcases hB with q | q | q | q | q | q
  · obtain ⟨t0, t1, t2⟩ := lits0 b0' b1 q
    rw [t1, t2, if_pos (e0.mpr t0)]
    obtain ⟨p, k, l, r, f⟩ := chFx hc b0' b1
    exact hueOk_pos (sub_ch fz f kz k) (by clear kz kt hBm hc h1 h0; lia) (by clear kz kt hBm hc h1 h0; lia) (by clear kz kt hBm hc h1 h0; lia) (by clear kz kt hBm hc h1 h0; lia)
  · obtain ⟨t0, t1, t2⟩ := lits1 b0' b1 q
    rw [t0, t2, if_neg (fun h => by have := t0.symm.trans (e0.mp h); lia), if_pos (e1.mpr t1)]
    obtain ⟨p, k, l, r, f⟩ := chFx hc hBm.1 hBm.2
    exact hueOk_pos (add_sub_ch fx_c2 (by decide) f fz k kz) (by clear kz kt hBm hc h1 h0; lia) (by clear kz kt hBm hc h1 h0; lia) (by clear kz kt hBm hc h1 h0; lia) (by clear kz kt hBm hc h1 h0; lia)
  · obtain ⟨t0, t1, t2⟩ := lits2 b0' b1 q
    rw [t0, t2, if_neg (fun h => by have := t0.symm.trans (e0.mp h); lia), if_pos (e1.mpr t1)]
    obtain ⟨p, k, l, r, f⟩ := chFx hc b0' b1
    exact hueOk_pos (add_sub_ch fx_c2 (by decide) fz f kz k) (by clear kz kt hBm hc h1 h0; lia) (by clear kz kt hBm hc h1 h0; lia) (by clear kz kt hBm hc h1 h0; lia) (by clear kz kt hBm hc h1 h0; lia)
  · obtain ⟨t0, t1, t2⟩ := lits3 b0' b1 q
    rw [t0, t1, if_neg (fun h => by have := t0.symm.trans (e0.mp h); lia), if_neg (fun h => by have := t1.symm.trans (e1.mp h); lia)]
    obtain ⟨p, k, l, r, f⟩ := chFx hc hBm.1 hBm.2
    exact hueOk_pos (add_sub_ch fx_c4 (by decide) f fz k kz) (by clear kz kt hBm hc h1 h0; lia) (by clear kz kt hBm hc h1 h0; lia) (by clear kz kt hBm hc h1 h0; lia) (by clear kz kt hBm hc h1 h0; lia)
  · obtain ⟨t0, t1, t2⟩ := lits4 b0' b1 q
    rw [t0, t1, if_neg (fun h => by have := t0.symm.trans (e0.mp h); lia), if_neg (fun h => by have := t1.symm.trans (e1.mp h); lia)]
    obtain ⟨p, k, l, r, f⟩ := chFx hc b0' b1
    exact hueOk_pos (add_sub_ch fx_c4 (by decide) fz f kz k) (by clear kz kt hBm hc h1 h0; lia) (by clear kz kt hBm hc h1 h0; lia) (by clear kz kt hBm hc h1 h0; lia) (by clear kz kt hBm hc h1 h0; lia)
  · obtain ⟨t0, t1, t2⟩ := lits5 b0' b1 q
    rw [t1, t2, if_pos (e0.mpr t0)]
    obtain ⟨p, k, l, r, f⟩ := chFx hc hBm.1 hBm.2
    exact hueOk_neg (sub_ch f fz k kz) (by clear kz kt hBm hc h0; lia) (by clear kz kt hBm hc h0; lia) (by clear kz kt hBm hc h1 h0; lia) (by clear kz kt hBm hc h1 h0; lia)
end
section
open PySem PySem.Float64
theorem zero_of {x : UInt64} (h : x = zero false) : Fx x 0 2256 := by
  subst h
  obtain ⟨m, e, hz⟩ := zero_dec false
  refine ⟨⟨_, _, _, hz⟩, ?_, ?_⟩
  · rw [zero_val]; exact Int.mul_nonpos_of_nonpos_of_nonneg (by decide) (Int.le_of_lt uG_pos)
  · rw [zero_val]; exact Int.mul_nonneg (by decide) (Int.le_of_lt uG_pos)
theorem hue_all {part share size : Int} (h0 : 0 ≤ part) (h1 : part < 68719476735) (hs : share = 1 ∨ share = 2) (hz : size = 1 ∨ size = 2 ∨ size = 3) :
    ∃ a, Fx (hueP part share size) a 2256 ∧ 22906492245 * 3 * a ≤ part * 2 ^ 60 + 22906492245 * 30 ∧ part * 2 ^ 60 ≤ 22906492245 * 3 * a + 22906492245 * 30 := by
  by_cases q : part = 0
  · subst q
    refine ⟨0, zero_of ?_, by decide, by decide⟩
    rcases hs with rfl | rfl <;> rcases hz with rfl | rfl | rfl <;> decide +kernel
  · exact hue_fx (by omega) h1 (by omega) (by omega)
theorem fx_half : Fx chalf (2 ^ 59) 200 := by
  rw [show chalf = divF 1 2 by decide +kernel]
  exact Fx.divF 7 (by decide) (by decide) (by decide) (by decide) (by decide) (by decide)
theorem back_all {part share size : Int} (h0 : 0 ≤ part) (h1 : part < 68719476735) (hs : share = 1 ∨ share = 2) (hz : size = 1 ∨ size = 2 ∨ size = 3) :
    Float64.isFinite (backOf (hueP part share size)) = true ∧ truncF (backOf (hueP part share size)) = part := by
  obtain ⟨a, hF, l1, l2⟩ := hue_all h0 h1 hs hz
  obtain ⟨w1, w2⟩ := ofInt_val (i := 68719476735) (by decide)
  have hM := hF.mul 68719476735 1 44 w1 (by rw [Int.mul_one]; exact w2) (by decide) (by decide) (by omega) (by omega) (by decide) (a' := 68719476735 * a) (e' := 2256 * 68719476735 + 2 ^ 44) (by omega) (by omega)
  have hB := hM.add 45 fx_half (by omega) (by omega) (by decide)
  refine ⟨hB.isFin, ?_⟩
  obtain ⟨n, rfl⟩ := Int.eq_ofNat_of_zero_le h0
  exact hB.trunc (by omega) (by omega)
/-- the hues rise as the parts do -/
theorem hue_order {p1 p2 s1 s2 z1 z2 : Int} (a1 : 0 ≤ p1) (b1 : p1 < 68719476735) (c1 : s1 = 1 ∨ s1 = 2) (d1 : z1 = 1 ∨ z1 = 2 ∨ z1 = 3) (a2 : 0 ≤ p2) (b2 : p2 < 68719476735) (c2 : s2 = 1 ∨ s2 = 2) (d2 : z2 = 1 ∨ z2 = 2 ∨ z2 = 3)
    (h : val (hueP p1 s1 z1) ≤ val (hueP p2 s2 z2)) : p1 ≤ p2 := by
  obtain ⟨x, hx, x1, x2⟩ := hue_all a1 b1 c1 d1
  obtain ⟨y, hy, y1, y2⟩ := hue_all a2 b2 c2 d2
  have h3 := Int.le_of_mul_le_mul_right (Int.le_trans hx.lo (Int.le_trans h hy.hi)) uG_pos
  omega
end
section
open PySem PySem.Float64
theorem fx_c1 : Fx c1 (2 ^ 60) 0 := by rw [show c1 = ofInt 1 by decide +kernel]; exact Fx.ofInt (by decide)
theorem half_val : (∃ b m e, decode chalf = .fin b m e) ∧ val chalf * 2 = 1 * 2 ^ 60 * uG := by
  have hR : Right chalf false (2 ^ 1073) 1 := by
    rw [show chalf = ofFrac false 1 2 by decide +kernel]
    exact ofFrac_right (by decide) (by rw [Nat.one_mul, Nat.mul_one, ← Nat.pow_succ]) (by decide)
  obtain ⟨m, e, hd, hv⟩ := exact hR (by decide) (q := 1) (g := 1073) (by rw [Nat.one_mul, Nat.one_mul]) (by decide) (by decide)
  refine ⟨⟨_, _, _, hd⟩, ?_⟩
  rw [hv]
  have e1 : sgn false (1 * 2 ^ 1073) * 2 = ((2 ^ 1074 : Nat) : Int) := by
    unfold sgn
    rw [if_neg (by decide), Nat.one_mul, Nat.pow_succ 2 1073, Int.natCast_mul]; rfl
  rw [e1, uU, Int.natCast_mul, Int.one_mul]; rfl
theorem s_val {share : Int} (hs : share = 1 ∨ share = 2) : (∃ b m e, decode (sArg share) = .fin b m e) ∧ val (sArg share) * 2 = share * 2 ^ 60 * uG := by
  rcases hs with rfl | rfl
  · rw [show sArg 1 = chalf by decide +kernel]; exact half_val
  · rw [show sArg 2 = ofInt 1 by decide +kernel]
    obtain ⟨h1, h2⟩ := ofInt_val (i := 1) (by decide)
    refine ⟨h1, ?_⟩
    rw [h2]
    generalize (uG : Int) = u
    lia
/-- a lit channel: v times a number, rounded -/
theorem chan {z : UInt64} {za B size share : Int} (hF : Fx z za 12600) (hz : size = 1 ∨ size = 2 ∨ size = 3) (hs : share = 1 ∨ share = 2) (hB0 : 0 ≤ B) (hB1 : B ≤ 22906492245)
    (h1 : 2 * 22906492245 * za ≤ (((2 - share) * 22906492245 + share * B) * 2 ^ 60) + 22906492245 * 100) (h2 : (((2 - share) * 22906492245 + share * B) * 2 ^ 60) ≤ 2 * 22906492245 * za + 22906492245 * 100) :
    Float64.isFinite (roundN (.f (Float64.mul (ofInt (levelOf size)) z))) = true ∧ truncF (roundN (.f (Float64.mul (ofInt (levelOf size)) z))) = size * ((2 - share) * 22906492245 + share * B) := by
  have hv := ofInt_val (i := levelOf size) (by rcases hz with rfl | rfl | rfl <;> decide)
  have hb : ∃ n : Nat, size * ((2 - share) * 22906492245 + share * B) = n := by
    refine ⟨(size * ((2 - share) * 22906492245 + share * B)).toNat, ?_⟩
    rcases hz with rfl | rfl | rfl <;> rcases hs with rfl | rfl <;> lia
  obtain ⟨n, hn⟩ := hb
  rw [hn]
  unfold levelOf at hv ⊢
  unfold roundN
  rcases hz with rfl | rfl | rfl
  · rcases hs with rfl | rfl
    all_goals
      have hM := hF.mul' (2 * 1 * 22906492245) 1 45 hv.1 (by rw [Int.mul_one]; exact hv.2) (by decide) (by decide) (by lia) (by lia) (by decide) (a' := 2 * 1 * 22906492245 * za) (e' := 12600 * 137438953470 + 2 ^ 45) (by lia) (by lia)
      have hB := hM.add 46 fx_half (by lia) (by lia) (by decide)
      exact ⟨hB.isFin, hB.trunc (by lia) (by lia)⟩
  · rcases hs with rfl | rfl
    all_goals
      have hM := hF.mul' (2 * 2 * 22906492245) 1 45 hv.1 (by rw [Int.mul_one]; exact hv.2) (by decide) (by decide) (by lia) (by lia) (by decide) (a' := 2 * 2 * 22906492245 * za) (e' := 12600 * 137438953470 + 2 ^ 45) (by lia) (by lia)
      have hB := hM.add 46 fx_half (by lia) (by lia) (by decide)
      exact ⟨hB.isFin, hB.trunc (by lia) (by lia)⟩
  · rcases hs with rfl | rfl
    all_goals
      have hM := hF.mul' (2 * 3 * 22906492245) 1 45 hv.1 (by rw [Int.mul_one]; exact hv.2) (by decide) (by decide) (by lia) (by lia) (by decide) (a' := 2 * 3 * 22906492245 * za) (e' := 12600 * 137438953470 + 2 ^ 45) (by lia) (by lia)
      have hB := hM.add 46 fx_half (by lia) (by lia) (by decide)
      exact ⟨hB.isFin, hB.trunc (by lia) (by lia)⟩
end
section
open PySem PySem.Float64
theorem fx_s {share : Int} (hs : share = 1 ∨ share = 2) : Fx (sArg share) (share * 2 ^ 59) 200 := by
  rcases hs with rfl | rfl
  · rw [show sArg 1 = chalf by decide +kernel]; exact fx_half.mono (by decide) (by decide)
  · rw [show sArg 2 = c1 by decide +kernel]; exact fx_c1.mono (by decide) (by decide)
noncomputable def ChOk (x : Num) (d : Int) : Prop := Float64.isFinite (roundN x) = true ∧ truncF (roundN x) = d
theorem chV {size share : Int} (hz : size = 1 ∨ size = 2 ∨ size = 3) (hs : share = 1 ∨ share = 2) : ChOk (.i (levelOf size)) (size * ((2 - share) * 22906492245 + share * 22906492245)) := by
  have hv := Fx.ofInt (i := levelOf size) (by rcases hz with rfl | rfl | rfl <;> decide)
  unfold levelOf at *
  unfold ChOk roundN
  rcases hz with rfl | rfl | rfl
  · have hB := hv.add 46 fx_half (by lia) (by lia) (by decide)
    refine ⟨hB.isFin, (hB.trunc (n := 2 * 22906492245) (by lia) (by lia)).trans ?_⟩
    rcases hs with rfl | rfl <;> decide
  · have hB := hv.add 46 fx_half (by lia) (by lia) (by decide)
    refine ⟨hB.isFin, (hB.trunc (n := 4 * 22906492245) (by lia) (by lia)).trans ?_⟩
    rcases hs with rfl | rfl <;> decide
  · have hB := hv.add 46 fx_half (by lia) (by lia) (by decide)
    refine ⟨hB.isFin, (hB.trunc (n := 6 * 22906492245) (by lia) (by lia)).trans ?_⟩
    rcases hs with rfl | rfl <;> decide
theorem chP {size share : Int} (hz : size = 1 ∨ size = 2 ∨ size = 3) (hs : share = 1 ∨ share = 2) : ChOk (.f (pOf (sArg share) (levelOf size))) (size * ((2 - share) * 22906492245 + share * 0)) := by
  have hF := (fx_c1.sub 8 (fx_s hs) (by lia) (by lia) (by decide)).mono (a' := 2 ^ 60 - share * 2 ^ 59) (e' := 12600) (by lia) (by lia)
  exact chan hF hz hs (by decide) (by decide) (by lia) (by lia)
theorem chT {h : UInt64} {af B size share : Int} (hf : Fx (fracOf h) af 11270) (hz : size = 1 ∨ size = 2 ∨ size = 3) (hs : share = 1 ∨ share = 2) (hB0 : 0 ≤ B) (hB1 : B ≤ 22906492245)
    (h1 : 22906492245 * af ≤ B * 2 ^ 60) (h2 : B * 2 ^ 60 ≤ 22906492245 * af + 22906492245 * 6) : ChOk (.f (tOf h (sArg share) (levelOf size))) (size * ((2 - share) * 22906492245 + share * B)) := by
  have hG := (fx_c1.sub 8 hf (by lia) (by lia) (by decide)).mono (a' := 2 ^ 60 - af) (e' := 11526) (by lia) (by lia)
  obtain ⟨sv1, sv2⟩ := s_val hs
  have hM : Fx (Float64.mul (sArg share) (Float64.sub c1 (fracOf h))) ((share * (2 ^ 60 - af)) / 2) 11800 := by
    rcases hs with rfl | rfl
    · exact hG.mul' 1 2 8 sv1 sv2 (by decide) (by decide) (by lia) (by lia) (by decide) (by lia) (by lia)
    · exact hG.mul' 2 2 8 sv1 sv2 (by decide) (by decide) (by lia) (by lia) (by decide) (by lia) (by lia)
  have hF : Fx (Float64.sub c1 (Float64.mul (sArg share) (Float64.sub c1 (fracOf h)))) (2 ^ 60 - (share * (2 ^ 60 - af)) / 2) 12600 := by
    rcases hs with rfl | rfl
    · exact (fx_c1.sub 8 hM (by lia) (by lia) (by decide)).mono (by lia) (by lia)
    · exact (fx_c1.sub 8 hM (by lia) (by lia) (by decide)).mono (by lia) (by lia)
  refine chan hF hz hs hB0 hB1 ?_ ?_
  · rcases hs with rfl | rfl <;> lia
  · rcases hs with rfl | rfl <;> lia
theorem chQ {h : UInt64} {af B size share : Int} (hf : Fx (fracOf h) af 11270) (hz : size = 1 ∨ size = 2 ∨ size = 3) (hs : share = 1 ∨ share = 2) (hB0 : 0 ≤ B) (hB1 : B ≤ 22906492245)
    (h1 : 22906492245 * af ≤ B * 2 ^ 60) (h2 : B * 2 ^ 60 ≤ 22906492245 * af + 22906492245 * 6) : ChOk (.f (qOf h (sArg share) (levelOf size))) (size * ((2 - share) * 22906492245 + share * (22906492245 - B))) := by
  obtain ⟨sv1, sv2⟩ := s_val hs
  have hM : Fx (Float64.mul (sArg share) (fracOf h)) ((share * af) / 2) 11800 := by
    rcases hs with rfl | rfl
    · exact hf.mul' 1 2 8 sv1 sv2 (by decide) (by decide) (by lia) (by lia) (by decide) (by lia) (by lia)
    · exact hf.mul' 2 2 8 sv1 sv2 (by decide) (by decide) (by lia) (by lia) (by decide) (by lia) (by lia)
  have hF : Fx (Float64.sub c1 (Float64.mul (sArg share) (fracOf h))) (2 ^ 60 - (share * af) / 2) 12600 := by
    rcases hs with rfl | rfl
    · exact (fx_c1.sub 8 hM (by lia) (by lia) (by decide)).mono (by lia) (by lia)
    · exact (fx_c1.sub 8 hM (by lia) (by lia) (by decide)).mono (by lia) (by lia)
  refine chan hF hz hs (by lia) (by lia) ?_ ?_
  · rcases hs with rfl | rfl <;> lia
  · rcases hs with rfl | rfl <;> lia
/-- the sixth and the rest of an argument -/
theorem hArg_fx {part : Int} {i : Nat} (h0 : 0 < part) (h1 : part < 68719476735) (hi : i ≤ 3) :
    Float64.isFinite (Float64.mul (hArg part i) c6) = true ∧ ∃ (σ : Nat) (af : Int), σ ≤ 5 ∧ sixthOf (hArg part i) = 6 * i + σ ∧ Fx (fracOf (hArg part i)) af 11270 ∧
      0 ≤ 2 * part - 22906492245 * σ ∧ 2 * part - 22906492245 * σ ≤ 22906492245 ∧ 22906492245 * af ≤ (2 * part - 22906492245 * σ) * 2 ^ 60 ∧ (2 * part - 22906492245 * σ) * 2 ^ 60 ≤ 22906492245 * af + 22906492245 * 6 := by
  obtain ⟨pw, q1, q2⟩ : ∃ pw : Int, 68719476735 * pw ≤ part * 2 ^ 60 ∧ part * 2 ^ 60 < 68719476735 * pw + 68719476735 := ⟨(part * 2 ^ 60) / 68719476735, by lia, by lia⟩
  have hw : Fx (divF part 68719476735) pw 129 := Fx.divF 7 (by decide) (by lia) (by lia) (by lia) (by lia) (by decide)
  have hh : Fx (hArg part i) (pw + i * 2 ^ 60) 1153 := (hw.add 10 (Fx.ofInt (i := (i : Int)) (by lia)) (by lia) (by lia) (by decide)).mono (by lia) (by lia)
  have hy : Fx (Float64.mul (hArg part i) c6) (6 * pw + i * (6 * 2 ^ 60)) 11014 :=
    hh.mul 6 1 12 (let ⟨m, e, _, h⟩ := c6_dec; ⟨_, m, e, h⟩) (by rw [Int.mul_one]; exact c6_val) (by decide) (by decide) (by lia) (by lia) (by decide) (by lia) (by lia)
  obtain ⟨n, hn, l1, l2⟩ := trunc_ex hy.fin (hy.nn (by lia))
  have c1' := Int.le_of_mul_le_mul_right (Int.le_trans l1 hy.hi) uG_pos
  have c2' := Int.lt_of_mul_lt_mul_right (Int.lt_of_le_of_lt hy.lo l2) (Int.le_of_lt uG_pos)
  have hj : sixthOf (hArg part i) = n := hn
  refine ⟨hy.isFin, n - 6 * i, 6 * pw - ((n - 6 * i : Nat) : Int) * 2 ^ 60, by lia, by rw [hj]; lia, ?_, by lia, by lia, by lia, by lia⟩
  unfold fracOf
  rw [hj]
  exact (hy.sub 8 (Fx.ofInt (i := (n : Int)) (by lia)) (by lia) (by lia) (by decide)).mono (by lia) (by lia)
end
section
open PySem PySem.Float64
theorem fits_small {n : Int} (h : n.natAbs ≤ 2 ^ 53) : FitsF n := by
  obtain ⟨⟨b, m, e, hd⟩, _⟩ := ofInt_val h
  unfold FitsF isInf
  rw [hd]
  exact Bool.false_ne_true
theorem paint_ints {h s : UInt64} {v n : Int} (hm : Num.i n ∈ paintOf h s v) : n = v := by
  unfold paintOf at hm
  generalize ((sixthOf h).fmod 6).toNat = k at hm
  have : ∀ k : Nat, Num.i n ∈ ([[Num.i v, .f (tOf h s v), .f (pOf s v)], [.f (qOf h s v), .i v, .f (pOf s v)], [.f (pOf s v), .i v, .f (tOf h s v)], [.f (pOf s v), .f (qOf h s v), .i v], [.f (tOf h s v), .f (pOf s v), .i v], [.i v, .f (pOf s v), .f (qOf h s v)]] : List (List Num)).getD k [] → n = v := by
    intro k
    match k with
    | 0 => simp
    | 1 => simp
    | 2 => simp
    | 3 => simp
    | 4 => simp
    | 5 => simp
    | k + 6 => simp
  exact this k hm
noncomputable def Lit3 (a b c : Int) : Prop := (0 ≤ a ∧ a ≤ 22906492245) ∧ (0 ≤ b ∧ b ≤ 22906492245) ∧ (0 ≤ c ∧ c ≤ 22906492245) ∧ (a = 22906492245 ∨ b = 22906492245 ∨ c = 22906492245) ∧ (a = 0 ∨ b = 0 ∨ c = 0)
theorem Lit3.of {a b c B : Int} (b0 : 0 ≤ B ∧ B ≤ 22906492245) (ha : a = 0 ∨ a = 22906492245 ∨ a = B) (hb : b = 0 ∨ b = 22906492245 ∨ b = B) (hc : c = 0 ∨ c = 22906492245 ∨ c = B)
    (h1 : a = 22906492245 ∨ b = 22906492245 ∨ c = 22906492245) (h2 : a = 0 ∨ b = 0 ∨ c = 0) : Lit3 a b c := by
  have k : ∀ {x : Int}, (x = 0 ∨ x = 22906492245 ∨ x = B) → 0 ≤ x ∧ x ≤ 22906492245 := by
    intro x h
    rcases h with rfl | rfl | rfl
    · decide
    · decide
    · exact b0
  exact ⟨k ha, k hb, k hc, h1, h2⟩
theorem lit_facts {part : Int} (h0 : 0 ≤ part) (h1 : part < 68719476735) : Lit3 (topA part 0) (topA part 22906492245) (topA part (2 * 22906492245)) := by
  by_cases q : part = 0
  · subst q
    have e : topA 0 0 = 22906492245 ∧ topA 0 22906492245 = 0 ∧ topA 0 (2 * 22906492245) = 0 := by decide
    rw [e.1, e.2.1, e.2.2]
    exact .of (B := 0) (by decide) (.inr (.inl rfl)) (.inl rfl) (.inl rfl) (.inl rfl) (.inr (.inl rfl))
  · obtain ⟨B, ⟨b0, b1⟩, hB⟩ := sixths (part := part) (by lia) h1
    have b0' := Int.le_of_lt b0
    have c0 : 0 ≤ 22906492245 - B ∧ 22906492245 - B ≤ 22906492245 := ⟨Int.sub_nonneg_of_le b1, Int.sub_le_self _ b0'⟩
    rcases hB with q | q | q | q | q | q
    · obtain ⟨t0, t1, t2⟩ := lits0 b0' b1 q
      exact .of ⟨b0', b1⟩ (.inr (.inl t0)) (.inr (.inr t1)) (.inl t2) (.inl t0) (.inr (.inr t2))
    · obtain ⟨t0, t1, t2⟩ := lits1 b0' b1 q
      exact .of c0 (.inr (.inr t0)) (.inr (.inl t1)) (.inl t2) (.inr (.inl t1)) (.inr (.inr t2))
    · obtain ⟨t0, t1, t2⟩ := lits2 b0' b1 q
      exact .of ⟨b0', b1⟩ (.inl t0) (.inr (.inl t1)) (.inr (.inr t2)) (.inr (.inl t1)) (.inl t0)
    · obtain ⟨t0, t1, t2⟩ := lits3 b0' b1 q
      exact .of c0 (.inl t0) (.inr (.inr t1)) (.inr (.inl t2)) (.inr (.inr t2)) (.inl t0)
    · obtain ⟨t0, t1, t2⟩ := lits4 b0' b1 q
      exact .of ⟨b0', b1⟩ (.inr (.inr t0)) (.inl t1) (.inr (.inl t2)) (.inr (.inr t2)) (.inr (.inl t1))
    · obtain ⟨t0, t1, t2⟩ := lits5 b0' b1 q
      exact .of c0 (.inr (.inl t0)) (.inl t1) (.inr (.inr t2)) (.inl t0) (.inr (.inl t1))
/-- the greatest and the least of three, lifted -/
theorem max3_of {f : Int → Int} {a b c M : Int} (hf : ∀ x, 0 ≤ x ∧ x ≤ 22906492245 → f x ≤ M) (hM : f 22906492245 = M) (ha : 0 ≤ a ∧ a ≤ 22906492245) (hb : 0 ≤ b ∧ b ≤ 22906492245) (hc : 0 ≤ c ∧ c ≤ 22906492245)
    (h : a = 22906492245 ∨ b = 22906492245 ∨ c = 22906492245) : max (f a) (max (f b) (f c)) = M := by
  refine Int.le_antisymm (Int.max_le.mpr ⟨hf a ha, Int.max_le.mpr ⟨hf b hb, hf c hc⟩⟩) ?_
  rcases h with rfl | rfl | rfl
  · rw [hM]; exact Int.le_max_left _ _
  · rw [hM]; exact Int.le_trans (Int.le_max_left _ _) (Int.le_max_right _ _)
  · rw [hM]; exact Int.le_trans (Int.le_max_right _ _) (Int.le_max_right _ _)
theorem min3_of {f : Int → Int} {a b c m : Int} (hf : ∀ x, 0 ≤ x ∧ x ≤ 22906492245 → m ≤ f x) (hm : f 0 = m) (ha : 0 ≤ a ∧ a ≤ 22906492245) (hb : 0 ≤ b ∧ b ≤ 22906492245) (hc : 0 ≤ c ∧ c ≤ 22906492245)
    (h : a = 0 ∨ b = 0 ∨ c = 0) : min (f a) (min (f b) (f c)) = m := by
  refine Int.le_antisymm ?_ (Int.le_min.mpr ⟨hf a ha, Int.le_min.mpr ⟨hf b hb, hf c hc⟩⟩)
  rcases h with rfl | rfl | rfl
  · rw [hm]; exact Int.min_le_left _ _
  · rw [hm]; exact Int.le_trans (Int.min_le_right _ _) (Int.min_le_left _ _)
  · rw [hm]; exact Int.le_trans (Int.min_le_right _ _) (Int.min_le_right _ _)
theorem due3 {A0 A1 A2 share size : Int} (hs : share = 1 ∨ share = 2) (hz : size = 1 ∨ size = 2 ∨ size = 3) (hl : Lit3 A0 A1 A2) :
    max (size * ((2 - share) * 22906492245 + share * A0)) (max (size * ((2 - share) * 22906492245 + share * A1)) (size * ((2 - share) * 22906492245 + share * A2))) = levelOf size ∧
    levelOf size - min (size * ((2 - share) * 22906492245 + share * A0)) (min (size * ((2 - share) * 22906492245 + share * A1)) (size * ((2 - share) * 22906492245 + share * A2))) = size * share * 22906492245 ∧
    (0 ≤ size * ((2 - share) * 22906492245 + share * A0) ∧ 0 ≤ size * ((2 - share) * 22906492245 + share * A1) ∧ 0 ≤ size * ((2 - share) * 22906492245 + share * A2)) := by
  obtain ⟨h0, h1, h2, hM, hm⟩ := hl
  have key : (∀ x, 0 ≤ x ∧ x ≤ 22906492245 → size * ((2 - share) * 22906492245 + share * x) ≤ levelOf size) ∧ size * ((2 - share) * 22906492245 + share * 22906492245) = levelOf size ∧
      (∀ x, 0 ≤ x ∧ x ≤ 22906492245 → size * ((2 - share) * 22906492245 + share * 0) ≤ size * ((2 - share) * 22906492245 + share * x)) ∧ levelOf size - size * ((2 - share) * 22906492245 + share * 0) = size * share * 22906492245 ∧ 0 ≤ size * ((2 - share) * 22906492245 + share * 0) := by
    have hz0 : 0 ≤ size ∧ 0 ≤ share ∧ 0 ≤ 2 - share := by rcases hs with rfl | rfl <;> rcases hz with rfl | rfl | rfl <;> decide
    have e : size * ((2 - share) * 22906492245 + share * 22906492245) = levelOf size := by rcases hs with rfl | rfl <;> rcases hz with rfl | rfl | rfl <;> decide
    refine ⟨fun x hx => ?_, e, fun x hx => ?_, by rcases hs with rfl | rfl <;> rcases hz with rfl | rfl | rfl <;> decide, Int.mul_nonneg hz0.1 (Int.add_nonneg (Int.mul_nonneg hz0.2.2 (by decide)) (Int.mul_nonneg hz0.2.1 (by decide)))⟩
    · rw [← e]; exact Int.mul_le_mul_of_nonneg_left (Int.add_le_add_left (Int.mul_le_mul_of_nonneg_left hx.2 hz0.2.1) _) hz0.1
    · exact Int.mul_le_mul_of_nonneg_left (Int.add_le_add_left (Int.mul_le_mul_of_nonneg_left hx.1 hz0.2.1) _) hz0.1
  obtain ⟨k1, k2, k3, k4, k5⟩ := key
  refine ⟨max3_of (f := fun x => size * ((2 - share) * 22906492245 + share * x)) k1 k2 h0 h1 h2 hM, ?_, Int.le_trans k5 (k3 _ h0), Int.le_trans k5 (k3 _ h1), Int.le_trans k5 (k3 _ h2)⟩
  rw [min3_of (f := fun x => size * ((2 - share) * 22906492245 + share * x)) k3 rfl h0 h1 h2 hm]
  exact k4
theorem three_ok {x y z : Num} {a b c : Int} {l : List Num} {d : List Int} (hl : l = [x, y, z]) (hd : d = [a, b, c]) (hx : ChOk x a) (hy : ChOk y b) (hz : ChOk z c) :
    (∀ n ∈ l, Float64.isFinite (roundN n) = true) ∧ l.map (fun x => truncF (roundN x)) = d := by
  subst hl hd
  refine ⟨?_, ?_⟩
  · intro n hn
    simp only [List.mem_cons, List.not_mem_nil, or_false] at hn
    rcases hn with rfl | rfl | rfl
    · exact hx.1
    · exact hy.1
    · exact hz.1
  · simp only [List.map_cons, List.map_nil]
    rw [hx.2, hy.2, hz.2]
theorem core_pos {part share size : Int} {i : Nat} (h0 : 0 < part) (h1 : part < 68719476735) (hi : i ≤ 3) (hs : share = 1 ∨ share = 2) (hz : size = 1 ∨ size = 2 ∨ size = 3) :
    Float64.isFinite (Float64.mul (hArg part i) c6) = true ∧ FitsF (sixthOf (hArg part i)) ∧ (∀ n ∈ paintOf (hArg part i) (sArg share) (levelOf size), Float64.isFinite (roundN n) = true) ∧
      (paintOf (hArg part i) (sArg share) (levelOf size)).map (fun x => truncF (roundN x)) = dueOf part 22906492245 share size := by
  obtain ⟨hy, σ, af, hσ, hj, hf, b0, b1, l1, l2⟩ := hArg_fx h0 h1 hi
  refine ⟨hy, fits_small (by rw [hj]; omega), ?_⟩
  have hk : ((sixthOf (hArg part i)).fmod 6).toNat = σ := by
    rw [hj, Int.fmod_eq_emod_of_nonneg _ (by decide)]; omega
  have hd : dueOf part 22906492245 share size = [size * ((2 - share) * 22906492245 + share * topA part 0), size * ((2 - share) * 22906492245 + share * topA part 22906492245), size * ((2 - share) * 22906492245 + share * topA part (2 * 22906492245))] := rfl
  rw [hd]
  unfold paintOf
  rw [hk]
  have V := chV hz hs
  have P := chP hz hs
  have T := chT hf hz hs b0 b1 l1 l2
  have Qc := chQ hf hz hs b0 b1 l1 l2
  have hσ' : σ = 0 ∨ σ = 1 ∨ σ = 2 ∨ σ = 3 ∨ σ = 4 ∨ σ = 5 := by clear h0 h1 hi hs hz hj hf b0 b1 l1 l2 hk; lia
  have hB : 2 * part = 22906492245 * (σ : Int) + (2 * part - 22906492245 * (σ : Int)) := by clear h0 h1 hi hs hz hj hf b0 b1 l1 l2 hk hσ'; lia
  generalize 2 * part - 22906492245 * (σ : Int) = B at *
  clear hj hk hσ hf l1 l2 h0 h1 hi hs hz
  rcases hσ' with rfl | rfl | rfl | rfl | rfl | rfl
  · obtain ⟨t0, t1, t2⟩ := lits0 b0 b1 (hB.trans (Int.zero_add _))
    rw [t0, t1, t2]; exact three_ok rfl rfl V T P
  · obtain ⟨t0, t1, t2⟩ := lits1 b0 b1 hB
    rw [t0, t1, t2]; exact three_ok rfl rfl Qc V P
  · obtain ⟨t0, t1, t2⟩ := lits2 b0 b1 hB
    rw [t0, t1, t2]; exact three_ok rfl rfl P V T
  · obtain ⟨t0, t1, t2⟩ := lits3 b0 b1 hB
    rw [t0, t1, t2]; exact three_ok rfl rfl P Qc V
  · obtain ⟨t0, t1, t2⟩ := lits4 b0 b1 hB
    rw [t0, t1, t2]; exact three_ok rfl rfl T P V
  · obtain ⟨t0, t1, t2⟩ := lits5 b0 b1 hB
    rw [t0, t1, t2]; exact three_ok rfl rfl V P Qc
theorem core_zero {share size : Int} {i : Nat} (hi : i ≤ 3) (hs : share = 1 ∨ share = 2) (hz : size = 1 ∨ size = 2 ∨ size = 3) :
    Float64.isFinite (Float64.mul (hArg 0 i) c6) = true ∧ FitsF (sixthOf (hArg 0 i)) ∧ (∀ n ∈ paintOf (hArg 0 i) (sArg share) (levelOf size), Float64.isFinite (roundN n) = true) ∧
      (paintOf (hArg 0 i) (sArg share) (levelOf size)).map (fun x => truncF (roundN x)) = dueOf 0 22906492245 share size := by
  have hi' : i = 0 ∨ i = 1 ∨ i = 2 ∨ i = 3 := by omega
  have key : ∀ i ∈ [0, 1, 2, 3], ∀ share ∈ [(1 : Int), 2], ∀ size ∈ [(1 : Int), 2, 3], Float64.isFinite (Float64.mul (hArg 0 (i : Nat)) c6) = true ∧ (sixthOf (hArg 0 (i : Nat))).natAbs ≤ 2 ^ 53 ∧ ((paintOf (hArg 0 (i : Nat)) (sArg share) (levelOf size)).all fun n => Float64.isFinite (roundN n)) = true ∧
      (paintOf (hArg 0 (i : Nat)) (sArg share) (levelOf size)).map (fun x => truncF (roundN x)) = dueOf 0 22906492245 share size := by decide +kernel
  obtain ⟨k1, k2, k3, k4⟩ := key i (by simp; omega) share (by simp; omega) size (by simp; omega)
  exact ⟨k1, fits_small k2, fun n hn => List.all_eq_true.mp k3 n hn, k4⟩
theorem paint_all {part share size : Int} {i : Nat} (h0 : 0 ≤ part) (h1 : part < 68719476735) (hi : i ≤ 3) (hs : share = 1 ∨ share = 2) (hz : size = 1 ∨ size = 2 ∨ size = 3) : PaintOk part i share size := by
  have hcore : Float64.isFinite (Float64.mul (hArg part i) c6) = true ∧ FitsF (sixthOf (hArg part i)) ∧ (∀ n ∈ paintOf (hArg part i) (sArg share) (levelOf size), Float64.isFinite (roundN n) = true) ∧
      (paintOf (hArg part i) (sArg share) (levelOf size)).map (fun x => truncF (roundN x)) = dueOf part 22906492245 share size := by
    by_cases q : part = 0
    · subst q; exact core_zero hi hs hz
    · exact core_pos (by omega) h1 hi hs hz
  obtain ⟨k1, k2, k3, k4⟩ := hcore
  obtain ⟨d1, d2, d3⟩ := due3 hs hz (lit_facts h0 h1)
  obtain ⟨g1, g2⟩ := back_all h0 h1 hs hz
  have hlev : FitsF (levelOf size) := fits_small (by rcases hz with rfl | rfl | rfl <;> decide)
  exact { pb := ⟨h0, h1⟩, fits := fun n hn => by rw [paint_ints hn]; exact hlev, s0 := by rcases hs with rfl | rfl <;> decide +kernel, hy := k1, hi := k2, hp := fits_small (by omega), hv := hlev, fin := k3, ok := k4,
          mx := d1, mn := d2, pos := d3, w := fits_small (by decide), bfin := g1, back := g2,
          sh := by rcases hs with rfl | rfl <;> rcases hz with rfl | rfl | rfl <;> decide +kernel }
end
section
open PySem PySem.W PySem.Calls PyProof.Rows
/-- a word of letters -/
structure LW (x : List Int) : Prop where
  l1 : 1 ≤ x.length
  l3 : x.length ≤ 3
  let_ : ∀ d ∈ x, 0 ≤ d ∧ d < 63
theorem letters_ok {hs : List Int} : ∀ d ∈ lettersOf hs, 0 ≤ d ∧ d < 63 := by
  intro d hd
  unfold lettersOf at hd
  obtain ⟨h, _, rfl⟩ := List.mem_map.mp hd
  rw [Int.fmod_eq_emod_of_nonneg _ (by decide)]
  lia
theorem words_ok {hs : List Int} : ∀ x ∈ wordsOf hs, LW x := by
  intro x hx
  unfold wordsOf at hx
  obtain ⟨h, _, rfl⟩ := List.mem_map.mp hx
  have hl : (wordOf (lettersOf hs) h).length = wordLen h := by unfold wordOf; simp
  have h3 : 0 ≤ h.fmod 3 ∧ h.fmod 3 < 3 := by rw [Int.fmod_eq_emod_of_nonneg _ (by decide)]; lia
  refine ⟨by rw [hl]; unfold wordLen; lia, by rw [hl]; unfold wordLen; lia, ?_⟩
  intro d hd
  unfold wordOf at hd
  obtain ⟨p, _, rfl⟩ := List.mem_map.mp hd
  unfold wordAt
  rw [List.getD_eq_getElem?_getD]
  cases hg : (lettersOf hs)[((h.fdiv (3 ^ (p + 1))).fmod 3).toNat]? with
  | none => exact ⟨by decide, by decide⟩
  | some d => exact letters_ok d (List.mem_of_getElem? hg)
theorem LW.cases {x : List Int} (h : LW x) : (∃ a, x = [a]) ∨ (∃ a b, x = [a, b]) ∨ ∃ a b c, x = [a, b, c] := by
  have h1 := h.l1
  have h3 := h.l3
  match x with
  | [] => simp at h1
  | [a] => exact .inl ⟨a, rfl⟩
  | [a, b] => exact .inr (.inl ⟨a, b, rfl⟩)
  | [a, b, c] => exact .inr (.inr ⟨a, b, c, rfl⟩)
  | a :: b :: c :: d :: r => simp at h3
theorem numOf_append (x y : List Int) : numOf (x ++ y) = numOf x * 64 ^ y.length + numOf y := by
  have key : ∀ (y : List Int) (n : Int), y.foldl (fun n a => n * 64 + a) n = n * 64 ^ y.length + y.foldl (fun n a => n * 64 + a) 0 := by
    intro y
    induction y with
    | nil => intro n; simp
    | cons a r ih =>
      intro n
      rw [List.foldl_cons, List.foldl_cons, ih, ih (0 * 64 + a), List.length_cons, Int.pow_succ, Int.zero_mul, Int.zero_add, Int.add_mul, Int.mul_assoc, Int.mul_comm 64, Int.add_assoc]
  unfold numOf
  rw [List.foldl_append, key]
theorem LW.num {x : List Int} (h : LW x) : 0 ≤ numOf x ∧ numOf x < 64 ^ x.length ∧ 0 ≤ partOfW x ∧ partOfW x < 68719476735 ∧ partOfW x * (64 ^ x.length - 1) = numOf x * 68719476735 := by
  unfold partOfW partOf
  rcases h.cases with ⟨a, rfl⟩ | ⟨a, b, rfl⟩ | ⟨a, b, c, rfl⟩
  · obtain ⟨a1, a2⟩ := h.let_ a (by simp)
    have e : numOf [a] = a := by simp [numOf]
    rw [e, show (([a].length : Nat) : Int).toNat = 1 from rfl, show [a].length = 1 from rfl, show (68719476735 : Int).fdiv (64 ^ 1 - 1) = 1090785345 by decide, show (64 : Int) ^ 1 = 64 by decide]
    lia
  · obtain ⟨a1, a2⟩ := h.let_ a (by simp)
    obtain ⟨b1, b2⟩ := h.let_ b (by simp)
    have e : numOf [a, b] = a * 64 + b := by simp [numOf]
    rw [e, show (([a, b].length : Nat) : Int).toNat = 2 from rfl, show [a, b].length = 2 from rfl, show (68719476735 : Int).fdiv (64 ^ 2 - 1) = 16781313 by decide, show (64 : Int) ^ 2 = 4096 by decide]
    lia
  · obtain ⟨a1, a2⟩ := h.let_ a (by simp)
    obtain ⟨b1, b2⟩ := h.let_ b (by simp)
    obtain ⟨c1, c2⟩ := h.let_ c (by simp)
    have e : numOf [a, b, c] = (a * 64 + b) * 64 + c := by simp [numOf]
    rw [e, show (([a, b, c].length : Nat) : Int).toNat = 3 from rfl, show [a, b, c].length = 3 from rfl, show (68719476735 : Int).fdiv (64 ^ 3 - 1) = 262145 by decide, show (64 : Int) ^ 3 = 262144 by decide]
    lia
theorem LW.cross {x y : List Int} (hx : LW x) (hy : LW y) : ∃ K : Int, 0 < K ∧ 68719476735 * (numOf (x ++ y) - numOf (y ++ x)) = (partOfW x - partOfW y) * K := by
  obtain ⟨_, _, _, _, ex⟩ := hx.num
  obtain ⟨_, _, _, _, ey⟩ := hy.num
  have pw : ∀ z : List Int, LW z → (1 : Int) < 64 ^ z.length := by
    intro z hz
    rcases hz.cases with ⟨a, rfl⟩ | ⟨a, b, rfl⟩ | ⟨a, b, c, rfl⟩ <;> simp
  have px := pw x hx
  have py := pw y hy
  rw [numOf_append, numOf_append]
  generalize (64 : Int) ^ x.length = X at *
  generalize (64 : Int) ^ y.length = Y at *
  generalize numOf x = N at *
  generalize numOf y = M at *
  generalize partOfW x = p at *
  generalize partOfW y = q at *
  refine ⟨(X - 1) * (Y - 1), Int.mul_pos (by lia) (by lia), ?_⟩
  have e1 : 68719476735 * (N * Y + M - (M * X + N)) = (N * 68719476735) * (Y - 1) - (M * 68719476735) * (X - 1) := by
    have e0 : N * Y + M - (M * X + N) = N * (Y - 1) - M * (X - 1) := by rw [Int.mul_sub, Int.mul_sub, Int.mul_one, Int.mul_one]; lia
    rw [e0, Int.mul_sub, ← Int.mul_assoc, ← Int.mul_assoc, Int.mul_comm 68719476735 N, Int.mul_comm 68719476735 M]
  rw [e1, ← ex, ← ey, Int.sub_mul p q, Int.mul_assoc, Int.mul_assoc, Int.mul_comm (Y - 1) (X - 1)]
theorem sign_of {D P K : Int} (hK : 0 < K) (h : 68719476735 * D = P * K) : (0 < D ↔ 0 < P) ∧ (D = 0 ↔ P = 0) := by
  rcases Int.lt_trichotomy P 0 with q | q | q
  · have := Int.mul_neg_of_neg_of_pos q hK
    omega
  · subst q; rw [Int.zero_mul] at h; omega
  · have := Int.mul_pos q hK
    omega
noncomputable def Good (c d : Int) : Prop := 0 ≤ d ∧ d < 64 ∧ Builtin.bitAnd c 63 = d ∧ Builtin.bitAnd c 64 ≠ 0 ∧ Builtin.bitAnd (c - 64) 63 = d ∧ Builtin.bitAnd (c - 64) 64 = 0
theorem good_letters : ∀ n ∈ List.range 63, Good (Builtin.bitOr (codeOf (n : Nat)) 64) (n : Nat) ∧ Good (Builtin.bitOr (lastOf (n : Nat)) 64) (n : Nat) ∧ Builtin.bitAnd (codeOf (n : Nat)) 63 = (n : Nat) ∧ Builtin.bitAnd (codeOf (n : Nat)) 64 ≠ 0 ∧ Builtin.bitAnd (lastOf (n : Nat)) 63 = (n : Nat) ∧ Builtin.bitAnd (lastOf (n : Nat)) 64 = 0 ∧
    0 ≤ codeOf (n : Nat) ∧ codeOf (n : Nat) < 30000 ∧ 0 ≤ lastOf (n : Nat) ∧ lastOf (n : Nat) < 30000 := by
  unfold Good
  decide +kernel
theorem good_at {d : Int} (h : 0 ≤ d ∧ d < 63) : Good (Builtin.bitOr (codeOf d) 64) d ∧ Good (Builtin.bitOr (lastOf d) 64) d ∧ Builtin.bitAnd (codeOf d) 63 = d ∧ Builtin.bitAnd (codeOf d) 64 ≠ 0 ∧ Builtin.bitAnd (lastOf d) 63 = d ∧ Builtin.bitAnd (lastOf d) 64 = 0 ∧
    0 ≤ codeOf d ∧ codeOf d < 30000 ∧ 0 ≤ lastOf d ∧ lastOf d < 30000 := by
  obtain ⟨n, rfl⟩ := Int.eq_ofNat_of_zero_le h.1
  exact good_letters n (List.mem_range.mpr (by omega))
end
section
open PySem PySem.W PySem.Calls PyProof.Rows
inductive Gs : List Int → List Int → Prop
  | nil : Gs [] []
  | cons {c d : Int} {cs ds : List Int} : Good c d → Gs cs ds → Gs (c :: cs) (d :: ds)
theorem Gs.append {cs ds cs' ds' : List Int} (h : Gs cs ds) (h' : Gs cs' ds') : Gs (cs ++ cs') (ds ++ ds') := by
  induction h with
  | nil => exact h'
  | cons g _ ih => exact .cons g ih
theorem Gs.length {cs ds : List Int} (h : Gs cs ds) : cs.length = ds.length := by
  induction h with
  | nil => rfl
  | cons g _ ih => simp [ih]
theorem Gs.get {cs ds : List Int} (h : Gs cs ds) : ∀ {k : Nat} {c : Int}, cs[k]? = some c → ∃ d, ds[k]? = some d ∧ Good c d := by
  induction h with
  | nil => intro k c hk; simp at hk
  | cons g _ ih =>
    intro k c hk
    cases k with
    | zero => simp at hk; subst hk; exact ⟨_, rfl, g⟩
    | succ k => exact ih (by simpa using hk)
theorem Gs.word {cs ds : List Int} (h : Gs cs ds) (hne : 0 < cs.length) : Word (cs.set (cs.length - 1) (cs.getLast?.getD 0 - 64)) ds := by
  have hl : cs.getLast? = cs[cs.length - 1]? := List.getLast?_eq_getElem?
  obtain ⟨z, hz⟩ : ∃ z, cs[cs.length - 1]? = some z := ⟨_, List.getElem?_eq_getElem (by lia)⟩
  have hgl : cs.getLast?.getD 0 = z := by rw [hl, hz]; rfl
  rw [hgl]
  have hlen : (cs.set (cs.length - 1) (z - 64)).length = cs.length := List.length_set ..
  have at_ : ∀ (k : Nat) (c : Int), (cs.set (cs.length - 1) (z - 64))[k]? = some c → (k = cs.length - 1 ∧ c = z - 64) ∨ (k ≠ cs.length - 1 ∧ cs[k]? = some c) := by
    intro k c hk
    rw [List.getElem?_set] at hk
    by_cases q : cs.length - 1 = k
    · rw [if_pos q, if_pos (by lia)] at hk
      exact .inl ⟨q.symm, (Option.some.inj hk).symm⟩
    · rw [if_neg q] at hk
      exact .inr ⟨fun e => q e.symm, hk⟩
  refine ⟨by rw [hlen, h.length], by rw [hlen]; exact hne, ?_, ?_, ?_⟩
  · intro k c hk
    rcases at_ k c hk with ⟨rfl, rfl⟩ | ⟨_, hk⟩
    · obtain ⟨d, hd, g1, g2, _, _, g5, _⟩ := h.get hz
      exact ⟨d, hd, g5, g1, g2⟩
    · obtain ⟨d, hd, g1, g2, g3, _⟩ := h.get hk
      exact ⟨d, hd, g3, g1, g2⟩
  · intro k c hk hlt
    rw [hlen] at hlt
    rcases at_ k c hk with ⟨rfl, rfl⟩ | ⟨_, hk⟩
    · lia
    · obtain ⟨d, hd, _, _, _, g4, _⟩ := h.get hk
      exact g4
  · intro k c hk heq
    rw [hlen] at heq
    rcases at_ k c hk with ⟨rfl, rfl⟩ | ⟨hn, hk⟩
    · obtain ⟨d, hd, _, _, _, _, _, g6⟩ := h.get hz
      exact g6
    · lia
theorem codes1 (a : Int) : codesOf [a] = [lastOf a] := rfl
theorem codes2 (a b : Int) : codesOf [a, b] = [codeOf a, lastOf b] := rfl
theorem codes3 (a b c : Int) : codesOf [a, b, c] = [codeOf a, codeOf b, lastOf c] := rfl
theorem LW.gs {x : List Int} (h : LW x) : Gs ((codesOf x).map fun c => Builtin.bitOr c 64) x := by
  rcases h.cases with ⟨a, rfl⟩ | ⟨a, b, rfl⟩ | ⟨a, b, c, rfl⟩
  · have a1 := good_at (h.let_ a (by simp))
    exact .cons a1.2.1 .nil
  · have a1 := good_at (h.let_ a (by simp))
    have b1 := good_at (h.let_ b (by simp))
    exact .cons a1.1 (.cons b1.2.1 .nil)
  · have a1 := good_at (h.let_ a (by simp))
    have b1 := good_at (h.let_ b (by simp))
    have c1 := good_at (h.let_ c (by simp))
    exact .cons a1.1 (.cons b1.1 (.cons c1.2.1 .nil))
theorem LW.word {x : List Int} (h : LW x) : Word (codesOf x) x := by
  rcases h.cases with ⟨a, rfl⟩ | ⟨a, b, rfl⟩ | ⟨a, b, c, rfl⟩
  · have ha := h.let_ a (by simp)
    obtain ⟨_, _, a3, a4, a5, a6, _⟩ := good_at ha
    rw [codes1]
    refine ⟨rfl, by simp, ?_, ?_, ?_⟩
    · intro k z hk
      match k with
      | 0 => simp at hk; subst hk; exact ⟨_, rfl, a5, ha.1, by lia⟩
      | k + 1 => simp at hk
    · intro k z hk hl
      match k with
      | 0 => simp at hl
      | k + 1 => simp at hk
    · intro k z hk hl
      match k with
      | 0 => simp at hk; subst hk; exact a6
      | k + 1 => simp at hk
  · have ha := h.let_ a (by simp)
    have hb := h.let_ b (by simp)
    obtain ⟨_, _, a3, a4, a5, a6, _⟩ := good_at ha
    obtain ⟨_, _, b3, b4, b5, b6, _⟩ := good_at hb
    rw [codes2]
    refine ⟨rfl, by simp, ?_, ?_, ?_⟩
    · intro k z hk
      match k with
      | 0 => simp at hk; subst hk; exact ⟨_, rfl, a3, ha.1, by lia⟩
      | 1 => simp at hk; subst hk; exact ⟨_, rfl, b5, hb.1, by lia⟩
      | k + 2 => simp at hk
    · intro k z hk hl
      match k with
      | 0 => simp at hk; subst hk; exact a4
      | 1 => simp at hl
      | k + 2 => simp at hk
    · intro k z hk hl
      match k with
      | 0 => simp at hl
      | 1 => simp at hk; subst hk; exact b6
      | k + 2 => simp at hk
  · have ha := h.let_ a (by simp)
    have hb := h.let_ b (by simp)
    have hc := h.let_ c (by simp)
    obtain ⟨_, _, a3, a4, a5, a6, _⟩ := good_at ha
    obtain ⟨_, _, b3, b4, b5, b6, _⟩ := good_at hb
    obtain ⟨_, _, c3, c4, c5, c6, _⟩ := good_at hc
    rw [codes3]
    refine ⟨rfl, by simp, ?_, ?_, ?_⟩
    · intro k z hk
      match k with
      | 0 => simp at hk; subst hk; exact ⟨_, rfl, a3, ha.1, by lia⟩
      | 1 => simp at hk; subst hk; exact ⟨_, rfl, b3, hb.1, by lia⟩
      | 2 => simp at hk; subst hk; exact ⟨_, rfl, c5, hc.1, by lia⟩
      | k + 3 => simp at hk
    · intro k z hk hl
      match k with
      | 0 => simp at hk; subst hk; exact a4
      | 1 => simp at hk; subst hk; exact b4
      | 2 => simp at hl
      | k + 3 => simp at hk
    · intro k z hk hl
      match k with
      | 0 => simp at hl
      | 1 => simp at hl
      | 2 => simp at hk; subst hk; exact c6
      | k + 3 => simp at hk
theorem LW.codes {x : List Int} (h : LW x) : (codesOf x).length ≤ 3 ∧ ∀ c ∈ codesOf x, 0 ≤ c ∧ c < 30000 := by
  rcases h.cases with ⟨a, rfl⟩ | ⟨a, b, rfl⟩ | ⟨a, b, c, rfl⟩
  · have a1 := good_at (h.let_ a (by simp))
    rw [codes1]
    refine ⟨by simp, fun z hz => ?_⟩
    simp at hz; subst hz; lia
  · have a1 := good_at (h.let_ a (by simp))
    have b1 := good_at (h.let_ b (by simp))
    rw [codes2]
    refine ⟨by simp, fun z hz => ?_⟩
    simp at hz
    rcases hz with rfl | rfl <;> lia
  · have a1 := good_at (h.let_ a (by simp))
    have b1 := good_at (h.let_ b (by simp))
    have c1 := good_at (h.let_ c (by simp))
    rw [codes3]
    refine ⟨by simp, fun z hz => ?_⟩
    simp at hz
    rcases hz with rfl | rfl | rfl <;> lia
theorem dsOf_cons (ws : List (List Int)) (p : Nat) (o : List Nat) : dsOf ws (p :: o) = ws.getD p [] ++ dsOf ws o := by simp [dsOf]
theorem flat_gs {ws : List (List Int)} (h4 : ws.length = 4) (hw : ∀ x ∈ ws, LW x) : ∀ o : List Nat, (∀ p ∈ o, p < 4) → Gs (flatOf (ws.map codesOf) o) (dsOf ws o)
  | [], _ => .nil
  | p :: o, ho => by
    have hp : p < 4 := ho p (List.mem_cons_self ..)
    obtain ⟨x, hx⟩ : ∃ x, ws[p]? = some x := ⟨_, List.getElem?_eq_getElem (by lia)⟩
    have e1 : (ws.map codesOf).getD p [] = codesOf x := by rw [List.getD_eq_getElem?_getD, List.getElem?_map, hx]; rfl
    have e2 : ws.getD p [] = x := by rw [List.getD_eq_getElem?_getD, hx]; rfl
    have e3 : flatOf (ws.map codesOf) (p :: o) = ((codesOf x).map fun c => Builtin.bitOr c 64) ++ flatOf (ws.map codesOf) o := by
      unfold flatOf
      rw [List.map_cons, List.flatten_cons, e1]
    rw [e3, dsOf_cons, e2]
    exact (hw x (List.mem_of_getElem? hx)).gs.append (flat_gs h4 hw o fun q hq => ho q (List.mem_cons_of_mem _ hq))
theorem run_ok {ws : List (List Int)} (h4 : ws.length = 4) (hw : ∀ x ∈ ws, LW x) (o : List Nat) (hne : o ≠ []) (hl : o.length ≤ 4) (ho : ∀ p ∈ o, p < 4) : Word (runOf (ws.map codesOf) o) (dsOf ws o) ∧ (runOf (ws.map codesOf) o).length ≤ 20 := by
  have hg := flat_gs h4 hw o ho
  have hlen := hg.length
  have h12 := dsOf_len (ws := ws) (fun x hx => (hw x hx).l3) o
  have hpos : 0 < (flatOf (ws.map codesOf) o).length := by
    rw [hlen]
    cases o with
    | nil => exact absurd rfl hne
    | cons p o =>
      obtain ⟨x, hx⟩ : ∃ x, ws[p]? = some x := ⟨_, List.getElem?_eq_getElem (by have := ho p (List.mem_cons_self ..); lia)⟩
      rw [dsOf_cons, List.length_append, show ws.getD p [] = x by rw [List.getD_eq_getElem?_getD, hx]; rfl]
      have := (hw x (List.mem_of_getElem? hx)).l1
      lia
  refine ⟨hg.word hpos, ?_⟩
  unfold runOf
  rw [List.length_set, hlen]
  lia
end
section
open PySem PySem.W PySem.Calls PyProof.Rows
section
variable {ws : List (List Int)} {s : Int}
theorem dsOf_append (a b : List Nat) : dsOf ws (a ++ b) = dsOf ws a ++ dsOf ws b := by simp [dsOf]
theorem len_perm {a b : List Nat} (h : a.Perm b) : (dsOf ws a).length = (dsOf ws b).length := by
  induction h with
  | nil => rfl
  | cons x _ ih => rw [dsOf_cons, dsOf_cons, List.length_append, List.length_append, ih]
  | swap x y l => rw [dsOf_cons, dsOf_cons, dsOf_cons, dsOf_cons]; simp only [List.length_append]; lia
  | trans _ _ h1 h2 => rw [h1, h2]
theorem cons_le {p : Nat} {a b : List Nat} (hl : (dsOf ws a).length = (dsOf ws b).length) (h : s * numOf (dsOf ws a) ≤ s * numOf (dsOf ws b)) : s * numOf (dsOf ws (p :: a)) ≤ s * numOf (dsOf ws (p :: b)) := by
  rw [dsOf_cons, dsOf_cons, numOf_append, numOf_append, hl, Int.mul_add, Int.mul_add]
  lia
theorem swap_le {p q : Nat} {l : List Nat} (h : s * numOf (dsOf ws [p, q]) ≤ s * numOf (dsOf ws [q, p])) : s * numOf (dsOf ws (p :: q :: l)) ≤ s * numOf (dsOf ws (q :: p :: l)) := by
  have e : ∀ x y : Nat, dsOf ws (x :: y :: l) = dsOf ws [x, y] ++ dsOf ws l := fun x y => by rw [← dsOf_append]; rfl
  rw [e, e, numOf_append, numOf_append, Int.mul_add, Int.mul_add, ← Int.mul_assoc, ← Int.mul_assoc]
  have := Int.mul_le_mul_of_nonneg_right h (Int.le_of_lt (Int.pow_pos (n := (64 : Int)) (m := (dsOf ws l).length) (by decide)))
  lia
theorem front {R : Nat → Nat → Prop} (hR : ∀ p q, R p q → s * numOf (dsOf ws [p, q]) ≤ s * numOf (dsOf ws [q, p])) {p : Nat} : ∀ (l1 l2 : List Nat), (∀ q ∈ l1, R p q) → s * numOf (dsOf ws (p :: (l1 ++ l2))) ≤ s * numOf (dsOf ws (l1 ++ p :: l2))
  | [], l2, _ => Int.le_refl _
  | q :: l1, l2, h => by
    have h1 := front hR l1 l2 fun x hx => h x (List.mem_cons_of_mem _ hx)
    have hl : (dsOf ws (p :: (l1 ++ l2))).length = (dsOf ws (l1 ++ p :: l2)).length := len_perm List.perm_middle.symm
    have h2 := cons_le (p := q) hl h1
    have h3 := swap_le (ws := ws) (s := s) (l := l1 ++ l2) (hR p q (h q (List.mem_cons_self ..)))
    exact Int.le_trans h3 h2
theorem sorted_best {R : Nat → Nat → Prop} (hR : ∀ p q, R p q → s * numOf (dsOf ws [p, q]) ≤ s * numOf (dsOf ws [q, p])) (refl : ∀ p, R p p) : ∀ (o : List Nat), o.Pairwise R → ∀ o', o'.Perm o → s * numOf (dsOf ws o) ≤ s * numOf (dsOf ws o')
  | [], _, o', hp => by rw [List.perm_nil.mp hp]; exact Int.le_refl _
  | p :: o, hs, o', hp => by
    obtain ⟨h1, h2⟩ := List.pairwise_cons.mp hs
    have hm : p ∈ o' := hp.symm.subset (List.mem_cons_self ..)
    obtain ⟨l1, l2, rfl⟩ := List.append_of_mem hm
    have hp2 : (l1 ++ l2).Perm o := (List.perm_middle.symm.trans hp).cons_inv
    have h3 := sorted_best hR refl o h2 (l1 ++ l2) hp2
    have h4 := cons_le (p := p) (len_perm hp2.symm) h3
    refine Int.le_trans h4 (front hR l1 l2 fun q hq => ?_)
    have : q ∈ p :: o := hp.subset (List.mem_append_left _ hq)
    rcases List.mem_cons.mp this with rfl | hq
    · exact refl _
    · exact h1 q hq
end
theorem perm_in : ∀ o : List Nat, o.Perm [0, 1, 2, 3] → o ∈ ordersN := by
  intro o ho
  have h4 : o.length = 4 := ho.length_eq
  have hm : ∀ p ∈ o, p ∈ List.range 4 := fun p hp => by have := ho.subset hp; simp at this; simp; lia
  have key : ∀ a ∈ List.range 4, ∀ b ∈ List.range 4, ∀ c ∈ List.range 4, ∀ d ∈ List.range 4, [a, b, c, d].Perm [0, 1, 2, 3] → [a, b, c, d] ∈ ordersN := by decide +kernel
  match o, h4 with
  | [a, b, c, d], _ => exact key a (hm a (by simp)) b (hm b (by simp)) c (hm c (by simp)) d (hm d (by simp)) ho
theorem in_perm : ∀ o ∈ ordersN, o.Perm [0, 1, 2, 3] := by decide +kernel
theorem words4 {hs : List Int} (h4 : hs.length = 4) : (wordsOf hs).length = 4 := by unfold wordsOf; rw [List.length_map]; exact h4
/-- the p-th word -/
theorem word_at {hs : List Int} (h4 : hs.length = 4) {p : Nat} (hp : p < 4) : ∃ x h, (wordsOf hs)[p]? = some x ∧ hs[p]? = some h ∧ LW x ∧ (wordsOf hs).getD p [] = x ∧ (partsOf (wordsOf hs))[p]? = some (partOfW x) ∧ (huesOf (wordsOf hs) hs)[p]? = some (hueP (partOfW x) (shareOf h) x.length) := by
  have hw4 := words4 h4
  obtain ⟨x, hx⟩ : ∃ x, (wordsOf hs)[p]? = some x := ⟨_, List.getElem?_eq_getElem (by lia)⟩
  obtain ⟨h, hh⟩ : ∃ h, hs[p]? = some h := ⟨_, List.getElem?_eq_getElem (by lia)⟩
  refine ⟨x, h, hx, hh, words_ok x (List.mem_of_getElem? hx), by rw [List.getD_eq_getElem?_getD, hx]; rfl, ?_, ?_⟩
  · unfold partsOf; rw [List.getElem?_map, hx]; rfl
  · unfold huesOf
    have hz : ((wordsOf hs).zip hs)[p]? = some (x, h) := List.getElem?_zip_eq_some.mpr ⟨hx, hh⟩
    rw [List.getElem?_map, hz]
    rfl
theorem share_is (h : Int) : shareOf h = 1 ∨ shareOf h = 2 := by
  unfold shareOf
  rw [Int.fmod_eq_emod_of_nonneg _ (by decide)]; lia
theorem LW.size {x : List Int} (h : LW x) : (x.length : Int) = 1 ∨ (x.length : Int) = 2 ∨ (x.length : Int) = 3 := by
  have := h.l1; have := h.l3; lia
theorem pair_ds {ws : List (List Int)} (p q : Nat) : dsOf ws [p, q] = ws.getD p [] ++ ws.getD q [] := by simp [dsOf]
theorem hue_le {hs : List Int} (h4 : hs.length = 4) {p q : Nat} (hp : p < 4) (hq : q < 4) (h : hueAt hs p ≤ hueAt hs q) : numOf (dsOf (wordsOf hs) [p, q]) ≤ numOf (dsOf (wordsOf hs) [q, p]) := by
  obtain ⟨x, hx, ex, eh, lx, gx, px, ux⟩ := word_at h4 hp
  obtain ⟨y, hy, ey, eh', ly, gy, py, uy⟩ := word_at h4 hq
  unfold hueAt at h
  rw [List.getD_eq_getElem?_getD, ux, List.getD_eq_getElem?_getD, uy] at h
  obtain ⟨_, _, a1, a2, _⟩ := lx.num
  obtain ⟨_, _, b1, b2, _⟩ := ly.num
  have ho := hue_order a1 a2 (share_is hx) lx.size b1 b2 (share_is hy) ly.size h
  rw [pair_ds, pair_ds, gx, gy]
  obtain ⟨K, hK, e⟩ := lx.cross ly
  have := sign_of hK e
  lia
theorem cmp_ok {hs : List Int} (h4 : hs.length = 4) (i j : Nat) (x y : Int) (hij : j < i) (hx : (partsOf (wordsOf hs))[i]? = some x) (hy : (partsOf (wordsOf hs))[j]? = some y) :
    (numOf (dsOf (wordsOf hs) [i, j]) > numOf (dsOf (wordsOf hs) [j, i]) ↔ x > y) ∧ (numOf (dsOf (wordsOf hs) [i, j]) = numOf (dsOf (wordsOf hs) [j, i]) ↔ x = y) := by
  have hi : i < 4 := by have := (List.getElem?_eq_some_iff.mp hx).1; unfold partsOf at this; rw [List.length_map, words4 h4] at this; exact this
  obtain ⟨u, hu, ex, eh, lx, gx, px, ux⟩ := word_at h4 hi
  obtain ⟨v, hv, ey, eh', ly, gy, py, uy⟩ := word_at h4 (show j < 4 by lia)
  rw [px] at hx; cases hx
  rw [py] at hy; cases hy
  rw [pair_ds, pair_ds, gx, gy]
  obtain ⟨K, hK, e⟩ := lx.cross ly
  have := sign_of hK e
  constructor
  · constructor <;> intro _ <;> lia
  · constructor <;> intro _ <;> lia
theorem least_ok {hs : List Int} (h4 : hs.length = 4) (o : List Nat) (ho : o.Perm [0, 1, 2, 3]) (hs' : o.Pairwise (fun p q => hueAt hs p ≤ hueAt hs q)) (M : Int) (hM : M ∈ runNums (wordsOf hs)) (hle : ∀ a ∈ runNums (wordsOf hs), M ≤ a) : M = numOf (dsOf (wordsOf hs) o) := by
  have hm : ∀ p ∈ o, p < 4 := fun p hp => by have := ho.subset hp; simp at this; lia
  have hin : numOf (dsOf (wordsOf hs) o) ∈ runNums (wordsOf hs) := List.mem_map_of_mem (perm_in o ho)
  obtain ⟨o', ho', rfl⟩ := List.mem_map.mp hM
  have h1 := hle _ hin
  have hb := sorted_best (ws := wordsOf hs) (s := 1) (R := fun p q => p = q ∨ (p < 4 ∧ q < 4 ∧ hueAt hs p ≤ hueAt hs q)) (fun p q h => by
      rcases h with rfl | ⟨a, b, c⟩
      · exact Int.le_refl _
      · rw [Int.one_mul, Int.one_mul]; exact hue_le h4 a b c) (fun p => .inl rfl) o (hs'.imp_of_mem fun {a b} ha hb h => .inr ⟨hm a ha, hm b hb, h⟩) o' ((in_perm o' ho').trans ho.symm)
  rw [Int.one_mul, Int.one_mul] at hb
  lia
theorem most_ok {hs : List Int} (h4 : hs.length = 4) (o : List Nat) (ho : o.Perm [0, 1, 2, 3]) (hs' : o.Pairwise (fun p q => hueAt hs p ≤ hueAt hs q)) (M : Int) (hM : M ∈ runNums (wordsOf hs)) (hle : ∀ a ∈ runNums (wordsOf hs), a ≤ M) : M = numOf (dsOf (wordsOf hs) o.reverse) := by
  have hm : ∀ p ∈ o, p < 4 := fun p hp => by have := ho.subset hp; simp at this; lia
  have hor : o.reverse.Perm [0, 1, 2, 3] := (List.reverse_perm o).trans ho
  have hin : numOf (dsOf (wordsOf hs) o.reverse) ∈ runNums (wordsOf hs) := List.mem_map_of_mem (perm_in _ hor)
  obtain ⟨o', ho', rfl⟩ := List.mem_map.mp hM
  have h1 := hle _ hin
  have hb := sorted_best (ws := wordsOf hs) (s := -1) (R := fun p q => p = q ∨ (p < 4 ∧ q < 4 ∧ hueAt hs q ≤ hueAt hs p)) (fun p q h => by
      rcases h with rfl | ⟨a, b, c⟩
      · exact Int.le_refl _
      · have := hue_le h4 b a c; lia) (fun p => .inl rfl) o.reverse (List.pairwise_reverse.mpr (hs'.imp_of_mem fun {a b} ha hb h => .inr ⟨hm b hb, hm a ha, h⟩)) o' ((in_perm o' ho').trans hor.symm)
  lia
end
section
open PySem PySem.W PySem.Calls PyProof.Rows
noncomputable def LowOk (c : Nat) : Prop := (foldSign c).length ≤ 3 ∧ Builtin.Str.tooLong (Txt.lower (one c)).length = false ∧ ((b3At c).getD (Txt.lower (one c))).length ≤ 3
/-- the same, quick to look up -/
noncomputable def foldS (c : Nat) : List Int := if b1Has c then [] else ((b3T.look c).getD (Txt.lower (one c))).cps.toList.map fun (n : Nat) => (n : Int)
theorem foldS_eq : foldSign = foldS := by
  funext c
  unfold foldSign foldS
  rw [b3_look]
noncomputable def lowB (c : Nat) : Bool := decide ((foldS c).length ≤ 3) && decide (Builtin.Str.tooLong (Txt.lower (one c)).length = false) && decide (((b3T.look c).getD (Txt.lower (one c))).length ≤ 3)
theorem lowB_ok {c : Nat} (h : lowB c = true) : LowOk c := by
  unfold lowB at h
  rw [← foldS_eq, ← b3_look] at h
  simp only [Bool.and_eq_true, decide_eq_true_eq] at h
  exact ⟨h.1.1, h.1.2, h.2⟩
/-- a piece of the typed text: what it folds to -/
structure TT (s : Str) (cs : List Int) (n : Nat) : Prop where
  fold : foldText s.cps.toList = cs
  low : ∀ c ∈ s.cps.toList, LowOk c
  len : s.length ≤ n
noncomputable def tOk (s : Str) (cs : List Int) : Bool := decide ((s.cps.toList.map foldS).flatten = cs) && s.cps.toList.all lowB && decide (s.length ≤ 1)
theorem tOk_tt {s : Str} {cs : List Int} (h : tOk s cs = true) : TT s cs 1 := by
  unfold tOk at h
  rw [← foldS_eq] at h
  simp only [Bool.and_eq_true, decide_eq_true_eq, List.all_eq_true] at h
  exact ⟨h.1.1, fun c hc => lowB_ok (h.1.2 c hc), h.2⟩
theorem cps_app (x y : Str) : (x ++ y).cps.toList = x.cps.toList ++ y.cps.toList := by
  show (x.cps ++ y.cps).toList = _
  exact Array.toList_append
theorem TT.append {x y : Str} {a b : List Int} {n m : Nat} (h : TT x a n) (k : TT y b m) : TT (x ++ y) (a ++ b) (n + m) := by
  refine ⟨?_, ?_, ?_⟩
  · rw [cps_app]
    unfold foldText
    rw [List.map_append, List.flatten_append]
    have h1 := h.fold
    have h2 := k.fold
    unfold foldText at h1 h2
    rw [h1, h2]
  · intro c hc
    rw [cps_app] at hc
    rcases List.mem_append.mp hc with hc | hc
    · exact h.low c hc
    · exact k.low c hc
  · have e : (x ++ y).length = x.length + y.length := Array.size_append
    rw [e]
    have := h.len
    have := k.len
    lia
theorem unseen_ok : ∀ t ∈ List.range 324, tOk (unseenOf (t : Nat)) [] = true := by decide +kernel
noncomputable def bases : List Int := [97, 65, 119808, 119912, 120016, 120172, 120224, 120276, 120328, 120380, 120432]
theorem pick_in : ∀ t ∈ List.range 324, pick (t : Nat) ∈ bases := by decide +kernel
theorem small_ok : ∀ k ∈ List.range 26, ∀ b ∈ bases, tOk (one (97 + (k : Int) - 97 + b).toNat) [97 + (k : Int)] = true := by decide +kernel
theorem mid_ok : ∀ k ∈ List.range 15, ∀ b ∈ [(0 : Int), 1], tOk (one (1072 + (k : Int) - b * 32).toNat) [1072 + (k : Int)] = true := by decide +kernel
theorem high_ok : ∀ k ∈ List.range 63, (32 < (k : Int) ∧ (k : Int) < 59) ∨ tOk (one (20032 + (k : Int)).toNat) [20032 + (k : Int)] = true := by decide +kernel
theorem last_ok : ∀ k ∈ List.range 48, tOk (one (20096 + (k : Int)).toNat) [20096 + (k : Int)] = true := by decide +kernel
theorem ff_ok : TT (one 64256) [102, 102] 1 ∧ TT (one 223) [115, 115] 1 := ⟨tOk_tt (by decide +kernel), tOk_tt (by decide +kernel)⟩
theorem slice_ok : Txt.slice (one 64256) (some 0) none = one 64256 ∧ Txt.slice (one 64256) (some 1) none = Str.empty ∧ Txt.slice (one 223) (some 0) none = one 223 ∧ Txt.slice (one 223) (some 1) none = Str.empty := by decide +kernel
theorem one_ne : one 64256 ≠ Str.empty ∧ one 223 ≠ Str.empty := by decide +kernel
theorem empty_tt : TT Str.empty [] 1 := tOk_tt (by decide +kernel)
/-- a code, with no pair before it -/
theorem sign_ok {c t d : Int} {place : Nat} (ht : 0 ≤ t ∧ t < 324) (hd : 0 ≤ d ∧ d < 63) (hc : c = codeOf d ∨ c = lastOf d) {duo : Str} (hp : duo = Str.empty ∨ 2 ≤ place) : TT (signOf duo place c t) [c] 1 := by
  obtain ⟨n, rfl⟩ := Int.eq_ofNat_of_zero_le ht.1
  obtain ⟨k, rfl⟩ := Int.eq_ofNat_of_zero_le hd.1
  unfold signOf
  rw [if_neg (by rcases hp with h | h <;> simp [h])]
  have hpk := pick_in n (List.mem_range.mpr (by lia))
  have h2 : (n : Int).fmod 2 = 0 ∨ (n : Int).fmod 2 = 1 := by rw [Int.fmod_eq_emod_of_nonneg _ (by decide)]; lia
  rcases hc with rfl | rfl
  · unfold codeOf
    by_cases q : 32 < (k : Int) ∧ (k : Int) < 59
    · rw [if_pos q, if_pos (by lia)]
      have := small_ok (k - 33) (List.mem_range.mpr (by lia)) _ hpk
      rw [show (97 : Int) + ((k - 33 : Nat) : Int) = 64 + k by lia] at this
      exact tOk_tt this
    · rw [if_neg q, if_neg (by lia), if_neg (by lia)]
      rcases high_ok k (List.mem_range.mpr (by lia)) with h | h
      · exact absurd h q
      · exact tOk_tt h
  · unfold lastOf
    by_cases q : 47 < (k : Int)
    · rw [if_pos q, if_neg (by lia), if_pos (by lia)]
      have := mid_ok (k - 48) (List.mem_range.mpr (by lia)) ((n : Int).fmod 2) (by rcases h2 with h | h <;> rw [h] <;> simp)
      rw [show (1072 : Int) + ((k - 48 : Nat) : Int) = 1024 + k by lia] at this
      exact tOk_tt this
    · rw [if_neg q, if_neg (by lia), if_neg (by lia)]
      exact tOk_tt (last_ok k (List.mem_range.mpr (by lia)))
theorem turn_ok (t : Int) : 0 ≤ turnOf t ∧ turnOf t < 324 := by
  unfold turnOf
  rw [Int.fmod_eq_emod_of_nonneg _ (by decide)]; lia
theorem unseen_tt (t : Int) (ht : 0 ≤ t ∧ t < 324) : TT (unseenOf t) [] 1 := by
  obtain ⟨n, rfl⟩ := Int.eq_ofNat_of_zero_le ht.1
  exact tOk_tt (unseen_ok n (List.mem_range.mpr (by lia)))
theorem step_tt {duo s : Str} {t : Int} {place : Nat} {code : Int} {a b : List Int} {n : Nat} (h : TT s a n) (hs : TT (signOf duo place code (turnOf t)) b 1) : TT (stepCode duo (s, t) place code).1 (a ++ b) (n + 2) := by
  have h1 := (h.append (unseen_tt (turnOf t) (turn_ok t))).append hs
  rw [List.append_nil] at h1
  exact h1
theorem duo_short {codes : List Int} (h : codes.length ≠ 3) : duoOf codes = Str.empty := by unfold duoOf; rw [if_neg (fun q => h q.1)]
/-- a row -/
theorem row_tt {x : List Int} (hx : LW x) {st : Str × Int} {a : List Int} {n : Nat} (h : TT st.1 a n) : TT (rowAt st (codesOf x) (codesOf x).length).1 (a ++ codesOf x) (n + 6) := by
  have wide : ∀ {s : Str} {c : List Int} {n m : Nat}, TT s c n → n ≤ m → TT s c m := fun h hn => ⟨h.fold, h.low, Nat.le_trans h.len hn⟩
  rcases hx.cases with ⟨p, rfl⟩ | ⟨p, q, rfl⟩ | ⟨p, q, r, rfl⟩
  · have hp := hx.let_ p (by simp)
    rw [codes1]
    have hd : duoOf [lastOf p] = Str.empty := duo_short (by simp)
    show TT (stepCode (duoOf [lastOf p]) (st.1, st.2) 0 (lastOf p)).1 _ _
    rw [hd]
    exact wide (step_tt h (sign_ok (turn_ok _) hp (.inr rfl) (.inl rfl))) (by lia)
  · have hp := hx.let_ p (by simp)
    have hq := hx.let_ q (by simp)
    rw [codes2]
    have hd : duoOf [codeOf p, lastOf q] = Str.empty := duo_short (by simp)
    show TT (stepCode (duoOf [codeOf p, lastOf q]) (stepCode (duoOf [codeOf p, lastOf q]) (st.1, st.2) 0 (codeOf p)) 1 (lastOf q)).1 _ _
    rw [hd]
    have h1 := step_tt h (sign_ok (place := 0) (turn_ok st.2) hp (.inl rfl) (.inl rfl))
    have h2 := step_tt (t := (stepCode Str.empty (st.1, st.2) 0 (codeOf p)).2) h1 (sign_ok (place := 1) (turn_ok _) hq (.inr rfl) (.inl rfl))
    rw [List.append_assoc] at h2
    exact wide h2 (by lia)
  · have hp := hx.let_ p (by simp)
    have hq := hx.let_ q (by simp)
    have hr := hx.let_ r (by simp)
    rw [codes3]
    show TT (stepCode (duoOf [codeOf p, codeOf q, lastOf r]) (stepCode (duoOf [codeOf p, codeOf q, lastOf r]) (stepCode (duoOf [codeOf p, codeOf q, lastOf r]) (st.1, st.2) 0 (codeOf p)) 1 (codeOf q)) 2 (lastOf r)).1 _ _
    by_cases he : duoOf [codeOf p, codeOf q, lastOf r] = Str.empty
    · rw [he]
      have h1 := step_tt h (sign_ok (place := 0) (turn_ok st.2) hp (.inl rfl) (.inl rfl))
      have h2 := step_tt (t := (stepCode Str.empty (st.1, st.2) 0 (codeOf p)).2) h1 (sign_ok (place := 1) (turn_ok _) hq (.inl rfl) (.inl rfl))
      have h3 := step_tt (t := (stepCode Str.empty (stepCode Str.empty (st.1, st.2) 0 (codeOf p)) 1 (codeOf q)).2) h2 (sign_ok (place := 2) (turn_ok _) hr (.inr rfl) (.inl rfl))
      rw [List.append_assoc, List.append_assoc] at h3
      exact wide h3 (by lia)
    · have hfacts : codeOf p = codeOf q ∧ ((codeOf p = 102 ∧ duoOf [codeOf p, codeOf q, lastOf r] = one 64256) ∨ (codeOf p = 115 ∧ duoOf [codeOf p, codeOf q, lastOf r] = one 223)) := by
        unfold duoOf at he ⊢
        by_cases g : [codeOf p, codeOf q, lastOf r].length = 3 ∧ [codeOf p, codeOf q, lastOf r].getD 0 0 = [codeOf p, codeOf q, lastOf r].getD 1 0 ∧ ([codeOf p, codeOf q, lastOf r].getD 0 0 = 102 ∨ [codeOf p, codeOf q, lastOf r].getD 0 0 = 115)
        · rw [if_pos g]
          obtain ⟨_, g2, g3⟩ := g
          have g2' : codeOf p = codeOf q := g2
          refine ⟨g2', ?_⟩
          rcases g3 with g3 | g3
          · have g3' : codeOf p = 102 := g3
            exact .inl ⟨g3', if_pos g3⟩
          · have g3' : codeOf p = 115 := g3
            exact .inr ⟨g3', if_neg (by rw [g3]; decide)⟩
        · rw [if_neg g] at he; exact absurd rfl he
      obtain ⟨hpq, hcase⟩ := hfacts
      rw [← hpq]
      rw [← hpq] at hcase
      generalize hD : duoOf [codeOf p, codeOf p, lastOf r] = D at *
      have first : ∀ (z : Int) (u : Str), codeOf p = z → D = u → u ≠ Str.empty → Txt.slice u (some 0) none = u → Txt.slice u (some 1) none = Str.empty → TT u [z, z] 1 →
          TT (stepCode D (stepCode D (stepCode D (st.1, st.2) 0 (codeOf p)) 1 (codeOf p)) 2 (lastOf r)).1 (a ++ [codeOf p, codeOf p, lastOf r]) (n + 6) := by
        intro z u hz hu hne s0 s1 ht
        subst hu
        rw [hz]
        have k1 : TT (signOf D 0 z (turnOf st.2)) [z, z] 1 := by
          unfold signOf
          rw [if_pos ⟨hne, by decide⟩]
          show TT (Txt.slice D (some 0) none) [z, z] 1
          rw [s0]; exact ht
        have h1 := step_tt h k1
        have k2 : TT (signOf D 1 z (turnOf (stepCode D (st.1, st.2) 0 z).2)) [] 1 := by
          unfold signOf
          rw [if_pos ⟨hne, by decide⟩]
          show TT (Txt.slice D (some 1) none) [] 1
          rw [s1]; exact empty_tt
        have h2 := step_tt h1 k2
        have h3 := step_tt (t := (stepCode D (stepCode D (st.1, st.2) 0 z) 1 z).2) h2 (sign_ok (duo := D) (place := 2) (turn_ok _) hr (.inr rfl) (.inr (by decide)))
        rw [List.append_nil, List.append_assoc] at h3
        exact wide h3 (by lia)
      obtain ⟨sA, sB, sC, sD⟩ := slice_ok
      rcases hcase with ⟨h1, h2⟩ | ⟨h1, h2⟩
      · exact first 102 _ h1 h2 one_ne.1 sA sB ff_ok.1
      · exact first 115 _ h1 h2 one_ne.2 sC sD ff_ok.2
theorem typed_tt {ws : List (List Int)} (hw : ∀ x ∈ ws, LW x) (turn : Int) : ∀ i, i ≤ ws.length → TT (typedAt (Str.empty, turn) (ws.map codesOf) i).1 ((ws.map codesOf).take i).flatten (1 + 6 * i)
  | 0, _ => by simpa [typedAt] using empty_tt
  | i + 1, hi => by
    have ih := typed_tt hw turn i (by lia)
    obtain ⟨x, hx⟩ : ∃ x, ws[i]? = some x := ⟨_, List.getElem?_eq_getElem (by lia)⟩
    have e1 : (ws.map codesOf)[i]? = some (codesOf x) := by rw [List.getElem?_map, hx]; rfl
    have e2 : (ws.map codesOf).getD i [] = codesOf x := by rw [List.getD_eq_getElem?_getD, e1]; rfl
    have h := row_tt (hw x (List.mem_of_getElem? hx)) ih
    rw [List.take_add_one, e1, List.flatten_append]
    show TT (rowAt _ ((ws.map codesOf).getD i []) ((ws.map codesOf).getD i []).length).1 _ _
    rw [e2]
    have e3 : (some (codesOf x)).toList.flatten = codesOf x := by simp
    rw [e3]
    exact ⟨h.fold, h.low, Nat.le_trans h.len (by lia)⟩
theorem plain_all (vH : List Value) (hs : List Int) (hH : Heaps vH hs) : Plain hs := by
  have h4 := hH.four
  have hw := words_ok (hs := hs)
  have w4 := words4 h4
  have ht := typed_tt hw (turnI hs) (wordsOf hs).length (Nat.le_refl _)
  have hfull : ((wordsOf hs).map codesOf).take (wordsOf hs).length = (wordsOf hs).map codesOf := List.take_of_length_le (by simp)
  rw [hfull] at ht
  have hT : typedOf (rowsOf hs) (turnI hs) = (typedAt (Str.empty, turnI hs) ((wordsOf hs).map codesOf) (wordsOf hs).length).1 := by
    unfold typedOf rowsOf
    rw [List.length_map]
  rw [← hT] at ht
  refine { w4 := w4, wlen := fun x hx => ?_, word := fun x hx => (hw x hx).word, codes := fun r hr => ?_, low := fun c hc => ht.low c hc, tlen := ?_, fold := ht.fold, paint := fun i c h hc hh => ?_, hfin := fun x hx => ?_,
           run := fun o h1 h2 h3 => run_ok w4 hw o h1 h2 h3, least := least_ok h4, most := most_ok h4, cmp := cmp_ok h4 }
  · have := hw x hx
    exact ⟨this.l1, this.l3, this.num.1, this.num.2.1⟩
  · unfold rowsOf at hr
    obtain ⟨x, hx, rfl⟩ := List.mem_map.mp hr
    exact (hw x hx).codes
  · have := ht.len
    rw [w4] at this
    lia
  · have lc := hw c (List.mem_of_getElem? hc)
    have hi : i < 4 := by have := (List.getElem?_eq_some_iff.mp hh).1; lia
    exact paint_all lc.num.2.2.1 lc.num.2.2.2.1 (by lia) (share_is h) lc.size
  · unfold huesOf at hx
    obtain ⟨⟨c, h⟩, hm, rfl⟩ := List.mem_map.mp hx
    have lc := hw c (List.of_mem_zip hm).1
    obtain ⟨a, hF, _⟩ := hue_all lc.num.2.2.1 lc.num.2.2.2.1 (share_is h) lc.size
    exact hF.isFin
theorem lawCall : LawCall := law_all plain_all
end
section
open PySem PySem.W PyProof.Rows
set_option maxHeartbeats 8000000
noncomputable abbrev theLaw : OpenLaw := PySem.Challenge.rw_rl0087_01
noncomputable abbrev lawText : Program := theLaw.row.prog
theorem said_mods : ((moduleNames lawText.main.body).isEmpty || lookedIntoSs (moduleNames lawText.main.body) lawText.main.body) = true := by kernel_rfl
theorem said_road : noRoadLSs { strict := !(importedModules lawText.main.body).all cThrough.contains, foot := none, bare := (["vars", "dir", "locals"] : List Str).filter (readsOut lawText lawText.main.body) } lawText.main.body = true := by kernel_rfl
theorem said_meet : namesMeet lawText lawText.main.body (fun _ n => attrL n) = true := by kernel_rfl
theorem said_looks : looksOpen lawText = true := by
  unfold looksOpen
  iterate 5 (with_reducible refine look_both ?_ ?_)
  · kernel_rfl
  · exact said_mods
  · kernel_rfl
  · kernel_rfl
  · exact said_road
  · exact said_meet
theorem said_row : theLaw.row.wellSaid = true := by
  unfold OpenRow.wellSaid OpenRow.partSaid
  iterate 15 (with_reducible refine look_both ?_ ?_)
  · exact said_looks
  all_goals kernel_rfl
theorem said : theLaw.wellSaid = true := by
  unfold OpenLaw.wellSaid
  iterate 18 (with_reducible refine look_both ?_ ?_)
  · exact said_row
  all_goals kernel_rfl
end
end Mine
open PySem PySem.W PyProof.Rows
set_option maxRecDepth 100000
theorem PySem.Challenge.cw_rl0087_01_holds : PySem.Challenge.rw_rl0087_01.Holds :=
  holds_law Mine.said fun s => Mine.holds_of Mine.lawCall s
