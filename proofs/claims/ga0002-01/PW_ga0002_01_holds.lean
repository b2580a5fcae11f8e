import PyProof.Rows.All
import Wide.All
import OpenK.AllK
import Wide.FinOn
import PyProof.AttrMissHeap
import KE.KRevIter
import KE.KDictOf
import KE.KPairComp
import PySem.Challenge.RW_ga0002_01
open PySem PySem.W PySem.Calls PyProof.Rows
set_option Elab.async false
namespace Mine

/-- all that h holds stands in h' -/
def Kp (h h' : Heap) : Prop := ∀ b o, h.get? b = some o → h'.get? b = some o
theorem Kp.refl (h : Heap) : Kp h h := fun _ _ e => e
theorem Kp.trans {a b c : Heap} (x : Kp a b) (y : Kp b c) : Kp a c := fun p o e => y p o (x p o e)
theorem Kp.push (h : Heap) (o : Obj) : Kp h (h.push o) := fun _ _ e => Heap.get?_push_of_some o e

theorem kp_of {s s' : Shared} (k : Keeps s s') : Kp s.heap s'.heap := by
  obtain ⟨h', tk, rfl, e⟩ := k
  exact e
theorem keeps_refl (s : Shared) : Keeps s s := ⟨s.heap, s.toks, rfl, fun _ _ e => e⟩
theorem keeps_tok (s : Shared) (t : Nat) : Keeps s { s with toks := t } := ⟨s.heap, t, rfl, fun _ _ e => e⟩
theorem keeps_push (s : Shared) (o : Obj) : Keeps s { s with heap := s.heap.push o } := ⟨_, _, rfl, Kp.push _ _⟩
theorem keeps_trans {a b c : Shared} (x : Keeps a b) (y : Keeps b c) : Keeps a c := by
  obtain ⟨h, t, rfl, e⟩ := x
  obtain ⟨h', t', rfl, e'⟩ := y
  exact ⟨h', t', rfl, fun p o q => e' p o (e p o q)⟩

/-- a word about a value at a heap that goes on holding while the heap grows -/
structure VP where
  P : Heap → Value → Prop
  st : ∀ {h h' v}, Kp h h' → P h v → P h' v

def vInt (i : Int) : VP := ⟨fun _ v => ∃ t, v = .int i t, fun _ x => x⟩
def vBool (b : Bool) : VP := ⟨fun _ v => v = .bool b, fun _ x => x⟩
def vIs (u : Value) : VP := ⟨fun _ v => v = u, fun _ x => x⟩

def VPs (h : Heap) : List VP → List Value → Prop
  | [], [] => True
  | R :: Rs, v :: vs => R.P h v ∧ VPs h Rs vs
  | _, _ => False
theorem VPs.st {h h' : Heap} (k : Kp h h') : ∀ {Rs : List VP} {vs : List Value}, VPs h Rs vs → VPs h' Rs vs
  | [], [], _ => trivial
  | _ :: _, _ :: _, x => ⟨VP.st _ k x.1, VPs.st k x.2⟩
theorem VPs.len {h : Heap} : ∀ {Rs : List VP} {vs : List Value}, VPs h Rs vs → vs.length = Rs.length
  | [], [], _ => rfl
  | _ :: _, _ :: _, x => congrArg (· + 1) x.2.len
theorem VPs.get {h : Heap} : ∀ {Rs : List VP} {vs : List Value}, VPs h Rs vs → ∀ {i : Nat} {R : VP}, Rs[i]? = some R → ∃ v, vs[i]? = some v ∧ R.P h v
  | _ :: _, v :: _, x, 0, _, e => by cases e; exact ⟨v, rfl, x.1⟩
  | _ :: _, _ :: _, x, i + 1, _, e => x.2.get (i := i) (by simpa using e)
theorem VPs.snoc {h : Heap} {R : VP} {v : Value} : ∀ {Rs : List VP} {vs : List Value}, VPs h Rs vs → R.P h v → VPs h (Rs ++ [R]) (vs ++ [v])
  | [], [], _, y => ⟨y, trivial⟩
  | _ :: _, _ :: _, x, y => ⟨x.1, x.2.snoc y⟩
theorem VPs.append {h : Heap} : ∀ {Rs Ss : List VP} {vs us : List Value}, VPs h Rs vs → VPs h Ss us → VPs h (Rs ++ Ss) (vs ++ us)
  | [], _, [], _, _, y => y
  | _ :: _, _, _ :: _, _, x, y => ⟨x.1, x.2.append y⟩

def vTup (Rs : List VP) : VP := ⟨fun h v => ∃ a vs, v = .ref a ∧ IsTup h a vs.toArray ∧ VPs h Rs vs,
  fun k x => by obtain ⟨a, vs, e, t, y⟩ := x; exact ⟨a, vs, e, t.keeps k, y.st k⟩⟩
def vList (Rs : List VP) : VP := ⟨fun h v => ∃ a vs, v = .ref a ∧ h.PlainList a vs.toArray ∧ VPs h Rs vs,
  fun k x => by obtain ⟨a, vs, e, t, y⟩ := x; exact ⟨a, vs, e, t.at fun o q => k _ o q, y.st k⟩⟩

theorem ints_of {h : Heap} : ∀ {ns : List Int} {vs : List Value}, VPs h (ns.map vInt) vs → IntsAre vs ns
  | [], [], _ => .nil
  | _ :: _, _ :: _, ⟨⟨_, rfl⟩, y⟩ => .cons _ _ (ints_of y)
theorem of_ints {h : Heap} {ns : List Int} {vs : List Value} (x : IntsAre vs ns) : VPs h (ns.map vInt) vs := by
  induction x with
  | nil => trivial
  | cons n t _ ih => exact ⟨⟨t, rfl⟩, ih⟩

section
variable (prog : Program) (w : World) (A : Around) (env : Env) (g : Heap) (m : Str → Option Value)

/-- at every state grown out of g whose frame reads m the expression gives an R, and all stays -/
def Ev (e : Expr) (R : VP) : Prop := ∀ s E, Kp g s.heap → s.heap.Ns env.locals m →
  wpAny (model prog w) A (eval e env) (fun v s' => R.P s'.heap v ∧ Keeps s s') E s
def Evs (es : List Expr) (Rs : List VP) : Prop := ∀ s E pos, Kp g s.heap → s.heap.Ns env.locals m →
  wpAny (model prog w) A (spliced (backTo pos (starEach es env))) (fun vs s' => VPs s'.heap Rs vs ∧ Keeps s s') E s
def EvT (e : Expr) (b : Bool) : Prop := ∀ s E, Kp g s.heap → s.heap.Ns env.locals m →
  wpAny (model prog w) A (isTrue e env (eval e env)) (fun r s' => r = b ∧ Keeps s s') E s
/-- the call of a value with these -/
def EvC (f : Value) (Rs : List VP) (R : VP) : Prop := ∀ s E vs, Kp g s.heap → VPs s.heap Rs vs →
  wpAny (model prog w) A (call f vs) (fun v s' => R.P s'.heap v ∧ Keeps s s') E s
end

section
variable {prog : Program} {w : World} {A : Around} {env : Env} {g : Heap} {m : Str → Option Value}

theorem Ev.weak {e : Expr} {R R' : VP} (h : Ev prog w A env g m e R) (q : ∀ h v, R.P h v → R'.P h v) : Ev prog w A env g m e R' :=
  fun s E k n => wpAny_mono (h s E k n) (fun _ _ x => ⟨q _ _ x.1, x.2⟩) fun _ _ y => y
theorem EvC.weak {f : Value} {Rs : List VP} {R R' : VP} (h : EvC prog w A g f Rs R) (q : ∀ h v, R.P h v → R'.P h v) : EvC prog w A g f Rs R' :=
  fun s E vs k n => wpAny_mono (h s E vs k n) (fun _ _ x => ⟨q _ _ x.1, x.2⟩) fun _ _ y => y

theorem ns_keeps {s s' : Shared} {L : Addr} (n : s.heap.Ns L m) (k : Keeps s s') : s'.heap.Ns L m := n.keeps (kp_of k)
theorem kp_step {s s' : Shared} (x : Kp g s.heap) (k : Keeps s s') : Kp g s'.heap := x.trans (kp_of k)

theorem ev_int {i : Int} {k : Nat} {pos : Pos} : Ev prog w A env g m (.Constant (.int i) k pos) (vInt i) :=
  fun s _ _ _ => wpAny_Constant_int ⟨⟨_, rfl⟩, keeps_tok s _⟩
theorem ev_bool {b : Bool} {k : Nat} {pos : Pos} : Ev prog w A env g m (.Constant (.bool b) k pos) (vBool b) :=
  fun s _ _ _ => wpAny_Constant_bool ⟨rfl, keeps_refl s⟩

theorem ev_local {x : Str} {pos : Pos} {v : Value} {R : VP} (hv : m x = some v) (r : R.P g v) (hk : env.scope.kind = .function := by rfl) (hl : env.kindOf x = some .local := by rfl)
    (hd : (x == ("__debug__" : Str)) = false := by decide) : Ev prog w A env g m (.Name x pos) R :=
  fun s _ k n => wpAny_Name (wpAny_loadName_local hk hl n hv ⟨R.st k r, keeps_refl s⟩) hd
theorem ev_free {x : Str} {pos : Pos} {c : Addr} {v : Value} {R : VP} (hc : env.cells.lookup x = some c) (hv : g.IsCell c (some v)) (r : R.P g v)
    (hk : env.scope.kind = .function := by rfl) (hl : env.kindOf x = some .free := by rfl)
    (hd : (x == ("__debug__" : Str)) = false := by decide) (hn : (x == ("__classdict__" : Str)) = false := by decide) : Ev prog w A env g m (.Name x pos) R :=
  fun s _ k _ => wpAny_Name (wpAny_loadName_free hk hl hc (hv.keeps k) ⟨R.st k r, keeps_refl s⟩ hn) hd
theorem ev_cell {x : Str} {pos : Pos} {c : Addr} {v : Value} {R : VP} (hc : env.cells.lookup x = some c) (hv : g.IsCell c (some v)) (r : R.P g v)
    (hk : env.scope.kind = .function := by rfl) (hl : env.kindOf x = some .cell := by rfl)
    (hd : (x == ("__debug__" : Str)) = false := by decide) : Ev prog w A env g m (.Name x pos) R :=
  fun s _ k _ => wpAny_Name (wpAny_loadName_cell hk hl hc (hv.keeps k) ⟨R.st k r, keeps_refl s⟩) hd
theorem ev_global {x : Str} {pos : Pos} {v : Value} {mg : Str → Option Value} (hg : g.Ns env.globals mg) (hv : mg x = some v)
    (hk : env.scope.kind = .function := by rfl) (hl : env.kindOf x = some .globalImplicit := by rfl)
    (hd : (x == ("__debug__" : Str)) = false := by decide) : Ev prog w A env g m (.Name x pos) (vIs v) :=
  fun s _ k _ => Name_function_global hk hl (loadGlobal_global (hg.keeps k) hv ⟨rfl, keeps_refl s⟩) hd
theorem ev_builtin {x : Str} {pos : Pos} {v : Value} {mg mb : Str → Option Value} (hg : g.Ns env.globals mg) (hm : mg x = none) (hb : g.Ns env.builtins mb) (hv : mb x = some v)
    (hk : env.scope.kind = .function := by rfl) (hl : env.kindOf x = some .globalImplicit := by rfl)
    (hd : (x == ("__debug__" : Str)) = false := by decide) : Ev prog w A env g m (.Name x pos) (vIs v) :=
  fun s _ k _ => Name_function_global hk hl (loadGlobal_builtin (hg.keeps k) hm (hb.keeps k) hv ⟨rfl, keeps_refl s⟩) hd

theorem evs_nil : Evs prog w A env g m [] [] := fun s _ _ _ _ => wpAny_items_nil ⟨trivial, keeps_refl s⟩
theorem evs_cons {e : Expr} {es : List Expr} {R : VP} {Rs : List VP} (h : Ev prog w A env g m e R) (hs : Evs prog w A env g m es Rs)
    (he : starEach (e :: es) env = (false, eval e env) :: starEach es env := by rfl) : Evs prog w A env g m (e :: es) (R :: Rs) :=
  fun s E pos k n => wpAny_items_cons (wpAny_mono (h s E k n) (fun _ s₁ h₁ => wpAny_mono (hs s₁ E pos (kp_step k h₁.2) (ns_keeps n h₁.2))
    (fun _ _ h₂ => ⟨⟨R.st (kp_of h₂.2) h₁.1, h₂.1⟩, keeps_trans h₁.2 h₂.2⟩) fun _ _ x => x) fun _ _ x => x) he

theorem lt_sizeLine {n : Nat} (h : n ≤ 1000) : n ≤ sizeLine := by rw [sizeLine_eq]; omega

theorem ev_tuple {es : List Expr} {Rs : List VP} {k : Nat} {pos : Pos} (h : Evs prog w A env g m es Rs) (hl : Rs.length ≤ 1000 := by exact Nat.le_of_ble_eq_true rfl) : Ev prog w A env g m (.Tuple es k pos) (vTup Rs) :=
  fun s E kp n => wpAny_Tuple (wpAny_mono (h s E pos kp n) (fun vs s₁ h₁ => ⟨lt_sizeLine (by rw [h₁.1.len]; exact hl),
    ⟨_, vs, rfl, ⟨_, Heap.get?_push_size _ rfl, rfl, _, rfl⟩, h₁.1.st (Kp.push _ _)⟩, keeps_trans h₁.2 (keeps_push _ _)⟩) fun _ _ x => x)
theorem ev_list {es : List Expr} {Rs : List VP} {pos : Pos} (h : Evs prog w A env g m es Rs) (hl : Rs.length ≤ 1000 := by exact Nat.le_of_ble_eq_true rfl) : Ev prog w A env g m (.List es pos) (vList Rs) :=
  fun s E kp n => wpAny_List (wpAny_mono (h s E pos kp n) (fun vs s₁ h₁ => ⟨lt_sizeLine (by rw [h₁.1.len]; exact hl),
    ⟨_, vs, rfl, ⟨_, Heap.get?_push_size _ rfl⟩, h₁.1.st (Kp.push _ _)⟩, keeps_trans h₁.2 (keeps_push _ _)⟩) fun _ _ x => x)

theorem ev_bin {l r : Expr} {op : Operator} {pos : Pos} {R S T : VP} (hl : Ev prog w A env g m l R) (hr : Ev prog w A env g m r S)
    (ho : ∀ s E a b, Kp g s.heap → R.P s.heap a → S.P s.heap b → wpAny (model prog w) A (binaryOp op a b) (fun v s' => T.P s'.heap v ∧ Keeps s s') E s) : Ev prog w A env g m (.BinOp l op r pos) T :=
  fun s E k n => wpAny_BinOp (wpAny_mono (hl s E k n) (fun a s₁ h₁ => wpAny_mono (hr s₁ E (kp_step k h₁.2) (ns_keeps n h₁.2))
    (fun b s₂ h₂ => wpAny_mono (ho s₂ E a b (kp_step (kp_step k h₁.2) h₂.2) (R.st (kp_of h₂.2) h₁.1) h₂.1) (fun _ _ h₃ => ⟨h₃.1, keeps_trans (keeps_trans h₁.2 h₂.2) h₃.2⟩) fun _ _ x => x) fun _ _ x => x) fun _ _ x => x)
theorem ev_add {l r : Expr} {pos : Pos} {a b : Int} (hl : Ev prog w A env g m l (vInt a)) (hr : Ev prog w A env g m r (vInt b)) : Ev prog w A env g m (.BinOp l .Add r pos) (vInt (a + b)) :=
  ev_bin hl hr fun s E x y _ hx hy => by
    obtain ⟨t, rfl⟩ := hx; obtain ⟨u, rfl⟩ := hy
    exact wpAny_add_int ⟨⟨_, rfl⟩, keeps_tok s _⟩
theorem ev_sub {l r : Expr} {pos : Pos} {a b : Int} (hl : Ev prog w A env g m l (vInt a)) (hr : Ev prog w A env g m r (vInt b)) : Ev prog w A env g m (.BinOp l .Sub r pos) (vInt (a - b)) :=
  ev_bin hl hr fun s E x y _ hx hy => by
    obtain ⟨t, rfl⟩ := hx; obtain ⟨u, rfl⟩ := hy
    exact PySem.P.sub_int ⟨⟨_, rfl⟩, keeps_tok s _⟩
theorem ev_mul {l r : Expr} {pos : Pos} {a b : Int} (hl : Ev prog w A env g m l (vInt a)) (hr : Ev prog w A env g m r (vInt b)) (hm : IntMulOk a b) : Ev prog w A env g m (.BinOp l .Mult r pos) (vInt (a * b)) :=
  ev_bin hl hr fun s E x y _ hx hy => by
    obtain ⟨t, rfl⟩ := hx; obtain ⟨u, rfl⟩ := hy
    exact PySem.P.mul_int ⟨⟨_, rfl⟩, keeps_tok s _⟩ hm
theorem ev_mod {l r : Expr} {pos : Pos} {a b : Int} (hl : Ev prog w A env g m l (vInt a)) (hr : Ev prog w A env g m r (vInt b)) (hb : b ≠ 0) : Ev prog w A env g m (.BinOp l .Mod r pos) (vInt (a.fmod b)) :=
  ev_bin hl hr fun s E x y _ hx hy => by
    obtain ⟨t, rfl⟩ := hx; obtain ⟨u, rfl⟩ := hy
    exact PyProof.Rows.mod_int hb ⟨⟨_, rfl⟩, keeps_tok s _⟩

theorem ev_cmp {l r : Expr} {op : CmpOp} {pos : Pos} {R S T : VP} (hl : Ev prog w A env g m l R) (hr : Ev prog w A env g m r S)
    (ho : ∀ s E a b, Kp g s.heap → R.P s.heap a → S.P s.heap b → wpAny (model prog w) A (compareOp op a b) (fun v s' => T.P s'.heap v ∧ Keeps s s') E s)
    (hm : behindInMarks op r = false := by with_unfolding_all rfl) : Ev prog w A env g m (.Compare l [op] [r] pos) T :=
  fun s E k n => wpAny_Compare1 (wpAny_mono (hl s E k n) (fun a s₁ h₁ => wpAny_mono (hr s₁ E (kp_step k h₁.2) (ns_keeps n h₁.2))
    (fun b s₂ h₂ => wpAny_mono (ho s₂ E a b (kp_step (kp_step k h₁.2) h₂.2) (R.st (kp_of h₂.2) h₁.1) h₂.1) (fun _ _ h₃ => ⟨h₃.1, keeps_trans (keeps_trans h₁.2 h₂.2) h₃.2⟩) fun _ _ x => x) fun _ _ x => x) fun _ _ x => x) hm
theorem evT_cmp {l r : Expr} {op : CmpOp} {pos : Pos} {R S : VP} {c : Bool} (hl : Ev prog w A env g m l R) (hr : Ev prog w A env g m r S)
    (ho : ∀ s E a b, Kp g s.heap → R.P s.heap a → S.P s.heap b → wpAny (model prog w) A (compareOp op a b) (fun v s' => v = .bool c ∧ Keeps s s') E s)
    (hm : behindInMarks op r = false := by with_unfolding_all rfl) : EvT prog w A env g m (.Compare l [op] [r] pos) c :=
  fun s E k n => wpAny_isTrue_Compare1 (wpAny_mono (hl s E k n) (fun a s₁ h₁ => wpAny_mono (hr s₁ E (kp_step k h₁.2) (ns_keeps n h₁.2))
    (fun b s₂ h₂ => wpAny_mono (ho s₂ E a b (kp_step (kp_step k h₁.2) h₂.2) (R.st (kp_of h₂.2) h₁.1) h₂.1)
      (fun v s₃ h₃ => by obtain ⟨rfl, h₃⟩ := h₃; exact wpAny_truthy_bool ⟨rfl, keeps_trans (keeps_trans h₁.2 h₂.2) h₃⟩) fun _ _ x => x) fun _ _ x => x) fun _ _ x => x) hm

theorem cmp_eq_int {a b : Int} : ∀ s E x y, Kp g s.heap → (vInt a).P s.heap x → (vInt b).P s.heap y → wpAny (model prog w) A (compareOp .Eq x y) (fun v s' => v = .bool (decide (a = b)) ∧ Keeps s s') E s := by
  rintro s E x y _ ⟨t, rfl⟩ ⟨u, rfl⟩
  exact PySem.P.eq_int ⟨by rw [Bool.beq_eq_decide_eq], keeps_refl s⟩
theorem cmp_ne_int {a b : Int} : ∀ s E x y, Kp g s.heap → (vInt a).P s.heap x → (vInt b).P s.heap y → wpAny (model prog w) A (compareOp .NotEq x y) (fun v s' => v = .bool (!decide (a = b)) ∧ Keeps s s') E s := by
  rintro s E x y _ ⟨t, rfl⟩ ⟨u, rfl⟩
  exact PySem.P.ne_int ⟨by rw [bne, Bool.beq_eq_decide_eq], keeps_refl s⟩
theorem cmp_eq_ints {ns ms : List Int} (hu : A.units + 64 < cLine) : ∀ s E x y, Kp g s.heap → (vList (ns.map vInt)).P s.heap x → (vList (ms.map vInt)).P s.heap y →
    wpAny (model prog w) A (compareOp .Eq x y) (fun v s' => v = .bool (decide (ns = ms)) ∧ Keeps s s') E s := by
  rintro s E x y _ ⟨a, vs, rfl, ha, hv⟩ ⟨b, us, rfl, hb, hw⟩
  exact ke_eq_ints ha.isList hb.isList (ints_of hv) (ints_of hw) hu ⟨rfl, keeps_refl s⟩
theorem cmp_ne_ints {ns ms : List Int} (hu : A.units + 64 < cLine) : ∀ s E x y, Kp g s.heap → (vList (ns.map vInt)).P s.heap x → (vList (ms.map vInt)).P s.heap y →
    wpAny (model prog w) A (compareOp .NotEq x y) (fun v s' => v = .bool (!decide (ns = ms)) ∧ Keeps s s') E s := by
  rintro s E x y _ ⟨a, vs, rfl, ha, hv⟩ ⟨b, us, rfl, hb, hw⟩
  exact ke_ne_ints ha.isList hb.isList (ints_of hv) (ints_of hw) hu ⟨rfl, keeps_refl s⟩
end
end Mine
open PySem PySem.W PySem.Calls PyProof.Rows
set_option Elab.async false
namespace Mine

/-- sorted by insertion -/
def ins (a : Int) : List Int → List Int
  | [] => [a]
  | b :: l => if a ≤ b then a :: b :: l else b :: ins a l
def srt : List Int → List Int
  | [] => []
  | a :: l => ins a (srt l)
theorem ins_perm (a : Int) : ∀ l, (ins a l).Perm (a :: l)
  | [] => .refl _
  | b :: l => by
    unfold ins
    split
    · exact .refl _
    · exact ((ins_perm a l).cons b).trans (.swap a b l)
theorem srt_perm : ∀ l, (srt l).Perm l
  | [] => .refl _
  | a :: l => (ins_perm a (srt l)).trans ((srt_perm l).cons a)
theorem ins_le {a : Int} : ∀ {l : List Int}, l.Pairwise (· ≤ ·) → (ins a l).Pairwise (· ≤ ·)
  | [], _ => List.pairwise_singleton _ _
  | b :: l, h => by
    unfold ins
    have h2 := List.pairwise_cons.mp h
    split
    · rename_i q
      refine List.pairwise_cons.mpr ⟨fun x hx => ?_, h⟩
      rcases List.mem_cons.mp hx with rfl | hx
      · exact q
      · exact Int.le_trans q (h2.1 x hx)
    · rename_i q
      refine List.pairwise_cons.mpr ⟨fun x hx => ?_, ins_le h2.2⟩
      rcases List.mem_cons.mp ((ins_perm a l).mem_iff.mp hx) with rfl | hx
      · omega
      · exact h2.1 x hx
theorem srt_le : ∀ l : List Int, (srt l).Pairwise (· ≤ ·)
  | [] => .nil
  | _ :: l => ins_le (srt_le l)
theorem sorted_unique {l l' : List Int} (p : l.Perm l') (h : l.Pairwise (· ≤ ·)) (h' : l'.Pairwise (· ≤ ·)) : l = l' :=
  p.eq_of_pairwise (fun _ _ _ _ x y => Int.le_antisymm x y) h h'

section
variable {prog : Program} {w : World} {A : Around} {env : Env} {g : Heap} {m : Str → Option Value}

theorem evC_len {Rs : List VP} (hl : Rs.length < 1000) : EvC prog w A g (.builtin "len") [vList Rs] (vInt Rs.length) := by
  rintro s E vs _ hv
  match vs, hv with
  | [v], ⟨⟨a, us, e, hp, hu⟩, _⟩ =>
    subst e
    refine PyProof.Rows.len_list hp.isList (by have := hu.len; simp only [List.size_toArray]; omega) ⟨⟨s.toks + 1, ?_⟩, keeps_tok s _⟩
    rw [List.size_toArray, hu.len]
theorem evC_sorted {ns : List Int} (hl : ns.length < 64) : EvC prog w A g (.builtin "sorted") [vList (ns.map vInt)] (vList ((srt ns).map vInt)) := by
  rintro s E vs _ hv
  match vs, hv with
  | [v], ⟨⟨a, us, e, hp, hu⟩, _⟩ =>
    subst e
    refine sorted_ints hp.isList (ints_of hu) (by have := hu.len; rw [List.length_map] at this; omega) fun out ns' hI hP hS => ?_
    obtain ⟨e, he⟩ := sortedAll_at s.heap us out
    refine ⟨⟨_, out.toList, rfl, ⟨e, by rw [he]⟩, ?_⟩, ⟨_, s.toks, rfl, fun _ _ => sortedAll_old⟩⟩
    have : srt ns = ns' := sorted_unique ((srt_perm ns).trans hP.symm) (srt_le ns) hS
    rw [this]
    exact of_ints hI
theorem evC_int {b : Bool} : EvC prog w A g (.type "int") [vBool b] (vInt (if b then 1 else 0)) := by
  rintro s E vs _ hv
  match vs, hv with
  | [v], ⟨e, _⟩ =>
    cases e
    exact call_int_bool ⟨⟨_, rfl⟩, keeps_tok s _⟩

def vRange (a b : Int) : VP := ⟨fun h v => ∃ r t u k, v = .ref r ∧ IsRange h r a b 1 t u k, fun k x => by obtain ⟨r, t, u, o, e, i⟩ := x; exact ⟨r, t, u, o, e, k _ _ i⟩⟩
theorem evC_range1 {n : Int} : EvC prog w A g (.type "range") [vInt n] (vRange 0 n) := by
  rintro s E vs _ hv
  match vs, hv with
  | [v], ⟨⟨t, e⟩, _⟩ =>
    subst e
    exact call_range_1 ⟨⟨_, _, _, _, rfl, Heap.get?_push_size _ rfl⟩, _, _, rfl, Kp.push _ _⟩
theorem evC_range2 {a b : Int} : EvC prog w A g (.type "range") [vInt a, vInt b] (vRange a b) := by
  rintro s E vs _ hv
  match vs, hv with
  | [v, u], ⟨⟨t, e⟩, ⟨t', e'⟩, _⟩ =>
    subst e e'
    exact call_range_2 ⟨⟨_, _, _, _, rfl, Heap.get?_push_size _ rfl⟩, _, _, rfl, Kp.push _ _⟩

theorem keywordEach_nil {pos : Pos} : backToKw pos (keywordEach [] env) = [] := rfl
theorem ev_callB {id : String} {f : Str} {p pos : Pos} {e : Expr} {es : List Expr} {Rs : List VP} {R : VP} (hf : Ev prog w A env g m (.Name f p) (vIs (.builtin id))) (hs : Evs prog w A env g m (e :: es) Rs)
    (hc : EvC prog w A g (.builtin id) Rs R) (hplain : (backTo pos (starEach (e :: es) env)).any (·.1) = false := by rfl) (he : starEach (e :: es) env = (false, eval e env) :: starEach es env := by rfl) :
    Ev prog w A env g m (.Call (.Name f p) (e :: es) [] pos) R := fun s E k n => by
  refine wpAny_Call_Name_kw (wpAny_mono (hf s E k n) (fun v s₁ h₁ => ?_) fun _ _ x => x)
  obtain ⟨e1, k₁⟩ := h₁
  cases e1
  rw [keywordEach_nil]
  refine callWith_builtin hplain ?_
  have z := hs s₁ E pos (kp_step k k₁) (ns_keeps n k₁)
  rw [he] at z ⊢
  refine evalArgs_plain (wpAny_mono z (fun vs s₂ h₂ => ?_) fun _ _ x => x)
  exact wpAny_mono (hc s₂ E vs (kp_step (kp_step k k₁) h₂.2) h₂.1) (fun v s₃ h₃ => ⟨h₃.1, keeps_trans (keeps_trans k₁ h₂.2) h₃.2⟩) fun _ _ x => x
theorem ev_callT {id : String} {f : Str} {p pos : Pos} {e : Expr} {es : List Expr} {Rs : List VP} {R : VP} (hf : Ev prog w A env g m (.Name f p) (vIs (.type id))) (hs : Evs prog w A env g m (e :: es) Rs)
    (hc : EvC prog w A g (.type id) Rs R) (hplain : (backTo pos (starEach (e :: es) env)).any (·.1) = false := by rfl) (he : starEach (e :: es) env = (false, eval e env) :: starEach es env := by rfl) :
    Ev prog w A env g m (.Call (.Name f p) (e :: es) [] pos) R := fun s E k n => by
  refine wpAny_Call_Name_kw (wpAny_mono (hf s E k n) (fun v s₁ h₁ => ?_) fun _ _ x => x)
  obtain ⟨e1, k₁⟩ := h₁
  cases e1
  rw [keywordEach_nil]
  refine PyProof.Rows.callWith_type hplain ?_
  have z := hs s₁ E pos (kp_step k k₁) (ns_keeps n k₁)
  rw [he] at z ⊢
  refine evalArgs_plain (wpAny_mono z (fun vs s₂ h₂ => ?_) fun _ _ x => x)
  exact wpAny_mono (hc s₂ E vs (kp_step (kp_step k k₁) h₂.2) h₂.1) (fun v s₃ h₃ => ⟨h₃.1, keeps_trans (keeps_trans k₁ h₂.2) h₃.2⟩) fun _ _ x => x
theorem ev_callF {a : Addr} {o : Obj} {fd : FuncData} {f : Str} {p pos : Pos} {e : Expr} {es : List Expr} {Rs : List VP} {R : VP} (hf : Ev prog w A env g m (.Name f p) (vIs (.ref a))) (hs : Evs prog w A env g m (e :: es) Rs)
    (ho : g.get? a = some o) (hd : o.data = .func fd)
    (hc : EvC prog w A g (.ref a) Rs R) (he : starEach (e :: es) env = (false, eval e env) :: starEach es env := by rfl) :
    Ev prog w A env g m (.Call (.Name f p) (e :: es) [] pos) R := fun s E k n => by
  refine wpAny_Call_Name_kw (wpAny_mono (hf s E k n) (fun v s₁ h₁ => ?_) fun _ _ x => x)
  obtain ⟨e1, k₁⟩ := h₁
  cases e1
  rw [keywordEach_nil]
  refine PyProof.Rows.callWith_def (o := o) hd (wpAny_mono (hs s₁ E pos (kp_step k k₁) (ns_keeps n k₁)) (fun vs s₂ h₂ => ?_) fun _ _ x => x) he
  refine ⟨kp_step (kp_step k k₁) h₂.2 _ _ ho, ?_⟩
  exact wpAny_mono (hc s₂ E vs (kp_step (kp_step k k₁) h₂.2) h₂.1) (fun v s₃ h₃ => ⟨h₃.1, keeps_trans (keeps_trans k₁ h₂.2) h₃.2⟩) fun _ _ x => x

theorem ev_sub_ {value slice : Expr} {pos : Pos} {R S T : VP} (hv : Ev prog w A env g m value R) (hs : Ev prog w A env g m slice S)
    (ho : ∀ s E a b, Kp g s.heap → R.P s.heap a → S.P s.heap b → wpAny (model prog w) A (subscriptTail value slice a b) (fun v s' => T.P s'.heap v ∧ Keeps s s') E s) : Ev prog w A env g m (.Subscript value slice pos) T :=
  fun s E k n => Subscript_ (wpAny_mono (hv s E k n) (fun a s₁ h₁ => wpAny_mono (hs s₁ E (kp_step k h₁.2) (ns_keeps n h₁.2))
    (fun b s₂ h₂ => wpAny_mono (ho s₂ E a b (kp_step (kp_step k h₁.2) h₂.2) (R.st (kp_of h₂.2) h₁.1) h₂.1) (fun _ _ h₃ => ⟨h₃.1, keeps_trans (keeps_trans h₁.2 h₂.2) h₃.2⟩) fun _ _ x => x) fun _ _ x => x) fun _ _ x => x)
theorem ev_item {value slice : Expr} {pos : Pos} {Rs : List VP} {R : VP} {k : Int} (hv : Ev prog w A env g m value (vList Rs)) (hs : Ev prog w A env g m slice (vInt k))
    (h0 : 0 ≤ k) (h1 : k < 1000) (hx : Rs[k.toNat]? = some R) (hsub : ∀ o i, subscripted slice false o i = operate [o, i] (getItem o i) := by intro _ _; with_unfolding_all rfl) :
    Ev prog w A env g m (.Subscript value slice pos) R :=
  ev_sub_ hv hs fun s E x y _ hx' hy => by
    obtain ⟨a, us, rfl, hp, hu⟩ := hx'
    obtain ⟨t, rfl⟩ := hy
    obtain ⟨v, hv, hr⟩ := hu.get hx
    exact tail_any hp.isList.typeIs slot_list_getitem.lookup (wpAny_getItem_list hp.isList h0 (by omega) (by simpa using hv) ⟨hr, keeps_refl s⟩) (hsub _ _)
theorem ev_item_neg {value slice : Expr} {pos : Pos} {Rs : List VP} {R : VP} {k : Int} (hv : Ev prog w A env g m value (vList Rs)) (hs : Ev prog w A env g m slice (vInt k))
    (h0 : k < 0) (h1 : -(Rs.length : Int) ≤ k) (h2 : Rs.length < 1000) (hx : Rs[(k + Rs.length).toNat]? = some R) (hsub : ∀ o i, subscripted slice false o i = operate [o, i] (getItem o i) := by intro _ _; with_unfolding_all rfl) :
    Ev prog w A env g m (.Subscript value slice pos) R :=
  ev_sub_ hv hs fun s E x y _ hx' hy => by
    obtain ⟨a, us, rfl, hp, hu⟩ := hx'
    obtain ⟨t, rfl⟩ := hy
    obtain ⟨v, hv, hr⟩ := hu.get hx
    have hl := hu.len
    refine tail_any hp.isList.typeIs slot_list_getitem.lookup (wpAny_getItem_list_neg hp.isList h0 (by rw [List.size_toArray, hl]; exact h1) (by omega) ?_ ⟨hr, keeps_refl s⟩) (hsub _ _)
    rw [List.size_toArray, hl]
    simpa using hv
theorem ev_itemT {value slice : Expr} {pos : Pos} {Rs : List VP} {R : VP} {k : Int} (hv : Ev prog w A env g m value (vTup Rs)) (hs : Ev prog w A env g m slice (vInt k))
    (h0 : 0 ≤ k) (h1 : k < 1000) (hl : k < Rs.length) (hx : Rs[k.toNat]? = some R) (hsub : ∀ o i, subscripted slice false o i = operate [o, i] (getItem o i) := by intro _ _; with_unfolding_all rfl) :
    Ev prog w A env g m (.Subscript value slice pos) R :=
  ev_sub_ hv hs fun s E x y _ hx' hy => by
    obtain ⟨a, us, rfl, hp, hu⟩ := hx'
    obtain ⟨t, rfl⟩ := hy
    obtain ⟨v, hv, hr⟩ := hu.get hx
    have hl' := hu.len
    refine item_tupleT (l := us) (j := k.toNat) hp (by omega) (by omega) ?_ hv ⟨hr, keeps_refl s⟩ (hsub _ _)
    unfold seqIndex?
    have hn : ¬ k < 0 := by omega
    have hlt : k < (us.length : Int) := by rw [hl']; exact hl
    simp [hn, h0, hlt]
end
end Mine
open PySem PySem.W PySem.Calls PyProof.Rows
set_option Elab.async false
namespace Mine

def KpN (N : List Addr) (h h' : Heap) : Prop := ∀ b o, b ∉ N → h.get? b = some o → h'.get? b = some o
theorem KpN.refl (N : List Addr) (h : Heap) : KpN N h h := fun _ _ _ e => e
theorem KpN.trans {N : List Addr} {a b c : Heap} (x : KpN N a b) (y : KpN N b c) : KpN N a c := fun p o q e => y p o q (x p o q e)
theorem KpN.of {N : List Addr} {a b : Heap} (x : Kp a b) : KpN N a b := fun p o _ e => x p o e
theorem KpN.mono {N N' : List Addr} {a b : Heap} (x : KpN N a b) (h : ∀ p ∈ N, p ∈ N') : KpN N' a b := fun p o q e => x p o (fun z => q (h p z)) e
theorem KpN.same {N : List Addr} {L : Addr} {a b : Heap} (x : Heap.SameBut L a b) (h : L ∈ N) : KpN N a b := fun p o q e => x.extBut p o (fun z => q (z ▸ h)) e
/-- what a heap does not hold may turn -/
theorem KpN.ground {N : List Addr} {g a b : Heap} (x : KpN N a b) (k : Kp g a) (h : ∀ p ∈ N, g.get? p = none) : Kp g b := fun p o e =>
  x p o (fun z => by rw [h p z] at e; cases e) (k p o e)
theorem KpN.at {N : List Addr} {a b : Heap} {p : Addr} {o : Obj} (x : KpN N a b) (h : p ∉ N) (e : a.get? p = some o) : b.get? p = some o := x p o h e
/-- the tuples stay -/
def IsT (o : Obj) : Prop := o.cls = .type "tuple" ∧ ∃ vs n, o.data = .seq vs n
def KpT (h h' : Heap) : Prop := ∀ b o, h.get? b = some o → IsT o → h'.get? b = some o
theorem KpT.refl (h : Heap) : KpT h h := fun _ _ e _ => e
theorem KpT.trans {a b c : Heap} (x : KpT a b) (y : KpT b c) : KpT a c := fun p o e q => y p o (x p o e q) q
theorem KpT.of {a b : Heap} (x : Kp a b) : KpT a b := fun p o e _ => x p o e
theorem KpT.ofN {N : List Addr} {a b : Heap} (x : KpN N a b) (h : ∀ p ∈ N, ∀ o, a.get? p = some o → ¬ IsT o) : KpT a b := fun p o e c =>
  x p o (fun z => h p z o e c) e
theorem ns_notT {h : Heap} {L : Addr} {m : Str → Option Value} (n : h.Ns L m) : ∀ o, h.get? L = some o → ¬ IsT o := by
  obtain ⟨o', es, ep, e', d, _⟩ := n
  rintro o e ⟨_, vs, k, d'⟩
  rw [e'] at e; cases e
  rw [d] at d'; cases d'
theorem list_notT {h : Heap} {D : Addr} {vs : Array Value} (n : h.PlainList D vs) : ∀ o, h.get? D = some o → ¬ IsT o := by
  obtain ⟨k, e'⟩ := n
  rintro o e ⟨c, _⟩
  rw [e'] at e; cases e
  simp at c
/-- a word that asks for tuples alone -/
def TupOk (R : VP) : Prop := ∀ {h h' v}, KpT h h' → R.P h v → R.P h' v
theorem TupOk.int (i : Int) : TupOk (vInt i) := fun _ x => x
theorem VPs.tup {h h' : Heap} (k : KpT h h') : ∀ {Rs : List VP} {vs : List Value}, (∀ R ∈ Rs, TupOk R) → VPs h Rs vs → VPs h' Rs vs
  | [], [], _, _ => trivial
  | R :: _, _ :: _, q, x => ⟨q R (.head _) k x.1, VPs.tup k (fun S hS => q S (.tail _ hS)) x.2⟩
theorem TupOk.tup {Rs : List VP} (q : ∀ R ∈ Rs, TupOk R) : TupOk (vTup Rs) := fun k x => by
  obtain ⟨a, vs, e, ⟨o, ho, hc, n, r⟩, y⟩ := x
  exact ⟨a, vs, e, ⟨o, k a o ho ⟨hc, _, n, r⟩, hc, n, r⟩, y.tup k q⟩
/-- the state stands as it was but for heap and tokens -/
def Rest (s s' : Shared) : Prop := ∃ h t, s' = { s with heap := h, toks := t }
theorem Rest.refl (s : Shared) : Rest s s := ⟨_, _, rfl⟩
theorem Rest.trans {a b c : Shared} (x : Rest a b) (y : Rest b c) : Rest a c := by
  obtain ⟨_, _, rfl⟩ := x; obtain ⟨h, t, rfl⟩ := y; exact ⟨h, t, rfl⟩
theorem Rest.of {s s' : Shared} (x : Keeps s s') : Rest s s' := by obtain ⟨h, t, e, _⟩ := x; exact ⟨h, t, e⟩
theorem keeps_of {s s' : Shared} (x : Rest s s') (k : Kp s.heap s'.heap) : Keeps s s' := by obtain ⟨h, t, rfl⟩ := x; exact ⟨h, t, rfl, k⟩
theorem Rest.set (s : Shared) (h : Heap) (t : Nat) : Rest s { s with heap := h, toks := t } := ⟨h, t, rfl⟩

section
variable {prog : Program} {w : World} {A : Around} {R : Result → Shared → Prop} {s : Shared}

/-- what a turn's end asks -/
def TurnEnd (R : Result → Shared → Prop) (c : Code) (again : Shared → Prop) (fin : Fin) (s : Shared) : Prop := match fin with
  | .done f => R (.ok f) s
  | .again c' => c' = c ∧ again s

theorem codeAny_turns {c : Code} {cenv : Env} {p : Pos} {NX : Sem (Option Value)} {N : Sem Fin} {T : Value → Sem Fin}
    (hq : c.quiet = true) (hA : A.under c = A)
    (hden : denote table c = (standAt p >>= fun _ => NX >>= fun r => match r with
      | none => N
      | some v => T v).onRaise (fun x => do noteFrame x cenv; theTreesLotGoes x))
    (I : Nat → Shared → Prop)
    (turn : ∀ n s E, I n s → wpAny (model prog w) A NX (fun r s₁ => match r with
      | none => wpAny (model prog w) A N (fun fin s₂ => match fin with | .done f => R (.ok f) s₂ | .again c' => c'.quiet = true ∧ codeAny (model prog w) A c' R s₂) E s₁
      | some v => wpAny (model prog w) A (T v) (TurnEnd R c (fun s₂ => ∃ k, k < n ∧ I k s₂)) E s₁) E s)
    (n : Nat) (h : I n s) : codeAny (model prog w) A c R s := by
  induction n using Nat.strongRecOn generalizing s with
  | ind n ih =>
    refine codeAny_of_tree ?_
    rw [hA]
    show wpAny _ A (denote table c) _ _ s
    rw [hden]
    refine wpAny_noted ?_
    refine wpAny_bind (wpAny_standAt (wpAny_bind (wpAny_mono (turn n s _ h) (fun r s₁ h₁ => ?_) fun _ _ h' => h')))
    cases r with
    | none => exact h₁
    | some v =>
      refine wpAny_mono h₁ (fun fin s₂ h₂ => ?_) fun _ _ h' => h'
      cases fin with
      | done f => exact h₂
      | again c' =>
        obtain ⟨rfl, k, hk, hI⟩ := h₂
        exact ⟨hq, ih k hk hI⟩

theorem comp_under {elt : Expr} {gens : List Comprehension} {scope : Scope} {pos : Pos} {d : Nat} {it acc : Value} {cenv : Env} :
    A.under (Code.compLoop (.ListComp elt gens scope pos) d it acc cenv) = A := Around.under_of_weight (by cases d <;> rfl) (by cases d <;> rfl)
theorem comp_frame {elt : Expr} {gens : List Comprehension} {scope : Scope} {pos : Pos} {d : Nat} {it acc : Value} {cenv : Env} :
    (Code.compLoop (.ListComp elt gens scope pos) d it acc cenv).isFrame = false := by cases d <;> rfl
theorem comp_denote {elt : Expr} {gens : List Comprehension} {scope : Scope} {pos : Pos} {d : Nat} {it acc : Value} {cenv : Env} :
    denote table (Code.compLoop (.ListComp elt gens scope pos) d it acc cenv) = (compTurn (.ListComp elt gens scope pos) d it acc cenv).onRaise (fun x => do noteFrame x cenv; theTreesLotGoes x) := by
  show (if (Code.compLoop (.ListComp elt gens scope pos) d it acc cenv).isFrame = true then (compTurn (.ListComp elt gens scope pos) d it acc cenv).onRaise (leaving cenv) else (compTurn (.ListComp elt gens scope pos) d it acc cenv).onRaise (fun x => do noteFrame x cenv; theTreesLotGoes x)) = _
  rw [comp_frame, if_neg (by decide)]

/-- a loop over a walked source -/
theorem walk_turns {c : Code} {cenv : Env} {p : Pos} {I : Addr} {NX : Sem (Option Value)} {N : Sem Fin} {T : Value → Sem Fin}
    {fp wr : List Addr} {n : Nat} {P : Nat → Value → Prop} {St : Nat → Heap → Prop}
    (hq : c.quiet = true) (hA : A.under c = A)
    (hden : denote table c = (standAt p >>= fun _ => NX >>= fun r => match r with
      | none => N
      | some v => T v).onRaise (fun x => do noteFrame x cenv; theTreesLotGoes x))
    (hNX : ∀ Q E s, (∀ E', wpAny (model prog w) A (pyNext (.ref I)) Q E' s) → wpAny (model prog w) A NX Q E s)
    (W : Walks prog w A I fp wr n P St) (J : Nat → Shared → Prop)
    (move : ∀ i s h' tk, J i s → St i s.heap → KpN wr s.heap h' → J i { s with heap := h', toks := tk })
    (turn : ∀ i v s E, i < n → P i v → St (i + 1) s.heap → J i s → wpAny (model prog w) A (T v) (TurnEnd R c (fun s₂ => St (i + 1) s₂.heap ∧ J (i + 1) s₂)) E s)
    (fin : ∀ s E, J n s → wpAny (model prog w) A N (fun fin s₂ => match fin with | .done f => R (.ok f) s₂ | .again c' => c'.quiet = true ∧ codeAny (model prog w) A c' R s₂) E s)
    (h0 : St 0 s.heap) (j0 : J 0 s) : codeAny (model prog w) A c R s := by
  refine codeAny_turns hq hA hden (fun k s => ∃ i, i ≤ n ∧ k = n + 1 - i ∧ St i s.heap ∧ J i s) ?_ (n + 1) ⟨0, Nat.zero_le _, rfl, h0, j0⟩
  rintro k s E ⟨i, hi, rfl, st, j⟩
  refine hNX _ _ _ fun E' => ?_
  by_cases hlt : i < n
  · refine W.item i s _ E' hlt st fun v h' tk hP st' hk => ?_
    refine wpAny_mono (turn i v _ E hlt hP st' (move i s h' tk j st fun b o hb e => hk b o hb e)) (fun fin s₂ h₂ => ?_) fun _ _ x => x
    cases fin with
    | done f => exact h₂
    | again c' => exact ⟨h₂.1, n + 1 - (i + 1), by omega, i + 1, hlt, rfl, h₂.2.1, h₂.2.2⟩
  · have : i = n := by omega
    subst this
    exact W.done s _ E' st fun h' tk hk => fin _ _ (move i s h' tk j st fun b o hb e => hk b o hb e)
end

section
variable (prog : Program) (w : World) (A : Around) (g : Heap)
/-- whatever is R can be walked, its items in turn are those of Rs -/
def Iter (R : VP) (Rs : List VP) : Prop := ∀ s E xv, Kp g s.heap → R.P s.heap xv →
  wpAny (model prog w) A (pyIter xv) (fun it s₂ => ∃ I fp wr P St, it = .ref I ∧ Walks prog w A I fp wr Rs.length P St ∧ St 0 s₂.heap ∧ (∀ b ∈ fp, b < s₂.heap.objs.size) ∧ (∀ b ∈ wr, s.heap.get? b = none) ∧
    (∀ i v, i < Rs.length → P i v → ∃ T, Rs[i]? = some T ∧ T.P s.heap v) ∧ (∀ i h, St i h → ∀ b ∈ wr, ∀ o, h.get? b = some o → ¬ IsT o) ∧ Keeps s s₂) E s
end

section
variable {prog : Program} {w : World} {A : Around} {g : Heap}

theorem get_fresh {h : Heap} {a : Addr} (ha : h.objs.size ≤ a) : h.get? a = none := by
  cases e : h.get? a with
  | none => rfl
  | some o => exact absurd (Heap.lt_size e) (Nat.not_lt.mpr ha)

theorem iter_list {Rs : List VP} (hh : A.handled = none) : Iter prog w A g (vList Rs) Rs := by
  rintro s E xv _ ⟨a, vs, rfl, hp, hv⟩
  refine wpAny_pyIter_list hp.isList ?_
  have ha : a < s.heap.objs.size := by obtain ⟨n, e⟩ := hp; exact Heap.lt_size e
  have hl : vs.toArray.size = Rs.length := by rw [List.size_toArray, hv.len]
  have W := Walks.list (prog := prog) (w := w) hh s.heap.objs.size a (Nat.ne_of_lt ha) vs.toArray
  rw [hl] at W
  refine ⟨_, _, _, _, _, rfl, W, ⟨⟨_, Heap.get?_push_size _ rfl, rfl, rfl⟩, hp.isList.push _⟩, ?_, ?_, ?_, ?_, keeps_push s _⟩
  · intro b hb
    rw [Heap.size_push]
    rcases List.mem_cons.mp hb with rfl | hb
    · exact Nat.lt_succ_self _
    · rw [List.mem_singleton.mp hb]; exact Nat.lt_succ_of_lt ha
  · intro b hb
    rw [List.mem_singleton.mp hb]; exact get_fresh (Nat.le_refl _)
  · intro i v _ hiv
    have hiv' : vs[i]? = some v := by simpa using hiv
    have hi : i < Rs.length := by rw [← hv.len]; exact (List.getElem?_eq_some_iff.mp hiv').1
    obtain ⟨u, hu, hr⟩ := hv.get (i := i) (R := Rs[i]) (by simp [hi])
    rw [hiv'] at hu; cases hu
    exact ⟨_, by simp [hi], hr⟩
  · rintro i h ⟨⟨o', e', c', _⟩, _⟩ b hb o e
    rw [List.mem_singleton.mp hb, e'] at e
    cases e
    rintro ⟨c, _⟩
    rw [c'] at c; simp at c
end
end Mine
open PySem PySem.W PySem.Calls PyProof.Rows
set_option Elab.async false
namespace Mine
section
variable {prog : Program} {w : World} {A : Around} {g : Heap}

theorem iter_tup {Rs : List VP} (hh : A.handled = none) : Iter prog w A g (vTup Rs) Rs := by
  rintro s E xv _ ⟨a, vs, rfl, hp, hv⟩
  refine wpAny_pyIter_tuple hp ?_
  have ha : a < s.heap.objs.size := by obtain ⟨o, e, _⟩ := hp; exact Heap.lt_size e
  have hl : vs.toArray.size = Rs.length := by rw [List.size_toArray, hv.len]
  have W := Walks.tuple (prog := prog) (w := w) hh s.heap.objs.size a (Nat.ne_of_lt ha) vs.toArray
  rw [hl] at W
  refine ⟨_, _, _, _, _, rfl, W, ⟨⟨_, Heap.get?_push_size _ rfl, rfl, rfl⟩, hp.push _⟩, ?_, ?_, ?_, ?_, keeps_push s _⟩
  · intro b hb
    rw [Heap.size_push]
    rcases List.mem_cons.mp hb with rfl | hb
    · exact Nat.lt_succ_self _
    · rw [List.mem_singleton.mp hb]; exact Nat.lt_succ_of_lt ha
  · intro b hb
    rw [List.mem_singleton.mp hb]; exact get_fresh (Nat.le_refl _)
  · intro i v _ hiv
    have hiv' : vs[i]? = some v := by simpa using hiv
    have hi : i < Rs.length := by rw [← hv.len]; exact (List.getElem?_eq_some_iff.mp hiv').1
    obtain ⟨u, hu, hr⟩ := hv.get (i := i) (R := Rs[i]) (by simp [hi])
    rw [hiv'] at hu; cases hu
    exact ⟨_, by simp [hi], hr⟩
  · rintro i h ⟨⟨o', e', c', _⟩, _⟩ b hb o e
    rw [List.mem_singleton.mp hb, e'] at e
    cases e
    rintro ⟨c, _⟩
    rw [c'] at c; simp at c

theorem rangeSize_one (a : Int) (n : Nat) : Builtin.Range.rangeSize a (a + n) 1 = n := by
  unfold Builtin.Range.rangeSize
  simp only [show (1 : Int) > 0 from by decide, if_true]
  split
  · rw [Int.ediv_one]; omega
  · omega
theorem small_range {a : Int} {n : Nat} (ha : 0 ≤ a) (ha' : a ≤ 1000) (hn : n ≤ 1000) : Builtin.Range.small a (a + n) 1 = true := by
  unfold Builtin.Range.small
  rw [rangeSize_one]
  simp only [Builtin.Range.rangeFitsLong, show (1 : Int) > 0 from by decide, if_true, Bool.and_eq_true, Bool.or_eq_true, decide_eq_true_eq, beq_iff_eq]
  omega
theorem iter_range {a : Int} {n : Nat} (hh : A.handled = none) (ha : 0 ≤ a) (ha' : a ≤ 1000) (hn : n ≤ 1000) : Iter prog w A g (vRange a (a + n)) ((List.range n).map fun (i : Nat) => vInt (a + i)) := by
  rintro s E xv _ ⟨r, t, u, o, rfl, hr⟩
  refine wpAny_pyIter_range hr (small_range ha ha' hn) ?_
  rw [rangeSize_one]
  have W := Walks.range (prog := prog) (w := w) hh s.heap.objs.size a 1 n
  refine ⟨s.heap.objs.size, _, _, _, _, rfl, by simpa using W, ?_, ?_, ?_, ?_, ?_, keeps_push s _⟩
  · show IsRangeIter _ _ _ _ _
    rw [show a + ((0 : Nat) : Int) = a from by simp, show (n : Int) - ((0 : Nat) : Int) = n from by simp]
    exact Heap.get?_push_size _ rfl
  · intro b hb
    rw [Heap.size_push, List.mem_singleton.mp hb]
    exact Nat.lt_succ_self _
  · intro b hb
    rw [List.mem_singleton.mp hb]; exact get_fresh (Nat.le_refl _)
  · rintro i v hi ⟨t, rfl⟩
    have hi' : i < n := by simpa using hi
    exact ⟨vInt (a + i), by simp [hi'], t, rfl⟩
  · intro i h st b hb o e
    have st' : IsRangeIter h s.heap.objs.size (a + i) (n - i) 1 := st
    rw [List.mem_singleton.mp hb, st'] at e
    cases e
    rintro ⟨c, _⟩
    simp at c
end
end Mine
open PySem PySem.W PySem.Calls PyProof.Rows
set_option Elab.async false
namespace Mine

def outs (b : Nat → Bool) (Ro : Nat → VP) : Nat → List VP
  | 0 => []
  | i + 1 => outs b Ro i ++ (if b i then [Ro i] else [])
theorem outs_len (b : Nat → Bool) (Ro : Nat → VP) : ∀ n, (outs b Ro n).length ≤ n
  | 0 => Nat.le_refl _
  | i + 1 => by
    have := outs_len b Ro i
    unfold outs
    rw [List.length_append]
    split <;> simp <;> omega
theorem outs_tup {b : Nat → Bool} {Ro : Nat → VP} (h : ∀ i, TupOk (Ro i)) : ∀ n, ∀ R ∈ outs b Ro n, TupOk R
  | 0, _, hm => nomatch hm
  | i + 1, R, hm => by
    unfold outs at hm
    rcases List.mem_append.mp hm with hm | hm
    · exact outs_tup h i R hm
    · split at hm
      · rw [List.mem_singleton.mp hm]; exact h i
      · exact nomatch hm

section
variable (prog : Program) (w : World) (A : Around) (env : Env) (g : Heap) (m : Str → Option Value)
def EvTs (ifs : List Expr) (b : Bool) : Prop := ∀ s E, Kp g s.heap → s.heap.Ns env.locals m →
  wpAny (model prog w) A (forIn ifs true fun c r => if r = true then do let ok ← isTrue c env (eval c env); pure (ForInStep.yield ok) else pure (ForInStep.yield r)) (fun r s' => r = b ∧ Keeps s s') E s
/-- a target takes the item: what the frame reads behind it -/
def AssignOk (tgt : Expr) (I : Addr) (wr : List Addr) (v : Value) (St : Heap → Prop) (Bd : (Str → Option Value) → Prop) : Prop := ∀ s E m, Kp g s.heap → s.heap.Ns env.locals m → St s.heap →
  wpAny (model prog w) A (letOwnedTupleGo tgt (.ref I) v) (fun _ s₁ => wpAny (model prog w) A (assign tgt env v) (fun _ s₂ => Rest s s₂ ∧ KpN (env.locals :: wr) s.heap s₂.heap ∧ KpT s.heap s₂.heap ∧ St s₂.heap ∧ ∃ m₂, s₂.heap.Ns env.locals m₂ ∧ Bd m₂) E s₁) E s
end

section
variable {prog : Program} {w : World} {A : Around} {env : Env} {g : Heap} {m : Str → Option Value}

theorem evTs_nil : EvTs prog w A env g m [] true := fun s _ _ _ => wpAny_tests_nil ⟨rfl, keeps_refl s⟩
theorem evTs_one {t : Expr} {b : Bool} (h : EvT prog w A env g m t b) : EvTs prog w A env g m [t] b := fun s E k n => wpAny_tests_one (h s E k n)

theorem ev_mono {g' : Heap} {e : Expr} {R : VP} (k : Kp g g') (h : Ev prog w A env g m e R) : Ev prog w A env g' m e R := fun s E k' n => h s E (k.trans k') n

theorem assign_name {x : Str} {px : Pos} {I : Addr} {wr : List Addr} {v : Value} {St : Heap → Prop} {Bd : (Str → Option Value) → Prop} (hx : env.kindOf x = some .local)
    (hp : (env.scope.kind == .class || (env.scope.kind == .module && env.locals != env.globals)) = false)
    (hst : ∀ h h', St h → Heap.SameBut env.locals h h' → St h') (hb : ∀ m : Str → Option Value, Bd (fun y => if y = x then some v else m y)) :
    AssignOk prog w A env g (.Name x px) I wr v St Bd := fun s E m _ n st => by
  refine wpAny_of_eq (a := ()) rfl ?_
  refine wpAny_assign_Name (wpAny_storeName_local hx n (fun h' n' hs => ?_) hp)
  exact ⟨⟨h', _, rfl⟩, KpN.same hs (.head _), KpT.ofN (KpN.same hs (List.Mem.head [])) (fun p hp' o e => by
    rw [List.mem_singleton.mp hp'] at e; exact ns_notT n o e), hst _ _ st hs, _, n', hb m⟩

theorem comp1_loop {elt tgt iter : Expr} {ifs : List Expr} {scope : Scope} {pos : Pos} {I D : Addr} {cenv : Env} {fp wr : List Addr} {n : Nat} {P : Nat → Value → Prop} {St : Nat → Heap → Prop} {s : Shared}
    {R : Result → Shared → Prop} (b : Nat → Bool) (Ro : Nat → VP) (Bd : Nat → (Str → Option Value) → Prop) (hn : n ≤ 1000)
    (W : Walks prog w A I fp wr n P St) (hD : D ∉ fp) (hC : cenv.locals ∉ fp) (hDC : D ≠ cenv.locals)
    (hgC : g.get? cenv.locals = none) (hgD : g.get? D = none) (hgw : ∀ p ∈ wr, g.get? p = none)
    (hwt : ∀ i h, St i h → ∀ p ∈ wr, ∀ o, h.get? p = some o → ¬ IsT o)
    (hro : ∀ i, TupOk (Ro i))
    (hass : ∀ i v, i < n → P i v → AssignOk prog w A cenv g tgt I wr v (St (i + 1)) (Bd i))
    (turn : ∀ i m₂, i < n → Bd i m₂ → EvTs prog w A cenv g m₂ ifs (b i) ∧ (b i = true → Ev prog w A cenv g m₂ elt (Ro i)))
    (hk : Kp g s.heap) (hm : s.heap.Ns cenv.locals m) (hl : s.heap.PlainList D #[]) (h0 : St 0 s.heap)
    (fin : ∀ s' m' ys, Rest s s' → Kp g s'.heap → s'.heap.Ns cenv.locals m' → s'.heap.PlainList D ys.toArray → VPs s'.heap (outs b Ro n) ys → R (.ok .next) s') :
    codeAny (model prog w) A (.compLoop (.ListComp elt [⟨tgt, iter, ifs, 0⟩] scope pos) 0 (.ref I) (.ref D) cenv) R s := by
  have hDw : D ∉ wr := fun z => hD (W.sub _ z)
  have hCw : cenv.locals ∉ wr := fun z => hC (W.sub _ z)
  refine walk_turns (cenv := cenv) (p := iter.pos) (NX := pyNext (.ref I)) rfl comp_under (by rw [comp_denote, compTurn_list]; rfl) (fun Q E s h => h E) W
    (fun i s' => Rest s s' ∧ Kp g s'.heap ∧ (∃ m', s'.heap.Ns cenv.locals m') ∧ ∃ ys, s'.heap.PlainList D ys.toArray ∧ VPs s'.heap (outs b Ro i) ys) ?_ ?_ ?_ h0
    ⟨Rest.refl s, hk, ⟨m, hm⟩, [], hl, trivial⟩
  · rintro i s' h' tk ⟨r, k, ⟨m', hn'⟩, ys, hp, hv⟩ st kn
    refine ⟨r.trans (Rest.set s' h' tk), kn.ground k hgw, ⟨m', hn'.at' fun o e => kn.at hCw e⟩, ys, hp.at fun o e => kn.at hDw e, hv.tup (KpT.ofN kn (hwt i _ st)) (outs_tup hro i)⟩
  · rintro i v s' E hi hP st ⟨r, k, ⟨m', hn'⟩, ys, hp, hv⟩
    refine wpAny_bind (wpAny_mono (hass i v hi hP s' E m' k hn' st) (fun _ s₁ h₁ => ?_) fun _ _ x => x)
    refine wpAny_bind (wpAny_mono h₁ (fun _ s₂ h₂ => ?_) fun _ _ x => x)
    obtain ⟨r₂, kn₂, kt₂, st₂, m₂, hn₂, hB⟩ := h₂
    have k₂ : Kp g s₂.heap := kn₂.ground k (fun p hp => by
      rcases List.mem_cons.mp hp with rfl | hp
      · exact hgC
      · exact hgw p hp)
    have hp₂ : s₂.heap.PlainList D ys.toArray := hp.at fun o e => kn₂.at (by
      intro z
      rcases List.mem_cons.mp z with z | z
      · exact hDC z
      · exact hDw z) e
    have hv₂ := hv.tup kt₂ (outs_tup hro i)
    obtain ⟨ht, he⟩ := turn i m₂ hi hB
    refine wpAny_bind (wpAny_mono (ht s₂ E k₂ hn₂) (fun ok s₃ h₃ => ?_) fun _ _ x => x)
    obtain ⟨rfl, k₃⟩ := h₃
    have kp₃ := kp_of k₃
    have st₃ : St (i + 1) s₃.heap := W.frame _ _ _ st₂ fun p _ o e => kp₃ p o e
    have hn₃ := ns_keeps hn₂ k₃
    have hp₃ : s₃.heap.PlainList D ys.toArray := hp₂.at fun o e => kp₃ _ o e
    cases hb : b i with
    | false =>
      refine wpAny_pure ⟨rfl, st₃, (r.trans r₂).trans (Rest.of k₃), k₂.trans kp₃, ⟨m₂, hn₃⟩, ys, hp₃, ?_⟩
      unfold outs
      rw [hb, if_neg (by decide), List.append_nil]
      exact hv₂.st kp₃
    | true =>
      refine wpAny_bind (wpAny_bind (wpAny_mono (he hb s₃ E (k₂.trans kp₃) hn₃) (fun x s₄ h₄ => ?_) fun _ _ x => x))
      obtain ⟨hx, k₄⟩ := h₄
      have kp₄ := kp_of k₄
      have hp₄ : s₄.heap.PlainList D ys.toArray := hp₃.at fun o e => kp₄ _ o e
      have hv₄ := (hv₂.st kp₃).st kp₄
      refine wpAny_bind (wpAny_list_append_plain hp₄ (fun h₅ hp₅ hs₅ => ?_) (by
        rw [List.size_toArray, hv.len]
        exact lt_sizeLine (Nat.le_trans (outs_len b Ro i) (by omega))))
      have kt₅ : KpT s₄.heap h₅ := KpT.ofN (KpN.same hs₅ (List.Mem.head [])) (fun p hp' o e => by
        rw [List.mem_singleton.mp hp'] at e; exact list_notT hp₄ o e)
      refine wpAny_pure (wpAny_pure ⟨rfl, ?_, ((r.trans r₂).trans (Rest.of k₃)).trans ((Rest.of k₄).trans (Rest.set s₄ h₅ _)), ?_, ⟨m₂, (ns_keeps hn₃ k₄).sameBut hs₅ (Ne.symm hDC)⟩, ys ++ [x], ?_, ?_⟩)
      · exact W.frame _ _ _ st₃ fun p hp o e => hs₅.extBut p o (fun z => hD (z ▸ hp)) (kp₄ p o e)
      · exact (KpN.same hs₅ (List.Mem.head [])).ground ((k₂.trans kp₃).trans kp₄) (fun p hp => by rw [List.mem_singleton.mp hp]; exact hgD)
      · have : (ys ++ [x]).toArray = ys.toArray.push x := by simp
        rw [this]; exact hp₅
      · unfold outs
        rw [hb, if_pos rfl]
        exact (hv₄.tup kt₅ (outs_tup hro i)).snoc (hro i kt₅ hx)
  · rintro s' E ⟨r, k, ⟨m', hn'⟩, ys, hp, hv⟩
    exact wpAny_pure (fin s' m' ys r k hn' hp hv)
end
end Mine
open PySem PySem.W PySem.Calls PyProof.Rows
set_option Elab.async false
namespace Mine
section
variable {prog : Program} {w : World} {A : Around} {env : Env} {g : Heap} {m : Str → Option Value}

theorem comp_core {elt tgt iter : Expr} {ifs : List Expr} {rest : List Comprehension} {scope : Scope} {pos : Pos} {cl : List (Str × Addr)} {I : Addr} {s₂ : Shared} {E : Value → Shared → Prop} {RR : Value → Addr → Result → Shared → Prop}
    (hcell : ∀ y ∈ scope.names, y.2 ≠ .cell) (hkind : scope.kind = .function)
    (self : ∀ h tk (Q : Value → Shared → Prop) E, Kp s₂.heap h → Q (.ref I) { s₂ with heap := h, toks := tk } → wpAny (model prog w) A (pyIter (.ref I)) Q E { s₂ with heap := h, toks := tk })
    (loop : ∀ D C h tk, s₂.heap.objs.size ≤ D → s₂.heap.objs.size ≤ C → D ≠ C → Kp s₂.heap h → h.PlainList D #[] → h.Ns C (fun _ => none) →
      codeAny (model prog w) A (.compLoop (.ListComp elt (⟨tgt, iter, ifs, 0⟩ :: rest) scope pos) 0 (.ref I) (.ref D) (compEnvC scope cl C env)) (RR (.ref D) C) { s₂ with heap := h, toks := tk }) :
    wpAny (model prog w) A (newList []) (fun acc s₃ => wpAny (model prog w) A (newFunctionEnv scope env.globals cl [] env.qual none .none (some env)) (fun cenv s₄ =>
      codeAny (model prog w) A (.compStart (.ListComp elt (⟨tgt, iter, ifs, 0⟩ :: rest) scope pos) 0 (.ref I) acc { cenv with scope := relabel scope env }) (RR acc cenv.locals) s₄) E s₃) E s₂ := by
  refine wpAny_newObj_type (wpAny_newFunctionEnv hcell (by intro y hy; simp at hy) (fun h₁ hns₁ hsb₁ => ?_) hkind)
  dsimp only at hns₁ hsb₁ ⊢
  generalize hH2 : s₂.heap.push { cls := .type "list", dict := none, data := .seq ([] : List Value).toArray } = H2 at hns₁ hsb₁ ⊢
  have hC : H2.objs.size = s₂.heap.objs.size + 1 := by rw [← hH2, Heap.size_push]
  have hDC : s₂.heap.objs.size ≠ H2.objs.size := by rw [hC]; exact Nat.ne_of_lt (Nat.lt_succ_self _)
  have hCle : s₂.heap.objs.size ≤ H2.objs.size := by rw [hC]; exact Nat.le_succ _
  have old : Kp s₂.heap h₁ := fun b o e => hsb₁.extBut b o (by rw [hC]; exact Nat.ne_of_lt (Nat.lt_succ_of_lt (Heap.lt_size e))) (Heap.get?_push_of_some _ (hH2 ▸ Heap.get?_push_of_some _ e))
  have hacc : h₁.PlainList s₂.heap.objs.size #[] := ⟨_, hsb₁.extBut _ _ hDC (Heap.get?_push_of_some _ (hH2 ▸ Heap.get?_push_size _ rfl))⟩
  have lp := fun tk => loop s₂.heap.objs.size H2.objs.size h₁ tk (Nat.le_refl _) hCle hDC old hacc (by simpa using hns₁)
  exact codeAny_compStart_list (lp _) (self h₁ _ _ _ old (lp _))

theorem get_none_of_le {h : Heap} {a : Addr} (ha : h.objs.size ≤ a) : h.get? a = none := get_fresh ha

/-- a comprehension of one clause, its target a name -/
theorem ev_comp1 {elt iter : Expr} {x : Str} {px : Pos} {ifs : List Expr} {scope : Scope} {pos : Pos} {cl : List (Str × Addr)} {Ri : VP} {Rs : List VP} {b : Nat → Bool} {Ro : Nat → VP}
    (hi : Ev prog w A env g m iter Ri) (hit : Iter prog w A g Ri Rs) (hn : Rs.length ≤ 1000) (hro : ∀ i, TupOk (Ro i))
    (turn : ∀ C g₁ i T m₂ v, Kp g g₁ → Rs[i]? = some T → T.P g₁ v → m₂ x = some v →
      EvTs prog w A (compEnvC scope cl C env) g₁ m₂ ifs (b i) ∧ (b i = true → Ev prog w A (compEnvC scope cl C env) g₁ m₂ elt (Ro i)))
    (hclos : closureFor scope env = pure cl := by rfl) (hcell : ∀ y ∈ scope.names, y.2 ≠ .cell := by decide) (hkind : scope.kind = .function := by rfl)
    (hnames : ∀ y ∈ scope.names, y.2 = .local → scope.names.lookup y.1 = some .local := by decide) (hx : scope.names.lookup x = some .local := by rfl)
    (hs : ∀ x, foldedSetIterable iter env x = pure x := by intro _; rfl) :
    Ev prog w A env g m (.ListComp elt [⟨.Name x px, iter, ifs, 0⟩] scope pos) (vList (outs b Ro Rs.length)) := fun s E k n => by
  rw [eval_ListComp]
  refine wpAny_comprehension_free (use := none) rfl hs hclos hkind hnames (wpAny_mono (hi s E k n) (fun xv s₁ h₁ => ?_) fun _ _ e => e)
  obtain ⟨hxv, k₁⟩ := h₁
  have kg₁ : Kp g s₁.heap := k.trans (kp_of k₁)
  refine wpAny_mono (hit s₁ E xv kg₁ hxv) (fun it s₂ h₂ => ?_) fun _ _ e => e
  obtain ⟨I, fp, wr, P, St, rfl, W, st, hfp, hw, hP, hwt, k₂⟩ := h₂
  have kp₂ := kp_of k₂
  refine comp_core (RR := fun acc C => compPost (model prog w) A E none _ acc C) hcell hkind (fun h tk Q E' kh q => W.self 0 _ _ _ (W.frame _ _ _ st fun p _ o e => kh p o e) q) ?_
  intro D C h tk hD hC hDC kh hl hns
  have hsz : s₁.heap.objs.size ≤ s₂.heap.objs.size ∨ True := .inr trivial
  have hDf : D ∉ fp := fun z => Nat.lt_irrefl _ (Nat.lt_of_lt_of_le (hfp _ z) hD)
  have hCf : C ∉ fp := fun z => Nat.lt_irrefl _ (Nat.lt_of_lt_of_le (hfp _ z) hC)
  have none_of : ∀ a, s₂.heap.objs.size ≤ a → s₁.heap.get? a = none := fun a ha => by
    cases e : s₁.heap.get? a with
    | none => rfl
    | some o => have := kp₂ a o e; rw [get_fresh ha] at this; cases this
  refine comp1_loop (g := s₁.heap) (cenv := compEnvC scope cl C env) b Ro (fun i m₂ => ∃ v T, m₂ x = some v ∧ Rs[i]? = some T ∧ T.P s₁.heap v) hn W hDf hCf hDC
    (none_of C hC) (none_of D hD) hw hwt hro ?_ ?_ (kp₂.trans kh) hns hl (W.frame _ _ _ st fun p _ o e => kh p o e) ?_
  · intro i v hi' hPv
    refine assign_name (lookup_relabel_local hx) (by simp [compEnvC, relabel, hkind]) (fun h h' st hs => W.frame _ _ _ st fun p hp o e => hs.extBut p o (fun z => hCf (by have z' : p = C := z; rw [← z']; exact hp)) e) fun m' => ?_
    obtain ⟨T, hT, hTv⟩ := hP i v hi' hPv
    exact ⟨v, T, by simp, hT, hTv⟩
  · rintro i m₂ _ ⟨v, T, hm₂, hT, hTv⟩
    exact turn C s₁.heap i T m₂ v kg₁ hT hTv hm₂
  · intro s' m' ys r kp hn' hp hv
    refine ⟨m', hn', fun h' hs' => ?_⟩
    obtain ⟨h₅, t₅, rfl⟩ := r
    have kt : KpT h₅ h' := KpT.ofN (KpN.same hs' (List.Mem.head [])) (fun p hp' o e => by rw [List.mem_singleton.mp hp'] at e; exact ns_notT hn' o e)
    refine ⟨⟨D, ys, rfl, hp.at fun o e => hs'.extBut D o hDC e, hv.tup kt (outs_tup hro _)⟩, ?_⟩
    obtain ⟨h₁, t₁, rfl, kk₁⟩ := k₁
    obtain ⟨h₂, t₂, rfl, kk₂⟩ := k₂
    refine ⟨h', t₅, rfl, ?_⟩
    exact (KpN.same hs' (List.Mem.head [])).ground (fun b o e => kp b o (kk₁ b o e)) (fun p hp' => by
      rw [List.mem_singleton.mp hp']
      cases e : s.heap.get? C with
      | none => rfl
      | some o => have := kk₁ C o e; have z := none_of C hC; simp only at z; rw [z] at this; cases this)
end
end Mine
open PySem PySem.W PySem.Calls PyProof.Rows
set_option Elab.async false
namespace Mine
section
variable {prog : Program} {w : World} {A : Around} {env : Env} {g : Heap} {m : Str → Option Value}

theorem compTurn_two0 (elt t0 i0 t1 i1 : Expr) (scope : Scope) (pos : Pos) (it acc : Value) (env : Env) :
    compTurn (.ListComp elt [⟨t0, i0, [], 0⟩, ⟨t1, i1, [], 0⟩] scope pos) 0 it acc env = (standAt i0.pos >>= fun _ => pyNext it >>= fun r => match r with
      | none => pure (.done .next)
      | some v => letOwnedTupleGo t0 it v >>= fun _ => assign t0 env v >>= fun _ =>
        eval i1 env >>= fun x => standAt i1.pos >>= fun _ => foldedSetIterable i1 env x >>= fun x => holding [x] (pyIter x) >>= fun it' =>
          runOwn (.compStart (.ListComp elt [⟨t0, i0, [], 0⟩, ⟨t1, i1, [], 0⟩] scope pos) 1 it' acc env) env >>= fun _ =>
          again (.compLoop (.ListComp elt [⟨t0, i0, [], 0⟩, ⟨t1, i1, [], 0⟩] scope pos) 0 it acc env)) := by rfl
theorem compTurn_two1 (elt t0 i0 t1 i1 : Expr) (scope : Scope) (pos : Pos) (it acc : Value) (env : Env) :
    compTurn (.ListComp elt [⟨t0, i0, [], 0⟩, ⟨t1, i1, [], 0⟩] scope pos) 1 it acc env = (standAt i1.pos >>= fun _ => pyNext it >>= fun r => match r with
      | none => pure (.done .next)
      | some v => letOwnedTupleGo t1 it v >>= fun _ => assign t1 env v >>= fun _ =>
        (eval elt env >>= fun x => call (.builtin "list.append") [acc, x] >>= fun _ => pure ()) >>= fun _ =>
          again (.compLoop (.ListComp elt [⟨t0, i0, [], 0⟩, ⟨t1, i1, [], 0⟩] scope pos) 1 it acc env)) := by rfl

theorem compStart_two1 {elt t0 i0 t1 i1 : Expr} {scope : Scope} {pos : Pos} {it acc : Value} {env : Env} {R : Result → Shared → Prop} {s : Shared}
    (h0 : codeAny (model prog w) A (.compLoop (.ListComp elt [⟨t0, i0, [], 0⟩, ⟨t1, i1, [], 0⟩] scope pos) 1 it acc env) R s)
    (h : ∀ E, wpAny (model prog w) A (pyIter it) (fun it' s' => codeAny (model prog w) A (.compLoop (.ListComp elt [⟨t0, i0, [], 0⟩, ⟨t1, i1, [], 0⟩] scope pos) 1 it' acc env) R s') E s) :
    codeAny (model prog w) A (.compStart (.ListComp elt [⟨t0, i0, [], 0⟩, ⟨t1, i1, [], 0⟩] scope pos) 1 it acc env) R s := by
  refine codeAny_of_tree ?_
  rw [show A.under (Code.compStart (.ListComp elt [⟨t0, i0, [], 0⟩, ⟨t1, i1, [], 0⟩] scope pos) 1 it acc env) = A from Around.under_of_weight rfl rfl]
  show wpAny _ _ ((compStart (.ListComp elt [⟨t0, i0, [], 0⟩, ⟨t1, i1, [], 0⟩] scope pos) 1 it acc env).onRaise (fun x => do noteFrame x env; standAt theWindowsPlace)) _ _ s
  refine wpAny_notedAt ?_
  unfold compStart
  show wpAny _ _ (ask >>= _) _ _ s
  refine wpAny_bind (wpAny_askSetting (wpAny_ite ?_))
  split
  · first
      | exact wpAny_bind (wpAny_pure (wpAny_pure (And.intro rfl h0)))
      | exact wpAny_pure (And.intro rfl h0)
  · first
      | exact wpAny_bind (wpAny_rule (wpAny_bind (wpAny_standAt (wpAny_bind (wpAny_mono (h _) (fun it' s' h' => wpAny_pure (And.intro rfl h')) fun _ _ x => x)))))
      | (refine wpAny_bind (wpAny_rule ?_); show wpAny _ _ (standAt i1.pos >>= _) _ _ s; exact wpAny_bind (wpAny_standAt (wpAny_bind (wpAny_mono (h _) (fun it' s' h' => wpAny_pure (And.intro rfl h')) fun _ _ x => x))))

/-- the inner loop of two -/
theorem comp2_inner {elt t0 i0 i1 : Expr} {x : Str} {px : Pos} {scope : Scope} {pos : Pos} {I D : Addr} {cenv : Env} {fp wr : List Addr} {n : Nat} {P : Nat → Value → Prop} {St : Nat → Heap → Prop} {s : Shared}
    {R : Result → Shared → Prop} (M : (Str → Option Value) → Prop) (ks : Nat → Int) (Ro : Nat → VP) (O : List VP) (ys₀ : List Value) (hn : n ≤ 1000) (hO : O.length ≤ 1000)
    (W : Walks prog w A I fp wr n P St) (hD : D ∉ fp) (hC : cenv.locals ∉ fp) (hDC : D ≠ cenv.locals)
    (hgC : g.get? cenv.locals = none) (hgD : g.get? D = none) (hgw : ∀ p ∈ wr, g.get? p = none)
    (hwt : ∀ i h, St i h → ∀ p ∈ wr, ∀ o, h.get? p = some o → ¬ IsT o)
    (hro : ∀ i, TupOk (Ro i)) (hOt : ∀ R ∈ O, TupOk R)
    (hP : ∀ i v, i < n → P i v → (vInt (ks i)).P g v)
    (hx : cenv.kindOf x = some .local) (hp : (cenv.scope.kind == .class || (cenv.scope.kind == .module && cenv.locals != cenv.globals)) = false)
    (hM : ∀ m v, M m → M (fun y => if y = x then some v else m y))
    (turn : ∀ i m₂ v, i < n → M m₂ → (vInt (ks i)).P g v → m₂ x = some v → Ev prog w A cenv g m₂ elt (Ro i))
    (hk : Kp g s.heap) (hm : s.heap.Ns cenv.locals m) (hMm : M m) (hl : s.heap.PlainList D ys₀.toArray) (hv₀ : VPs s.heap O ys₀) (h0 : St 0 s.heap)
    (fin : ∀ s' m' ys, Rest s s' → Kp g s'.heap → s'.heap.Ns cenv.locals m' → M m' → s'.heap.PlainList D ys.toArray → VPs s'.heap (O ++ outs (fun _ => true) Ro n) ys → KpN (cenv.locals :: D :: wr) s.heap s'.heap → R (.ok .next) s') :
    codeAny (model prog w) A (.compLoop (.ListComp elt [⟨t0, i0, [], 0⟩, ⟨.Name x px, i1, [], 0⟩] scope pos) 1 (.ref I) (.ref D) cenv) R s := by
  have hDw : D ∉ wr := fun z => hD (W.sub _ z)
  have hCw : cenv.locals ∉ wr := fun z => hC (W.sub _ z)
  have hot : ∀ i, ∀ R ∈ O ++ outs (fun _ => true) Ro i, TupOk R := fun i R hR => by
    rcases List.mem_append.mp hR with h | h
    · exact hOt R h
    · exact outs_tup hro i R h
  refine walk_turns (cenv := cenv) (p := i1.pos) (NX := pyNext (.ref I)) rfl comp_under (by rw [comp_denote, compTurn_two1] <;> rfl) (fun Q E s h => h E) W
    (fun i s' => Rest s s' ∧ Kp g s'.heap ∧ (∃ m', s'.heap.Ns cenv.locals m' ∧ M m') ∧ (∃ ys, s'.heap.PlainList D ys.toArray ∧ VPs s'.heap (O ++ outs (fun _ => true) Ro i) ys) ∧ KpN (cenv.locals :: D :: wr) s.heap s'.heap) ?_ ?_ ?_ h0
    ⟨Rest.refl s, hk, ⟨m, hm, hMm⟩, ⟨ys₀, hl, by simpa [outs] using hv₀⟩, KpN.refl _ _⟩
  · rintro i s' h' tk ⟨r, k, ⟨m', hn', hM'⟩, ⟨ys, hp, hv⟩, q⟩ st kn
    refine ⟨r.trans (Rest.set s' h' tk), kn.ground k hgw, ⟨m', hn'.at' fun o e => kn.at hCw e, hM'⟩, ⟨ys, hp.at fun o e => kn.at hDw e, hv.tup (KpT.ofN kn (hwt i _ st)) (hot i)⟩, q.trans (kn.mono fun p hp => .tail _ (.tail _ hp))⟩
  · rintro i v s' E hi hPv st ⟨r, k, ⟨m', hn', hM'⟩, ⟨ys, hpl, hv⟩, q⟩
    refine wpAny_bind (wpAny_of_eq (a := ()) rfl ?_)
    refine wpAny_bind (wpAny_assign_Name (wpAny_storeName_local hx hn' (fun h₂ hn₂ hs₂ => ?_) hp))
    have k₂ : Kp g h₂ := (KpN.same hs₂ (List.Mem.head [])).ground k (fun p hp' => by rw [List.mem_singleton.mp hp']; exact hgC)
    have kt₂ : KpT s'.heap h₂ := KpT.ofN (KpN.same hs₂ (List.Mem.head [])) (fun p hp' o e => by rw [List.mem_singleton.mp hp'] at e; exact ns_notT hn' o e)
    have hp₂ : h₂.PlainList D ys.toArray := hpl.at fun o e => hs₂.extBut D o hDC e
    have hv₂ := hv.tup kt₂ (hot i)
    have st₂ : St (i + 1) h₂ := W.frame _ _ _ st fun p hp' o e => hs₂.extBut p o (fun z => hC (z ▸ hp')) e
    have he := turn i _ v hi (hM m' v hM') (hP i v hi hPv) (by simp)
    refine wpAny_bind (wpAny_bind (wpAny_mono (he _ E k₂ hn₂) (fun y s₄ h₄ => ?_) fun _ _ x => x))
    obtain ⟨hy, k₄⟩ := h₄
    have kp₄ : Kp h₂ s₄.heap := kp_of k₄
    have hp₄ : s₄.heap.PlainList D ys.toArray := hp₂.at fun o e => kp₄ _ o e
    have hv₄ := hv₂.st kp₄
    refine wpAny_bind (wpAny_list_append_plain hp₄ (fun h₅ hp₅ hs₅ => ?_) (by
      rw [List.size_toArray, hv.len, List.length_append, sizeLine_eq]
      have := outs_len (fun _ => true) Ro i
      omega))
    have kt₅ : KpT s₄.heap h₅ := KpT.ofN (KpN.same hs₅ (List.Mem.head [])) (fun p hp' o e => by
      rw [List.mem_singleton.mp hp'] at e; exact list_notT hp₄ o e)
    refine wpAny_pure (wpAny_pure ⟨rfl, ?_, (r.trans (Rest.set s' h₂ _)).trans ((Rest.of k₄).trans (Rest.set s₄ h₅ _)), ?_, ⟨_, (ns_keeps hn₂ k₄).sameBut hs₅ (Ne.symm hDC), hM m' v hM'⟩, ⟨ys ++ [y], ?_, ?_⟩, ?_⟩)
    · exact W.frame _ _ _ st₂ fun p hp' o e => hs₅.extBut p o (fun z => hD (z ▸ hp')) (kp₄ p o e)
    · exact (KpN.same hs₅ (List.Mem.head [])).ground (k₂.trans kp₄) (fun p hp' => by rw [List.mem_singleton.mp hp']; exact hgD)
    · have : (ys ++ [y]).toArray = ys.toArray.push y := by simp
      rw [this]; exact hp₅
    · have e : O ++ outs (fun _ => true) Ro (i + 1) = (O ++ outs (fun _ => true) Ro i) ++ [Ro i] := by
        rw [List.append_assoc]; rfl
      rw [e]
      exact (hv₄.tup kt₅ (hot i)).snoc (hro i kt₅ hy)
    · exact q.trans ((KpN.same hs₂ (.head _)).trans ((KpN.of kp₄).trans (KpN.same hs₅ (.tail _ (.head _)))))
  · rintro s' E ⟨r, k, ⟨m', hn', hM'⟩, ⟨ys, hp, hv⟩, q⟩
    exact wpAny_pure (fin s' m' ys r k hn' hM' hp hv q)
end
end Mine
open PySem PySem.W PySem.Calls PyProof.Rows
set_option Elab.async false
namespace Mine

section
variable (prog : Program) (w : World) (A : Around) (g : Heap)
/-- as Iter, of ints, and all that is walked is new -/
def IterF (R : VP) (n : Nat) (ks : Nat → Int) : Prop := ∀ s E xv, Kp g s.heap → R.P s.heap xv →
  wpAny (model prog w) A (pyIter xv) (fun it s₂ => ∃ I fp wr P St, it = .ref I ∧ Walks prog w A I fp wr n P St ∧ St 0 s₂.heap ∧ (∀ b ∈ fp, b < s₂.heap.objs.size) ∧ (∀ b ∈ fp, s.heap.get? b = none) ∧
    (∀ i v, i < n → P i v → ∃ t, v = .int (ks i) t) ∧ (∀ i h, St i h → ∀ b ∈ wr, ∀ o, h.get? b = some o → ¬ IsT o) ∧ Keeps s s₂) E s
end
section
variable {prog : Program} {w : World} {A : Around} {env : Env} {g : Heap} {m : Str → Option Value}

theorem iterF_range {a : Int} {n : Nat} (hh : A.handled = none) (ha : 0 ≤ a) (ha' : a ≤ 1000) (hn : n ≤ 1000) : IterF prog w A g (vRange a (a + n)) n (fun i => a + i) := by
  rintro s E xv _ ⟨r, t, u, o, rfl, hr⟩
  refine wpAny_pyIter_range hr (small_range ha ha' hn) ?_
  rw [rangeSize_one]
  have W := Walks.range (prog := prog) (w := w) hh s.heap.objs.size a 1 n
  refine ⟨s.heap.objs.size, _, _, _, _, rfl, W, ?_, ?_, ?_, ?_, ?_, keeps_push s _⟩
  · show IsRangeIter _ _ _ _ _
    rw [show a + ((0 : Nat) : Int) * 1 = a from by simp, show (n : Int) - ((0 : Nat) : Int) = n from by simp]
    exact Heap.get?_push_size _ rfl
  · intro b hb
    rw [Heap.size_push, List.mem_singleton.mp hb]
    exact Nat.lt_succ_self _
  · intro b hb
    rw [List.mem_singleton.mp hb]; exact get_fresh (Nat.le_refl _)
  · rintro i v hi ⟨t, rfl⟩
    exact ⟨t, by rw [Int.mul_one]⟩
  · intro i h st b hb o e
    have st' : IsRangeIter h s.heap.objs.size (a + i * 1) (n - i) 1 := st
    rw [List.mem_singleton.mp hb, st'] at e
    cases e
    rintro ⟨c, _⟩
    simp at c

def outs2 (cnt : Nat → Nat) (Ro : Nat → Nat → VP) : Nat → List VP
  | 0 => []
  | i + 1 => outs2 cnt Ro i ++ outs (fun _ => true) (Ro i) (cnt i)
theorem outs2_tup {cnt : Nat → Nat} {Ro : Nat → Nat → VP} (h : ∀ i j, TupOk (Ro i j)) : ∀ n, ∀ R ∈ outs2 cnt Ro n, TupOk R
  | 0, _, hm => nomatch hm
  | i + 1, R, hm => by
    unfold outs2 at hm
    rcases List.mem_append.mp hm with hm | hm
    · exact outs2_tup h i R hm
    · exact outs_tup (h i) _ R hm

theorem mark_none (A : Around) : A.mark none = A := rfl

theorem comp2_loop {elt i0 i1 : Expr} {x0 x1 : Str} {p0 p1 : Pos} {scope : Scope} {pos : Pos} {I D : Addr} {cenv : Env} {fp wr : List Addr} {n : Nat} {P : Nat → Value → Prop} {St : Nat → Heap → Prop} {s : Shared}
    {R : Result → Shared → Prop} (k0 : Nat → Int) (cnt : Nat → Nat) (ks : Nat → Nat → Int) (Ri : Nat → VP) (Ro : Nat → Nat → VP) (hc : ∀ i, i < n → cnt i ≤ 1000) (hlen : ∀ i, i ≤ n → (outs2 cnt Ro i).length ≤ 1000)
    (W : Walks prog w A I fp wr n P St) (hD : D ∉ fp) (hC : cenv.locals ∉ fp) (hDC : D ≠ cenv.locals)
    (hgC : g.get? cenv.locals = none) (hgD : g.get? D = none) (hgw : ∀ p ∈ wr, g.get? p = none)
    (hwt : ∀ i h, St i h → ∀ p ∈ wr, ∀ o, h.get? p = some o → ¬ IsT o)
    (hro : ∀ i j, TupOk (Ro i j))
    (hP : ∀ i v, i < n → P i v → ∃ t, v = .int (k0 i) t)
    (hx0 : cenv.kindOf x0 = some .local) (hx1 : cenv.kindOf x1 = some .local) (hxx : x0 ≠ x1) (hp : (cenv.scope.kind == .class || (cenv.scope.kind == .module && cenv.locals != cenv.globals)) = false)
    (hs1 : ∀ x, foldedSetIterable i1 cenv x = pure x)
    (hi : ∀ i m₂ t, i < n → m₂ x0 = some (.int (k0 i) t) → Ev prog w A cenv g m₂ i1 (Ri i) ∧ IterF prog w A g (Ri i) (cnt i) (ks i))
    (turn : ∀ i j m₂ t u, i < n → j < cnt i → m₂ x0 = some (.int (k0 i) t) → m₂ x1 = some (.int (ks i j) u) → Ev prog w A cenv g m₂ elt (Ro i j))
    (hk : Kp g s.heap) (hm : s.heap.Ns cenv.locals m) (hl : s.heap.PlainList D #[]) (h0 : St 0 s.heap)
    (fin : ∀ s' m' ys, Rest s s' → Kp g s'.heap → s'.heap.Ns cenv.locals m' → s'.heap.PlainList D ys.toArray → VPs s'.heap (outs2 cnt Ro n) ys → R (.ok .next) s') :
    codeAny (model prog w) A (.compLoop (.ListComp elt [⟨.Name x0 p0, i0, [], 0⟩, ⟨.Name x1 p1, i1, [], 0⟩] scope pos) 0 (.ref I) (.ref D) cenv) R s := by
  have hDw : D ∉ wr := fun z => hD (W.sub _ z)
  have hCw : cenv.locals ∉ wr := fun z => hC (W.sub _ z)
  refine walk_turns (cenv := cenv) (p := i0.pos) (NX := pyNext (.ref I)) rfl comp_under (by rw [comp_denote, compTurn_two0] <;> rfl) (fun Q E s h => h E) W
    (fun i s' => i ≤ n ∧ Rest s s' ∧ Kp g s'.heap ∧ (∃ m', s'.heap.Ns cenv.locals m') ∧ ∃ ys, s'.heap.PlainList D ys.toArray ∧ VPs s'.heap (outs2 cnt Ro i) ys) ?_ ?_ ?_ h0
    ⟨Nat.zero_le _, Rest.refl s, hk, ⟨m, hm⟩, [], hl, trivial⟩
  · rintro i s' h' tk ⟨hin, r, k, ⟨m', hn'⟩, ys, hp, hv⟩ st kn
    exact ⟨hin, r.trans (Rest.set s' h' tk), kn.ground k hgw, ⟨m', hn'.at' fun o e => kn.at hCw e⟩, ys, hp.at fun o e => kn.at hDw e, hv.tup (KpT.ofN kn (hwt i _ st)) (outs2_tup hro i)⟩
  · rintro i v s' E hi' hPv st ⟨_, r, k, ⟨m', hn'⟩, ys, hpl, hv⟩
    obtain ⟨t, rfl⟩ := hP i v hi' hPv
    refine wpAny_bind (wpAny_of_eq (a := ()) rfl ?_)
    refine wpAny_bind (wpAny_assign_Name (wpAny_storeName_local hx0 hn' (fun h₂ hn₂ hs₂ => ?_) hp))
    have k₂ : Kp g h₂ := (KpN.same hs₂ (List.Mem.head [])).ground k (fun p hp' => by rw [List.mem_singleton.mp hp']; exact hgC)
    have kt₂ : KpT s'.heap h₂ := KpT.ofN (KpN.same hs₂ (List.Mem.head [])) (fun p hp' o e => by rw [List.mem_singleton.mp hp'] at e; exact ns_notT hn' o e)
    have hp₂ : h₂.PlainList D ys.toArray := hpl.at fun o e => hs₂.extBut D o hDC e
    have hv₂ := hv.tup kt₂ (outs2_tup hro i)
    have st₂ : St (i + 1) h₂ := W.frame _ _ _ st fun p hp' o e => hs₂.extBut p o (fun z => hC (z ▸ hp')) e
    obtain ⟨hev, hit⟩ := hi i (fun y => if y = x0 then some (.int (k0 i) t) else m' y) t hi' (by simp)
    refine wpAny_bind (wpAny_mono (hev _ E k₂ hn₂) (fun xv s₃ h₃ => ?_) fun _ _ x => x)
    obtain ⟨hxv, k₃⟩ := h₃
    have kp₃ : Kp h₂ s₃.heap := kp_of k₃
    refine wpAny_bind (wpAny_standAt (wpAny_bind (wpAny_of_eq (hs1 xv) (wpAny_bind (wpAny_holding ?_)))))
    refine wpAny_mono (hit s₃ E xv (k₂.trans kp₃) hxv) (fun it s₄ h₄ => ?_) fun _ _ x => x
    obtain ⟨I', fp', wr', P', St', rfl, W', st₄, hfp', hf', hP', hwt', k₄⟩ := h₄
    have kp₄ : Kp s₃.heap s₄.heap := kp_of k₄
    have hn₄ := ns_keeps (ns_keeps hn₂ k₃) k₄
    have kp₂₄ : Kp h₂ s₄.heap := kp₃.trans kp₄
    have hp₄ : s₄.heap.PlainList D ys.toArray := hp₂.at fun o e => kp₂₄ _ o e
    have hv₄ := hv₂.st kp₂₄
    have hD' : D ∉ fp' := fun z => by
      obtain ⟨q, e⟩ := hp₂
      have := kp₃ _ _ e
      rw [hf' D z] at this; cases this
    have hC' : cenv.locals ∉ fp' := fun z => by
      obtain ⟨o, _, _, e, _⟩ := hn₂
      have := kp₃ _ _ e
      rw [hf' _ z] at this; cases this
    have none₂ : ∀ p ∈ wr', h₂.get? p = none := fun p hp' => by
      cases e : h₂.get? p with
      | none => rfl
      | some o => have := kp₃ p o e; rw [hf' p (W'.sub p hp')] at this; cases this
    have noneg : ∀ p ∈ wr', g.get? p = none := fun p hp' => by
      cases e : g.get? p with
      | none => rfl
      | some o => have := k₂ p o e; rw [none₂ p hp'] at this; cases this
    refine wpAny_bind (wpAny_runOwn (hc := ?_))
    rw [mark_none]
    have lp : codeAny (model prog w) A (.compLoop (.ListComp elt [⟨.Name x0 p0, i0, [], 0⟩, ⟨.Name x1 p1, i1, [], 0⟩] scope pos) 1 (.ref I') (.ref D) cenv) (fun r s' => match r with
        | .ok f => (fun _ s₂ => wpAny (model prog w) A (again (.compLoop (.ListComp elt [⟨.Name x0 p0, i0, [], 0⟩, ⟨.Name x1 p1, i1, [], 0⟩] scope pos) 0 (.ref I) (.ref D) cenv))
            (TurnEnd R (.compLoop (.ListComp elt [⟨.Name x0 p0, i0, [], 0⟩, ⟨.Name x1 p1, i1, [], 0⟩] scope pos) 0 (.ref I) (.ref D) cenv) (fun s₂ => St (i + 1) s₂.heap ∧ i + 1 ≤ n ∧ Rest s s₂ ∧ Kp g s₂.heap ∧ (∃ m', s₂.heap.Ns cenv.locals m') ∧ ∃ ys, s₂.heap.PlainList D ys.toArray ∧ VPs s₂.heap (outs2 cnt Ro (i + 1)) ys)) E s₂) f s'
        | .error e => cameBackBy (model prog w) A cenv E e s') s₄ := by
      refine comp2_inner (t0 := .Name x0 p0) (i0 := i0) (fun m₃ => m₃ x0 = some (.int (k0 i) t)) (ks i) (Ro i) (outs2 cnt Ro i) ys (hc i hi') (hlen i (Nat.le_of_lt hi')) W' hD' hC' hDC hgC hgD noneg hwt' (hro i) (outs2_tup hro i)
        (fun j u hj hu => hP' j u hj hu) hx1 hp (fun m₃ u h => by simp [hxx, h]) (fun j m₃ u hj h3 hu hb => ?_) (k₂.trans kp₂₄) hn₄ (by simp) hp₄ hv₄ st₄ ?_
      · obtain ⟨u', rfl⟩ := hu
        exact turn i j m₃ t u' hi' hj h3 hb
      · rintro s₅ m₅ ys₅ r₅ k₅ hn₅ _ hp₅ hv₅ q₅
        refine wpAny_pure ⟨rfl, ?_, hi', ?_, k₅, ⟨m₅, hn₅⟩, ys₅, hp₅, hv₅⟩
        · refine W.frame _ _ _ st₂ fun p hp' o e => q₅ p o ?_ (kp₂₄ p o e)
          intro z
          rcases List.mem_cons.mp z with z | z
          · exact hC (z ▸ hp')
          · rcases List.mem_cons.mp z with z | z
            · exact hD (z ▸ hp')
            · rw [none₂ p z] at e; cases e
        · exact ((r.trans (Rest.set s' h₂ _)).trans (Rest.of k₃)).trans ((Rest.of k₄).trans r₅)
    exact compStart_two1 lp (fun E' => W'.self 0 _ _ _ st₄ lp)
  · rintro s' E ⟨_, r, k, ⟨m', hn'⟩, ys, hp, hv⟩
    exact wpAny_pure (fin s' m' ys r k hn' hp hv)
end
end Mine
open PySem PySem.W PySem.Calls PyProof.Rows
set_option Elab.async false
namespace Mine
section
variable {prog : Program} {w : World} {A : Around} {env : Env} {g : Heap} {m : Str → Option Value}

theorem comp2_all {elt i0 i1 : Expr} {x0 x1 : Str} {p0 p1 : Pos} {scope : Scope} {pos : Pos} {cl : List (Str × Addr)} {R0 : VP} {n : Nat} {s : Shared} {E : Value → Shared → Prop}
    {use : Option (Value → Sem Unit)} {Q : Value → Shared → Prop}
    (k0 : Nat → Int) (cnt : Nat → Nat) (ks : Nat → Nat → Int) (Ri : Nat → VP) (Ro : Nat → Nat → VP) (hc : ∀ i, i < n → cnt i ≤ 1000) (hlen : ∀ i, i ≤ n → (outs2 cnt Ro i).length ≤ 1000)
    (hi0 : Ev prog w A env g m i0 R0) (hit0 : IterF prog w A g R0 n k0)
    (hro : ∀ i j, TupOk (Ro i j)) (hxx : x0 ≠ x1)
    (hi : ∀ C g₁ i m₂ t, Kp g g₁ → i < n → m₂ x0 = some (.int (k0 i) t) → Ev prog w A (compEnvC scope cl C env) g₁ m₂ i1 (Ri i) ∧ IterF prog w A g₁ (Ri i) (cnt i) (ks i))
    (turn : ∀ C g₁ i j m₂ t u, Kp g g₁ → i < n → j < cnt i → m₂ x0 = some (.int (k0 i) t) → m₂ x1 = some (.int (ks i j) u) → Ev prog w A (compEnvC scope cl C env) g₁ m₂ elt (Ro i j))
    (hclos : closureFor scope env = pure cl) (hcell : ∀ y ∈ scope.names, y.2 ≠ .cell) (hkind : scope.kind = .function)
    (hnames : ∀ y ∈ scope.names, y.2 = .local → scope.names.lookup y.1 = some .local) (hx0 : scope.names.lookup x0 = some .local) (hx1 : scope.names.lookup x1 = some .local)
    (hs : ∀ x, foldedSetIterable i0 env x = pure x) (hs1 : ∀ C x, foldedSetIterable i1 (compEnvC scope cl C env) x = pure x)
    (k : Kp g s.heap) (hn : s.heap.Ns env.locals m)
    (fin : ∀ s' C D m' ys, Rest s s' → Kp s.heap s'.heap → s'.heap.Ns C m' → s.heap.get? C = none → s.heap.get? D = none → D ≠ C → s'.heap.PlainList D ys.toArray → VPs s'.heap (outs2 cnt Ro n) ys → compPost (model prog w) A E use Q (.ref D) C (.ok .next) s') :
    wpAny (model prog w) A (comprehension (.ListComp elt [⟨.Name x0 p0, i0, [], 0⟩, ⟨.Name x1 p1, i1, [], 0⟩] scope pos) scope env (firstIterPos [⟨.Name x0 p0, i0, [], 0⟩, ⟨.Name x1 p1, i1, [], 0⟩] pos) (newList []) false (eval i0 env) use) Q E s := by
  refine wpAny_comprehension_free rfl hs hclos hkind hnames (wpAny_mono (hi0 s E k hn) (fun xv s₁ h₁ => ?_) fun _ _ e => e)
  obtain ⟨hxv, k₁⟩ := h₁
  have kg₁ : Kp g s₁.heap := k.trans (kp_of k₁)
  refine wpAny_mono (hit0 s₁ E xv kg₁ hxv) (fun it s₂ h₂ => ?_) fun _ _ e => e
  obtain ⟨I, fp, wr, P, St, rfl, W, st, hfp, hw, hP, hwt, k₂⟩ := h₂
  have kp₂ := kp_of k₂
  refine comp_core (RR := fun acc C => compPost (model prog w) A E use Q acc C) hcell hkind (fun h tk Q E' kh q => W.self 0 _ _ _ (W.frame _ _ _ st fun p _ o e => kh p o e) q) ?_
  intro D C h tk hD hC hDC kh hl hns
  have hDf : D ∉ fp := fun z => Nat.lt_irrefl _ (Nat.lt_of_lt_of_le (hfp _ z) hD)
  have hCf : C ∉ fp := fun z => Nat.lt_irrefl _ (Nat.lt_of_lt_of_le (hfp _ z) hC)
  have none_of : ∀ a, s₂.heap.objs.size ≤ a → s₁.heap.get? a = none := fun a ha => by
    cases e : s₁.heap.get? a with
    | none => rfl
    | some o => have := kp₂ a o e; rw [get_fresh ha] at this; cases this
  have none_of0 : ∀ a, s₂.heap.objs.size ≤ a → s.heap.get? a = none := fun a ha => by
    cases e : s.heap.get? a with
    | none => rfl
    | some o => have := kp_of k₁ a o e; rw [none_of a ha] at this; cases this
  refine comp2_loop (g := s₁.heap) (cenv := compEnvC scope cl C env) k0 cnt ks Ri Ro hc hlen W hDf hCf hDC (none_of C hC) (none_of D hD) (fun p hp => hw p (W.sub p hp)) hwt hro hP
    (lookup_relabel_local hx0) (lookup_relabel_local hx1) hxx (by simp [compEnvC, relabel, hkind]) (hs1 C)
    (fun i m₂ t h1 h2 => hi C _ i m₂ t kg₁ h1 h2) (fun i j m₂ t u h1 h2 h3 h4 => turn C _ i j m₂ t u kg₁ h1 h2 h3 h4) (kp₂.trans kh) hns hl (W.frame _ _ _ st fun p _ o e => kh p o e) ?_
  intro s' m' ys r kp hn' hp hv
  exact fin s' C D m' ys ((Rest.of k₁).trans ((Rest.of k₂).trans ((Rest.set s₂ h tk).trans r))) ((kp_of k₁).trans kp) hn' (none_of0 C hC) (none_of0 D hD) hDC hp hv

theorem ev_comp2 {elt i0 i1 : Expr} {x0 x1 : Str} {p0 p1 : Pos} {scope : Scope} {pos : Pos} {cl : List (Str × Addr)} {R0 : VP} {n : Nat}
    (k0 : Nat → Int) (cnt : Nat → Nat) (ks : Nat → Nat → Int) (Ri : Nat → VP) (Ro : Nat → Nat → VP) (hc : ∀ i, i < n → cnt i ≤ 1000) (hlen : ∀ i, i ≤ n → (outs2 cnt Ro i).length ≤ 1000)
    (hi0 : Ev prog w A env g m i0 R0) (hit0 : IterF prog w A g R0 n k0)
    (hro : ∀ i j, TupOk (Ro i j)) (hxx : x0 ≠ x1)
    (hi : ∀ C g₁ i m₂ t, Kp g g₁ → i < n → m₂ x0 = some (.int (k0 i) t) → Ev prog w A (compEnvC scope cl C env) g₁ m₂ i1 (Ri i) ∧ IterF prog w A g₁ (Ri i) (cnt i) (ks i))
    (turn : ∀ C g₁ i j m₂ t u, Kp g g₁ → i < n → j < cnt i → m₂ x0 = some (.int (k0 i) t) → m₂ x1 = some (.int (ks i j) u) → Ev prog w A (compEnvC scope cl C env) g₁ m₂ elt (Ro i j))
    (hclos : closureFor scope env = pure cl := by rfl) (hcell : ∀ y ∈ scope.names, y.2 ≠ .cell := by decide) (hkind : scope.kind = .function := by rfl)
    (hnames : ∀ y ∈ scope.names, y.2 = .local → scope.names.lookup y.1 = some .local := by decide) (hx0 : scope.names.lookup x0 = some .local := by rfl) (hx1 : scope.names.lookup x1 = some .local := by rfl)
    (hs : ∀ x, foldedSetIterable i0 env x = pure x := by intro _; rfl) (hs1 : ∀ C x, foldedSetIterable i1 (compEnvC scope cl C env) x = pure x := by intro _ _; rfl) :
    Ev prog w A env g m (.ListComp elt [⟨.Name x0 p0, i0, [], 0⟩, ⟨.Name x1 p1, i1, [], 0⟩] scope pos) (vList (outs2 cnt Ro n)) := fun s E k hn => by
  rw [eval_ListComp]
  refine comp2_all (use := none) k0 cnt ks Ri Ro hc hlen hi0 hit0 hro hxx hi turn hclos hcell hkind hnames hx0 hx1 hs hs1 k hn ?_
  intro s' C D m' ys r kp hn' hgC hgD hDC hp hv
  refine ⟨m', hn', fun h' hs' => ?_⟩
  have kt : KpT s'.heap h' := KpT.ofN (KpN.same hs' (List.Mem.head [])) (fun p hp' o e => by rw [List.mem_singleton.mp hp'] at e; exact ns_notT hn' o e)
  refine ⟨⟨D, ys, rfl, hp.at fun o e => hs'.extBut D o hDC e, hv.tup kt (outs2_tup hro _)⟩, keeps_of (r.trans (Rest.set s' h' _)) ?_⟩
  exact (KpN.same hs' (List.Mem.head [])).ground kp (fun p hp' => by rw [List.mem_singleton.mp hp']; exact hgC)

theorem st_comp2 {elt i0 i1 : Expr} {x0 x1 y : Str} {p0 p1 py spos : Pos} {scope : Scope} {pos : Pos} {cl : List (Str × Addr)} {R0 : VP} {n : Nat}
    (k0 : Nat → Int) (cnt : Nat → Nat) (ks : Nat → Nat → Int) (Ri : Nat → VP) (Ro : Nat → Nat → VP) (hc : ∀ i, i < n → cnt i ≤ 1000) (hlen : ∀ i, i ≤ n → (outs2 cnt Ro i).length ≤ 1000)
    (hi0 : Ev prog w A env g m i0 R0) (hit0 : IterF prog w A g R0 n k0)
    (hro : ∀ i j, TupOk (Ro i j)) (hxx : x0 ≠ x1)
    (hi : ∀ C g₁ i m₂ t, Kp g g₁ → i < n → m₂ x0 = some (.int (k0 i) t) → Ev prog w A (compEnvC scope cl C env) g₁ m₂ i1 (Ri i) ∧ IterF prog w A g₁ (Ri i) (cnt i) (ks i))
    (turn : ∀ C g₁ i j m₂ t u, Kp g g₁ → i < n → j < cnt i → m₂ x0 = some (.int (k0 i) t) → m₂ x1 = some (.int (ks i j) u) → Ev prog w A (compEnvC scope cl C env) g₁ m₂ elt (Ro i j))
    {s : Shared} {E : Value → Shared → Prop} (k : Kp g s.heap) (hn : s.heap.Ns env.locals m)
    (hsw : swapsWith (.ListComp elt [⟨.Name x0 p0, i0, [], 0⟩, ⟨.Name x1 p1, i1, [], 0⟩] scope pos) (some (.Name y py)) spos.line env = pure true := by rfl)
    (hy : env.kindOf y = some .local := by rfl) (hp : (env.scope.kind == .class || (env.scope.kind == .module && env.locals != env.globals)) = false := by rfl)
    (hclos : closureFor scope env = pure cl := by rfl) (hcell : ∀ y ∈ scope.names, y.2 ≠ .cell := by decide) (hkind : scope.kind = .function := by rfl)
    (hnames : ∀ y ∈ scope.names, y.2 = .local → scope.names.lookup y.1 = some .local := by decide) (hx0 : scope.names.lookup x0 = some .local := by rfl) (hx1 : scope.names.lookup x1 = some .local := by rfl)
    (hs : ∀ x, foldedSetIterable i0 env x = pure x := by intro _; rfl) (hs1 : ∀ C x, foldedSetIterable i1 (compEnvC scope cl C env) x = pure x := by intro _ _; rfl) :
    wpAny (model prog w) A (exec (.Assign [.Name y py] (.ListComp elt [⟨.Name x0 p0, i0, [], 0⟩, ⟨.Name x1 p1, i1, [], 0⟩] scope pos) spos) env)
      (fun f s' => f = .next ∧ Rest s s' ∧ KpN [env.locals] s.heap s'.heap ∧ ∃ v, (vList (outs2 cnt Ro n)).P s'.heap v ∧ s'.heap.Ns env.locals (fun z => if z = y then some v else m z)) E s := by
  rw [exec_Assign_Name_used _ _ _ _ hsw]
  refine wpAny_bind (wpAny_standAt (wpAny_bind ?_))
  show wpAny _ A (do let _ ← comprehension (.ListComp elt [⟨.Name x0 p0, i0, [], 0⟩, ⟨.Name x1 p1, i1, [], 0⟩] scope pos) scope env (firstIterPos [⟨.Name x0 p0, i0, [], 0⟩, ⟨.Name x1 p1, i1, [], 0⟩] pos) (newList []) false (eval i0 env) (some (assign (.Name y py) env))) _ _ s
  refine wpAny_bind (wpAny_mono (comp2_all (use := some (assign (.Name y py) env)) (Q := fun _ s' => Rest s s' ∧ KpN [env.locals] s.heap s'.heap ∧ ∃ v, (vList (outs2 cnt Ro n)).P s'.heap v ∧ s'.heap.Ns env.locals (fun z => if z = y then some v else m z))
    k0 cnt ks Ri Ro hc hlen hi0 hit0 hro hxx hi turn hclos hcell hkind hnames hx0 hx1 hs hs1 k hn ?_) (fun _ s' hq => wpAny_pure (wpAny_pure ⟨rfl, hq⟩)) fun _ _ e => e)
  intro s' C D m' ys r kp hn' hgC hgD hDC hpl hv
  have hLC : env.locals ≠ C := by rintro rfl; obtain ⟨o, _, _, ho, _⟩ := hn; rw [hgC] at ho; cases ho
  have hLD : env.locals ≠ D := by rintro rfl; obtain ⟨o, _, _, ho, _⟩ := hn; rw [hgD] at ho; cases ho
  show wpAny _ A (assign (.Name y py) env (.ref D)) _ _ _
  refine wpAny_assign_Name (wpAny_storeName_local hy (hn.keeps kp) (fun h₂ hn₂ hs₂ => ?_) hp)
  refine ⟨m', hn'.sameBut hs₂ (Ne.symm hLC), fun h₃ hs₃ => ?_⟩
  have kt₂ : KpT s'.heap h₂ := KpT.ofN (KpN.same hs₂ (List.Mem.head [])) (fun p hp' o e => by rw [List.mem_singleton.mp hp'] at e; exact ns_notT (hn.keeps kp) o e)
  have kt₃ : KpT h₂ h₃ := KpT.ofN (KpN.same hs₃ (List.Mem.head [])) (fun p hp' o e => by rw [List.mem_singleton.mp hp'] at e; exact ns_notT (hn'.sameBut hs₂ (Ne.symm hLC)) o e)
  refine ⟨r.trans (Rest.set s' h₃ _), fun p o q e => ?_, .ref D, ⟨D, ys, rfl, ?_, hv.tup (kt₂.trans kt₃) (outs2_tup hro _)⟩, hn₂.sameBut hs₃ hLC⟩
  · exact hs₃.extBut p o (fun z => by rw [z, hgC] at e; cases e) (hs₂.extBut p o (fun z => q (z ▸ List.Mem.head [])) (kp p o e))
  · exact hpl.at fun o e => hs₃.extBut D o hDC (hs₂.extBut D o (Ne.symm hLD) e)
end
end Mine
open PySem PySem.W PySem.Calls PyProof.Rows
set_option Elab.async false
set_option maxRecDepth 100000
namespace Mine

def stAt (i : Nat) : Stmt := (PySem.Challenge.pw_ga0002_01.main.body[i]?).getD (.Pass default)
def bodyAt (i : Nat) : List Stmt := match stAt i with
  | .FunctionDef _ _ b _ _ _ _ _ _ _ => b
  | _ => []
def scopeAt (i : Nat) : Scope := match stAt i with
  | .FunctionDef _ _ _ _ _ _ s _ _ _ => s
  | _ => default
def paramsAt (i : Nat) : Arguments := match stAt i with
  | .FunctionDef _ p _ _ _ _ _ _ _ _ => p
  | _ => default
def nameAt (i : Nat) : Str := match stAt i with
  | .FunctionDef n _ _ _ _ _ _ _ _ _ => n
  | _ => ""

/-- at a lies the text's i-th def -/
def FnAt (i : Nat) (h : Heap) (a : Addr) : Prop := ∃ o doc pm an cd ct, h.get? a = some o ∧ o.data = .func (fnOf (nameAt i) (nameAt i) (paramsAt i) (bodyAt i) (scopeAt i) .none .none doc pm an cd ct) ∧ h.CodeRec cd (nameAt i)
theorem FnAt.keeps {i : Nat} {h h' : Heap} {a : Addr} (x : FnAt i h a) (k : Kp h h') : FnAt i h' a := by
  obtain ⟨o, doc, pm, an, cd, ct, e, d, c⟩ := x
  exact ⟨o, doc, pm, an, cd, ct, k _ _ e, d, c.keeps k⟩

/-- the names that the text asks of the top -/
structure Nm (mg mb : Str → Option Value) : Prop where
  range : mg "range" = none ∧ mb "range" = some (.type "range")
  sorted : mg "sorted" = none ∧ mb "sorted" = some (.builtin "sorted")
  len : mg "len" = none ∧ mb "len" = some (.builtin "len")
  int : mg "int" = none ∧ mb "int" = some (.type "int")
  dict : mg "dict" = none ∧ mb "dict" = some (.type "dict")
  divmod : mg "divmod" = none ∧ mb "divmod" = some (.builtin "divmod")
  reversed : mg "reversed" = none ∧ mb "reversed" = some (.type "reversed")
  limit : ∃ t, mg "_DIV_LIMIT" = some (.int 4000 t)
  afs : mg "add_func_stats" = some (.ref 21)
  acs : mg "add_callers" = some (.ref 28)
  d21 : mg "_div2n1n" = some (.ref 35)
  i2d : mg "_int2digits" = some (.ref 49)
  d2i : mg "_digits2int" = some (.ref 56)
  dmp : mg "_divmod_pos" = some (.ref 63)
  idm : mg "int_divmod" = some (.ref 70)
  nms : mg "_law_names" = some (.ref 77)
  sml : mg "_law_small" = some (.ref 82)
  rnd : mg "_law_round" = some (.ref 89)

/-- the top as it stands in a heap -/
structure Gl (mg mb : Str → Option Value) (h : Heap) : Prop where
  g : h.Ns mainGlobals mg
  b : h.Ns builtinsNs mb
  lim : h.NoLimit
  nm : Nm mg mb
  afs : FnAt 1 h 21
  acs : FnAt 2 h 28
  d21 : FnAt 5 h 35
  i2d : FnAt 7 h 49
  d2i : FnAt 8 h 56
  dmp : FnAt 9 h 63
  idm : FnAt 10 h 70
  nms : FnAt 12 h 77
  sml : FnAt 13 h 82
  rnd : FnAt 14 h 89
theorem Gl.keeps {mg mb : Str → Option Value} {h h' : Heap} (x : Gl mg mb h) (k : Kp h h') : Gl mg mb h' :=
  ⟨x.g.keeps k, x.b.keeps k, x.lim.keeps k, x.nm, x.afs.keeps k, x.acs.keeps k, x.d21.keeps k, x.i2d.keeps k, x.d2i.keeps k, x.dmp.keeps k, x.idm.keeps k, x.nms.keeps k, x.sml.keeps k, x.rnd.keeps k⟩

section
variable {prog : Program} {w : World} {A : Around} {g : Heap}

/-- a def of the text, its frame without cells -/
theorem evC_def {i : Nat} {a : Addr} {Rs : List VP} {R : VP} (binds : List Value → List (Str × Value)) (hf : FnAt i g a) (hl : g.NoLimit) (hd : A.depth < recursionLimit)
    (hb : ∀ fd : FuncData, fd.params = paramsAt i → fd.defaults = .none → fd.kwdefaults = .none → ∀ vs : List Value, vs.length = Rs.length → bindArgs fd ⟨vs, []⟩ = pure (binds vs))
    (hloc : ∀ vs : List Value, vs.length = Rs.length → ∀ x ∈ binds vs, (scopeAt i).names.lookup x.1 = some .local)
    (body : ∀ cd s s₁ E vs, Kp g s.heap → VPs s.heap Rs vs → Rest s s₁ → Kp s.heap s₁.heap → s₁.heap.Ns s.heap.objs.size (fun x => (binds vs).reverse.lookup x) →
      wpAny (model prog w) (A.deeper (envOf (nameAt i) (scopeAt i) s.heap.objs.size a cd)) (execs (bodyAt i) (envOf (nameAt i) (scopeAt i) s.heap.objs.size a cd))
        (fun f s' => R.P s'.heap (match f with | .ret v => v | _ => .none) ∧ Rest s₁ s' ∧ Kp s.heap s'.heap) E s₁)
    (hcell : ∀ x ∈ (scopeAt i).names, x.2 ≠ .cell := by decide)
    (hco : (scopeAt i).isCoroutine = false := by rfl) (hgen : (scopeAt i).isGenerator = false := by rfl) (hk : (scopeAt i).kind = .function := by rfl) :
    EvC prog w A g (.ref a) Rs R := fun s E vs k hv => by
  obtain ⟨o, doc, pm, an, cd, ct, ho, hdat, hcd⟩ := hf
  refine wpAny_call ?_
  refine codeAny_call_def (fd := fnOf (nameAt i) (nameAt i) (paramsAt i) (bodyAt i) (scopeAt i) .none .none doc pm an cd ct) (body := bodyAt i) (binds := binds vs) hd (k _ _ ho) hdat (hl.keeps k) (hcd.keeps k) rfl
    (BindsTo.of_eq (hb _ rfl rfl rfl vs hv.len)) hcell (hloc vs hv.len) (fun h₁ hns hk₁ => ?_) hco hgen hk
  refine wpAny_mono (body cd s _ _ vs k hv (Rest.set s h₁ _) hk₁ hns) (fun f s' hf => ?_) fun _ _ x => x
  exact ⟨hf.1, keeps_of ((Rest.set s h₁ _).trans hf.2.1) hf.2.2⟩
end

section
variable {prog : Program} {w : World} {A : Around} {env : Env} {g : Heap} {m mg mb : Str → Option Value}
theorem ev_range1 {e : Expr} {p pos : Pos} {n : Int} (G : Gl mg mb g) (he : Ev prog w A env g m e (vInt n)) (hs : starEach [e] env = (false, eval e env) :: starEach [] env := by rfl)
    (hplain : (backTo pos (starEach [e] env)).any (·.1) = false := by rfl) (hk : env.scope.kind = .function := by rfl) (hl : env.kindOf "range" = some .globalImplicit := by rfl)
    (hg : env.globals = mainGlobals := by rfl) (hb : env.builtins = builtinsNs := by rfl) : Ev prog w A env g m (.Call (.Name "range" p) [e] [] pos) (vRange 0 n) :=
  ev_callT (ev_builtin (by rw [hg]; exact G.g) G.nm.range.1 (by rw [hb]; exact G.b) G.nm.range.2 hk hl) (evs_cons he evs_nil hs) evC_range1 hplain hs
theorem ev_range2 {e f : Expr} {p pos : Pos} {a b : Int} (G : Gl mg mb g) (he : Ev prog w A env g m e (vInt a)) (hf : Ev prog w A env g m f (vInt b)) (hs : starEach [e, f] env = (false, eval e env) :: starEach [f] env := by rfl)
    (hs2 : starEach [f] env = (false, eval f env) :: starEach [] env := by rfl)
    (hplain : (backTo pos (starEach [e, f] env)).any (·.1) = false := by rfl) (hk : env.scope.kind = .function := by rfl) (hl : env.kindOf "range" = some .globalImplicit := by rfl)
    (hg : env.globals = mainGlobals := by rfl) (hb : env.builtins = builtinsNs := by rfl) : Ev prog w A env g m (.Call (.Name "range" p) [e, f] [] pos) (vRange a b) :=
  ev_callT (ev_builtin (by rw [hg]; exact G.g) G.nm.range.1 (by rw [hb]; exact G.b) G.nm.range.2 hk hl) (evs_cons he (evs_cons hf evs_nil hs2) hs) evC_range2 hplain hs
end

end Mine
open PySem PySem.W PySem.Calls PyProof.Rows
set_option Elab.async false
set_option maxRecDepth 100000
namespace Mine

def pt (r c : Int) : VP := vTup [vInt r, vInt c]
theorem pt_tup (r c : Int) : TupOk (pt r c) := TupOk.tup fun R hR => by
  rcases List.mem_cons.mp hR with rfl | hR
  · exact TupOk.int _
  · rw [List.mem_singleton.mp hR]; exact TupOk.int _
def three (a b c d e f : Int) : VP := vTup [pt a b, pt c d, pt e f]
theorem three_tup (a b c d e f : Int) : TupOk (three a b c d e f) := TupOk.tup fun R hR => by
  rcases List.mem_cons.mp hR with rfl | hR
  · exact pt_tup _ _
  rcases List.mem_cons.mp hR with rfl | hR
  · exact pt_tup _ _
  · rw [List.mem_singleton.mp hR]; exact pt_tup _ _
def two (a b c d : Int) : VP := vTup [pt a b, pt c d]
theorem two_tup (a b c d : Int) : TupOk (two a b c d) := TupOk.tup fun R hR => by
  rcases List.mem_cons.mp hR with rfl | hR
  · exact pt_tup _ _
  · rw [List.mem_singleton.mp hR]; exact pt_tup _ _

theorem outs_true_len (Ro : Nat → VP) : ∀ n, (outs (fun _ => true) Ro n).length = n
  | 0 => rfl
  | n + 1 => by unfold outs; rw [List.length_append, outs_true_len Ro n]; rfl
theorem outs2_le {cnt : Nat → Nat} {Ro : Nat → Nat → VP} {b : Nat} : ∀ n, (∀ i, i < n → cnt i ≤ b) → (outs2 cnt Ro n).length ≤ n * b
  | 0, _ => Nat.zero_le _
  | n + 1, h => by
    unfold outs2
    rw [List.length_append, outs_true_len, Nat.add_mul, Nat.one_mul]
    exact Nat.add_le_add (outs2_le n fun i hi => h i (Nat.lt_succ_of_lt hi)) (h n (Nat.lt_succ_self n))

section
variable {prog : Program} {w : World} {A : Around} {env : Env} {g : Heap} {m mg mb : Str → Option Value}

theorem ev_cast {e : Expr} {a b : Int} (h : Ev prog w A env g m e (vInt a)) (q : a = b) : Ev prog w A env g m e (vInt b) := q ▸ h
theorem iterF_r {a b : Int} {n : Nat} {ks : Nat → Int} (hh : A.handled = none) (ha : 0 ≤ a) (ha' : a ≤ 1000) (hn : n ≤ 1000) (hb : b = a + n) (hk : ∀ i, ks i = a + i) : IterF prog w A g (vRange a b) n ks := by
  subst hb
  rw [show ks = fun (i : Nat) => a + (i : Int) from funext hk]
  exact iterF_range hh ha ha' hn
theorem iter_r {a b : Int} {n : Nat} {ks : Nat → Int} (hh : A.handled = none) (ha : 0 ≤ a) (ha' : a ≤ 1000) (hn : n ≤ 1000) (hb : b = a + n) (hk : ∀ i, ks i = a + i) : Iter prog w A g (vRange a b) ((List.range n).map fun i => vInt (ks i)) := by
  subst hb
  rw [show ks = fun (i : Nat) => a + (i : Int) from funext hk]
  exact iter_range hh ha ha' hn

theorem ev_pt {x y : Expr} {k : Nat} {pos : Pos} {a b : Int} (hx : Ev prog w A env g m x (vInt a)) (hy : Ev prog w A env g m y (vInt b)) (h1 : starEach [x, y] env = (false, eval x env) :: starEach [y] env := by rfl)
    (h2 : starEach [y] env = (false, eval y env) :: starEach [] env := by rfl) : Ev prog w A env g m (.Tuple [x, y] k pos) (pt a b) :=
  ev_tuple (evs_cons hx (evs_cons hy evs_nil h2) h1)

theorem ev_ret {e : Expr} {pos : Pos} {R : VP} {s : Shared} {E : Value → Shared → Prop} {Q : Flow → Shared → Prop} (h : Ev prog w A env g m e R) (k : Kp g s.heap) (n : s.heap.Ns env.locals m)
    (hQ : ∀ v s', R.P s'.heap v → Keeps s s' → Q (.ret v) s') : wpAny (model prog w) A (exec (.Return (some e) pos) env) Q E s :=
  wpAny_Return_some (wpAny_mono (h s E k n) (fun v s' h' => hQ v s' h'.1 h'.2) fun _ _ x => x)

/-- the small triangles that stand and those that hang -/
def ups (n : Nat) : List VP := outs2 (fun i => i + 1) (fun i j => three i j (i + 1) j (i + 1) (j + 1)) n
def dns (n : Nat) : List VP := outs2 (fun i => i + 1) (fun i j => three (1 + i) j (1 + i + 1) (j + 1) (1 + i) (j + 1)) n

theorem evC_small {n : Nat} (G : Gl mg mb g) (hh : A.handled = none) (hd : A.depth < recursionLimit) (hn : n ≤ 20) (hn1 : 1 ≤ n) : EvC prog w A g (.ref 82) [vInt n] (vTup [vList (ups n), vList (dns (n - 1))]) := by
  refine evC_def (i := 13) (fun vs => [("size", vs.getD 0 .none)]) G.sml G.lim hd ?_ ?_ ?_
  · intro fd hp hd hk vs hl
    match vs, hl with
    | [v], _ => unfold bindArgs; rw [hp, hd, hk]; rfl
  · intro vs hl x hx
    rw [List.mem_singleton.mp hx]; rfl
  · intro cd s s₁ E vs k hv r k₁ hns
    match vs, hv with
    | [v], ⟨⟨t, e⟩, _⟩ =>
    subst e
    rw [show bodyAt 13 = [_, _] from rfl]
    refine wpAny_execs_cons ?_
    have hh' : (A.deeper (envOf (nameAt 13) (scopeAt 13) s.heap.objs.size 82 cd)).handled = none := hh
    have G₁ : Gl mg mb s₁.heap := G.keeps (k.trans k₁)
    refine wpAny_mono (st_comp2 (g := s₁.heap) (n := n) (cl := []) (fun i => (i : Int)) (fun i => i + 1) (fun _ j => (j : Int)) (fun i => vRange 0 (i + 1)) (fun i j => three i j (i + 1) j (i + 1) (j + 1)) (fun i hi => by omega)
      (fun i hi => Nat.le_trans (outs2_le (b := 21) i fun j hj => by omega) (Nat.le_trans (Nat.mul_le_mul_right 21 (show i ≤ 20 by omega)) (by decide)))
      (ev_range1 G₁ (ev_local (v := .int n t) rfl ⟨t, rfl⟩)) (iterF_r hh' (by decide) (by decide) (by omega) (by omega) (by intro i; omega)) (fun i j => three_tup _ _ _ _ _ _) (by decide)
      (fun C g₁ i m₂ t kg hi hm => ⟨ev_range1 (G₁.keeps kg) (ev_add (ev_local hm ⟨t, rfl⟩) ev_int), iterF_r hh' (by decide) (by decide) (by omega) (by omega) (by intro j; omega)⟩)
      (fun C g₁ i j m₂ t u kg hi hj h0 h1 => by
        exact ev_tuple (evs_cons (ev_pt (ev_local h0 ⟨t, rfl⟩) (ev_local h1 ⟨u, rfl⟩)) (evs_cons (ev_pt (ev_add (ev_local h0 ⟨t, rfl⟩) ev_int) (ev_local h1 ⟨u, rfl⟩)) (evs_cons (ev_pt (ev_add (ev_local h0 ⟨t, rfl⟩) ev_int) (ev_add (ev_local h1 ⟨u, rfl⟩) ev_int)) evs_nil))))
      (Kp.refl _) hns) (fun f s₂ h₂ => ?_) fun _ _ x => x
    obtain ⟨rfl, r₂, kn₂, v, hv₂, hn₂⟩ := h₂
    have k₂ : Kp s.heap s₂.heap := kn₂.ground k₁ (fun p hp => by rw [List.mem_singleton.mp hp]; exact get_fresh (Nat.le_refl _))
    have G₂ : Gl mg mb s₂.heap := G.keeps (k.trans k₂)
    refine wpAny_execs_cons (ev_ret (g := s₂.heap) (R := vTup [vList (ups n), vList (dns (n - 1))]) ?_ (Kp.refl _) hn₂ (fun v s₃ hv₃ k₃ => ?_))
    · exact ev_tuple (evs_cons (ev_local rfl hv₂) (evs_cons (ev_comp2 (n := n - 1) (cl := []) (fun i => 1 + (i : Int)) (fun i => i + 1) (fun _ j => (j : Int)) (fun i => vRange 0 (1 + i)) (fun i j => three (1 + i) j (1 + i + 1) (j + 1) (1 + i) (j + 1)) (fun i hi => by omega)
        (fun i hi => Nat.le_trans (outs2_le (b := 21) i fun j hj => by omega) (Nat.le_trans (Nat.mul_le_mul_right 21 (show i ≤ 20 by omega)) (by decide)))
        (ev_range2 G₂ ev_int (ev_local (v := .int n t) rfl ⟨t, rfl⟩)) (iterF_r hh' (by decide) (by decide) (by omega) (by omega) (by intro i; omega)) (fun i j => three_tup _ _ _ _ _ _) (by decide)
        (fun C g₁ i m₂ t kg hi hm => ⟨ev_range1 (G₂.keeps kg) (ev_local hm ⟨t, rfl⟩), iterF_r hh' (by decide) (by decide) (by omega) (by omega) (by intro j; omega)⟩)
        (fun C g₁ i j m₂ t u kg hi hj h0 h1 =>
          ev_tuple (evs_cons (ev_pt (ev_local h0 ⟨t, rfl⟩) (ev_local h1 ⟨u, rfl⟩)) (evs_cons (ev_pt (ev_add (ev_local h0 ⟨t, rfl⟩) ev_int) (ev_add (ev_local h1 ⟨u, rfl⟩) ev_int)) (evs_cons (ev_pt (ev_local h0 ⟨t, rfl⟩) (ev_add (ev_local h1 ⟨u, rfl⟩) ev_int)) evs_nil))))) evs_nil))
    · exact ⟨hv₃, r₂.trans (Rest.of k₃), k₂.trans (kp_of k₃)⟩
end
end Mine
open PySem PySem.W PySem.Calls PyProof.Rows
set_option Elab.async false
set_option maxRecDepth 100000
namespace Mine

/-- lists and tuples stay -/
def KpS (h h' : Heap) : Prop := ∀ b o, h.get? b = some o → (∃ vs n, o.data = .seq vs n) → h'.get? b = some o
theorem KpS.refl (h : Heap) : KpS h h := fun _ _ e _ => e
theorem KpS.trans {a b c : Heap} (x : KpS a b) (y : KpS b c) : KpS a c := fun p o e q => y p o (x p o e q) q
theorem KpS.of {a b : Heap} (x : Kp a b) : KpS a b := fun p o e _ => x p o e
theorem KpS.ns {L : Addr} {a b : Heap} {m : Str → Option Value} (x : Heap.SameBut L a b) (n : a.Ns L m) : KpS a b := fun p o e ⟨vs, k, d⟩ =>
  x.extBut p o (fun z => by
    obtain ⟨o', es, ep, e', d', _⟩ := n
    rw [z, e'] at e; cases e
    rw [d'] at d; cases d) e
theorem KpS.cell {c : Addr} {a b : Heap} {v : Option Value} (x : Heap.SameBut c a b) (n : a.IsCell c v) : KpS a b := fun p o e ⟨vs, k, d⟩ =>
  x.extBut p o (fun z => by
    obtain ⟨o', e', d'⟩ := n
    rw [z, e'] at e; cases e
    rw [d'] at d; cases d) e
def SeqOk (R : VP) : Prop := ∀ {h h' v}, KpS h h' → R.P h v → R.P h' v
theorem VPs.seq {h h' : Heap} (k : KpS h h') : ∀ {Rs : List VP} {vs : List Value}, (∀ R ∈ Rs, SeqOk R) → VPs h Rs vs → VPs h' Rs vs
  | [], [], _, _ => trivial
  | R :: _, _ :: _, q, x => ⟨q R (.head _) k x.1, VPs.seq k (fun S hS => q S (.tail _ hS)) x.2⟩
theorem SeqOk.int (i : Int) : SeqOk (vInt i) := fun _ x => x
theorem SeqOk.bool (i : Bool) : SeqOk (vBool i) := fun _ x => x
theorem SeqOk.is (v : Value) : SeqOk (vIs v) := fun _ x => x
theorem SeqOk.tup {Rs : List VP} (q : ∀ R ∈ Rs, SeqOk R) : SeqOk (vTup Rs) := fun k x => by
  obtain ⟨a, vs, e, ⟨o, ho, hc, n, r⟩, y⟩ := x
  exact ⟨a, vs, e, ⟨o, k a o ho ⟨_, n, r⟩, hc, n, r⟩, y.seq k q⟩
theorem SeqOk.list {Rs : List VP} (q : ∀ R ∈ Rs, SeqOk R) : SeqOk (vList Rs) := fun k x => by
  obtain ⟨a, vs, e, ⟨n, ho⟩, y⟩ := x
  exact ⟨a, vs, e, ⟨n, k a _ ho ⟨_, n, rfl⟩⟩, y.seq k q⟩
theorem SeqOk.nil : ∀ R ∈ ([] : List VP), SeqOk R := fun _ h => nomatch h
theorem SeqOk.cons {R : VP} {Rs : List VP} (h : SeqOk R) (hs : ∀ R ∈ Rs, SeqOk R) : ∀ S ∈ R :: Rs, SeqOk S := fun S hS => by
  rcases List.mem_cons.mp hS with rfl | hS
  · exact h
  · exact hs S hS
theorem SeqOk.ints (ns : List Int) : ∀ R ∈ ns.map vInt, SeqOk R := fun R hR => by
  obtain ⟨n, _, rfl⟩ := List.mem_map.mp hR
  exact SeqOk.int n

def upd (m : Str → Option Value) (x : Str) (v : Value) : Str → Option Value := fun y => if y = x then some v else m y
def updAll (m : Str → Option Value) : List Str → List Value → (Str → Option Value)
  | x :: xs, v :: vs => updAll (upd m x v) xs vs
  | _, _ => m

section
variable {prog : Program} {w : World} {A : Around} {env : Env} {g : Heap} {m mg mb : Str → Option Value} {s : Shared} {E : Value → Shared → Prop}

theorem st_assign {x : Str} {px pos : Pos} {value : Expr} {R : VP} {Q : Flow → Shared → Prop} (h : Ev prog w A env g m value R) (hR : SeqOk R) (k : Kp g s.heap) (n : s.heap.Ns env.locals m)
    (hQ : ∀ v s', R.P s'.heap v → Rest s s' → KpN [env.locals] s.heap s'.heap → KpS s.heap s'.heap → s'.heap.Ns env.locals (upd m x v) → Q .next s')
    (hs : swapsWith value (some (.Name x px)) pos.line env = pure false := by rfl) (hx : env.kindOf x = some .local := by rfl)
    (hp : (env.scope.kind == .class || (env.scope.kind == .module && env.locals != env.globals)) = false := by rfl) :
    wpAny (model prog w) A (exec (.Assign [.Name x px] value pos) env) Q E s := by
  refine wpAny_Assign_Name (wpAny_mono (h s E k n) (fun v s₁ h₁ => ?_) fun _ _ x => x) hs
  obtain ⟨hv, k₁⟩ := h₁
  have n₁ := ns_keeps n k₁
  refine wpAny_storeName_local hx n₁ (fun h' n' hs' => ?_) hp
  have ks := KpS.ns hs' n₁
  exact hQ v _ (hR ks hv) ((Rest.of k₁).trans (Rest.set s₁ h' _)) ((KpN.of (kp_of k₁)).trans (KpN.same hs' (List.Mem.head []))) ((KpS.of (kp_of k₁)).trans ks) n'

theorem assign_names (hp : (env.scope.kind == .class || (env.scope.kind == .module && env.locals != env.globals)) = false) (xs : List (Str × Pos)) : ∀ (vs : List Value) (m : Str → Option Value) (s : Shared) (Q : Unit → Shared → Prop), s.heap.Ns env.locals m → vs.length = xs.length →
    (∀ x ∈ xs, env.kindOf x.1 = some .local) →
    (∀ s', Rest s s' → KpN [env.locals] s.heap s'.heap → KpS s.heap s'.heap → s'.heap.Ns env.locals (updAll m (xs.map (·.1)) vs) → Q () s') →
    wpAny (model prog w) A (assignInOrder (xs.map fun x => assign (.Name x.1 x.2) env) vs) Q E s := by
  induction xs with
  | nil =>
    intro vs m s Q n hl _ hQ
    cases vs with
    | nil => exact wpAny_pure (hQ s (Rest.refl s) (KpN.refl _ _) (KpS.refl _) n)
    | cons _ _ => cases hl
  | cons x xs ih =>
    intro vs m s Q n hl hx hQ
    cases vs with
    | nil => cases hl
    | cons v vs =>
      rw [List.map_cons]
      refine PyProof.Rows.assignInOrder_cons (t := assign (.Name x.1 x.2) env) (ts := xs.map fun x => assign (.Name x.1 x.2) env) (x := v) (xs := vs) ?_
      refine wpAny_assign_Name (wpAny_storeName_local (hx x (.head _)) n (fun h' n' hs' => ?_) hp)
      refine ih vs _ _ Q n' (by simpa using hl) (fun y hy => hx y (.tail _ hy)) fun s' r kn ks n'' => ?_
      exact hQ s' ((Rest.set s h' _).trans r) ((KpN.same hs' (List.Mem.head [])).trans kn) ((KpS.ns hs' n).trans ks) n''

theorem st_unpack {elts : List Expr} {kk : Nat} {tpos pos : Pos} {value : Expr} {Rs : List VP} {Q : Flow → Shared → Prop} (xs : List (Str × Pos)) (h : Ev prog w A env g m value (vTup Rs)) (hR : ∀ R ∈ Rs, SeqOk R) (hh : A.handled = none)
    (k : Kp g s.heap) (n : s.heap.Ns env.locals m) (hl : Rs.length = xs.length)
    (hQ : ∀ vs s', VPs s'.heap Rs vs → Rest s s' → KpN [env.locals] s.heap s'.heap → KpS s.heap s'.heap → s'.heap.Ns env.locals (updAll m (xs.map (·.1)) vs) → Q .next s')
    (he : elts = xs.map fun x => .Name x.1 x.2 := by rfl)
    (ha : assignEach elts env = xs.map fun x => (false, assign (.Name x.1 x.2) env) := by rfl)
    (hx : (xs.all fun x => env.kindOf x.1 == some .local) = true := by rfl)
    (hp : (env.scope.kind == .class || (env.scope.kind == .module && env.locals != env.globals)) = false := by rfl)
    (hs : swapsWithSole [.Tuple elts kk tpos] value pos.line env = pure false := by rfl)
    (hw : swappedStores [.Tuple elts kk tpos] value env = pure none := by rfl) :
    wpAny (model prog w) A (exec (.Assign [.Tuple elts kk tpos] value pos) env) Q E s := by
  refine Assign_Tuple (wpAny_mono (h s E k n) (fun v s₁ h₁ => ?_) fun _ _ x => x) hs hw
  obtain ⟨⟨a, vs, rfl, ht, hv⟩, k₁⟩ := h₁
  have hlen := hv.len
  refine wpAny_assign_Tuple hh ht (by rw [ha, List.length_map, List.size_toArray, hlen, hl]) (by rw [ha]; simp) fun h' hx' => ?_
  have kp' : Kp s₁.heap h' := fun b o e => hx' b o (Nat.ne_of_lt (Heap.lt_size e)) e
  rw [ha, List.map_map]
  have n₁ := (ns_keeps n k₁).keeps kp'
  refine assign_names hp xs vs m { s₁ with heap := h' } _ n₁ (by rw [hlen, hl]) (fun x hm => by simpa using List.all_eq_true.mp hx x hm) fun s' r kn ks n' => ?_
  exact hQ vs s' ((hv.st kp').seq ks hR) ((Rest.of k₁).trans ((Rest.set s₁ h' s₁.toks).trans r)) ((KpN.of ((kp_of k₁).trans kp')).trans kn) ((KpS.of ((kp_of k₁).trans kp')).trans ks) n'

theorem ev_ifexp {t b o : Expr} {pos : Pos} {c : Bool} {R : VP} (ht : EvT prog w A env g m t c) (hb : c = true → Ev prog w A env g m b R) (ho : c = false → Ev prog w A env g m o R) : Ev prog w A env g m (.IfExp t b o pos) R :=
  fun s E k n => wpAny_IfExp (wpAny_mono (ht s E k n) (fun r s₁ h₁ => by
    obtain ⟨rfl, k₁⟩ := h₁
    cases r with
    | true => exact wpAny_mono (hb rfl s₁ E (kp_step k k₁) (ns_keeps n k₁)) (fun _ _ h => ⟨h.1, keeps_trans k₁ h.2⟩) fun _ _ x => x
    | false => exact wpAny_mono (ho rfl s₁ E (kp_step k k₁) (ns_keeps n k₁)) (fun _ _ h => ⟨h.1, keeps_trans k₁ h.2⟩) fun _ _ x => x) fun _ _ x => x)
theorem st_if {t : Expr} {b o : List Stmt} {pos : Pos} {c : Bool} {Q : Flow → Shared → Prop} (ht : EvT prog w A env g m t c) (k : Kp g s.heap) (n : s.heap.Ns env.locals m)
    (hb : ∀ s', c = true → Keeps s s' → wpAny (model prog w) A (execs b env) Q E s') (ho : ∀ s', c = false → Keeps s s' → wpAny (model prog w) A (execs o env) Q E s') :
    wpAny (model prog w) A (exec (.If t b o pos) env) Q E s :=
  wpAny_If (wpAny_mono (ht s E k n) (fun r s₁ h₁ => by
    obtain ⟨rfl, k₁⟩ := h₁
    cases r with
    | true => exact hb s₁ rfl k₁
    | false => exact ho s₁ rfl k₁) fun _ _ x => x)

theorem ev_sorted {e : Expr} {p pos : Pos} {ns : List Int} (G : Gl mg mb g) (he : Ev prog w A env g m e (vList (ns.map vInt))) (hl : ns.length < 64) (hs : starEach [e] env = (false, eval e env) :: starEach [] env := by rfl)
    (hplain : (backTo pos (starEach [e] env)).any (·.1) = false := by rfl) (hk : env.scope.kind = .function := by rfl) (hx : env.kindOf "sorted" = some .globalImplicit := by rfl)
    (hg : env.globals = mainGlobals := by rfl) (hb : env.builtins = builtinsNs := by rfl) : Ev prog w A env g m (.Call (.Name "sorted" p) [e] [] pos) (vList ((srt ns).map vInt)) :=
  ev_callB (ev_builtin (by rw [hg]; exact G.g) G.nm.sorted.1 (by rw [hb]; exact G.b) G.nm.sorted.2 hk hx) (evs_cons he evs_nil hs) (evC_sorted hl) hplain hs
theorem ev_len {e : Expr} {p pos : Pos} {Rs : List VP} (G : Gl mg mb g) (he : Ev prog w A env g m e (vList Rs)) (hl : Rs.length < 1000) (hs : starEach [e] env = (false, eval e env) :: starEach [] env := by rfl)
    (hplain : (backTo pos (starEach [e] env)).any (·.1) = false := by rfl) (hk : env.scope.kind = .function := by rfl) (hx : env.kindOf "len" = some .globalImplicit := by rfl)
    (hg : env.globals = mainGlobals := by rfl) (hb : env.builtins = builtinsNs := by rfl) : Ev prog w A env g m (.Call (.Name "len" p) [e] [] pos) (vInt Rs.length) :=
  ev_callB (ev_builtin (by rw [hg]; exact G.g) G.nm.len.1 (by rw [hb]; exact G.b) G.nm.len.2 hk hx) (evs_cons he evs_nil hs) (evC_len hl) hplain hs
theorem ev_list3 {x y z : Expr} {pos : Pos} {a b c : Int} (hx : Ev prog w A env g m x (vInt a)) (hy : Ev prog w A env g m y (vInt b)) (hz : Ev prog w A env g m z (vInt c)) (h1 : starEach [x, y, z] env = (false, eval x env) :: starEach [y, z] env := by rfl)
    (h2 : starEach [y, z] env = (false, eval y env) :: starEach [z] env := by rfl) (h3 : starEach [z] env = (false, eval z env) :: starEach [] env := by rfl) : Ev prog w A env g m (.List [x, y, z] pos) (vList ([a, b, c].map vInt)) :=
  ev_list (evs_cons hx (evs_cons hy (evs_cons hz evs_nil h3) h2) h1)
theorem ev_list2 {x y : Expr} {pos : Pos} {a b : Int} (hx : Ev prog w A env g m x (vInt a)) (hy : Ev prog w A env g m y (vInt b)) (h1 : starEach [x, y] env = (false, eval x env) :: starEach [y] env := by rfl)
    (h2 : starEach [y] env = (false, eval y env) :: starEach [] env := by rfl) : Ev prog w A env g m (.List [x, y] pos) (vList ([a, b].map vInt)) :=
  ev_list (evs_cons hx (evs_cons hy evs_nil h2) h1)

/-- the law's own word for a turn -/
def rnd (a b c : Int) : Int := if srt [a, b, c] = [0, 1, 2] then (if (b - a).fmod 3 = 1 then 1 else -1) else 0

theorem units_deeper' (A : Around) (env : Env) : (A.deeper env).units = A.units + 3 := rfl
theorem evC_round {a b c : Int} (G : Gl mg mb g) (hd : A.depth < recursionLimit) (hu : A.units + 100 < cLine) : EvC prog w A g (.ref 89) [vList ([a, b, c].map vInt)] (vInt (rnd a b c)) := by
  refine evC_def (i := 14) (fun vs => [("names", vs.getD 0 .none)]) G.rnd G.lim hd ?_ ?_ ?_
  · intro fd hp hd hk vs hl
    match vs, hl with
    | [v], _ => unfold bindArgs; rw [hp, hd, hk]; rfl
  · intro vs hl x hx
    rw [List.mem_singleton.mp hx]; rfl
  · intro cd s s₁ E vs k hv r k₁ hns
    match vs, hv with
    | [v], ⟨hv, _⟩ =>
    have G₁ : Gl mg mb s₁.heap := G.keeps (k.trans k₁)
    have hv₁ := VP.st _ k₁ hv
    rw [show bodyAt 14 = [_, _] from rfl]
    refine wpAny_execs_cons (st_if (g := s₁.heap) (c := !decide (srt [a, b, c] = [0, 1, 2])) (evT_cmp (ev_sorted G₁ (ev_local rfl hv₁) (by exact Nat.le_of_ble_eq_true rfl)) (ev_list3 ev_int ev_int ev_int) (cmp_ne_ints (by rw [units_deeper']; omega))) (Kp.refl _) hns ?_ ?_)
    · intro s₂ hc k₂
      refine wpAny_execs_cons (ev_ret (g := s₂.heap) ev_int (Kp.refl _) (ns_keeps hns k₂) fun v s₃ hv₃ k₃ => ?_)
      refine ⟨?_, Rest.of (keeps_trans k₂ k₃), k₁.trans (kp_of (keeps_trans k₂ k₃))⟩
      have : srt [a, b, c] ≠ [0, 1, 2] := by simpa using hc
      unfold rnd
      rw [if_neg this]
      exact hv₃
    · intro s₂ hc k₂
      have hs : srt [a, b, c] = [0, 1, 2] := by simpa using hc
      refine wpAny_execs_nil ?_
      have G₂ : Gl mg mb s₂.heap := G₁.keeps (kp_of k₂)
      have hv₂ := VP.st _ (kp_of k₂) hv₁
      refine wpAny_execs_cons (ev_ret (g := s₂.heap) (R := vInt (rnd a b c)) ?_ (Kp.refl _) (ns_keeps hns k₂) fun v s₃ hv₃ k₃ => ?_)
      · refine ev_ifexp (c := decide ((b - a).fmod 3 = 1)) (evT_cmp (ev_mod (ev_sub (ev_item (k := 1) (ev_local rfl hv₂) ev_int (by decide) (by decide) rfl) (ev_item (k := 0) (ev_local rfl hv₂) ev_int (by decide) (by decide) rfl)) ev_int (by decide)) ev_int cmp_eq_int) (fun hc => ?_) (fun hc => ?_)
        · have hc' : (b - a).fmod 3 = 1 := of_decide_eq_true hc
          unfold rnd
          rw [if_pos hs, if_pos hc']
          exact ev_int
        · have hc' : ¬ (b - a).fmod 3 = 1 := of_decide_eq_false hc
          unfold rnd
          rw [if_pos hs, if_neg hc']
          exact ev_cast (ev_sub ev_int ev_int) (by decide)
      · exact ⟨hv₃, Rest.of (keeps_trans k₂ k₃), k₁.trans (kp_of (keeps_trans k₂ k₃))⟩
end
end Mine
open PySem PySem.W PySem.Calls PyProof.Rows
set_option Elab.async false
set_option maxRecDepth 100000
namespace Mine

section
variable (prog : Program) (w : World)
/-- a dict with nothing in it, behind B -/
def vD0 (B : Nat) : VP := ⟨fun h v => ∃ (d : Nat) (ep : Nat), v = .ref d ∧ B < d ∧ h.DictAt (intKind prog w) d [] ep,
  fun k x => by obtain ⟨d, ep, e, q, y⟩ := x; exact ⟨d, ep, e, q, y.keep k⟩⟩
end
theorem not_sys {B d : Nat} (hB : 1 ≤ B) (h : B < d) : ((d : Addr) == sysModules) = false := beq_eq_false_iff_ne.mpr (by
  have h1 : d ≠ (1 : Nat) := by omega
  exact h1)

section
variable {prog : Program} {w : World} {A : Around} {env : Env} {g : Heap} {m mg mb : Str → Option Value} {s : Shared} {E : Value → Shared → Prop}

theorem size_of_top {h : Heap} (G : Gl mg mb h) : 3 < h.objs.size := G.g.lt
theorem ev_dict0 {pos : Pos} {B : Nat} (hB : ∃ o, g.get? B = some o) : Ev prog w A env g m (.Dict [] [] pos) (vD0 prog w B) := fun s E k n =>
  wpAny_Dict_empty ⟨⟨s.heap.objs.size, 0, rfl, by
    obtain ⟨o, e⟩ := hB
    exact Heap.lt_size (k _ _ e), ⟨_, #[], Heap.get?_push_size _ rfl, ⟨rfl, rfl, rfl⟩, rfl, (fun _ he => by simp at he), .nil, List.nodup_nil⟩⟩, keeps_push s _⟩

theorem for_items0 {x xk xv : Str} {px pk pv pt pos apos cpos : Pos} {x1 : Nat} {body : List Stmt} {Q : Flow → Shared → Prop} {d : Addr} {ep : Nat}
    (hd : (d == sysModules) = false) (hm : s.heap.DictAt (intKind prog w) d [] ep) (hh : A.handled = none) (n : s.heap.Ns env.locals m) (hmx : m x = some (.ref d))
    (hdL : d ≠ env.locals)
    (hQ : ∀ s', Rest s s' → KpN [env.locals] s.heap s'.heap → s'.heap.Ns env.locals m → Q .next s')
    (hx : env.kindOf x = some .local := by rfl) (hk : env.scope.kind = .function := by rfl) (hdb : (x == ("__debug__" : Str)) = false := by decide)
    (hxk : env.kindOf xk = some .local := by rfl) (hxv : env.kindOf xv = some .local := by rfl)
    (hp : (env.scope.kind == .class || (env.scope.kind == .module && env.locals != env.globals)) = false := by rfl)
    (hbase : attributeBase (.Name x px) "items" env (eval (.Name x px) env) = eval (.Name x px) env := by rfl) (hline : (apos.endLine == cpos.line) = true := by rfl)
    (hs : ∀ y, foldedSetIterable (.Call (.Attribute (.Name x px) "items" apos) [] [] cpos) env y = pure y := by intro _; rfl) :
    wpAny (model prog w) A (exec (.For (.Tuple [.Name xk pk, .Name xv pv] x1 pt) (.Call (.Attribute (.Name x px) "items" apos) [] [] cpos) body [] pos) env) Q E s := by
  refine wpAny_For (wpAny_Call_items hd hm.dictOf hbase hline (fun Q' q => wpAny_Name (wpAny_loadName_local hk hx n hmx q) hdb) ?_) hs
  refine wpAny_pyIter_items (knd := intKind prog w) (d := d) (kvs := []) (ep := ep) ⟨_, Heap.get?_push_size _ rfl, rfl, rfl⟩ (hm.push _) ?_
  have hsz : (s.heap.push { cls := .type "dict_items", data := .fields #[.ref d] }).objs.size = s.heap.objs.size + 1 := Heap.size_push ..
  have hL := n.lt
  refine codeAny_forLoop_items_locals (knd := intKind prog w) (kvs := []) hh hxk hxv hp ?_ hdL ?_
    (Heap.get?_push_size _ rfl) ((hm.push _).push _) ((n.push _).push _) (fun _ m' => m' = m) rfl (fun i k v key m₁ s₁ e => by simp at e) fun h' tk m' hn' hJ hk => ?_
  · show (s.heap.push _).objs.size ≠ env.locals
    rw [hsz]; exact Nat.ne_of_gt (Nat.lt_succ_of_lt hL)
  · show d ≠ (s.heap.push _).objs.size
    rw [hsz]; exact Nat.ne_of_lt (Nat.lt_succ_of_lt hm.lt_size)
  · subst hJ
    refine hQ _ ⟨h', tk, rfl⟩ (fun b o hbL e => hk b o (fun z => hbL (z ▸ List.Mem.head [])) ?_ (Heap.get?_push_of_some _ (Heap.get?_push_of_some _ e))) hn'
    show b ≠ (s.heap.push _).objs.size
    rw [hsz]; exact Nat.ne_of_lt (Nat.lt_succ_of_lt (Heap.lt_size e))

theorem ne_of_none {h : Heap} {a b : Addr} {o : Obj} (e : h.get? a = some o) (z : h.get? b = none) : a ≠ b := by
  rintro rfl; rw [e] at z; cases z

theorem vps1 {h : Heap} {R : VP} : ∀ {vs : List Value}, VPs h [R] vs → ∃ v, vs = [v] ∧ R.P h v
  | [v], x => ⟨v, rfl, x.1⟩
  | [], x => x.elim
  | _ :: _ :: _, x => x.2.elim
theorem vps2 {h : Heap} {R S : VP} : ∀ {vs : List Value}, VPs h [R, S] vs → ∃ v u, vs = [v, u] ∧ R.P h v ∧ S.P h u
  | [v, u], x => ⟨v, u, rfl, x.1, x.2.1⟩
  | [], x => x.elim
  | [_], x => x.2.elim
  | _ :: _ :: _ :: _, x => x.2.2.elim
theorem vD0_of {h h' : Heap} {d : Addr} {ep : Nat} (x : h.DictAt (intKind prog w) d [] ep) (e : ∀ o, h.get? d = some o → h'.get? d = some o) : h'.DictAt (intKind prog w) d [] ep := x.at e

theorem evC_acs {B : Nat} (G : Gl mg mb g) (hB : ∃ o, g.get? B = some o) (hB1 : 1 ≤ B) (hh : A.handled = none) (hd : A.depth < recursionLimit) : EvC prog w A g (.ref 28) [vD0 prog w B, vD0 prog w B] (vD0 prog w B) := by
  refine evC_def (i := 2) (fun vs => [("target", vs.getD 0 .none), ("source", vs.getD 1 .none)]) G.acs G.lim hd ?_ ?_ ?_
  · intro fd hp hd hk vs hl
    match vs, hl with
    | [v, u], _ => unfold bindArgs; rw [hp, hd, hk]; rfl
  · intro vs hl x hx
    rcases List.mem_cons.mp hx with rfl | hx
    · rfl
    · rw [List.mem_singleton.mp hx]; rfl
  · intro cd s s₁ E vs k hv r k₁ hns
    obtain ⟨v, u, rfl, ⟨d, ep, rfl, hdB, hdA⟩, ⟨d', ep', rfl, hdB', hdA'⟩⟩ := vps2 hv
    have hh' : (A.deeper (envOf (nameAt 2) (scopeAt 2) s.heap.objs.size 28 cd)).handled = none := hh
    have hL : s.heap.get? s.heap.objs.size = none := get_fresh (Nat.le_refl _)
    rw [show bodyAt 2 = [_, _, _, _] from rfl]
    have hLlt : s.heap.objs.size < s₁.heap.objs.size := hns.lt
    refine wpAny_execs_cons (wpAny_Assign_Name (wpAny_Dict_empty (wpAny_storeName_local rfl (hns.push _) (fun h₃ n₃ hs₃ => ?_) rfl)))
    have kN₃ : KpN [s.heap.objs.size] s₁.heap h₃ := (KpN.of (Kp.push _ _)).trans (KpN.same hs₃ (List.Mem.head []))
    have kp₃ : Kp s.heap h₃ := kN₃.ground k₁ (fun p hp => by rw [List.mem_singleton.mp hp]; exact hL)
    have hd₂L : s₁.heap.objs.size ≠ s.heap.objs.size := Nat.ne_of_gt hLlt
    have hd₂ : h₃.DictAt (intKind prog w) s₁.heap.objs.size [] 0 :=
      Heap.DictAt.at (h := s₁.heap.push { cls := .type "dict", data := .dict #[] }) ⟨_, #[], Heap.get?_push_size _ rfl, ⟨rfl, rfl, rfl⟩, rfl, (fun _ he => by simp at he), .nil, List.nodup_nil⟩ fun o e => hs₃.extBut _ o hd₂L e
    have hd₂B : B < s₁.heap.objs.size := by
      obtain ⟨o, e⟩ := hB
      exact Heap.lt_size (k₁ _ _ (k _ _ e))
    have ne_of : ∀ {d : Addr} {ep : Nat}, s.heap.DictAt (intKind prog w) d [] ep → d ≠ s.heap.objs.size := fun x => Nat.ne_of_lt x.lt_size
    refine wpAny_execs_cons (for_items0 (not_sys hB1 hdB) (hdA.keep kp₃) hh' n₃ rfl (ne_of hdA) fun s₄ r₄ k₄ n₄ => ?_)
    have kp₄ : Kp s.heap s₄.heap := k₄.ground kp₃ (fun p hp => by rw [List.mem_singleton.mp hp]; exact hL)
    refine wpAny_execs_cons (for_items0 (not_sys hB1 hdB') (hdA'.keep kp₄) hh' n₄ rfl (ne_of hdA') fun s₅ r₅ k₅ n₅ => ?_)
    have kp₅ : Kp s.heap s₅.heap := k₅.ground kp₄ (fun p hp => by rw [List.mem_singleton.mp hp]; exact hL)
    have hd₅ : s₅.heap.DictAt (intKind prog w) s₁.heap.objs.size [] 0 := hd₂.at fun o e => k₅ _ o (fun z => hd₂L (List.mem_singleton.mp z)) (k₄ _ o (fun z => hd₂L (List.mem_singleton.mp z)) e)
    refine wpAny_execs_cons (ev_ret (g := s₅.heap) (R := vD0 prog w B) (ev_local rfl ⟨s₁.heap.objs.size, 0, rfl, hd₂B, hd₅⟩) (Kp.refl _) n₅ fun v s₆ hv₆ k₆ => ?_)
    exact ⟨hv₆, (Rest.set s₁ h₃ _).trans (r₄.trans (r₅.trans (Rest.of k₆))), kp₅.trans (kp_of k₆)⟩

theorem st_unpackK {elts : List Expr} {kk : Nat} {tpos pos : Pos} {value : Expr} {a : Addr} {us : List Value} {Q : Flow → Shared → Prop} (xs : List (Str × Pos)) (h : Ev prog w A env s.heap m value (vIs (.ref a)))
    (ht : IsTup s.heap a us.toArray) (hh : A.handled = none)
    (n : s.heap.Ns env.locals m) (hl : us.length = xs.length)
    (hQ : ∀ s', Rest s s' → KpN [env.locals] s.heap s'.heap → KpS s.heap s'.heap → s'.heap.Ns env.locals (updAll m (xs.map (·.1)) us) → Q .next s')
    (ha : assignEach elts env = xs.map fun x => (false, assign (.Name x.1 x.2) env) := by rfl)
    (hx : (xs.all fun x => env.kindOf x.1 == some .local) = true := by rfl)
    (hp : (env.scope.kind == .class || (env.scope.kind == .module && env.locals != env.globals)) = false := by rfl)
    (hs : swapsWithSole [.Tuple elts kk tpos] value pos.line env = pure false := by rfl)
    (hw : swappedStores [.Tuple elts kk tpos] value env = pure none := by rfl) :
    wpAny (model prog w) A (exec (.Assign [.Tuple elts kk tpos] value pos) env) Q E s := by
  refine Assign_Tuple (wpAny_mono (h s E (Kp.refl _) n) (fun v s₁ h₁ => ?_) fun _ _ x => x) hs hw
  obtain ⟨e, k₁⟩ := h₁
  have e' : v = .ref a := e
  subst e'
  have ht₁ := ht.keeps (kp_of k₁)
  refine wpAny_assign_Tuple hh ht₁ (by rw [ha, List.length_map, List.size_toArray, hl]) (by rw [ha]; simp) fun h' hx' => ?_
  have kp' : Kp s₁.heap h' := fun b o e => hx' b o (Nat.ne_of_lt (Heap.lt_size e)) e
  rw [ha, List.map_map]
  have n₁ := (ns_keeps n k₁).keeps kp'
  refine assign_names hp xs us m { s₁ with heap := h' } _ n₁ hl (fun x hm => by simpa using List.all_eq_true.mp hx x hm) fun s' r kn ks n' => ?_
  exact hQ s' ((Rest.of k₁).trans ((Rest.set s₁ h' s₁.toks).trans r)) ((KpN.of ((kp_of k₁).trans kp')).trans kn) ((KpS.of ((kp_of k₁).trans kp')).trans ks) n'

theorem vps5 {h : Heap} {R S T U V : VP} : ∀ {vs : List Value}, VPs h [R, S, T, U, V] vs → ∃ a b c d e, vs = [a, b, c, d, e] ∧ R.P h a ∧ S.P h b ∧ T.P h c ∧ U.P h d ∧ V.P h e
  | [a, b, c, d, e], x => ⟨a, b, c, d, e, rfl, x.1, x.2.1, x.2.2.1, x.2.2.2.1, x.2.2.2.2.1⟩
  | [], x => x.elim
  | [_], x => x.2.elim
  | [_, _], x => x.2.2.elim
  | [_, _, _], x => x.2.2.2.elim
  | [_, _, _, _], x => x.2.2.2.2.elim
  | _ :: _ :: _ :: _ :: _ :: _ :: _, x => x.2.2.2.2.2.elim

/-- what the tally reads -/
def vTally (prog : Program) (w : World) (B : Nat) (a b c d : Int) : VP := vTup [vInt a, vInt b, vInt c, vInt d, vD0 prog w B]
theorem evC_afs {B : Nat} {a b c d a' b' c' d' : Int} (G : Gl mg mb g) (hB : ∃ o, g.get? B = some o) (hB1 : 1 ≤ B) (hh : A.handled = none) (hd : A.depth + 1 < recursionLimit) :
    EvC prog w A g (.ref 21) [vTally prog w B a b c d, vTally prog w B a' b' c' d'] (vTally prog w B (a' + a) (b' + b) (c' + c) (d' + d)) := by
  refine evC_def (i := 1) (fun vs => [("target", vs.getD 0 .none), ("source", vs.getD 1 .none)]) G.afs G.lim (Nat.lt_of_succ_lt hd) ?_ ?_ ?_
  · intro fd hp hd hk vs hl
    match vs, hl with
    | [v, u], _ => unfold bindArgs; rw [hp, hd, hk]; rfl
  · intro vs hl x hx
    rcases List.mem_cons.mp hx with rfl | hx
    · rfl
    · rw [List.mem_singleton.mp hx]; rfl
  · intro cd s s₁ E vs k hv r k₁ hns
    obtain ⟨v, u, rfl, hv, hu⟩ := vps2 hv
    obtain ⟨ta, vs, rfl, hta, hva⟩ := hv
    obtain ⟨tb, us, rfl, htb, hvb⟩ := hu
    obtain ⟨v1, v2, v3, v4, v5, rfl, hv1, hv2, hv3, hv4, hv5⟩ := vps5 hva
    obtain ⟨u1, u2, u3, u4, u5, rfl, hu1, hu2, hu3, hu4, hu5⟩ := vps5 hvb
    have hh' : (A.deeper (envOf (nameAt 1) (scopeAt 1) s.heap.objs.size 21 cd)).handled = none := hh
    have hL : s.heap.get? s.heap.objs.size = none := get_fresh (Nat.le_refl _)
    rw [show bodyAt 1 = [_, _, _] from rfl]
    refine wpAny_execs_cons (st_unpackK (a := tb) (us := [u1, u2, u3, u4, u5]) [("cc", _), ("nc", _), ("tt", _), ("ct", _), ("callers", _)] (ev_local rfl rfl) (htb.keeps k₁) hh' hns rfl fun s₂ r₂ kn₂ _ n₂ => ?_)
    have k₂ : Kp s.heap s₂.heap := kn₂.ground k₁ (fun p hp => by rw [List.mem_singleton.mp hp]; exact hL)
    refine wpAny_execs_cons (st_unpackK (a := ta) (us := [v1, v2, v3, v4, v5]) [("t_cc", _), ("t_nc", _), ("t_tt", _), ("t_ct", _), ("t_callers", _)] (ev_local rfl rfl) (hta.keeps k₂) hh' n₂ rfl fun s₃ r₃ kn₃ _ n₃ => ?_)
    have k₃ : Kp s.heap s₃.heap := kn₃.ground k₂ (fun p hp => by rw [List.mem_singleton.mp hp]; exact hL)
    have G₃ : Gl mg mb s₃.heap := G.keeps (k.trans k₃)
    have hB₃ : ∃ o, s₃.heap.get? B = some o := by obtain ⟨o, e⟩ := hB; exact ⟨o, k₃ _ _ (k _ _ e)⟩
    refine wpAny_execs_cons (ev_ret (g := s₃.heap) (R := vTally prog w B (a' + a) (b' + b) (c' + c) (d' + d)) ?_ (Kp.refl _) n₃ fun v s₄ hv₄ k₄ => ?_)
    · have up : ∀ {R : VP} {v : Value}, R.P s.heap v → R.P s₃.heap v := fun h => VP.st _ k₃ h
      obtain ⟨o, doc, pm, an, cd', ct, ho, hdat, _⟩ := G₃.acs
      exact ev_tuple (evs_cons (ev_add (ev_local rfl (up hu1)) (ev_local rfl (up hv1))) (evs_cons (ev_add (ev_local rfl (up hu2)) (ev_local rfl (up hv2))) (evs_cons (ev_add (ev_local rfl (up hu3)) (ev_local rfl (up hv3)))
        (evs_cons (ev_add (ev_local rfl (up hu4)) (ev_local rfl (up hv4))) (evs_cons (ev_callF (ev_global G₃.g G₃.nm.acs) (evs_cons (ev_local rfl (up hv5)) (evs_cons (ev_local rfl (up hu5)) evs_nil)) ho hdat (evC_acs G₃ hB₃ hB1 hh' hd)) evs_nil)))))
    · exact ⟨hv₄, r₂.trans (r₃.trans (Rest.of k₄)), k₃.trans (kp_of k₄)⟩
end
end Mine
open PySem PySem.W PySem.Calls PyProof.Rows
set_option Elab.async false
set_option maxRecDepth 100000
namespace Mine

def KVs : List (List Int × Int) → List (List Int × Addr × Value) → Prop
  | [], [] => True
  | p :: r, x :: r' => (p.1 = x.1 ∧ ∃ t, x.2.2 = .int p.2 t) ∧ KVs r r'
  | _, _ => False
theorem KVs.snoc {p : List Int × Int} {x : List Int × Addr × Value} : ∀ {kvs : List (List Int × Int)} {xs : List (List Int × Addr × Value)}, KVs kvs xs → p.1 = x.1 → (∃ t, x.2.2 = .int p.2 t) → KVs (kvs ++ [p]) (xs ++ [x])
  | [], [], _, h, h' => ⟨⟨h, h'⟩, trivial⟩
  | _ :: _, _ :: _, y, h, h' => ⟨y.1, y.2.snoc h h'⟩
theorem KVs.keys : ∀ {kvs : List (List Int × Int)} {xs : List (List Int × Addr × Value)}, KVs kvs xs → xs.map (·.1) = kvs.map (·.1)
  | [], [], _ => rfl
  | p :: _, x :: _, y => by rw [List.map_cons, List.map_cons, y.1.1, y.2.keys]
theorem KVs.len {kvs : List (List Int × Int)} {xs : List (List Int × Addr × Value)} (y : KVs kvs xs) : xs.length = kvs.length := by
  have := congrArg List.length y.keys
  simpa using this
def look (kvs : List (List Int × Int)) (k : List Int) : Option Int := (kvs.find? fun p => decide (p.1 = k)).map (·.2)
theorem KVs.look {k : List Int} {n : Int} : ∀ {kvs : List (List Int × Int)} {xs : List (List Int × Addr × Value)}, KVs kvs xs → look kvs k = some n → ∃ a t, atKey xs k = some (a, .int n t)
  | [], [], _, h => by simp [Mine.look] at h
  | p :: r, x :: r', y, h => by
    unfold Mine.look at h
    unfold atKey
    obtain ⟨⟨e, t, e'⟩, y⟩ := y
    rw [List.find?_cons] at h ⊢
    by_cases hk : p.1 = k
    · rw [decide_eq_true hk] at h
      rw [decide_eq_true (e ▸ hk)]
      simp only [Option.map_some, Option.some.injEq] at h ⊢
      subst h
      exact ⟨x.2.1, t, by rw [← e']⟩
    · rw [decide_eq_false hk] at h
      rw [decide_eq_false (fun z => hk (e.trans z))]
      exact KVs.look y h
theorem KVs.fresh {k : List Int} : ∀ {kvs : List (List Int × Int)} {xs : List (List Int × Addr × Value)}, KVs kvs xs → Mine.look kvs k = none → atKey xs k = none
  | [], [], _, _ => rfl
  | p :: r, x :: r', y, h => by
    unfold Mine.look at h
    unfold atKey
    obtain ⟨⟨e, t, e'⟩, y⟩ := y
    rw [List.find?_cons] at h ⊢
    by_cases hk : p.1 = k
    · rw [decide_eq_true hk] at h
      simp at h
    · rw [decide_eq_false hk] at h
      rw [decide_eq_false (fun z => hk (e.trans z))]
      exact KVs.fresh y h

section
variable (prog : Program) (w : World)
abbrev Kd : HeapKind prog w (List Int) := tupleKind (intKind prog w)
theorem dict_keeps {h h' : Heap} {d : Addr} {xs : List (List Int × Addr × Value)} (k : Kp h h') (x : h.DictOfH (Kd prog w) d xs) : h'.DictOfH (Kd prog w) d xs := by
  obtain ⟨o, es, ep, ho, he, hd, hl, hi, hn⟩ := x
  exact ⟨o, es, ep, k _ _ ho, he, hd, hl, fun x hx => by
    obtain ⟨o', its, n, ho', r⟩ := hi x hx
    exact ⟨o', its, n, k _ _ ho', r⟩, hn⟩
/-- a dict of places, behind B -/
def vNames (B : Nat) (kvs : List (List Int × Int)) : VP := ⟨fun h v => ∃ (d : Nat) (xs : List (List Int × Addr × Value)), v = .ref d ∧ B < d ∧ h.DictOfH (Kd prog w) d xs ∧ KVs kvs xs,
  fun k x => by obtain ⟨d, xs, e, b, y, z⟩ := x; exact ⟨d, xs, e, b, dict_keeps prog w k y, z⟩⟩
end

section
variable {prog : Program} {w : World} {A : Around} {env : Env} {g : Heap} {m mg mb : Str → Option Value} {s : Shared} {E : Value → Shared → Prop}

theorem key_of_pt {h : Heap} {r c : Int} {v : Value} (x : (pt r c).P h v) : ∃ a, v = .ref a ∧ (Kd prog w).is h [r, c] a := by
  obtain ⟨a, vs, rfl, ⟨o, ho, hc, n, hd⟩, hv⟩ := x
  obtain ⟨v, u, rfl, ⟨t, rfl⟩, ⟨t', rfl⟩⟩ := vps2 hv
  refine ⟨a, rfl, o, _, n, ho, hc, hd, ?_⟩
  exact .cons (by simp [intKind, Value.isInt]) (.cons (by simp [intKind, Value.isInt]) .nil)

theorem ev_names {B : Nat} {value slice : Expr} {pos : Pos} {kvs : List (List Int × Int)} {r c n : Int} (hu : A.units + 100 < cLine) (hv : Ev prog w A env g m value (vNames prog w B kvs)) (hs : Ev prog w A env g m slice (pt r c))
    (hl : look kvs [r, c] = some n) (hsub : ∀ o i, subscripted slice false o i = operate [o, i] (getItem o i) := by intro _ _; with_unfolding_all rfl) :
    Ev prog w A env g m (.Subscript value slice pos) (vInt n) :=
  ev_sub_ hv hs fun s E x y _ hx hy => by
    obtain ⟨d, xs, rfl, _, hD, hK⟩ := hx
    obtain ⟨a, rfl, hk⟩ := key_of_pt (prog := prog) (w := w) hy
    obtain ⟨b, t, hat⟩ := hK.look hl
    refine tail_any hD.typeIs slot_dict_getitem.lookup (wpAny_getItem_heap (knd := Kd prog w) (show A.units + 1 < cLine by omega) hk hD hat ⟨⟨t, rfl⟩, keeps_tok s _⟩) (hsub _ _)

/-- names told for three places -/
theorem ev_told {B : Nat} {iter : Expr} {x : Str} {px pos lpos npos spos : Pos} {nm : Str} {scope : Scope} {cl : List (Str × Addr)} {kvs : List (List Int × Int)} {a b c d e f n1 n2 n3 : Int}
    (hh : A.handled = none) (hu : A.units + 100 < cLine) (hi : Ev prog w A env g m iter (three a b c d e f)) (h1 : look kvs [a, b] = some n1) (h2 : look kvs [c, d] = some n2) (h3 : look kvs [e, f] = some n3)
    (hN : ∀ C g₁ m₂, Kp g g₁ → Ev prog w A (compEnvC scope cl C env) g₁ m₂ (.Name nm npos) (vNames prog w B kvs))
    (hk : ∀ C, (compEnvC scope cl C env).scope.kind = .function := by intro _; rfl) (hl : ∀ C, (compEnvC scope cl C env).kindOf x = some .local := by intro _; rfl) (hdb : (x == ("__debug__" : Str)) = false := by decide)
    (hclos : closureFor scope env = pure cl := by rfl) (hcell : ∀ y ∈ scope.names, y.2 ≠ .cell := by decide) (hkind : scope.kind = .function := by rfl)
    (hnames : ∀ y ∈ scope.names, y.2 = .local → scope.names.lookup y.1 = some .local := by decide) (hx : scope.names.lookup x = some .local := by rfl)
    (hs : ∀ x, foldedSetIterable iter env x = pure x := by intro _; rfl) :
    Ev prog w A env g m (.ListComp (.Subscript (.Name nm npos) (.Name x spos) pos) [⟨.Name x px, iter, [], 0⟩] scope lpos) (vList ([n1, n2, n3].map vInt)) := by
  have base : Ev prog w A env g m (.ListComp (.Subscript (.Name nm npos) (.Name x spos) pos) [⟨.Name x px, iter, [], 0⟩] scope lpos) (vList (outs (fun _ => true) (fun i => vInt ([n1, n2, n3].getD i 0)) 3)) := by
    refine ev_comp1 (Rs := [pt a b, pt c d, pt e f]) hi (iter_tup hh) (by exact Nat.le_of_ble_eq_true rfl) (fun i => TupOk.int _) ?_ hclos hcell hkind hnames hx hs
    intro C g₁ i T m₂ v kg hT hTv hm
    refine ⟨evTs_nil, fun _ => ?_⟩
    have lv : ∀ {R : VP}, R.P g₁ v → Ev prog w A (compEnvC scope cl C env) g₁ m₂ (.Name x spos) R := fun h => ev_local hm h (hk C) (hl C) hdb
    match i, hT with
    | 0, hT => cases hT; exact ev_names hu (hN C g₁ m₂ kg) (lv hTv) h1
    | 1, hT => cases hT; exact ev_names hu (hN C g₁ m₂ kg) (lv hTv) h2
    | 2, hT => cases hT; exact ev_names hu (hN C g₁ m₂ kg) (lv hTv) h3
    | i + 3, hT => simp at hT
  exact base
end
end Mine
open PySem PySem.W PySem.Calls PyProof.Rows
set_option Elab.async false
set_option maxRecDepth 100000
namespace Mine

def cntB (b : Nat → Bool) : Nat → Nat
  | 0 => 0
  | n + 1 => cntB b n + (if b n then 1 else 0)
theorem outs_cnt (b : Nat → Bool) (Ro : Nat → VP) : ∀ n, (outs b Ro n).length = cntB b n
  | 0 => rfl
  | n + 1 => by
    unfold outs cntB
    rw [List.length_append, outs_cnt b Ro n]
    split <;> rfl
theorem cntB_le (b : Nat → Bool) : ∀ n, cntB b n ≤ n
  | 0 => Nat.le_refl _
  | n + 1 => by
    have := cntB_le b n
    unfold cntB
    split <;> omega

section
variable {prog : Program} {w : World} {A : Around} {env : Env} {g : Heap} {m mg mb : Str → Option Value} {s : Shared} {E : Value → Shared → Prop}

theorem ev_addlist {l r : Expr} {pos : Pos} {Rs Ss : List VP} (hl : Ev prog w A env g m l (vList Rs)) (hr : Ev prog w A env g m r (vList Ss)) (hn : Rs.length ≤ 1000) (hn' : Ss.length ≤ 1000) : Ev prog w A env g m (.BinOp l .Add r pos) (vList (Rs ++ Ss)) :=
  ev_bin hl hr fun s E x y _ hx hy => by
    obtain ⟨a, us, rfl, ⟨n, ha⟩, hu⟩ := hx
    obtain ⟨b, vs, rfl, ⟨n', hb⟩, hv⟩ := hy
    refine PySem.P.add_list ha hb ?_ (by rw [List.size_toArray, List.size_toArray, hu.len, hv.len, sizeLine_eq]; omega)
    refine ⟨?_, keeps_push s _⟩
    refine ⟨s.heap.objs.size, us ++ vs, rfl, Exists.intro 0 ?_, (hu.append hv).st (Kp.push _ _)⟩
    rw [show (us ++ vs).toArray = us.toArray ++ vs.toArray by simp]
    exact Heap.get?_push_size _ rfl

/-- a comprehension of one clause whose target is a pair of names -/
theorem assign_pair {x y : Str} {px py tp : Pos} {kk : Nat} {I : Addr} {wr : List Addr} {v v1 v2 : Value} {St : Heap → Prop} {Bd : (Str → Option Value) → Prop} {a : Addr} (hh : A.handled = none)
    (hx : env.kindOf x = some .local) (hy : env.kindOf y = some .local)
    (hp : (env.scope.kind == .class || (env.scope.kind == .module && env.locals != env.globals)) = false)
    (hlet : ∀ s Q E, Kp g s.heap → St s.heap → Q () s → wpAny (model prog w) A (letOwnedTupleGo (.Tuple [.Name x px, .Name y py] kk tp) (.ref I) v) Q E s)
    (hv : v = .ref a) (ht : IsTup g a #[v1, v2])
    (hst : ∀ h h', St h → (∀ b o, b ≠ env.locals → h.get? b = some o → h'.get? b = some o) → St h') (hb : ∀ m : Str → Option Value, Bd (fun z => if z = y then some v2 else if z = x then some v1 else m z)) :
    AssignOk prog w A env g (.Tuple [.Name x px, .Name y py] kk tp) I wr v St Bd := fun s E m k n st => by
  refine hlet s _ E k st ?_
  subst hv
  have ht' : IsTup s.heap a #[v1, v2] := ht.keeps k
  refine wpAny_assign_Tuple hh ht' rfl rfl fun h₁ hx₁ => ?_
  have k₁ : Kp s.heap h₁ := fun b o e => hx₁ b o (Nat.ne_of_lt (Heap.lt_size e)) e
  show wpAny _ _ (assignInOrder [assign (.Name x px) env, assign (.Name y py) env] [v1, v2]) _ _ _
  refine PyProof.Rows.assignInOrder_cons (wpAny_assign_Name (wpAny_storeName_local hx (n.keeps k₁) (fun h₂ n₂ hs₂ => ?_) hp))
  refine PyProof.Rows.assignInOrder_cons (wpAny_assign_Name (wpAny_storeName_local hy n₂ (fun h₃ n₃ hs₃ => ?_) hp))
  refine PyProof.Rows.assignInOrder_nil ?_
  have kn : KpN [env.locals] s.heap h₃ := (KpN.of k₁).trans ((KpN.same hs₂ (List.Mem.head [])).trans (KpN.same hs₃ (List.Mem.head [])))
  refine ⟨⟨h₃, _, rfl⟩, kn.mono (fun p hp => by rw [List.mem_singleton.mp hp]; exact .head _), KpT.ofN kn (fun p hp' o e => by rw [List.mem_singleton.mp hp'] at e; exact ns_notT n o e),
    hst _ _ st (fun b o hb e => kn b o (fun z => hb (List.mem_singleton.mp z)) e), _, n₃, hb m⟩

theorem let_list {elts : List Expr} {kk : Nat} {tp : Pos} {I ax : Addr} {i : Nat} {v : Value} {Q : Unit → Shared → Prop} (hi : s.heap.IsListIter I ax i) (q : Q () s) : wpAny (model prog w) A (letOwnedTupleGo (.Tuple elts kk tp) (.ref I) v) Q E s := by
  unfold letOwnedTupleGo
  cases v with
  | ref a =>
    obtain ⟨o, ho, hc, hd⟩ := hi
    show wpAny _ _ (load I >>= _) _ _ _
    refine wpAny_bind (wpAny_load ho ?_)
    rw [hc, hd]
    exact wpAny_pure q
  | _ => exact wpAny_pure q

/-- over a list, the target a pair -/
theorem ev_comp1P {elt iter : Expr} {x y : Str} {px py tp : Pos} {kk : Nat} {ifs : List Expr} {scope : Scope} {pos : Pos} {cl : List (Str × Addr)} {Rs : List VP} {b : Nat → Bool} {Ro : Nat → VP} {S T : Nat → VP}
    (hh : A.handled = none) (hi : Ev prog w A env g m iter (vList Rs)) (hRs : ∀ i, i < Rs.length → Rs[i]? = some (vTup [S i, T i])) (hn : Rs.length ≤ 1000) (hro : ∀ i, TupOk (Ro i)) (hxy : x ≠ y)
    (turn : ∀ C g₁ i m₂ v1 v2, Kp g g₁ → i < Rs.length → (S i).P g₁ v1 → (T i).P g₁ v2 → m₂ x = some v1 → m₂ y = some v2 →
      EvTs prog w A (compEnvC scope cl C env) g₁ m₂ ifs (b i) ∧ (b i = true → Ev prog w A (compEnvC scope cl C env) g₁ m₂ elt (Ro i)))
    (hclos : closureFor scope env = pure cl := by rfl) (hcell : ∀ y ∈ scope.names, y.2 ≠ .cell := by decide) (hkind : scope.kind = .function := by rfl)
    (hnames : ∀ y ∈ scope.names, y.2 = .local → scope.names.lookup y.1 = some .local := by decide) (hx : scope.names.lookup x = some .local := by rfl) (hy : scope.names.lookup y = some .local := by rfl)
    (hs : ∀ x, foldedSetIterable iter env x = pure x := by intro _; rfl) :
    Ev prog w A env g m (.ListComp elt [⟨.Tuple [.Name x px, .Name y py] kk tp, iter, ifs, 0⟩] scope pos) (vList (outs b Ro Rs.length)) := fun s E k n => by
  rw [eval_ListComp]
  refine wpAny_comprehension_free (use := none) rfl hs hclos hkind hnames (wpAny_mono (hi s E k n) (fun xv s₁ h₁ => ?_) fun _ _ e => e)
  obtain ⟨⟨ax, vs, rfl, hpl, hvs⟩, k₁⟩ := h₁
  have kg₁ : Kp g s₁.heap := k.trans (kp_of k₁)
  refine wpAny_pyIter_list hpl.isList ?_
  have hax : ax < s₁.heap.objs.size := by obtain ⟨n, e⟩ := hpl; exact Heap.lt_size e
  have hl : vs.toArray.size = Rs.length := by rw [List.size_toArray, hvs.len]
  have W := Walks.list (prog := prog) (w := w) hh s₁.heap.objs.size ax (Nat.ne_of_lt hax) vs.toArray
  rw [hl] at W
  have kp₂ : Kp s₁.heap (s₁.heap.push { cls := .type "list_iterator", data := .fields #[.ref ax, .int 0 0] }) := Kp.push _ _
  have hsz : (s₁.heap.push { cls := .type "list_iterator", data := .fields #[.ref ax, .int 0 0] }).objs.size = s₁.heap.objs.size + 1 := Heap.size_push ..
  have st : (s₁.heap.push { cls := .type "list_iterator", data := .fields #[.ref ax, .int 0 0] }).IsListIter s₁.heap.objs.size ax 0 ∧ (s₁.heap.push { cls := .type "list_iterator", data := .fields #[.ref ax, .int 0 0] }).IsList ax vs.toArray :=
    ⟨⟨_, Heap.get?_push_size _ rfl, rfl, rfl⟩, hpl.isList.push _⟩
  refine comp_core (RR := fun acc C => compPost (model prog w) A E none _ acc C) hcell hkind (fun h tk Q E' kh q => W.self 0 _ _ _ (W.frame _ _ _ st fun p _ o e => kh p o e) q) ?_
  intro D C h tk hD hC hDC kh hl hns
  dsimp only at hD hC kh
  rw [hsz] at hD hC
  have none_of : ∀ a, s₁.heap.objs.size + 1 ≤ a → s₁.heap.get? a = none := fun a ha => get_fresh (Nat.le_of_succ_le ha)
  have hDf : D ∉ [s₁.heap.objs.size, ax] := fun z => by
    rcases List.mem_cons.mp z with z | z
    · rw [z] at hD; exact Nat.lt_irrefl _ hD
    · rw [List.mem_singleton.mp z] at hD; exact absurd (Nat.lt_of_lt_of_le hax (Nat.le_of_succ_le hD)) (Nat.lt_irrefl _)
  have hCf : C ∉ [s₁.heap.objs.size, ax] := fun z => by
    rcases List.mem_cons.mp z with z | z
    · rw [z] at hC; exact Nat.lt_irrefl _ hC
    · rw [List.mem_singleton.mp z] at hC; exact absurd (Nat.lt_of_lt_of_le hax (Nat.le_of_succ_le hC)) (Nat.lt_irrefl _)
  refine comp1_loop (g := s₁.heap) (cenv := compEnvC scope cl C env) b Ro (fun i m₂ => ∃ v1 v2, m₂ x = some v1 ∧ m₂ y = some v2 ∧ (S i).P s₁.heap v1 ∧ (T i).P s₁.heap v2) hn W hDf hCf hDC
    (none_of C hC) (none_of D hD) (fun p hp => by rw [List.mem_singleton.mp hp]; exact get_fresh (Nat.le_refl _)) ?_ hro ?_ ?_ (kp₂.trans kh) hns hl (W.frame _ _ _ st fun p _ o e => kh p o e) ?_
  · rintro i h ⟨⟨o', e', c', _⟩, _⟩ p hp o e
    rw [List.mem_singleton.mp hp, e'] at e
    cases e
    rintro ⟨c, _⟩
    rw [c'] at c; simp at c
  · intro i v hi' hPv
    have hvi : vs[i]? = some v := by simpa using hPv
    obtain ⟨u, hu, hr⟩ := hvs.get (hRs i hi')
    rw [hvi] at hu; cases hu
    obtain ⟨a, us, rfl, ht, hus⟩ := hr
    obtain ⟨v1, v2, rfl, h1, h2⟩ := vps2 hus
    refine assign_pair (a := a) (v1 := v1) (v2 := v2) hh (lookup_relabel_local hx) (lookup_relabel_local hy) (by simp [compEnvC, relabel, hkind]) (fun s' Q E' _ st' q => let_list st'.1 q) rfl ht
      (fun h h' st' hk => W.frame _ _ _ st' fun p hp o e => hk p o (fun z => hCf (by have z' : p = C := z; rw [← z']; exact hp)) e) fun m' => ?_
    exact ⟨v1, v2, by simp [hxy], by simp, h1, h2⟩
  · rintro i m₂ hi' ⟨v1, v2, hm1, hm2, h1, h2⟩
    exact turn C s₁.heap i m₂ v1 v2 kg₁ hi' h1 h2 hm1 hm2
  · intro s' m' ys r kp hn' hp hv
    refine ⟨m', hn', fun h' hs' => ?_⟩
    have kt : KpT s'.heap h' := KpT.ofN (KpN.same hs' (List.Mem.head [])) (fun p hp' o e => by rw [List.mem_singleton.mp hp'] at e; exact ns_notT hn' o e)
    refine ⟨⟨D, ys, rfl, hp.at fun o e => hs'.extBut D o hDC e, hv.tup kt (outs_tup hro _)⟩, ?_⟩
    refine keeps_of ((Rest.of k₁).trans ((Rest.set s₁ h tk).trans (r.trans (Rest.set s' h' _)))) ?_
    refine (KpN.same hs' (List.Mem.head [])).ground ((kp_of k₁).trans kp) (fun p hp' => ?_)
    rw [List.mem_singleton.mp hp']
    cases e : s.heap.get? C with
    | none => rfl
    | some o => have := kp_of k₁ C o e; rw [none_of C hC] at this; cases this

end
end Mine
open PySem PySem.W PySem.Calls PyProof.Rows
set_option Elab.async false
set_option maxRecDepth 100000
namespace Mine

theorem and_high (x s : Nat) : x &&& (x / 2 ^ s * 2 ^ s) = x / 2 ^ s * 2 ^ s := by
  apply Nat.eq_of_testBit_eq
  intro i
  rw [Nat.testBit_and, Nat.testBit_mul_two_pow, Nat.testBit_div_two_pow]
  by_cases h : s ≤ i
  · have : i - s + s = i := by omega
    simp [h, this]
  · simp [h]
theorem xor_low (x s : Nat) : Builtin.bitXor (x : Int) ((x / 2 ^ s * 2 ^ s : Nat) : Int) = ((x % 2 ^ s : Nat) : Int) := by
  rw [bitXor_and, bitAnd_pp (Int.natCast_nonneg _) (Int.natCast_nonneg _)]
  simp only [Int.toNat_natCast]
  rw [and_high]
  have h := Nat.div_add_mod x (2 ^ s)
  rw [Nat.mul_comm] at h
  omega

section
variable {prog : Program} {w : World} {A : Around} {env : Env} {g : Heap} {m mg mb : Str → Option Value} {s : Shared} {E : Value → Shared → Prop}

theorem ev_shr {l r : Expr} {pos : Pos} {a n : Nat} (hl : Ev prog w A env g m l (vInt a)) (hr : Ev prog w A env g m r (vInt n)) : Ev prog w A env g m (.BinOp l .RShift r pos) (vInt (a / 2 ^ n : Nat)) :=
  ev_bin hl hr fun s E x y _ hx hy => by
    obtain ⟨t, rfl⟩ := hx; obtain ⟨u, rfl⟩ := hy
    refine rshift_int (Int.natCast_nonneg _) ⟨⟨s.toks, ?_⟩, keeps_tok s _⟩
    rw [Int.toNat_natCast, Int.fdiv_eq_ediv_of_nonneg _ (by have := Int.pow_pos (n := (2 : Int)) (m := n) (by decide); omega)]
    congr 1
theorem ev_shl {l r : Expr} {pos : Pos} {a n : Nat} (hl : Ev prog w A env g m l (vInt a)) (hr : Ev prog w A env g m r (vInt n)) (ha : a < 2 ^ 64) (hn : n ≤ 1000000) : Ev prog w A env g m (.BinOp l .LShift r pos) (vInt (a * 2 ^ n : Nat)) :=
  ev_bin hl hr fun s E x y _ hx hy => by
    obtain ⟨t, rfl⟩ := hx; obtain ⟨u, rfl⟩ := hy
    refine lshift_int_small (Int.natCast_nonneg _) (by omega) (by simpa using ha) ⟨⟨s.toks, ?_⟩, keeps_tok s _⟩
    rw [Int.toNat_natCast, Int.natCast_mul, Int.natCast_pow]; rfl
theorem ev_low {l r : Expr} {pos : Pos} {x n : Nat} (hl : Ev prog w A env g m l (vInt x)) (hr : Ev prog w A env g m r (vInt (x / 2 ^ n * 2 ^ n : Nat))) : Ev prog w A env g m (.BinOp l .BitXor r pos) (vInt (x % 2 ^ n : Nat)) :=
  ev_bin hl hr fun s E x y _ hx hy => by
    obtain ⟨t, rfl⟩ := hx; obtain ⟨u, rfl⟩ := hy
    refine xor_int ⟨⟨s.toks, ?_⟩, keeps_tok s _⟩
    rw [xor_low]
theorem ev_fdiv {l r : Expr} {pos : Pos} {a b : Nat} (hl : Ev prog w A env g m l (vInt a)) (hr : Ev prog w A env g m r (vInt b)) (hb : 0 < b) (hb2 : b < 1000) : Ev prog w A env g m (.BinOp l .FloorDiv r pos) (vInt (a / b : Nat)) :=
  ev_bin hl hr fun s E x y _ hx hy => by
    obtain ⟨t, rfl⟩ := hx; obtain ⟨u, rfl⟩ := hy
    refine floordiv_int (by omega) ⟨⟨s.toks, ?_⟩, keeps_tok s _⟩ (.inl (PyProof.noPylong_small (by omega)))
    rw [Int.fdiv_eq_ediv_of_nonneg _ (by omega)]
    congr 1
def bits (a : Nat) : Nat := Builtin.Int.intBits (a : Int)
theorem bits_lt (a : Nat) : a < 2 ^ bits a := by
  have := (intBits_le_iff (m := bits a) (x := (a : Int))).mp (Nat.le_refl _)
  simpa using this
theorem bits_le {a k : Nat} (h : a < 2 ^ k) : bits a ≤ k := (intBits_le_iff (m := k) (x := (a : Int))).mpr (by simpa using h)
theorem ev_bitlen {o : Expr} {apos pos : Pos} {a : Nat} (ho : Ev prog w A env g m o (vInt a)) (hbase : attributeBase o "bit_length" env (eval o env) = eval o env := by rfl) (hline : (apos.endLine == pos.line) = true := by rfl) :
    Ev prog w A env g m (.Call (.Attribute o "bit_length" apos) [] [] pos) (vInt (bits a)) := fun s E k n => by
  refine Call_method0 hbase hline (wpAny_mono (ho s E k n) (fun v s₁ h₁ => ?_) fun _ _ x => x)
  obtain ⟨⟨t, rfl⟩, k₁⟩ := h₁
  refine ⟨"int", "int.bit_length", F.plainAttrs_int, slot_int_bit_length, type_int_bit_length, typeIs_int _ _ _, (fun _ e => nomatch e), ?_⟩
  refine callWith_builtin rfl (PyProof.Rows.evalArgs_nil3 ?_)
  exact call_int_bit_length ⟨⟨s₁.toks, rfl⟩, keeps_trans k₁ (keeps_tok s₁ _)⟩
theorem mul_list_raw {l : Addr} {items : Array Value} {k : Nat} {x : Int} {u : Tok} {Q : Value → Shared → Prop}
    (hl : s.heap.get? l = some { cls := .type "list", dict := none, data := .seq items k, slots := #[] })
    (hlo : -(2 ^ 63 : Int) ≤ x) (hhi : x < 2 ^ 63) (hsz : items.size * x.toNat ≤ 2 ^ 24)
    (h : Q (.ref s.heap.objs.size) { s with heap := s.heap.push { cls := .type "list", data := .seq (List.foldl (fun x1 x2 => x1 ++ x2) #[] (List.replicate (if items.isEmpty = true then 0 else x.toNat) items)) } }) :
    wpAny (model prog w) A (binaryOp .Mult (.ref l) (.int x u)) Q E s :=
  wpAny_binaryOp_repeat_ref (T := "list") (U := "int") (by decide) ⟨_, hl, rfl⟩ (fun s' => typeIs_int s' x u) noFill_list_mul F.fills_int_mul F.slot_int_rmul repeat_list F.slot_int_index.lookup
    (call_meets F.slot_int_rmul (typeIs_int s x u) F.entry_int_rmul (F.args_int_rmul_2 _ _) (int___rmul___int_list x u l items k)
      ⟨hl, rfl, ⟨_, hl, rfl⟩, call_meets F.slot_list_mul ⟨_, hl, rfl⟩ F.entry_list_mul (F.args_list_mul_2 _ _)
        (AutoListH.list___mul___list_int_3 l items k x u (by simp [Builtin.List.listFitsIndex]; omega) (by omega) (by simp [Builtin.List.listTooLong, sizeLine]; omega))
        ⟨hl, h⟩⟩)
theorem vps_zeros (h : Heap) (t : Tok) : ∀ n, VPs h (List.replicate n (vInt 0)) (List.replicate n (Value.int 0 t))
  | 0 => trivial
  | n + 1 => ⟨⟨t, rfl⟩, vps_zeros h t n⟩
/-- a list behind B -/
def vListF (B : Nat) (Rs : List VP) : VP := ⟨fun h v => ∃ (a : Nat) (vs : List Value), v = .ref a ∧ B < a ∧ h.PlainList a vs.toArray ∧ VPs h Rs vs,
  fun k x => by obtain ⟨a, vs, e, b, t, y⟩ := x; exact ⟨a, vs, e, b, t.at fun o q => k _ o q, y.st k⟩⟩
/-- the list of one item, many times -/
theorem ev_zeros {B : Nat} (hB : ∃ o, g.get? B = some o) {l r : Expr} {pos : Pos} {n : Nat} (hl : Ev prog w A env g m l (vList [vInt 0])) (hr : Ev prog w A env g m r (vInt n)) (hn : n ≤ 1000) : Ev prog w A env g m (.BinOp l .Mult r pos) (vListF B (List.replicate n (vInt 0))) :=
  ev_bin hl hr fun s E x y kg hx hy => by
    obtain ⟨a, us, rfl, ⟨k, ha⟩, hu⟩ := hx
    obtain ⟨t, rfl⟩ := hy
    obtain ⟨v, rfl, tv, rfl⟩ := vps1 hu
    refine mul_list_raw ha (by omega) (by omega) ?_ ⟨?_, keeps_push s _⟩
    · simp only [List.size_toArray, List.length_cons, List.length_nil, Int.toNat_natCast]; omega
    refine ⟨s.heap.objs.size, List.replicate n (.int 0 tv), rfl, by obtain ⟨o, e⟩ := hB; exact Heap.lt_size (kg _ _ e), ⟨0, ?_⟩, ?_⟩
    · refine (Heap.get?_push_size _ rfl).trans ?_
      simp only [List.isEmpty_toArray, List.isEmpty_cons, Bool.false_eq_true, if_false, Int.toNat_natCast, listMul_foldl]
      rw [show (List.replicate n [Value.int 0 tv].toArray.toList) = List.replicate n [Value.int 0 tv] from rfl, lm_rep_flat_one]
      rfl
    · exact vps_zeros _ tv n
theorem evC_divmod {a b : Nat} (hb : 0 < b) (hb2 : b < 1000) : EvC prog w A g (.builtin "divmod") [vInt a, vInt b] (vTup [vInt (a / b : Nat), vInt (a % b : Nat)]) := by
  rintro s E vs _ hv
  obtain ⟨v, u, rfl, ⟨t, rfl⟩, ⟨t', rfl⟩⟩ := vps2 hv
  refine divmod_int (by omega) ⟨⟨s.heap.objs.size, [.int (a / b : Nat) s.toks, .int (a % b : Nat) (s.toks + 1)], rfl, ⟨_, Heap.get?_push_size _ rfl, rfl, 0, ?_⟩, ⟨_, rfl⟩, ⟨_, rfl⟩, trivial⟩, _, _, rfl, Kp.push _ _⟩ (.inl (PyProof.noPylong_small (by omega)))
  rw [Int.fdiv_eq_ediv_of_nonneg _ (by omega), Int.fmod_eq_emod_of_nonneg _ (by omega)]
  rfl
end
end Mine
open PySem PySem.W PySem.Calls PyProof.Rows
set_option Elab.async false
set_option maxRecDepth 100000
namespace Mine

abbrev hide (h : Heap) (N : List Addr) : Heap := hideAll h N
theorem kp_hide (h : Heap) (N : List Addr) : Kp (hide h N) h := fun _ _ e => of_hideAll N e
theorem hide_get {h : Heap} {N : List Addr} {b : Addr} {o : Obj} (e : h.get? b = some o) (hb : b ∉ N) : (hide h N).get? b = some o := hideAll_get N e hb
theorem KpN.hide {N : List Addr} {h h' : Heap} (k : KpN N h h') : Kp (hide h N) h' := fun b o e => by
  by_cases hb : b ∈ N
  · rw [hideAll_none N hb] at e; cases e
  · exact k b o hb (of_hideAll N e)
/-- what a ground without these holds stands in the hidden heap -/
theorem kp_into_hide {g h : Heap} {N : List Addr} (k : Kp g h) (hN : ∀ p ∈ N, g.get? p = none) : Kp g (hide h N) := fun b o e =>
  hide_get (k b o e) fun hb => by rw [hN b hb] at e; cases e
theorem KpN.drop {N M : List Addr} {a b c : Heap} (x : KpN M a b) (y : KpN N b c) (h : ∀ p ∈ N, p ∈ M ∨ a.get? p = none) : KpN M a c := fun p o hp e =>
  y p o (fun z => (h p z).elim hp fun q => by rw [q] at e; cases e) (x p o hp e)

/-- the table of the codes made in a def: nothing yet, or the one def's code -/
def TabOk (P : Addr) (pos : Pos) (qual : Str) (h : Heap) : Prop :=
  ∃ ps, h.get? P = some (tabObj ps) ∧ (ps = #[] ∨ ∃ c', ps = #[rawInt pos.line, rawInt pos.col, .ref c'] ∧ h.CodeRec (.ref c') qual)
theorem codeRec_ne {h : Heap} {P c' : Addr} {pos : Pos} {qual q : Str} (t : TabOk P pos qual h) (r : h.CodeRec (.ref c') q) : c' ≠ P := by
  rintro rfl
  obtain ⟨c, o, vs, t', e, ho, hd, hv⟩ := r
  cases e
  obtain ⟨ps, hP, hps⟩ := t
  rw [hP] at ho; cases ho
  cases hd
  rcases hps with rfl | ⟨c'', rfl, _⟩
  · simp at hv
  · simp [rawInt] at hv
theorem codeRec_kp {h h' : Heap} {N : List Addr} {c' : Addr} {q : Str} (r : h.CodeRec (.ref c') q) (k : KpN N h h') (hn : c' ∉ N) : h'.CodeRec (.ref c') q := by
  obtain ⟨c, o, vs, t', e, ho, hd, hv⟩ := r
  cases e
  exact ⟨_, o, vs, t', rfl, k _ _ hn ho, hd, hv⟩
theorem TabOk.kp {P : Addr} {pos : Pos} {qual : Str} {h h' : Heap} (t : TabOk P pos qual h) {N : List Addr} (k : KpN N h h') (hP : P ∉ N) (hc : ∀ c', h.CodeRec (.ref c') qual → c' ∉ N) : TabOk P pos qual h' := by
  obtain ⟨ps, e, hps⟩ := t
  refine ⟨ps, k _ _ hP e, ?_⟩
  rcases hps with rfl | ⟨c', rfl, r⟩
  · exact .inl rfl
  · exact .inr ⟨c', rfl, codeRec_kp r k (hc c' r)⟩
theorem TabOk.keeps {P : Addr} {pos : Pos} {qual : Str} {h h' : Heap} (t : TabOk P pos qual h) (k : Kp h h') : TabOk P pos qual h' :=
  t.kp (N := []) (KpN.of k) (fun z => nomatch z) (fun _ _ z => nomatch z)

def FnC (i : Nat) (h : Heap) (a c : Addr) : Prop := ∃ o doc pm an ct, h.get? a = some o ∧ o.data = .func (fnOf (nameAt i) (nameAt i) (paramsAt i) (bodyAt i) (scopeAt i) .none .none doc pm an (.ref c) ct) ∧ h.CodeRec (.ref c) (nameAt i)
theorem FnC.keeps {i : Nat} {h h' : Heap} {a c : Addr} (x : FnC i h a c) (k : Kp h h') : FnC i h' a c := by
  obtain ⟨o, doc, pm, an, ct, e, d, c⟩ := x
  exact ⟨o, doc, pm, an, ct, k _ _ e, d, c.keeps k⟩
/-- the top with what makes defs -/
structure Gt (mg mb : Str → Option Value) (h : Heap) : Prop where
  gl : Gl mg mb h
  c1 : CodeHd h 48 44
  c2 : CodeHd h 55 51
  f1 : FnC 7 h 49 48
  f2 : FnC 8 h 56 55
  bm : ∃ bm ob, mg "__builtins__" = some (.ref bm) ∧ bm ≠ builtinsNs ∧ h.get? bm = some ob ∧ ob.cls = .type "module" ∧ ob.dict = some builtinsNs ∧ ob.data = .plain
theorem Gt.keeps {mg mb : Str → Option Value} {h h' : Heap} (x : Gt mg mb h) (k : Kp h h') : Gt mg mb h' :=
  ⟨x.gl.keeps k, x.c1.keeps k, x.c2.keeps k, x.f1.keeps k, x.f2.keeps k, by
    obtain ⟨bm, ob, a, b, c, d⟩ := x.bm
    exact ⟨bm, ob, a, b, k _ _ c, d⟩⟩
theorem Gt.builtinsAt {mg mb : Str → Option Value} {g h : Heap} (x : Gt mg mb g) (k : Kp g h) {P : Addr} (hP : g.get? P = none) : h.BuiltinsAt mg P := by
  obtain ⟨bm, ob, a, b, c, d, e, f⟩ := x.bm
  refine ⟨bm, ob, a, b, ?_, ?_, k _ _ c, d, e, f⟩
  · rintro rfl
    obtain ⟨o, es, ep, e', hd, _⟩ := x.gl.g
    rw [c] at e'; cases e'
    rw [f] at hd; cases hd
  · rintro rfl
    rw [hP] at c; cases c

section
variable {prog : Program} {w : World} {A : Around} {env : Env} {g : Heap} {m mg mb : Str → Option Value} {s : Shared} {E : Value → Shared → Prop}

/-- the call of a def that lies in the heap, closures and all -/
theorem call_fn {f : Addr} {o : Obj} {name qual : Str} {params : Arguments} {body : List Stmt} {scope : Scope} {cl : List (Str × Addr)} {doc pm ctv cdv : Value} {vs : List Value} {binds : List (Str × Value)} {Q : Value → Shared → Prop}
    (ho : s.heap.get? f = some o) (hd : o.data = .func (fnX name qual params body scope cl .none .none doc pm none cdv ctv)) (hcd : s.heap.CodeRec cdv qual) (hlim : s.heap.NoLimit) (hroom : A.depth < recursionLimit)
    (hbind : bindArgs (fnX name qual params body scope cl .none .none doc pm none cdv ctv) ⟨vs, []⟩ = pure binds) (hloc : ∀ y ∈ binds, scope.names.lookup y.1 = some .local)
    (h : ∀ h₁ tk E', Kp s.heap h₁ → h₁.Ns s.heap.objs.size (fun x => binds.reverse.lookup x) →
      wpAny (model prog w) (A.deeper (envX qual scope s.heap.objs.size f cdv cl)) (execs body (envX qual scope s.heap.objs.size f cdv cl)) (fun fl s' => Q (match fl with | .ret v => v | _ => .none) s') E' { s with heap := h₁, toks := tk })
    (hcell : ∀ x ∈ scope.names, x.2 ≠ .cell) (hco : scope.isCoroutine = false) (hgen : scope.isGenerator = false) (hk : scope.kind = .function) : wpAny (model prog w) A (call (.ref f) vs) Q E s := by
  refine wpAny_call ?_
  exact codeAny_call_def (fd := fnX name qual params body scope cl .none .none doc pm none cdv ctv) (body := body) (binds := binds) hroom ho hd hlim hcd rfl (BindsTo.of_eq hbind) hcell hloc (fun h₁ hns hk₁ => h h₁ _ _ hk₁ hns) hco hgen hk

/-- a def in a def, its name a cell -/
theorem st_def {name : Str} {params : Arguments} {body : List Stmt} {scope : Scope} {pos : Pos} {c P cc : Addr} {qual : Str} {clos : List (Str × Addr)} {v₀ : Option Value} {Q : Flow → Shared → Prop}
    (G : Gt mg mb g) (k : Kp g s.heap) (hgP : g.get? P = none) (T : TabOk P pos qual s.heap) (C : CodeHd g c P) (hcode : env.code = .ref c) (hge : env.globals = mainGlobals)
    (hq : qualnameIn env name name = qual) (hcl : closureFor scope env = pure clos) (hk : env.scope.kind = .function) (hl : env.kindOf name = some .cell) (hcc : env.cells.lookup name = some cc) (hcv : s.heap.IsCell cc v₀) (hmP : mainGlobals ≠ P)
    (hQ : ∀ s' f c' ctv doc pm, Rest s s' → KpN [P, cc] s.heap s'.heap → TabOk P pos qual s'.heap → s'.heap.get? f = some (fnMade name qual params body scope clos doc pm c' ctv) → s'.heap.CodeRec (.ref c') qual →
      s'.heap.IsCell cc (some (.ref f)) → s.heap.objs.size ≤ f → Q .next s')
    (hd0 : params.defaults = [] := by rfl) (hk0 : params.kw_defaults = [] := by rfl) (ha : annTrees params none env = [] := by rfl) :
    wpAny (model prog w) A (exec (.FunctionDef name params body [] none [] scope none name pos) env) Q E s := by
  refine nestDef_K hd0 hk0 ha ?_
  rw [hq]
  obtain ⟨ps, hP, hps⟩ := T
  have hccP : cc ≠ P := by
    rintro rfl
    obtain ⟨o, e, d⟩ := hcv
    rw [hP] at e; cases e; cases d
  rcases hps with rfl | ⟨c', rfl, hrec⟩
  · refine makeFunction_K hcl hge (G.gl.g.keeps k) hcode (C.keeps k) hP trivial rfl hmP (G.builtinsAt k hgP) fun c' ctv doc h' tk hx hge' hlt hrec' htb => ?_
    have hc' : h'.IsCell cc v₀ := by obtain ⟨o, e, d⟩ := hcv; exact ⟨o, hx _ _ hccP e, d⟩
    refine wpAny_storeName_cell hk hl hcc (hc'.keeps (Kp.push _ _)) fun h₂ hc₂ hs₂ => ?_
    have hfc : h'.objs.size ≠ cc := Nat.ne_of_gt hc'.lt
    have hsz : s.heap.objs.size ≤ h'.objs.size := Nat.le_of_lt (Nat.lt_of_le_of_lt hge' hlt)
    have rec₂ : h₂.CodeRec (.ref c') qual := codeRec_kp (hrec'.push _) (KpN.same hs₂ (List.Mem.head [])) (fun z => by
      have z' := List.mem_singleton.mp z
      have := hcv.lt
      exact absurd (Nat.lt_of_lt_of_le this hge') (by rw [z']; exact Nat.lt_irrefl _))
    refine hQ _ h'.objs.size c' ctv doc _ ⟨h₂, tk, rfl⟩ ?_ ⟨_, hs₂.extBut _ _ (Ne.symm hccP) (Heap.get?_push_of_some _ htb), .inr ⟨c', by simp, rec₂⟩⟩ (hs₂.extBut _ _ hfc (Heap.get?_push_size _ rfl)) rec₂ hc₂ hsz
    refine fun b o hb e => hs₂.extBut b o (fun z => hb (z ▸ .tail _ (.head _))) (Heap.get?_push_of_some _ (hx b o (fun z => hb (z ▸ .head _)) e))
  · refine makeFunction_hit (cv := .ref c') hcl hge (G.gl.g.keeps k) hcode (C.keeps k) hP (by simp [TriplesOk, rawInt]) (by simp [codeAmong, rawInt]) (G.builtinsAt k hgP) fun ctv doc h' tk hx hsz => ?_
    have hc' : h'.IsCell cc v₀ := hcv.keeps hx
    refine wpAny_storeName_cell hk hl hcc (hc'.keeps (Kp.push _ _)) fun h₂ hc₂ hs₂ => ?_
    have hfc : h'.objs.size ≠ cc := Nat.ne_of_gt hc'.lt
    have hcc' : c' ≠ cc := by
      rintro rfl
      obtain ⟨c, o, vs, t', e, ho, hd, hv⟩ := hrec
      cases e
      obtain ⟨o', e', d'⟩ := hcv
      rw [ho] at e'; cases e'
      rw [hd] at d'; cases d'
    have rec₂ : h₂.CodeRec (.ref c') qual := codeRec_kp ((hrec.keeps hx).push _) (KpN.same hs₂ (List.Mem.head [])) (fun z => hcc' (List.mem_singleton.mp z))
    refine hQ _ h'.objs.size c' ctv doc _ ⟨h₂, tk, rfl⟩ ?_ ⟨_, hs₂.extBut _ _ (Ne.symm hccP) (Heap.get?_push_of_some _ (hx _ _ hP)), .inr ⟨c', by simp, rec₂⟩⟩ (hs₂.extBut _ _ hfc (Heap.get?_push_size _ rfl)) rec₂ hc₂ hsz
    refine fun b o hb e => hs₂.extBut b o (fun z => hb (z ▸ .tail _ (.head _))) (Heap.get?_push_of_some _ (hx b o e))
end
end Mine
open PySem PySem.W PySem.Calls PyProof.Rows
set_option Elab.async false
set_option maxRecDepth 100000
namespace Mine

def dig (n x k : Nat) : List Nat := if k ≤ 1 then [x] else dig n (x % 2 ^ (k / 2 * n)) (k / 2) ++ dig n (x / 2 ^ (k / 2 * n)) (k - k / 2)
termination_by k
decreasing_by all_goals omega
def val (n : Nat) : List Nat → Nat
  | [] => 0
  | d :: ds => d + 2 ^ n * val n ds
theorem val_append (n : Nat) (b : List Nat) : ∀ a, val n (a ++ b) = val n a + 2 ^ (a.length * n) * val n b
  | [] => by simp [val]
  | d :: a => by
    rw [List.cons_append, val, val, val_append n b a, List.length_cons, Nat.succ_mul, Nat.pow_add, Nat.mul_add]
    rw [show 2 ^ (a.length * n) * 2 ^ n = 2 ^ n * 2 ^ (a.length * n) from Nat.mul_comm _ _, Nat.mul_assoc]
    omega
theorem dig_one (n x : Nat) : dig n x 1 = [x] := by unfold dig; rfl
theorem dig_more (n x : Nat) {k : Nat} (h : 2 ≤ k) : dig n x k = dig n (x % 2 ^ (k / 2 * n)) (k / 2) ++ dig n (x / 2 ^ (k / 2 * n)) (k - k / 2) := by
  rw [dig]; rw [if_neg (by omega)]
theorem dig_len (n : Nat) : ∀ k x, 1 ≤ k → (dig n x k).length = k := by
  intro k
  induction k using Nat.strongRecOn with
  | ind k ih =>
    intro x hk
    by_cases h : k = 1
    · subst h; rw [dig_one]; rfl
    · rw [dig_more n x (by omega), List.length_append, ih (k / 2) (by omega) _ (by omega), ih (k - k / 2) (by omega) _ (by omega)]; omega
theorem dig_val (n : Nat) : ∀ k x, 1 ≤ k → val n (dig n x k) = x := by
  intro k
  induction k using Nat.strongRecOn with
  | ind k ih =>
    intro x hk
    by_cases h : k = 1
    · subst h; rw [dig_one]; simp [val]
    · rw [dig_more n x (by omega), val_append, ih (k / 2) (by omega) _ (by omega), ih (k - k / 2) (by omega) _ (by omega), dig_len n _ _ (by omega)]
      have := Nat.div_add_mod x (2 ^ (k / 2 * n))
      omega
theorem dig_le (n : Nat) : ∀ k x, 1 ≤ k → ∀ d ∈ dig n x k, d ≤ x := by
  intro k
  induction k using Nat.strongRecOn with
  | ind k ih =>
    intro x hk d hd
    by_cases h : k = 1
    · subst h; rw [dig_one] at hd; rw [List.mem_singleton.mp hd]; exact Nat.le_refl _
    · rw [dig_more n x (by omega)] at hd
      rcases List.mem_append.mp hd with hd | hd
      · exact Nat.le_trans (ih (k / 2) (by omega) _ (by omega) d hd) (Nat.mod_le _ _)
      · exact Nat.le_trans (ih (k - k / 2) (by omega) _ (by omega) d hd) (Nat.div_le_self _ _)

abbrev nats (ds : List Nat) : List VP := ds.map fun (d : Nat) => vInt (d : Int)
theorem nats_any {h h' : Heap} : ∀ {ds : List Nat} {vs : List Value}, VPs h (nats ds) vs → VPs h' (nats ds) vs
  | [], [], _ => trivial
  | _ :: _, _ :: _, x => ⟨x.1, nats_any x.2⟩
theorem nats_set {h : Heap} {x : Nat} {t : Tok} : ∀ {ds : List Nat} {vs : List Value} {l : Nat}, VPs h (nats ds) vs → VPs h (nats (ds.set l x)) (vs.set l (.int x t))
  | [], [], _, _ => trivial
  | _ :: _, _ :: _, 0, y => ⟨⟨t, rfl⟩, y.2⟩
  | _ :: _, _ :: _, _ + 1, y => ⟨y.1, nats_set y.2⟩

def bodyOf : Stmt → List Stmt
  | .FunctionDef _ _ b _ _ _ _ _ _ _ => b
  | _ => []
def scopeOf : Stmt → Scope
  | .FunctionDef _ _ _ _ _ _ s _ _ _ => s
  | _ => default
def paramsOf : Stmt → Arguments
  | .FunctionDef _ p _ _ _ _ _ _ _ _ => p
  | _ => default
def posOf : Stmt → Pos
  | .FunctionDef _ _ _ _ _ _ _ _ _ p => p
  | _ => default
def nest1 : Stmt := ((bodyAt 7)[1]?).getD (.Pass default)
def nest2 : Stmt := ((bodyAt 8)[0]?).getD (.Pass default)
def qual1 : Str := (nameAt 7 ++ ".<locals>.") ++ "inner"
def qual2 : Str := (nameAt 8 ++ ".<locals>.") ++ "inner"

structure Nest (g : Heap) (qual : Str) (st : Stmt) (f : Addr) (clos : List (Str × Addr)) (c' : Addr) : Prop where
  ex : ∃ doc pm ctv, g.get? f = some (fnMade "inner" qual (paramsOf st) (bodyOf st) (scopeOf st) clos doc pm c' ctv)
  hcd : g.CodeRec (.ref c') qual
  lim : g.NoLimit

section
variable {prog : Program} {w : World} {A : Around} {env : Env} {g : Heap} {m mg mb : Str → Option Value} {s : Shared} {E : Value → Shared → Prop}

theorem eval_callF {a : Addr} {o : Obj} {fd : FuncData} {f : Str} {p pos : Pos} {e : Expr} {es : List Expr} {Rs : List VP} {Q : Value → Shared → Prop} (hf : Ev prog w A env g m (.Name f p) (vIs (.ref a))) (hs : Evs prog w A env g m (e :: es) Rs)
    (ho : g.get? a = some o) (hd : o.data = .func fd) (k : Kp g s.heap) (n : s.heap.Ns env.locals m)
    (hc : ∀ s' vs, Keeps s s' → VPs s'.heap Rs vs → wpAny (model prog w) A (call (.ref a) vs) Q E s') (he : starEach (e :: es) env = (false, eval e env) :: starEach es env := by rfl) :
    wpAny (model prog w) A (eval (.Call (.Name f p) (e :: es) [] pos) env) Q E s := by
  refine wpAny_Call_Name_kw (wpAny_mono (hf s E k n) (fun v s₁ h₁ => ?_) fun _ _ x => x)
  obtain ⟨e1, k₁⟩ := h₁
  cases e1
  rw [keywordEach_nil]
  refine PyProof.Rows.callWith_def (o := o) hd (wpAny_mono (hs s₁ E pos (kp_step k k₁) (ns_keeps n k₁)) (fun vs s₂ h₂ => ?_) fun _ _ x => x) he
  exact ⟨kp_step (kp_step k k₁) h₂.2 _ _ ho, hc s₂ vs (keeps_trans k₁ h₂.2) h₂.1⟩
theorem st_call {a : Addr} {o : Obj} {fd : FuncData} {f : Str} {p pos pos' : Pos} {e : Expr} {es : List Expr} {Rs : List VP} {Q : Flow → Shared → Prop} (hf : Ev prog w A env g m (.Name f p) (vIs (.ref a))) (hs : Evs prog w A env g m (e :: es) Rs)
    (ho : g.get? a = some o) (hd : o.data = .func fd) (k : Kp g s.heap) (n : s.heap.Ns env.locals m)
    (hc : ∀ s' vs, Keeps s s' → VPs s'.heap Rs vs → wpAny (model prog w) A (call (.ref a) vs) (fun v s'' => v = .none ∧ Q .next s'') E s') (he : starEach (e :: es) env = (false, eval e env) :: starEach es env := by rfl)
    (hi : interactive env = false := by rfl) (hsw : swapsWith (.Call (.Name f p) (e :: es) [] pos) none pos'.line env = pure false := by rfl) :
    wpAny (model prog w) A (exec (.Expr (.Call (.Name f p) (e :: es) [] pos) pos') env) Q E s :=
  wpAny_Expr (eval_callF hf hs ho hd k n (fun s' vs ks hv => wpAny_mono (hc s' vs ks hv) (fun v s'' h => by obtain ⟨rfl, h⟩ := h; exact h) fun _ _ x => x) he) hi hsw
theorem vps3 {h : Heap} {R S T : VP} : ∀ {vs : List Value}, VPs h [R, S, T] vs → ∃ v u t, vs = [v, u, t] ∧ R.P h v ∧ S.P h u ∧ T.P h t
  | [v, u, t], x => ⟨v, u, t, rfl, x.1, x.2.1, x.2.2.1⟩
  | [], x => x.elim
  | [_], x => x.2.elim
  | [_, _], x => x.2.2.elim
  | _ :: _ :: _ :: _ :: _, x => x.2.2.2.elim

theorem isList_kp {h h' : Heap} {D : Addr} {vs : Array Value} {N : List Addr} (x : h.IsList D vs) (k : KpN N h h') (hD : D ∉ N) : h'.IsList D vs := by
  obtain ⟨o, e, r⟩ := x
  exact ⟨o, k _ _ hD e, r⟩

theorem ev_at {e : Expr} {R : VP} {Q : Value → Shared → Prop} (h : Ev prog w A env g m e R) (k : Kp g s.heap) (n : s.heap.Ns env.locals m) (hQ : ∀ v s', R.P s'.heap v → Keeps s s' → Q v s') : wpAny (model prog w) A (eval e env) Q E s :=
  wpAny_mono (h s E k n) (fun v s' h' => hQ v s' h'.1 h'.2) fun _ _ x => x
theorem inner1 {f cn ci ca D c' : Addr} {n : Nat} {tn : Tok} (hn : n ≤ 2) (F : Nest g qual1 nest1 f [("n", cn), ("inner", ci), ("a_digits", ca)] c')
    (hcn : g.IsCell cn (some (.int n tn))) (hci : g.IsCell ci (some (.ref f))) (hca : g.IsCell ca (some (.ref D))) (hD : g.get? D = none) :
    ∀ k (A : Around) s ys ds x l t1 t2 t3 E, 1 ≤ k → A.depth + k ≤ recursionLimit → Kp g s.heap → s.heap.IsList D (ys : List Value).toArray → VPs s.heap (nats ds) ys → l + k ≤ ds.length → ds.length ≤ 1000 → x < 2 ^ 60 →
      wpAny (model prog w) A (call (.ref f) [.int ((x : Nat) : Int) t1, .int ((l : Nat) : Int) t2, .int ((l + k : Nat) : Int) t3])
        (fun v s' => v = .none ∧ Rest s s' ∧ KpN [D] s.heap s'.heap ∧ ∃ ys', s'.heap.IsList D (ys' : List Value).toArray ∧ VPs s'.heap (nats (ds.take l ++ dig n x k ++ ds.drop (l + k))) ys') E s := by
  intro k
  induction k using Nat.strongRecOn with
  | ind k ih =>
    intro A s ys ds x l t1 t2 t3 E hk hdep kg hl hv hlk hds hx
    obtain ⟨doc, pm, ctv, ho⟩ := F.ex
    refine call_fn (binds := [("x", .int (x : Int) t1), ("L", .int (l : Int) t2), ("R", .int ((l + k : Nat) : Int) t3)]) (kg _ _ ho) rfl (F.hcd.keeps kg) (F.lim.keeps kg) (by omega) (by rfl) ?_ ?_ (by decide) (by rfl) (by rfl) (by rfl)
    · intro y hy
      rcases List.mem_cons.mp hy with rfl | hy
      · rfl
      rcases List.mem_cons.mp hy with rfl | hy
      · rfl
      · rw [List.mem_singleton.mp hy]; rfl
    intro h₁ tk E' k₁ hns
    have hL : s.heap.get? s.heap.objs.size = none := get_fresh (Nat.le_refl _)
    have gL : g.get? s.heap.objs.size = none := by
      cases e : g.get? s.heap.objs.size with
      | none => rfl
      | some o => have := kg _ _ e; rw [hL] at this; cases this
    have hDL : D ≠ s.heap.objs.size := Nat.ne_of_lt (by obtain ⟨o, e, _⟩ := hl; exact Heap.lt_size e)
    have kg₁ := kg.trans k₁
    have hl₁ : h₁.IsList D ys.toArray := isList_kp hl (KpN.of (N := []) k₁) (fun z => nomatch z)
    rw [show bodyOf nest1 = [_, _, _, _, _, _, _] from rfl]
    refine wpAny_execs_cons (st_if (g := g) (s := { s with heap := h₁, toks := tk }) (c := decide (((l : Int) + 1) = ((l + k : Nat) : Int))) (evT_cmp (ev_add (ev_local rfl ⟨t2, rfl⟩) ev_int) (ev_local (R := vInt ((l + k : Nat) : Int)) rfl ⟨t3, rfl⟩) cmp_eq_int) kg₁ hns ?_ ?_)
    · intro s₂ hc k₂
      have hk1 : k = 1 := by have := of_decide_eq_true hc; omega
      subst hk1
      have kp₂ := kp_of k₂
      have hl₂ : s₂.heap.IsList D ys.toArray := isList_kp hl₁ (KpN.of (N := []) kp₂) (fun z => nomatch z)
      have n₂ := ns_keeps hns k₂
      refine wpAny_execs_cons (wpAny_Assign_Subscript (ev_at (R := vIs (.int (x : Int) t1)) (g := g) (ev_local rfl rfl) (kg₁.trans kp₂) n₂ fun v s₃ e3 k₃ =>
        ev_at (R := vIs (.ref D)) (g := g) (ev_free rfl hca rfl) ((kg₁.trans kp₂).trans (kp_of k₃)) (ns_keeps n₂ k₃) fun ov s₄ e4 k₄ =>
        ev_at (R := vIs (.int (l : Int) t2)) (g := g) (ev_local rfl rfl) (((kg₁.trans kp₂).trans (kp_of k₃)).trans (kp_of k₄)) (ns_keeps (ns_keeps n₂ k₃) k₄) fun iv s₅ e5 k₅ => ?_))
      cases e3; cases e4; cases e5
      have k25 := keeps_trans k₃ (keeps_trans k₄ k₅)
      have hl₅ : s₅.heap.IsList D ys.toArray := isList_kp hl₂ (KpN.of (N := []) (kp_of k25)) (fun z => nomatch z)
      have hlen := hv.len
      rw [List.length_map] at hlen
      refine wpAny_setItem_list hl₅ (Int.natCast_nonneg _) (by omega) (by rw [List.size_toArray, hlen]; omega) fun h₆ hl₆ hs₆ => ?_
      refine wpAny_execs_cons (wpAny_Return_none ?_)
      refine ⟨rfl, (Rest.set s h₁ tk).trans ((Rest.of k₂).trans ((Rest.of k25).trans (Rest.set s₅ h₆ s₅.toks))), ?_, ys.set l (.int x t1), ?_, ?_⟩
      · exact (KpN.of (k₁.trans (kp₂.trans (kp_of k25)))).trans (KpN.same hs₆ (List.Mem.head []))
      · rw [Int.toNat_natCast] at hl₆
        simpa using hl₆
      · have : ds.take l ++ dig n x 1 ++ ds.drop (l + 1) = ds.set l x := by
          rw [dig_one, List.set_eq_take_append_cons_drop, if_pos (by omega), List.append_assoc]; rfl
        rw [this]
        exact nats_set (nats_any hv)
    · intro s₂ hc k₂
      have hk1 : 2 ≤ k := by
        have := of_decide_eq_false hc
        omega
      refine wpAny_execs_nil ?_
      have kp₂ := kp_of k₂
      have hl₂ : s₂.heap.IsList D ys.toArray := isList_kp hl₁ (KpN.of (N := []) kp₂) (fun z => nomatch z)
      have n₂ := ns_keeps hns k₂
      have hDN : D ∉ [s.heap.objs.size] := fun z => hDL (List.mem_singleton.mp z)
      have gN : ∀ p ∈ [s.heap.objs.size], g.get? p = none := fun p hp => by rw [List.mem_singleton.mp hp]; exact gL
      have up : ∀ {s s' : Shared}, Kp g s.heap → KpN [_] s.heap s'.heap → Kp g s'.heap := fun a b => KpN.ground b a gN
      have e1 : (l + (l + k)) / 2 ^ 1 = l + k / 2 := by omega
      refine wpAny_execs_cons (st_assign (g := g) (R := vInt (l + k / 2 : Nat)) (ev_cast (ev_shr (a := l + (l + k)) (n := 1) (ev_cast (ev_add (ev_local rfl ⟨t2, rfl⟩) (ev_local rfl ⟨t3, rfl⟩)) (by omega)) ev_int) (by rw [e1])) (SeqOk.int _) (kg₁.trans kp₂) n₂ (fun v₃ s₃ hv₃ r₃ kn₃ _ n₃ => ?_))
      obtain ⟨u3, rfl⟩ := hv₃
      have kg₃ := up (kg₁.trans kp₂) kn₃
      refine wpAny_execs_cons (st_assign (g := g) (R := vInt (k / 2 * n : Nat)) (ev_cast (ev_mul (a := ((k / 2 : Nat) : Int)) (b := (n : Int)) (ev_cast (ev_sub (ev_local rfl ⟨u3, rfl⟩) (ev_local rfl ⟨t2, rfl⟩)) (by omega)) (ev_free rfl hcn ⟨tn, rfl⟩) ?_) (by simp)) (SeqOk.int _) kg₃ n₃ (fun v₄ s₄ hv₄ r₄ kn₄ _ n₄ => ?_))
      · exact IntMulOk.of_left (bits_le (a := k / 2) (k := 64) (by omega))
      obtain ⟨u4, rfl⟩ := hv₄
      have kg₄ := up kg₃ kn₄
      refine wpAny_execs_cons (st_assign (g := g) (R := vInt (x / 2 ^ (k / 2 * n) : Nat)) (ev_shr (ev_local rfl ⟨t1, rfl⟩) (ev_local rfl ⟨u4, rfl⟩)) (SeqOk.int _) kg₄ n₄ (fun v₅ s₅ hv₅ r₅ kn₅ _ n₅ => ?_))
      obtain ⟨u5, rfl⟩ := hv₅
      have kg₅ := up kg₄ kn₅
      have hxu : x / 2 ^ (k / 2 * n) ≤ x := Nat.div_le_self _ _
      have hxl : x % 2 ^ (k / 2 * n) ≤ x := Nat.mod_le _ _
      have hsh : k / 2 * n ≤ 1000000 := Nat.le_trans (Nat.mul_le_mul_left _ hn) (by omega)
      refine wpAny_execs_cons (st_assign (g := g) (R := vInt (x % 2 ^ (k / 2 * n) : Nat)) (ev_low (ev_local rfl ⟨t1, rfl⟩) (ev_shl (ev_local rfl ⟨u5, rfl⟩) (ev_local rfl ⟨u4, rfl⟩) (Nat.lt_trans (Nat.lt_of_le_of_lt hxu hx) (by decide)) hsh)) (SeqOk.int _) kg₅ n₅ (fun v₆ s₆ hv₆ r₆ kn₆ _ n₆ => ?_))
      obtain ⟨u6, rfl⟩ := hv₆
      have kg₆ := up kg₅ kn₆
      have kn26 : KpN [s.heap.objs.size] s₂.heap s₆.heap := KpN.trans kn₃ (KpN.trans kn₄ (KpN.trans kn₅ kn₆))
      have r26 : Rest s₂ s₆ := r₃.trans (r₄.trans (r₅.trans r₆))
      have hl₆ := isList_kp hl₂ kn26 hDN
      refine wpAny_execs_cons (st_call (g := g) (Rs := [vInt (x % 2 ^ (k / 2 * n) : Nat), vInt l, vInt (l + k / 2 : Nat)]) (ev_free rfl hci rfl) (evs_cons (ev_local rfl ⟨u6, rfl⟩) (evs_cons (ev_local rfl ⟨t2, rfl⟩) (evs_cons (ev_local rfl ⟨u3, rfl⟩) evs_nil))) ho rfl kg₆ n₆ ?_)
      intro s₇ vs k₇ hvs
      obtain ⟨_, _, _, rfl, ⟨w1, rfl⟩, ⟨w2, rfl⟩, ⟨w3, rfl⟩⟩ := vps3 hvs
      have hl₇ := isList_kp hl₆ (KpN.of (N := []) (kp_of k₇)) (fun z => nomatch z)
      refine wpAny_mono (ih (k / 2) (by omega) _ s₇ ys ds (x % 2 ^ (k / 2 * n)) l w1 w2 w3 _ (by omega) (by show A.depth + 1 + k / 2 ≤ _; omega) (kg₆.trans (kp_of k₇)) hl₇ (nats_any hv) (by omega) hds (by omega)) (fun v₈ s₈ h₈ => ?_) fun _ _ y => y
      obtain ⟨rfl, r₈, kn₈, ys₈, hl₈, hv₈⟩ := h₈
      refine ⟨rfl, ?_⟩
      have gD : ∀ p ∈ [D], g.get? p = none := fun p hp => by rw [List.mem_singleton.mp hp]; exact hD
      have kg₈ := kn₈.ground (kg₆.trans (kp_of k₇)) gD
      have n₈ : s₈.heap.Ns s.heap.objs.size _ := (ns_keeps n₆ k₇).at' fun o e => kn₈ _ o (fun z => hDL (List.mem_singleton.mp z).symm) e
      refine wpAny_execs_cons (st_call (g := g) (Rs := [vInt (x / 2 ^ (k / 2 * n) : Nat), vInt (l + k / 2 : Nat), vInt (l + k : Nat)]) (ev_free rfl hci rfl) (evs_cons (ev_local rfl ⟨u5, rfl⟩) (evs_cons (ev_local rfl ⟨u3, rfl⟩) (evs_cons (ev_local rfl ⟨t3, rfl⟩) evs_nil))) ho rfl kg₈ n₈ ?_)
      intro s₉ vs k₉ hvs
      obtain ⟨_, _, _, rfl, ⟨w1, rfl⟩, ⟨w2, rfl⟩, ⟨w3, rfl⟩⟩ := vps3 hvs
      have hl₉ := isList_kp hl₈ (KpN.of (N := []) (kp_of k₉)) (fun z => nomatch z)
      have hlen : (ds.take l ++ dig n (x % 2 ^ (k / 2 * n)) (k / 2) ++ ds.drop (l + k / 2)).length = ds.length := by
        rw [List.length_append, List.length_append, List.length_take, List.length_drop, dig_len n _ _ (by omega)]; omega
      have hidx : ((l + k : Nat) : Int) = ((l + k / 2 + (k - k / 2) : Nat) : Int) := by omega
      rw [hidx]
      refine wpAny_mono (ih (k - k / 2) (by omega) _ s₉ ys₈ _ (x / 2 ^ (k / 2 * n)) (l + k / 2) w1 w2 w3 _ (by omega) (by show A.depth + 1 + (k - k / 2) ≤ _; omega) (kg₈.trans (kp_of k₉)) hl₉ (nats_any hv₈) (by rw [hlen]; omega) (by rw [hlen]; exact hds) (by omega)) (fun v₁₀ s₁₀ h₁₀ => ?_) fun _ _ y => y
      obtain ⟨rfl, r₁₀, kn₁₀, ys₁₀, hl₁₀, hv₁₀⟩ := h₁₀
      refine ⟨rfl, wpAny_execs_nil ⟨rfl, ?_, ?_, ys₁₀, hl₁₀, ?_⟩⟩
      · exact (Rest.set s h₁ tk).trans ((Rest.of k₂).trans (r26.trans ((Rest.of k₇).trans (r₈.trans ((Rest.of k₉).trans r₁₀)))))
      · have a : KpN [D] s.heap s₆.heap := (KpN.of (k₁.trans kp₂)).drop kn26 (fun p hp => .inr (by rw [List.mem_singleton.mp hp]; exact hL))
        exact a.trans ((KpN.of (kp_of k₇)).trans (kn₈.trans ((KpN.of (kp_of k₉)).trans kn₁₀)))
      · have : ds.take l ++ dig n x k ++ ds.drop (l + k) = (ds.take l ++ dig n (x % 2 ^ (k / 2 * n)) (k / 2) ++ ds.drop (l + k / 2)).take (l + k / 2) ++ dig n (x / 2 ^ (k / 2 * n)) (k - k / 2) ++ (ds.take l ++ dig n (x % 2 ^ (k / 2 * n)) (k / 2) ++ ds.drop (l + k / 2)).drop (l + k / 2 + (k - k / 2)) := by
          have hA : (ds.take l ++ dig n (x % 2 ^ (k / 2 * n)) (k / 2)).length = l + k / 2 := by
            rw [List.length_append, List.length_take, dig_len n _ _ (by omega)]; omega
          rw [List.take_left' hA]
          have hB : ∀ r : List Nat, (ds.take l ++ dig n (x % 2 ^ (k / 2 * n)) (k / 2) ++ r).drop (l + k / 2 + (k - k / 2)) = r.drop (k - k / 2) := fun r => by
            rw [← List.drop_drop, List.drop_left' hA]
          rw [hB, List.drop_drop, dig_more n x hk1, ← List.append_assoc]
          congr 2
          omega
        rw [this]
        exact hv₁₀
end
end Mine
open PySem PySem.W PySem.Calls PyProof.Rows
set_option Elab.async false
set_option maxRecDepth 100000
namespace Mine

def iList (Rs : List VP) : VP := ⟨fun h v => ∃ a vs, v = .ref a ∧ h.IsList a (vs : List Value).toArray ∧ VPs h Rs vs,
  fun k x => by obtain ⟨a, vs, e, t, y⟩ := x; exact ⟨a, vs, e, isList_kp t (KpN.of (N := []) k) (fun z => nomatch z), y.st k⟩⟩

theorem SeqOk.listF {B : Nat} {Rs : List VP} (q : ∀ R ∈ Rs, SeqOk R) : SeqOk (vListF B Rs) := fun k x => by
  obtain ⟨a, vs, e, b, ⟨n, ho⟩, y⟩ := x
  exact ⟨a, vs, e, b, ⟨n, k a _ ho ⟨_, n, rfl⟩⟩, y.seq k q⟩
section
variable {prog : Program} {w : World} {A : Around} {env : Env} {g : Heap} {m mg mb : Str → Option Value} {s : Shared} {E : Value → Shared → Prop}

theorem call_cells {i : Nat} {a c : Addr} {vs : List Value} {binds : List (Str × Value)} {Q : Value → Shared → Prop} (hf : FnC i s.heap a c) (hl : s.heap.NoLimit) (hd : A.depth < recursionLimit)
    (hb : ∀ fd : FuncData, fd.params = paramsAt i → fd.defaults = .none → fd.kwdefaults = .none → bindArgs fd ⟨vs, []⟩ = pure binds)
    (hkind : ∀ n, ∀ x ∈ binds, (scopeAt i).names.lookup x.1 = some .local ∨ ((scopeAt i).names.lookup x.1 = some .cell ∧ ((cellsFrom n (scopeAt i).names []).lookup x.1).isSome = true))
    (h : ∀ s₁ E', InCallC s s.heap.objs.size (bindL (envOfC (nameAt i) (scopeAt i) s.heap.objs.size a (.ref c)).kindOf binds fun _ => none) (cellsFrom (s.heap.objs.size + 1) (scopeAt i).names [])
        (bindC (envOfC (nameAt i) (scopeAt i) s.heap.objs.size a (.ref c)).kindOf binds fun _ => none) s₁ →
      wpAny (model prog w) (A.deeper (envOfC (nameAt i) (scopeAt i) s.heap.objs.size a (.ref c))) (execs (bodyAt i) (envOfC (nameAt i) (scopeAt i) s.heap.objs.size a (.ref c))) (fun fl s' => Q (match fl with | .ret v => v | _ => .none) s') E' s₁)
    (hco : (scopeAt i).isCoroutine = false := by rfl) (hgen : (scopeAt i).isGenerator = false := by rfl) (hk : (scopeAt i).kind = .function := by rfl) : wpAny (model prog w) A (call (.ref a) vs) Q E s := by
  obtain ⟨o, doc, pm, an, ct, ho, hdat, hcd⟩ := hf
  refine wpAny_call ?_
  exact codeAny_call_cells (fd := fnOf (nameAt i) (nameAt i) (paramsAt i) (bodyAt i) (scopeAt i) .none .none doc pm an (.ref c) ct) (body := bodyAt i) (binds := binds) hd ho hdat hl hcd rfl
    (hb _ rfl rfl rfl) rfl (hkind _) (fun s₁ x => h s₁ _ x) hco hgen hk

theorem st_assignC {x : Str} {px pos : Pos} {value : Expr} {R : VP} {cc : Addr} {v₀ : Option Value} {Q : Flow → Shared → Prop} (h : Ev prog w A env g m value R) (hR : SeqOk R) (k : Kp g s.heap) (n : s.heap.Ns env.locals m) (hc : s.heap.IsCell cc v₀)
    (hcc : env.cells.lookup x = some cc)
    (hQ : ∀ v s', R.P s'.heap v → Rest s s' → KpN [cc] s.heap s'.heap → KpS s.heap s'.heap → s'.heap.IsCell cc (some v) → Q .next s')
    (hs : swapsWith value (some (.Name x px)) pos.line env = pure false := by rfl) (hk : env.scope.kind = .function := by rfl) (hx : env.kindOf x = some .cell := by rfl) :
    wpAny (model prog w) A (exec (.Assign [.Name x px] value pos) env) Q E s := by
  refine wpAny_Assign_Name (wpAny_mono (h s E k n) (fun v s₁ h₁ => ?_) fun _ _ x => x) hs
  obtain ⟨hv, k₁⟩ := h₁
  have hc₁ := hc.keeps (kp_of k₁)
  refine wpAny_storeName_cell hk hx hcc hc₁ fun h' hc' hs' => ?_
  have ks : KpS s₁.heap h' := KpS.cell hs' hc₁
  exact hQ v _ (hR ks hv) ((Rest.of k₁).trans (Rest.set s₁ h' _)) ((KpN.of (kp_of k₁)).trans (KpN.same hs' (List.Mem.head []))) ((KpS.of (kp_of k₁)).trans ks) hc'

theorem evT_int {e : Expr} {a : Int} (h : Ev prog w A env g m e (vInt a)) (he : isTrue e env (eval e env) = (do let v ← eval e env; standAt e.pos; holding [v] (truthy v)) := by rfl) : EvT prog w A env g m e (decide (a ≠ 0)) := fun s E k n =>
  wpAny_isTrue_value (wpAny_mono (h s E k n) (fun v s₁ h₁ => by
    obtain ⟨⟨t, rfl⟩, k₁⟩ := h₁
    refine PyProof.Rows.truthy_int ⟨?_, k₁⟩
    by_cases ha : a = 0 <;> simp [ha]) fun _ _ x => x) he

theorem cell_ne_seq {h : Heap} {c D : Addr} {v : Option Value} {vs : Array Value} (x : h.IsCell c v) (y : h.IsList D vs) : c ≠ D := by
  rintro rfl
  obtain ⟨o, e, d⟩ := x
  obtain ⟨o', e', _, n, d'⟩ := y
  rw [e] at e'; cases e'
  rw [d] at d'; cases d'

/-- at s the tables stand -/
structure Tabs (h : Heap) : Prop where
  a : TabOk 44 (posOf nest1) qual1 h
  b : TabOk 51 (posOf nest2) qual2 h
theorem Tabs.keeps {h h' : Heap} (t : Tabs h) (k : Kp h h') : Tabs h' := ⟨t.a.keeps k, t.b.keeps k⟩
theorem Tabs.kp {h h' : Heap} (t : Tabs h) {N : List Addr} (k : KpN N h h') (ha : 44 ∉ N) (hb : 51 ∉ N) (hc : ∀ c' q, h.CodeRec (.ref c') q → c' ∉ N) : Tabs h' :=
  ⟨t.a.kp k ha fun c' r => hc c' _ r, t.b.kp k hb fun c' r => hc c' _ r⟩

theorem zeros_nats (n : Nat) : List.replicate n (vInt 0) = nats (List.replicate n 0) := by
  show _ = List.map _ _
  rw [List.map_replicate]; rfl
theorem i2d_call {x n : Nat} {t1 t2 : Tok} (G : Gt mg mb g) (hg : g.get? 44 = none) (k : Kp g s.heap) (T : Tabs s.heap) (hd : A.depth + 66 ≤ recursionLimit) (hx : x < 2 ^ 60) (hn1 : 1 ≤ n) (hn : n ≤ 2) :
    wpAny (model prog w) A (call (.ref 49) [.int (x : Int) t1, .int (n : Int) t2]) (fun v s' => (∃ ds, (iList (nats ds)).P s'.heap v ∧ val n ds = x ∧ (∀ d ∈ ds, d ≤ x) ∧ ds.length ≤ 64) ∧ Rest s s' ∧ KpN [44] s.heap s'.heap ∧ Tabs s'.heap) E s := by
  refine call_cells (i := 7) (c := 48) (binds := [("a", .int (x : Int) t1), ("n", .int (n : Int) t2)]) (G.f1.keeps k) (G.gl.lim.keeps k) (by omega) ?_ ?_ ?_
  · intro fd hp hd hk; unfold bindArgs; rw [hp, hd, hk]; rfl
  · intro n x hx
    rcases List.mem_cons.mp hx with rfl | hx
    · exact .inl rfl
    · rw [List.mem_singleton.mp hx]; exact .inr ⟨rfl, rfl⟩
  intro s₁ E' I
  generalize hLdef : s.heap.objs.size = L at I ⊢
  have fresh : ∀ p, L ≤ p → s.heap.get? p = none := fun p hp => get_fresh (by rw [hLdef]; exact hp)
  have k₁ : Kp s.heap s₁.heap := I.toInCall.keep
  have kg₁ := k.trans k₁
  have hcn : s₁.heap.IsCell (L + 1) (some (.int (n : Int) t2)) := I.cell "n" _ rfl
  have hca : s₁.heap.IsCell (L + 2) none := I.cell "a_digits" _ rfl
  have hci : s₁.heap.IsCell (L + 3) none := I.cell "inner" _ rfl
  have hns := I.toInCall.ns
  have T₁ := T.keeps k₁
  have r₁ : Rest s s₁ := by obtain ⟨h, tk, e⟩ := I.toInCall.same; exact ⟨h, tk, e⟩
  have hLlt : L < s₁.heap.objs.size := hns.lt
  have h44 : (44 : Nat) < L := by
    obtain ⟨ps, e, _⟩ := T.a
    rw [← hLdef]; exact Heap.lt_size e
  have h51 : (51 : Nat) < L := by
    obtain ⟨ps, e, _⟩ := T.b
    rw [← hLdef]; exact Heap.lt_size e
  have gfresh : ∀ p, L ≤ p → g.get? p = none := fun p hp => by
    cases e : g.get? p with
    | none => rfl
    | some o => have := k _ _ e; rw [fresh p hp] at this; cases this
  rw [show bodyAt 7 = [_, _, _, _] from rfl]
  have hbx := bits_le hx
  have hcnt : (bits x + n - 1) / n ≤ 60 := by
    rcases Nat.lt_or_ge n 2 with h | h
    · have : n = 1 := by omega
      subst this; omega
    · have : n = 2 := by omega
      subst this; omega
  refine wpAny_execs_cons (st_assignC (g := s₁.heap) (R := vListF L (List.replicate ((bits x + n - 1) / n) (vInt 0))) (cc := L + 2) (ev_zeros (by obtain ⟨o, es, ep, e, _⟩ := hns; exact ⟨o, e⟩) (ev_list (evs_cons ev_int evs_nil))
    (ev_fdiv (a := bits x + n - 1) (b := n) (ev_cast (ev_sub (ev_add (ev_bitlen (a := x) (ev_local rfl ⟨t1, rfl⟩)) (ev_cell (c := L + 1) rfl hcn ⟨t2, rfl⟩)) ev_int) (by omega)) (ev_cell (c := L + 1) rfl hcn ⟨t2, rfl⟩) (by omega) (by omega)) (by omega))
    (SeqOk.listF fun R hR => by rw [List.eq_of_mem_replicate hR]; exact SeqOk.int _) (Kp.refl _) hns hca rfl fun v s₂ hv r₂ kn₂ _ hca₂ => ?_)
  obtain ⟨D, ys, rfl, hLD, hl₂, hv₂⟩ := hv
  replace hl₂ := hl₂.isList
  have gN : ∀ {N : List Addr}, (∀ p ∈ N, L ≤ p) → ∀ p ∈ N, g.get? p = none := fun h p hp => gfresh p (h p hp)
  have kg₂ : Kp g s₂.heap := kn₂.ground kg₁ (fun p hp => by rw [List.mem_singleton.mp hp]; exact gfresh _ (Nat.le_add_right _ _))
  have cne : ∀ {h : Heap} {c' : Addr} {q : Str} {cc : Addr} {v : Option Value}, h.IsCell cc v → h.CodeRec (.ref c') q → c' ∉ [cc] := by
    rintro h c' q cc v hcc ⟨c, o, vs, t', e, ho, hd, hv⟩ z
    rw [List.mem_singleton.mp z] at e
    cases e
    obtain ⟨o', e', d'⟩ := hcc
    rw [ho] at e'; cases e'
    rw [hd] at d'; cases d'
  have nin : ∀ {p : Nat} {i : Nat}, p < L → (p : Addr) ∉ [L + i] := fun hp z => by
    have z' : _ = L + _ := List.mem_singleton.mp z
    omega
  have T₂ : Tabs s₂.heap := T₁.kp kn₂ (nin h44) (nin h51) (fun c' q r => cne hca r)
  have ne12 : ∀ {i j : Nat}, i ≠ j → (L + i : Nat) ∉ [L + j] := fun h z => h (by have := List.mem_singleton.mp z; omega)
  have hcn₂ : s₂.heap.IsCell (L + 1) (some (.int (n : Int) t2)) := by obtain ⟨o, e, d⟩ := hcn; exact ⟨o, kn₂ _ _ (ne12 (by decide)) e, d⟩
  have hci₂ : s₂.heap.IsCell (L + 3) none := by obtain ⟨o, e, d⟩ := hci; exact ⟨o, kn₂ _ _ (ne12 (by decide)) e, d⟩
  have hns₂ : s₂.heap.Ns L _ := hns.at' fun o e => kn₂ _ o (ne12 (i := 0) (j := 2) (by decide)) e
  have hDfresh : s.heap.get? D = none := fresh D (Nat.le_of_lt hLD)
  refine wpAny_execs_cons (st_def (g := g) (P := 44) (c := 48) (cc := L + 3) (qual := qual1) (clos := [("n", L + 1), ("inner", L + 3), ("a_digits", L + 2)]) G kg₂ hg T₂.a G.c1 rfl rfl rfl rfl rfl rfl rfl hci₂ (by decide) ?_)
  intro s₃ f c' ctv doc pm r₃ kn₃ Ta₃ hf₃ hcd₃ hci₃ hfsz
  have hLf : L < f := Nat.lt_of_lt_of_le hns₂.lt hfsz
  have hD3 : D ≠ L + 3 := Ne.symm (cell_ne_seq hci₂ hl₂)
  have hD44 : D ≠ 44 := by
    have : (44 : Nat) < D := Nat.lt_trans h44 hLD
    exact Nat.ne_of_gt this
  have hD2 : L + 2 ≠ D := cell_ne_seq hca₂ hl₂
  have hl₃ := isList_kp hl₂ kn₃ (fun z => by
    rcases List.mem_cons.mp z with z | z
    · exact hD44 z
    · exact hD3 (List.mem_singleton.mp z))
  have n3 : ∀ {i : Nat}, i ≠ 3 → (L + i : Nat) ∉ [44, L + 3] := fun {i} h z => by
    rcases List.mem_cons.mp z with z | z
    · have z' : L + i = 44 := z
      omega
    · exact h (by have z' := List.mem_singleton.mp z; omega)
  have hcn₃ : s₃.heap.IsCell (L + 1) (some (.int (n : Int) t2)) := by obtain ⟨o, e, d⟩ := hcn₂; exact ⟨o, kn₃ _ _ (n3 (by decide)) e, d⟩
  have hca₃ : s₃.heap.IsCell (L + 2) (some (.ref D)) := by obtain ⟨o, e, d⟩ := hca₂; exact ⟨o, kn₃ _ _ (n3 (by decide)) e, d⟩
  have hns₃ : s₃.heap.Ns L _ := hns₂.at' fun o e => kn₃ _ o (n3 (i := 0) (by decide)) e
  have Tb₃ : TabOk 51 (posOf nest2) qual2 s₃.heap := T₂.b.kp kn₃ (fun z => by
    rcases List.mem_cons.mp z with z | z
    · exact absurd z (by decide)
    · have z' : (51 : Nat) = L + 3 := List.mem_singleton.mp z
      omega) (fun c' r z => by
    rcases List.mem_cons.mp z with z | z
    · exact codeRec_ne T₂.a r z
    · exact cne hci₂ r (List.mem_singleton.mpr (List.mem_singleton.mp z)))
  have T₃ : Tabs s₃.heap := ⟨Ta₃, Tb₃⟩
  have kgN : Kp g s₃.heap := kn₃.ground kg₂ (fun p hp => by
    rcases List.mem_cons.mp hp with rfl | hp
    · exact hg
    · rw [List.mem_singleton.mp hp]; exact gfresh _ (Nat.le_add_right _ _))
  -- the ground of what runs on: all but D
  have hcDe : ∀ {c' : Addr} {q : Str}, s₃.heap.CodeRec (.ref c') q → c' ∉ [D] := by
    rintro c' q ⟨c, o, vs, t', e, ho, hd, hv⟩ z
    rw [List.mem_singleton.mp z] at e
    cases e
    obtain ⟨o', e', _, n, d'⟩ := hl₃
    rw [ho] at e'; cases e'
    rw [hd] at d'; cases d'
  let g₃ := hide s₃.heap [D]
  have hg₃D : g₃.get? D = none := hideAll_none _ (List.Mem.head [])
  have kg₃ : Kp g₃ s₃.heap := kp_hide _ _
  have hfD : f ≠ D := by
    rintro rfl
    obtain ⟨o', e', _, n, d'⟩ := hl₃
    rw [hf₃] at e'; cases e'; cases d'
  have nD : ∀ {p : Addr}, p ≠ D → p ∉ [D] := fun h z => h (List.mem_singleton.mp z)
  have cellD : ∀ {p : Addr} {v : Option Value}, s₃.heap.IsCell p v → g₃.IsCell p v := fun h => by
    obtain ⟨o, e, d⟩ := id h
    exact ⟨o, hide_get e (nD (cell_ne_seq h hl₃)), d⟩
  have Nf : Nest g₃ qual1 nest1 f [("n", L + 1), ("inner", L + 3), ("a_digits", L + 2)] c' := by
    refine ⟨⟨doc, pm, ctv, hide_get hf₃ (nD hfD)⟩, ?_, G.gl.lim.keeps (kp_into_hide kgN fun p hp => ?_)⟩
    · obtain ⟨c, o, vs, t', e, ho, hd, hv⟩ := id hcd₃
      cases e
      exact ⟨_, o, vs, t', rfl, hide_get ho (hcDe hcd₃), hd, hv⟩
    · rw [List.mem_singleton.mp hp]; exact gfresh _ (Nat.le_of_lt hLD)
  have Gl₃ : Gl mg mb g₃ := G.gl.keeps (kp_into_hide kgN fun p hp => by rw [List.mem_singleton.mp hp]; exact gfresh _ (Nat.le_of_lt hLD))
  have r13 : Rest s s₃ := r₁.trans (r₂.trans r₃)
  have kn13 : KpN [44] s.heap s₃.heap := ((KpN.of k₁).drop kn₂ (fun p hp => .inr (fresh p (by rw [List.mem_singleton.mp hp]; exact Nat.le_add_right _ _)))).drop kn₃ (fun p hp => by
    rcases List.mem_cons.mp hp with rfl | hp
    · exact .inl (.head _)
    · exact .inr (fresh p (by rw [List.mem_singleton.mp hp]; exact Nat.le_add_right _ _)))
  -- the end: what is given back
  have fin : ∀ s₄ ds ys', Kp g₃ s₄.heap → Rest s₃ s₄ → KpN [D] s₃.heap s₄.heap → s₄.heap.IsList D (ys' : List Value).toArray → VPs s₄.heap (nats ds) ys' → val n ds = x → (∀ d ∈ ds, d ≤ x) → ds.length ≤ 64 →
      wpAny (model prog w) (A.deeper (envOfC (nameAt 7) (scopeAt 7) L 49 (.ref 48))) (execs [.Return (some (.Name "a_digits" ⟨62, 11, 62, 19⟩)) ⟨62, 4, 62, 19⟩] (envOfC (nameAt 7) (scopeAt 7) L 49 (.ref 48)))
        (fun fl s' => (fun v s' => (∃ ds, (iList (nats ds)).P s'.heap v ∧ val n ds = x ∧ (∀ d ∈ ds, d ≤ x) ∧ ds.length ≤ 64) ∧ Rest s s' ∧ KpN [44] s.heap s'.heap ∧ Tabs s'.heap) (match fl with | .ret v => v | _ => .none) s') E' s₄ := by
    intro s₄ ds ys' kg₄ r₄ kn₄ hl₄ hv₄ e1 e2 e3
    have hns₄ : s₄.heap.Ns L _ := hns₃.at' fun o e => kn₄ _ o (nD (Nat.ne_of_lt hLD)) e
    refine wpAny_execs_cons (ev_ret (g := g₃) (R := vIs (.ref D)) (ev_cell (c := L + 2) rfl (cellD hca₃) rfl) kg₄ hns₄ fun v s₅ hv k₅ => ?_)
    cases hv
    have kn35 : KpN [D] s₃.heap s₅.heap := kn₄.trans (KpN.of (kp_of k₅))
    refine ⟨⟨ds, ⟨D, ys', rfl, isList_kp hl₄ (KpN.of (N := []) (kp_of k₅)) (fun z => nomatch z), nats_any hv₄⟩, e1, e2, e3⟩, r13.trans (r₄.trans (Rest.of k₅)), kn13.drop kn35 (fun p hp => .inr (by rw [List.mem_singleton.mp hp]; exact hDfresh)), ?_⟩
    exact T₃.kp kn35 (nD (Ne.symm hD44)) (nD (Nat.ne_of_lt (Nat.lt_trans h51 hLD))) (fun c' q r => hcDe r)
  refine wpAny_execs_cons (st_if (g := g₃) (c := decide ((x : Int) ≠ 0)) (evT_int (ev_local rfl ⟨t1, rfl⟩)) kg₃ hns₃ ?_ ?_)
  · intro s₄ hc k₄
    have hx0 : x ≠ 0 := by have := of_decide_eq_true hc; omega
    have hbp : 1 ≤ (bits x + n - 1) / n := by
      have : x < 2 ^ bits x := bits_lt x
      have hb : 1 ≤ bits x := by
        rcases Nat.eq_zero_or_pos (bits x) with h | h
        · rw [h] at this; omega
        · exact h
      exact (Nat.le_div_iff_mul_le (by omega)).mpr (by omega)
    have hl₄ := isList_kp hl₃ (KpN.of (N := []) (kp_of k₄)) (fun z => nomatch z)
    have hns₄ := ns_keeps hns₃ k₄
    have hlen : (List.replicate ((bits x + n - 1) / n) (vInt 0)).length = (bits x + n - 1) / n := List.length_replicate ..
    refine wpAny_execs_cons (st_call (g := s₄.heap) (Rs := [vInt x, vInt ((0 : Nat) : Int), vInt ((0 + (bits x + n - 1) / n : Nat) : Int)]) (ev_cell (c := L + 3) rfl (hci₃.keeps (kp_of k₄)) rfl) (evs_cons (ev_local rfl ⟨t1, rfl⟩) (evs_cons ev_int (evs_cons ?_ evs_nil)))
      (kp_of k₄ _ _ hf₃) rfl (Kp.refl _) hns₄ ?_)
    · have Gl₄ := Gl₃.keeps (kg₃.trans (kp_of k₄))
      have : Ev prog w (A.deeper (envOfC (nameAt 7) (scopeAt 7) L 49 (.ref 48))) (envOfC (nameAt 7) (scopeAt 7) L 49 (.ref 48)) s₄.heap (bindL (envOfC (nameAt 7) (scopeAt 7) L 49 (.ref 48)).kindOf [("a", Value.int (x : Int) t1), ("n", Value.int (n : Int) t2)] fun _ => none) (.Call (.Name "len" ⟨61, 20, 61, 23⟩) [.Name "a_digits" ⟨61, 24, 61, 32⟩] [] ⟨61, 20, 61, 33⟩) (vInt ((0 + (bits x + n - 1) / n : Nat) : Int)) := by
        refine ev_callB (Rs := [iList (List.replicate ((bits x + n - 1) / n) (vInt 0))]) (ev_builtin Gl₄.g Gl₄.nm.len.1 Gl₄.b Gl₄.nm.len.2) (evs_cons (ev_cell (c := L + 2) rfl (hca₃.keeps (kp_of k₄)) ⟨D, ys, rfl, hl₄, by rw [zeros_nats] at hv₂ ⊢; exact nats_any hv₂⟩) evs_nil) ?_
        rintro s E vs _ hv
        obtain ⟨v, rfl, ⟨a, us, rfl, hp, hu⟩⟩ := vps1 hv
        refine PyProof.Rows.len_list hp (by have := hu.len; simp only [List.size_toArray]; omega) ⟨⟨s.toks + 1, ?_⟩, keeps_tok s _⟩
        rw [List.size_toArray, hu.len, hlen, Nat.zero_add]
      exact this
    · intro s₅ vs k₅ hvs
      obtain ⟨_, _, _, rfl, ⟨w1, rfl⟩, ⟨w2, rfl⟩, ⟨w3, rfl⟩⟩ := vps3 hvs
      have k45 := keeps_trans k₄ k₅
      have hl₅ := isList_kp hl₃ (KpN.of (N := []) (kp_of k45)) (fun z => nomatch z)
      refine wpAny_mono (inner1 (g := g₃) hn Nf (cellD hcn₃) (cellD hci₃) (cellD hca₃) hg₃D ((bits x + n - 1) / n) _ s₅ ys (List.replicate ((bits x + n - 1) / n) 0) x 0 w1 w2 w3 _ hbp (by show A.depth + 1 + _ ≤ _; omega) (kg₃.trans (kp_of k45)) hl₅ (by rw [zeros_nats] at hv₂; exact nats_any hv₂) (by rw [List.length_replicate]; omega) (by rw [List.length_replicate]; omega) hx) (fun v s₆ h₆ => ?_) fun _ _ y => y
      obtain ⟨rfl, r₆, kn₆, ys', hl₆, hv₆⟩ := h₆
      refine ⟨rfl, wpAny_execs_nil ?_⟩
      have kg₆ : Kp g₃ s₆.heap := kn₆.ground (kg₃.trans (kp_of k45)) (fun p hp => by rw [List.mem_singleton.mp hp]; exact hg₃D)
      have e0 : (List.replicate ((bits x + n - 1) / n) 0).take 0 ++ dig n x ((bits x + n - 1) / n) ++ (List.replicate ((bits x + n - 1) / n) 0).drop (0 + (bits x + n - 1) / n) = dig n x ((bits x + n - 1) / n) := by
        rw [List.take_zero, List.nil_append, Nat.zero_add, List.drop_of_length_le (by rw [List.length_replicate]; exact Nat.le_refl _), List.append_nil]
      rw [e0] at hv₆
      exact fin s₆ _ ys' kg₆ ((Rest.of k45).trans r₆) ((KpN.of (kp_of k45)).trans kn₆) hl₆ hv₆ (dig_val n _ x hbp) (dig_le n _ x hbp) (by rw [dig_len n _ _ hbp]; omega)
  · intro s₄ hc k₄
    have hx0 : x = 0 := by have := of_decide_eq_false hc; omega
    refine wpAny_execs_nil ?_
    have e0 : (bits x + n - 1) / n = 0 := by
      subst hx0
      have : bits 0 = 0 := rfl
      rw [this]
      exact Nat.div_eq_of_lt (by omega)
    have hl₄ := isList_kp hl₃ (KpN.of (N := []) (kp_of k₄)) (fun z => nomatch z)
    rw [e0] at hv₂
    refine fin s₄ [] ys (kg₃.trans (kp_of k₄)) (Rest.of k₄) (KpN.of (kp_of k₄)) hl₄ ?_ (by rw [hx0]; rfl) (fun d hd => nomatch hd) (by decide)
    match ys, hv₂ with
    | [], _ => trivial
end
end Mine
open PySem PySem.W PySem.Calls PyProof.Rows
set_option Elab.async false
set_option maxRecDepth 100000
namespace Mine

theorem val_drop_le (n : Nat) (ds : List Nat) (l : Nat) : val n (ds.drop l) ≤ val n ds := by
  have h := val_append n (ds.drop l) (ds.take l)
  rw [List.take_append_drop] at h
  rw [h]
  exact Nat.le_trans (Nat.le_mul_of_pos_left _ (Nat.pow_pos (by decide))) (Nat.le_add_left _ _)
theorem val_take_le (n : Nat) (ds : List Nat) (l : Nat) : val n (ds.take l) ≤ val n ds := by
  have h := val_append n (ds.drop l) (ds.take l)
  rw [List.take_append_drop] at h
  rw [h]
  exact Nat.le_add_right _ _

section
variable {prog : Program} {w : World} {A : Around} {env : Env} {g : Heap} {m mg mb : Str → Option Value} {s : Shared} {E : Value → Shared → Prop}

theorem ev_itemI {value slice : Expr} {pos : Pos} {Rs : List VP} {R : VP} {k : Nat} (hv : Ev prog w A env g m value (iList Rs)) (hs : Ev prog w A env g m slice (vInt (k : Int)))
    (h1 : k < 1000) (hx : Rs[k]? = some R) (hsub : ∀ o i, subscripted slice false o i = operate [o, i] (getItem o i) := by intro _ _; with_unfolding_all rfl) :
    Ev prog w A env g m (.Subscript value slice pos) R :=
  ev_sub_ hv hs fun s E x y _ hx' hy => by
    obtain ⟨a, us, rfl, hp, hu⟩ := hx'
    obtain ⟨t, rfl⟩ := hy
    obtain ⟨v, hv, hr⟩ := hu.get hx
    exact tail_any hp.typeIs slot_list_getitem.lookup (wpAny_getItem_list hp (Int.natCast_nonneg _) (by omega) (by simpa using hv) ⟨hr, keeps_refl s⟩) (hsub _ _)
theorem cmp_eq_nat {a b : Nat} {x y : Int} (hx : x = a) (hy : y = b) : ∀ s E u v, Kp g s.heap → (vInt x).P s.heap u → (vInt y).P s.heap v → wpAny (model prog w) A (compareOp .Eq u v) (fun v s' => v = .bool (decide (a = b)) ∧ Keeps s s') E s := by
  subst hx hy
  intro s E u v k hu hv
  have := cmp_eq_int (prog := prog) (w := w) (A := A) (g := g) s E u v k hu hv
  have e : decide ((a : Int) = (b : Int)) = decide (a = b) := by
    by_cases h : a = b
    · simp [h]
    · have : ¬ (a : Int) = (b : Int) := by omega
      rw [decide_eq_false this, decide_eq_false h]
  rw [e] at this
  exact this

theorem inner2 {f cd cn ci D c' : Addr} {n : Nat} {tn : Tok} {ds : List Nat} (hn : n ≤ 2) (F : Nest g qual2 nest2 f [("n", cn), ("inner", ci), ("digits", cd)] c')
    (hcn : g.IsCell cn (some (.int n tn))) (hci : g.IsCell ci (some (.ref f))) (hcd : g.IsCell cd (some (.ref D))) (hD : (iList (nats ds)).P g (.ref D)) (hds : ds.length ≤ 500) (hv : val n ds < 2 ^ 60) :
    ∀ k (A : Around) l, 1 ≤ k → A.depth + k ≤ recursionLimit → l + k ≤ ds.length →
      EvC prog w A g (.ref f) [vInt (l : Nat), vInt (l + k : Nat)] (vInt (val n ((ds.drop l).take k) : Nat)) := by
  intro k
  induction k using Nat.strongRecOn with
  | ind k ih =>
    intro A l hk hdep hlk s E vs kg hvs
    obtain ⟨_, _, rfl, ⟨t2, rfl⟩, ⟨t3, rfl⟩⟩ := vps2 hvs
    obtain ⟨doc, pm, ctv, ho⟩ := F.ex
    refine call_fn (binds := [("L", .int ((l : Nat) : Int) t2), ("R", .int ((l + k : Nat) : Int) t3)]) (kg _ _ ho) rfl (F.hcd.keeps kg) (F.lim.keeps kg) (by omega) (by rfl) ?_ ?_ (by decide) (by rfl) (by rfl) (by rfl)
    · intro y hy
      rcases List.mem_cons.mp hy with rfl | hy
      · rfl
      · rw [List.mem_singleton.mp hy]; rfl
    intro h₁ tk E' k₁ hns
    have hL : s.heap.get? s.heap.objs.size = none := get_fresh (Nat.le_refl _)
    have kg₁ := kg.trans k₁
    have r₁ : Rest s { s with heap := h₁, toks := tk } := Rest.set s h₁ tk
    rw [show bodyOf nest2 = [_, _, _, _] from rfl]
    refine wpAny_execs_cons (st_if (g := g) (s := { s with heap := h₁, toks := tk }) (c := decide (l + 1 = l + k)) (evT_cmp (R := vInt ((l : Int) + 1)) (S := vInt ((l + k : Nat) : Int)) (ev_add (ev_local rfl ⟨t2, rfl⟩) ev_int) (ev_local rfl ⟨t3, rfl⟩) (cmp_eq_nat (by omega) rfl)) kg₁ hns ?_ ?_)
    · intro s₂ hc k₂
      have hk1 : k = 1 := by have := of_decide_eq_true hc; omega
      subst hk1
      have hg : ds[l]? = some ds[l] := List.getElem?_eq_getElem (by omega)
      refine wpAny_execs_cons (ev_ret (g := g) (R := vInt (ds[l] : Nat)) (ev_itemI (Rs := nats ds) (k := l) (ev_free rfl hcd hD) (ev_local rfl ⟨t2, rfl⟩) (by omega) (by simp [hg])) (kg₁.trans (kp_of k₂)) (ns_keeps hns k₂) fun v s₃ hv₃ k₃ => ?_)
      refine ⟨?_, keeps_of (r₁.trans (Rest.of (keeps_trans k₂ k₃))) (k₁.trans (kp_of (keeps_trans k₂ k₃)))⟩
      have : (ds.drop l).take 1 = [ds[l]] := by
        rw [List.drop_eq_getElem_cons (by omega)]; rfl
      rw [this]
      simpa [val] using hv₃
    · intro s₂ hc k₂
      have hk1 : 2 ≤ k := by
        have := of_decide_eq_false hc
        omega
      refine wpAny_execs_nil ?_
      have kp₂ : Kp s.heap s₂.heap := k₁.trans (kp_of k₂)
      have n₂ := ns_keeps hns k₂
      have up : ∀ {s' s'' : Shared}, Kp s.heap s'.heap → KpN [_] s'.heap s''.heap → Kp s.heap s''.heap := fun a b => KpN.ground b a fun p hp => by rw [List.mem_singleton.mp hp]; exact hL
      have e1 : (l + (l + k)) / 2 ^ 1 = l + k / 2 := by omega
      refine wpAny_execs_cons (st_assign (g := g) (R := vInt (l + k / 2 : Nat)) (ev_cast (ev_shr (a := l + (l + k)) (n := 1) (ev_cast (ev_add (ev_local rfl ⟨t2, rfl⟩) (ev_local rfl ⟨t3, rfl⟩)) (by omega)) ev_int) (by rw [e1])) (SeqOk.int _) (kg.trans kp₂) n₂ (fun v₃ s₃ hv₃ r₃ kn₃ _ n₃ => ?_))
      obtain ⟨u3, rfl⟩ := hv₃
      have kp₃ := up kp₂ kn₃
      refine wpAny_execs_cons (st_assign (g := g) (R := vInt (k / 2 * n : Nat)) (ev_cast (ev_mul (a := ((k / 2 : Nat) : Int)) (b := (n : Int)) (ev_cast (ev_sub (ev_local rfl ⟨u3, rfl⟩) (ev_local rfl ⟨t2, rfl⟩)) (by omega)) (ev_free rfl hcn ⟨tn, rfl⟩) ?_) (by simp)) (SeqOk.int _) (kg.trans kp₃) n₃ (fun v₄ s₄ hv₄ r₄ kn₄ _ n₄ => ?_))
      · exact IntMulOk.of_left (bits_le (a := k / 2) (k := 64) (by omega))
      obtain ⟨u4, rfl⟩ := hv₄
      have kp₄ := up kp₃ kn₄
      have hsh : k / 2 * n ≤ 1000000 := Nat.le_trans (Nat.mul_le_mul_left _ hn) (by omega)
      have hsplit : val n ((ds.drop l).take k) = val n ((ds.drop (l + k / 2)).take (k - k / 2)) * 2 ^ (k / 2 * n) + val n ((ds.drop l).take (k / 2)) := by
        have : k = k / 2 + (k - k / 2) := by omega
        rw [this, List.take_add, val_append, List.drop_drop, List.length_take, List.length_drop, Nat.min_eq_left (by omega), ← this, Nat.mul_comm, Nat.add_comm]
      have hle : val n ((ds.drop (l + k / 2)).take (k - k / 2)) < 2 ^ 64 := Nat.lt_of_le_of_lt (Nat.le_trans (val_take_le n _ _) (val_drop_le n _ _)) (Nat.lt_trans hv (by decide))
      have c1 := ih (k - k / 2) (by omega) (A.deeper (envX qual2 (scopeOf nest2) s.heap.objs.size f (.ref c') [("n", cn), ("inner", ci), ("digits", cd)])) (l + k / 2) (by omega) (by show A.depth + 1 + (k - k / 2) ≤ _; omega) (by omega)
      have c2 := ih (k / 2) (by omega) (A.deeper (envX qual2 (scopeOf nest2) s.heap.objs.size f (.ref c') [("n", cn), ("inner", ci), ("digits", cd)])) l (by omega) (by show A.depth + 1 + k / 2 ≤ _; omega) (by omega)
      have hidx : l + k / 2 + (k - k / 2) = l + k := by omega
      rw [hidx] at c1
      refine wpAny_execs_cons (ev_ret (g := g) (R := vInt (val n ((ds.drop l).take k) : Nat)) (ev_cast (ev_add (ev_shl (ev_callF (Rs := [vInt (l + k / 2 : Nat), vInt (l + k : Nat)]) (ev_free rfl hci rfl) (evs_cons (ev_local rfl ⟨u3, rfl⟩) (evs_cons (ev_local rfl ⟨t3, rfl⟩) evs_nil)) ho rfl c1) (ev_local rfl ⟨u4, rfl⟩) hle hsh)
        (ev_callF (Rs := [vInt (l : Nat), vInt (l + k / 2 : Nat)]) (ev_free rfl hci rfl) (evs_cons (ev_local rfl ⟨t2, rfl⟩) (evs_cons (ev_local rfl ⟨u3, rfl⟩) evs_nil)) ho rfl c2)) (by rw [hsplit]; omega)) (kg.trans kp₄) n₄ fun v s₅ hv₅ k₅ => ?_)
      exact ⟨hv₅, keeps_of (r₁.trans ((Rest.of k₂).trans (r₃.trans (r₄.trans (Rest.of k₅))))) (kp₄.trans (kp_of k₅))⟩

theorem ev_truthI {e : Expr} {Rs : List VP} (h : Ev prog w A env g m e (iList Rs)) (hl : Rs.length ≤ 1000) (he : isTrue e env (eval e env) = (do let v ← eval e env; standAt e.pos; holding [v] (truthy v)) := by rfl) : EvT prog w A env g m e (decide (Rs ≠ [])) := fun s E k n =>
  wpAny_isTrue_value (wpAny_mono (h s E k n) (fun v s₁ h₁ => by
    obtain ⟨⟨a, us, rfl, hp, hu⟩, k₁⟩ := h₁
    have hlen := hu.len
    refine wpAny_truthy_list hp (by rw [List.size_toArray]; omega) ⟨?_, keeps_trans k₁ (keeps_tok s₁ _)⟩
    match Rs, us, hlen with
    | [], [], _ => rfl
    | _ :: _, _ :: _, _ => simp) fun _ _ x => x) he
theorem ev_lenI {e : Expr} {p pos : Pos} {Rs : List VP} (G : Gl mg mb g) (he : Ev prog w A env g m e (iList Rs)) (hl : Rs.length < 1000) (hs : starEach [e] env = (false, eval e env) :: starEach [] env := by rfl)
    (hplain : (backTo pos (starEach [e] env)).any (·.1) = false := by rfl) (hk : env.scope.kind = .function := by rfl) (hx : env.kindOf "len" = some .globalImplicit := by rfl)
    (hg : env.globals = mainGlobals := by rfl) (hb : env.builtins = builtinsNs := by rfl) : Ev prog w A env g m (.Call (.Name "len" p) [e] [] pos) (vInt Rs.length) :=
  ev_callB (ev_builtin (by rw [hg]; exact G.g) G.nm.len.1 (by rw [hb]; exact G.b) G.nm.len.2 hk hx) (evs_cons he evs_nil hs) (by
    rintro s E vs _ hv
    obtain ⟨v, rfl, ⟨a, us, rfl, hp, hu⟩⟩ := vps1 hv
    refine PyProof.Rows.len_list hp (by have := hu.len; simp only [List.size_toArray]; omega) ⟨⟨s.toks + 1, ?_⟩, keeps_tok s _⟩
    rw [List.size_toArray, hu.len]) hplain hs

theorem d2i_call {n : Nat} {t2 : Tok} {ds : List Nat} {D : Addr} (G : Gt mg mb g) (hg : g.get? 51 = none) (k : Kp g s.heap) (T : Tabs s.heap) (hd : A.depth + 66 ≤ recursionLimit) (hl : (iList (nats ds)).P s.heap (.ref D)) (hds : ds.length ≤ 64) (hv : val n ds < 2 ^ 60) (hn : n ≤ 2) :
    wpAny (model prog w) A (call (.ref 56) [.ref D, .int (n : Int) t2]) (fun v s' => (vInt (val n ds : Nat)).P s'.heap v ∧ Rest s s' ∧ KpN [51] s.heap s'.heap ∧ Tabs s'.heap) E s := by
  refine call_cells (i := 8) (c := 55) (binds := [("digits", .ref D), ("n", .int (n : Int) t2)]) (G.f2.keeps k) (G.gl.lim.keeps k) (by omega) ?_ ?_ ?_
  · intro fd hp hd hk; unfold bindArgs; rw [hp, hd, hk]; rfl
  · intro n x hx
    rcases List.mem_cons.mp hx with rfl | hx
    · exact .inr ⟨rfl, rfl⟩
    · rw [List.mem_singleton.mp hx]; exact .inr ⟨rfl, rfl⟩
  intro s₁ E' I
  generalize hLdef : s.heap.objs.size = L at I ⊢
  have fresh : ∀ p, L ≤ p → s.heap.get? p = none := fun p hp => get_fresh (by rw [hLdef]; exact hp)
  have k₁ : Kp s.heap s₁.heap := I.toInCall.keep
  have kg₁ := k.trans k₁
  have hcd : s₁.heap.IsCell (L + 1) (some (.ref D)) := I.cell "digits" _ rfl
  have hcn : s₁.heap.IsCell (L + 2) (some (.int (n : Int) t2)) := I.cell "n" _ rfl
  have hci : s₁.heap.IsCell (L + 3) none := I.cell "inner" _ rfl
  have hns := I.toInCall.ns
  have T₁ := T.keeps k₁
  have r₁ : Rest s s₁ := by obtain ⟨h, tk, e⟩ := I.toInCall.same; exact ⟨h, tk, e⟩
  have h44 : (44 : Nat) < L := by
    obtain ⟨ps, e, _⟩ := T.a
    rw [← hLdef]; exact Heap.lt_size e
  have h51 : (51 : Nat) < L := by
    obtain ⟨ps, e, _⟩ := T.b
    rw [← hLdef]; exact Heap.lt_size e
  have gfresh : ∀ p, L ≤ p → g.get? p = none := fun p hp => by
    cases e : g.get? p with
    | none => rfl
    | some o => have := k _ _ e; rw [fresh p hp] at this; cases this
  rw [show bodyAt 8 = [_, _] from rfl]
  refine wpAny_execs_cons (st_def (g := g) (P := 51) (c := 55) (cc := L + 3) (qual := qual2) (clos := [("n", L + 2), ("inner", L + 3), ("digits", L + 1)]) G kg₁ hg T₁.b G.c2 rfl rfl rfl rfl rfl rfl rfl hci (by decide) ?_)
  intro s₃ f c' ctv doc pm r₃ kn₃ Tb₃ hf₃ hcd₃ hci₃ hfsz
  have n3 : ∀ {i : Nat}, i ≠ 3 → (L + i : Nat) ∉ [51, L + 3] := fun {i} h z => by
    rcases List.mem_cons.mp z with z | z
    · have z' : L + i = 51 := z
      omega
    · exact h (by have z' := List.mem_singleton.mp z; omega)
  have hcn₃ : s₃.heap.IsCell (L + 2) (some (.int (n : Int) t2)) := by obtain ⟨o, e, d⟩ := hcn; exact ⟨o, kn₃ _ _ (n3 (by decide)) e, d⟩
  have hcdg₃ : s₃.heap.IsCell (L + 1) (some (.ref D)) := by obtain ⟨o, e, d⟩ := hcd; exact ⟨o, kn₃ _ _ (n3 (by decide)) e, d⟩
  have hns₃ : s₃.heap.Ns L _ := hns.at' fun o e => kn₃ _ o (n3 (i := 0) (by decide)) e
  have Ta₃ : TabOk 44 (posOf nest1) qual1 s₃.heap := T₁.a.kp kn₃ (fun z => by
    rcases List.mem_cons.mp z with z | z
    · exact absurd z (by decide)
    · have z' : (44 : Nat) = L + 3 := List.mem_singleton.mp z
      omega) (fun c' r z => by
    rcases List.mem_cons.mp z with z | z
    · exact codeRec_ne T₁.b r z
    · have z' := List.mem_singleton.mp z
      obtain ⟨c, o, vs, t', e, ho, hd, hv⟩ := r
      cases e
      obtain ⟨o', e', d'⟩ := hci
      rw [← z', ho] at e'; cases e'
      rw [hd] at d'; cases d')
  have T₃ : Tabs s₃.heap := ⟨Ta₃, Tb₃⟩
  have kgN : Kp g s₃.heap := kn₃.ground kg₁ (fun p hp => by
    rcases List.mem_cons.mp hp with rfl | hp
    · exact hg
    · rw [List.mem_singleton.mp hp]; exact gfresh _ (Nat.le_add_right _ _))
  have hD₃ : (iList (nats ds)).P s₃.heap (.ref D) := by
    obtain ⟨a, us, e, hp, hu⟩ := hl
    cases e
    have hDL : D < L := by obtain ⟨o, e, _⟩ := hp; rw [← hLdef]; exact Heap.lt_size e
    refine ⟨D, us, rfl, isList_kp (isList_kp hp (KpN.of (N := []) k₁) (fun z => nomatch z)) kn₃ (fun z => ?_), nats_any hu⟩
    rcases List.mem_cons.mp z with z | z
    · obtain ⟨ps, e, _⟩ := T.b
      obtain ⟨o', e', _, n, d'⟩ := hp
      rw [z, e] at e'; cases e'; cases d'
    · have z' := List.mem_singleton.mp z
      have : L + 3 < L := by rw [z'] at hDL; exact hDL
      omega
  have Nf : Nest s₃.heap qual2 nest2 f [("n", L + 2), ("inner", L + 3), ("digits", L + 1)] c' := ⟨⟨doc, pm, ctv, hf₃⟩, hcd₃, G.gl.lim.keeps kgN⟩
  have Gl₃ : Gl mg mb s₃.heap := G.gl.keeps kgN
  have kn13 : KpN [51] s.heap s₃.heap := (KpN.of k₁).drop kn₃ (fun p hp => by
    rcases List.mem_cons.mp hp with rfl | hp
    · exact .inl (.head _)
    · exact .inr (fresh p (by rw [List.mem_singleton.mp hp]; exact Nat.le_add_right _ _)))
  refine wpAny_execs_cons (ev_ret (g := s₃.heap) (R := vInt (val n ds : Nat)) ?_ (Kp.refl _) hns₃ fun v s₄ hv₄ k₄ => ?_)
  · refine ev_ifexp (ev_truthI (ev_cell (c := L + 1) rfl hcdg₃ hD₃) (by rw [List.length_map]; omega)) (fun hc => ?_) (fun hc => ?_)
    · have hne : ds ≠ [] := fun z => by subst z; simp at hc
      have hpos : 1 ≤ ds.length := by
        rcases ds with _ | ⟨d, ds⟩
        · exact absurd rfl hne
        · simp
      have c0 := inner2 (prog := prog) (w := w) (g := s₃.heap) hn Nf hcn₃ hci₃ hcdg₃ hD₃ (by omega) hv ds.length (A.deeper (envOfC (nameAt 8) (scopeAt 8) L 56 (.ref 55))) 0 hpos (by show A.depth + 1 + _ ≤ _; omega) (by omega)
      rw [List.drop_zero, List.take_length, Nat.zero_add] at c0
      have hl := ev_lenI (prog := prog) (w := w) (A := A.deeper (envOfC (nameAt 8) (scopeAt 8) L 56 (.ref 55))) (env := envOfC (nameAt 8) (scopeAt 8) L 56 (.ref 55)) (m := (bindL (envOfC (nameAt 8) (scopeAt 8) L 56 (.ref 55)).kindOf [("digits", Value.ref D), ("n", Value.int (n : Int) t2)] fun _ => none)) (e := .Name "digits" ⟨71, 24, 71, 30⟩) (p := ⟨71, 20, 71, 23⟩) (pos := ⟨71, 20, 71, 31⟩) Gl₃ (ev_cell (c := L + 1) rfl hcdg₃ hD₃) (by rw [List.length_map]; omega)
      rw [List.length_map] at hl
      exact ev_callF (ev_cell (c := L + 3) rfl hci₃ rfl) (evs_cons ev_int (evs_cons hl evs_nil)) hf₃ rfl c0
    · have hne : ds = [] := by
        have := of_decide_eq_false hc
        simpa using this
      subst hne
      exact ev_int
  · exact ⟨hv₄, r₁.trans (r₃.trans (Rest.of k₄)), kn13.trans (KpN.of (kp_of k₄)), T₃.keeps (kp_of k₄)⟩
end
end Mine
open PySem PySem.W PySem.Calls PyProof.Rows
set_option Elab.async false
set_option maxRecDepth 100000
namespace Mine

/-- lists and tuples stay, and behind B all but what is fields -/
def KpB (B : Nat) (h h' : Heap) : Prop := ∀ (b : Nat) o, h.get? b = some o → ((∃ vs n, o.data = .seq vs n) ∨ (B < b ∧ ∀ vs, o.data ≠ .fields vs)) → h'.get? b = some o
theorem KpB.refl (B : Nat) (h : Heap) : KpB B h h := fun _ _ e _ => e
theorem KpB.trans {B : Nat} {a b c : Heap} (x : KpB B a b) (y : KpB B b c) : KpB B a c := fun p o e q => y p o (x p o e q) q
theorem KpB.of {B : Nat} {a b : Heap} (x : Kp a b) : KpB B a b := fun p o e _ => x p o e
theorem KpB.s {B : Nat} {a b : Heap} (x : KpB B a b) : KpS a b := fun p o e q => x p o e (.inl q)
theorem KpB.ns {B L : Nat} {a b : Heap} {m : Str → Option Value} (x : KpN [L] a b) (n : a.Ns L m) (h : L ≤ B) : KpB B a b := fun p o e q =>
  x p o (fun z => by
    have z' : (p : Nat) = L := List.mem_singleton.mp z
    rcases q with ⟨vs, k, d⟩ | ⟨q, _⟩
    · obtain ⟨o', es, ep, e', d', _⟩ := n
      rw [z', e'] at e; cases e
      rw [d'] at d; cases d
    · omega) e
theorem KpB.cell {B c : Nat} {a b : Heap} {v : Option Value} (x : KpN [c] a b) (n : a.IsCell c v) (h : c ≤ B) : KpB B a b := fun p o e q =>
  x p o (fun z => by
    have z' : (p : Nat) = c := List.mem_singleton.mp z
    rcases q with ⟨vs, k, d⟩ | ⟨q, _⟩
    · obtain ⟨o', e', d'⟩ := n
      rw [z', e'] at e; cases e
      rw [d'] at d; cases d
    · omega) e
theorem KpB.fields {B : Nat} {N : List Addr} {a b : Heap} (x : KpN N a b) (h : ∀ p ∈ N, ∀ o, a.get? p = some o → ∃ vs, o.data = .fields vs) : KpB B a b := fun p o e q =>
  x p o (fun z => by
    obtain ⟨vs, d⟩ := h p z o e
    rcases q with ⟨vs', k, d'⟩ | ⟨_, q⟩
    · rw [d] at d'; cases d'
    · exact q vs d) e

section
variable {prog : Program} {w : World} {A : Around} {env : Env} {g : Heap} {m mg mb : Str → Option Value} {s : Shared} {E : Value → Shared → Prop}

theorem for_loop {x : Str} {px : Pos} {body : List Stmt} {I : Addr} {fp wr : List Addr} {n : Nat} {P : Nat → Value → Prop} {St : Nat → Heap → Prop} {R : Result → Shared → Prop} (B : Nat)
    (W : Walks prog w A I fp wr n P St) (hL : env.locals ∉ fp) (hLB : env.locals ≤ B) (hx : env.kindOf x = some .local) (hp : (env.scope.kind == .class || (env.scope.kind == .module && env.locals != env.globals)) = false)
    (hwf : ∀ i h, St i h → ∀ p ∈ wr, ∀ o, h.get? p = some o → ∃ vs, o.data = .fields vs)
    (J : Nat → (Str → Option Value) → Shared → Prop)
    (move : ∀ i m s h' tk, (∃ j, St j s.heap) → J i m s → s.heap.Ns env.locals m → KpN (env.locals :: wr) s.heap h' → KpB B s.heap h' → J i m { s with heap := h', toks := tk })
    (turn : ∀ i v m s E, i < n → P i v → s.heap.Ns env.locals (upd m x v) → J i m s →
      wpAny (model prog w) A (execs body env) (fun f s₂ => f = .next ∧ (∀ p ∈ fp, ∀ o, s.heap.get? p = some o → s₂.heap.get? p = some o) ∧ ∃ m₂, s₂.heap.Ns env.locals m₂ ∧ J (i + 1) m₂ s₂) E s)
    (fin : ∀ m s, s.heap.Ns env.locals m → J n m s → R (.ok .next) s)
    {m₀ : Str → Option Value} (h0 : St 0 s.heap) (n0 : s.heap.Ns env.locals m₀) (j0 : J 0 m₀ s) : codeAny (model prog w) A (.forLoop (.Name x px) (.ref I) body [] env) R s := by
  have hLw : env.locals ∉ wr := fun z => hL (W.sub _ z)
  refine codeAny_forLoop_any (fun k s => ∃ i m, i ≤ n ∧ k = n + 1 - i ∧ St i s.heap ∧ s.heap.Ns env.locals m ∧ J i m s) ?_ (n + 1) ⟨0, m₀, Nat.zero_le _, rfl, h0, n0, j0⟩
  rintro k s ⟨i, m, hi, rfl, st, ns, j⟩
  by_cases hlt : i < n
  · refine W.item i s _ _ hlt st fun v h' tk hP st' hk => ?_
    have kw : KpN wr s.heap h' := fun b o hb e => hk b o hb e
    have j' := move i m s h' tk ⟨i, st⟩ j ns (kw.mono fun p hp => .tail _ hp) (KpB.fields kw (hwf i _ st))
    have ns' : h'.Ns env.locals m := ns.at' fun o e => kw _ o hLw e
    refine wpAny_of_eq (a := ()) rfl ?_
    refine wpAny_assign_Name (wpAny_storeName_local hx ns' (fun h₂ n₂ hs₂ => ?_) hp)
    have kl : KpN [env.locals] h' h₂ := KpN.same hs₂ (List.Mem.head [])
    have j₂ := move i m _ h₂ (tk + 1) ⟨i + 1, st'⟩ j' ns' (kl.mono fun p hp => by rw [List.mem_singleton.mp hp]; exact .head _) (KpB.ns kl ns' hLB)
    have st₂ : St (i + 1) h₂ := W.frame _ _ _ st' fun p hp o e => hs₂.extBut p o (fun z => hL (z ▸ hp)) e
    refine wpAny_mono (turn i v m { s with heap := h₂, toks := tk + 1 } _ hlt hP n₂ j₂) (fun f s₃ h₃ => ?_) fun _ _ y => y
    obtain ⟨rfl, hf, m₃, n₃, j₃⟩ := h₃
    exact ⟨n + 1 - (i + 1), by omega, i + 1, m₃, hlt, rfl, W.frame _ _ _ st₂ fun p hp o e => hf p hp o e, n₃, j₃⟩
  · have : i = n := by omega
    subst this
    refine W.done s _ _ st fun h' tk hk => ?_
    have kw : KpN wr s.heap h' := fun b o hb e => hk b o hb e
    exact wpAny_execs_nil (fin m _ (ns.at' fun o e => kw _ o hLw e) (move i m s h' tk ⟨i, st⟩ j ns (kw.mono fun p hp => .tail _ hp) (KpB.fields kw (hwf i _ st))))

theorem eval_callT {id : String} {f : Str} {p pos : Pos} {e : Expr} {es : List Expr} {Rs : List VP} {Q : Value → Shared → Prop} (hf : Ev prog w A env g m (.Name f p) (vIs (.type id))) (hs : Evs prog w A env g m (e :: es) Rs)
    (k : Kp g s.heap) (n : s.heap.Ns env.locals m)
    (hc : ∀ s' vs, Keeps s s' → VPs s'.heap Rs vs → wpAny (model prog w) A (call (.type id) vs) Q E s') (hplain : (backTo pos (starEach (e :: es) env)).any (·.1) = false := by rfl) (he : starEach (e :: es) env = (false, eval e env) :: starEach es env := by rfl) :
    wpAny (model prog w) A (eval (.Call (.Name f p) (e :: es) [] pos) env) Q E s := by
  refine wpAny_Call_Name_kw (wpAny_mono (hf s E k n) (fun v s₁ h₁ => ?_) fun _ _ x => x)
  obtain ⟨e1, k₁⟩ := h₁
  cases e1
  rw [keywordEach_nil]
  refine PyProof.Rows.callWith_type hplain ?_
  have z := hs s₁ E pos (kp_step k k₁) (ns_keeps n k₁)
  rw [he] at z ⊢
  refine evalArgs_plain (wpAny_mono z (fun vs s₂ h₂ => ?_) fun _ _ x => x)
  exact hc s₂ vs (keeps_trans k₁ h₂.2) h₂.1

/-- xs.append(e), xs a local -/
theorem st_append {x : Str} {px apos cpos pos : Pos} {e : Expr} {D : Addr} {us : List Value} {R : VP} {Q : Flow → Shared → Prop} (hm : m x = some (.ref D)) (hl : s.heap.PlainList D us.toArray) (he : Ev prog w A env s.heap m e R) (n : s.heap.Ns env.locals m) (hus : us.length ≤ 1000)
    (hQ : ∀ v s' s₁, Keeps s s₁ → R.P s₁.heap v → Rest s₁ s' → Heap.SameBut D s₁.heap s'.heap → s'.heap.PlainList D (us ++ [v]).toArray → Q .next s')
    (hk : env.scope.kind = .function := by rfl) (hx : env.kindOf x = some .local := by rfl) (hdb : (x == ("__debug__" : Str)) = false := by decide)
    (hbase : attributeBase (.Name x px) "append" env (eval (.Name x px) env) = eval (.Name x px) env := by rfl) (hline : (apos.endLine == cpos.line) = true := by rfl) (hstar : starEach [e] env = [(false, eval e env)] := by rfl)
    (hi : interactive env = false := by rfl) (hsw : swapsWith (.Call (.Attribute (.Name x px) "append" apos) [e] [] cpos) none pos.line env = pure false := by rfl) :
    wpAny (model prog w) A (exec (.Expr (.Call (.Attribute (.Name x px) "append" apos) [e] [] cpos) pos) env) Q E s := by
  refine wpAny_Expr ?_ hi hsw
  refine Call_method1 hbase hstar hline (wpAny_Name (wpAny_loadName_local hk hx n hm ?_) hdb)
  refine ⟨"list", "list.append", F.plainAttrs_list, F.slot_list_append, F.type_list_append, hl.isList.typeIs, fun a e => ?_, ?_⟩
  · cases e
    obtain ⟨k, e⟩ := hl
    exact ⟨_, e, rfl⟩
  · refine PySem.P.append_list (wpAny_mono (he s E (Kp.refl _) n) (fun v s₁ h₁ => ?_) fun _ _ y => y)
    obtain ⟨hv, k₁⟩ := h₁
    obtain ⟨k, e⟩ := hl
    have e₁ := kp_of k₁ _ _ e
    refine ⟨us.toArray, k, by rw [List.size_toArray, sizeLine_eq]; omega, e₁, ?_⟩
    refine hQ v _ s₁ k₁ hv ⟨_, _, rfl⟩ (Heap.SameBut.update ..) ⟨k + 1, ?_⟩
    show (s₁.heap.update D (Obj.mapSeq fun xs => xs.push v)).get? D = _
    rw [Heap.get?_update_self _ e₁ (by rw [Obj.mapSeq_push_plain]; rfl), Obj.mapSeq_push_plain]
    simp
end
end Mine
open PySem PySem.W PySem.Calls PyProof.Rows
set_option Elab.async false
set_option maxRecDepth 100000
namespace Mine

theorem ns_ne_tab {h : Heap} {L P : Addr} {m : Str → Option Value} {pos : Pos} {q : Str} (n : h.Ns L m) (t : TabOk P pos q h) : L ≠ P := by
  rintro rfl
  obtain ⟨ps, e, _⟩ := t
  obtain ⟨o', es, ep, e', d', _⟩ := n
  rw [e] at e'; cases e'; cases d'
theorem list_ne_tab {h : Heap} {D P : Addr} {vs : Array Value} {pos : Pos} {q : Str} (x : h.IsList D vs) (t : TabOk P pos q h) : D ≠ P := by
  rintro rfl
  obtain ⟨ps, e, _⟩ := t
  obtain ⟨o', e', _, n, d'⟩ := x
  rw [e] at e'; cases e'; cases d'
theorem Tabs.local {h h' : Heap} {L : Addr} {m : Str → Option Value} (T : Tabs h) (n : h.Ns L m) (k : KpN [L] h h') : Tabs h' :=
  T.kp k (fun z => ns_ne_tab n T.a (List.mem_singleton.mp z).symm) (fun z => ns_ne_tab n T.b (List.mem_singleton.mp z).symm) fun c' q r z => by
    obtain ⟨c, o, vs, t', e, ho, hd, hv⟩ := r
    cases e
    obtain ⟨o', es, ep, e', d', _⟩ := n
    rw [List.mem_singleton.mp z, e'] at ho; cases ho
    rw [d'] at hd; cases hd
theorem Tabs.list {h h' : Heap} {D : Addr} {vs : Array Value} (T : Tabs h) (x : h.IsList D vs) (k : KpN [D] h h') : Tabs h' :=
  T.kp k (fun z => list_ne_tab x T.a (List.mem_singleton.mp z).symm) (fun z => list_ne_tab x T.b (List.mem_singleton.mp z).symm) fun c' q r z => by
    obtain ⟨c, o, vs, t', e, ho, hd, hv⟩ := r
    cases e
    obtain ⟨o', e', _, n, d'⟩ := x
    rw [List.mem_singleton.mp z, e'] at ho; cases ho
    rw [d'] at hd; cases hd
/-- the tables in a heap that hides neither them nor a code -/
theorem Tabs.hide {h : Heap} {L D : Addr} {m : Str → Option Value} {vs : Array Value} (T : Tabs h) (n : h.Ns L m) (x : h.IsList D vs) : Tabs (hide h [L, D]) := by
  have ne : ∀ {P : Addr} {pos q}, TabOk P pos q h → P ∉ [L, D] := fun t z => by
    rcases List.mem_cons.mp z with z | z
    · exact ns_ne_tab n t z.symm
    · exact list_ne_tab x t (List.mem_singleton.mp z).symm
  have rec' : ∀ {c' : Addr} {q : Str}, h.CodeRec (.ref c') q → (Mine.hide h [L, D]).CodeRec (.ref c') q := fun r => by
    obtain ⟨c, o, vs, t', e, ho, hd, hv⟩ := r
    cases e
    refine ⟨_, o, vs, t', rfl, hide_get ho (fun z => ?_), hd, hv⟩
    rcases List.mem_cons.mp z with z | z
    · obtain ⟨o', es, ep, e', d', _⟩ := n
      rw [z, e'] at ho; cases ho
      rw [d'] at hd; cases hd
    · obtain ⟨o', e', _, n, d'⟩ := x
      rw [List.mem_singleton.mp z, e'] at ho; cases ho
      rw [d'] at hd; cases hd
  have one : ∀ {P : Addr} {pos q}, TabOk P pos q h → TabOk P pos q (Mine.hide h [L, D]) := fun t => by
    obtain ⟨ps, e, hps⟩ := id t
    refine ⟨ps, hide_get e (ne t), ?_⟩
    rcases hps with h | ⟨c', h, r⟩
    · exact .inl h
    · exact .inr ⟨c', h, rec' r⟩
  exact ⟨one T.a, one T.b⟩

section
variable {prog : Program} {w : World} {A : Around} {env : Env} {g : Heap} {m mg mb : Str → Option Value} {s : Shared} {E : Value → Shared → Prop}

theorem st_reverse {x : Str} {px apos cpos pos : Pos} {D : Addr} {us : List Value} {Q : Flow → Shared → Prop} (hm : m x = some (.ref D)) (hl : s.heap.PlainList D us.toArray) (n : s.heap.Ns env.locals m) (hus : us.length ≤ 1000)
    (hQ : ∀ s', Rest s s' → Heap.SameBut D s.heap s'.heap → s'.heap.IsList D us.reverse.toArray → Q .next s')
    (hk : env.scope.kind = .function := by rfl) (hx : env.kindOf x = some .local := by rfl) (hdb : (x == ("__debug__" : Str)) = false := by decide)
    (hbase : attributeBase (.Name x px) "reverse" env (eval (.Name x px) env) = eval (.Name x px) env := by rfl) (hline : (apos.endLine == cpos.line) = true := by rfl)
    (hi : interactive env = false := by rfl) (hsw : swapsWith (.Call (.Attribute (.Name x px) "reverse" apos) [] [] cpos) none pos.line env = pure false := by rfl) :
    wpAny (model prog w) A (exec (.Expr (.Call (.Attribute (.Name x px) "reverse" apos) [] [] cpos) pos) env) Q E s := by
  refine wpAny_Expr ?_ hi hsw
  refine Call_method0 hbase hline (wpAny_Name (wpAny_loadName_local hk hx n hm ?_) hdb)
  refine ⟨"list", "list.reverse", F.plainAttrs_list, F.slot_list_reverse, F.type_list_reverse, hl.isList.typeIs, fun a e => ?_, ?_⟩
  · cases e
    obtain ⟨k, e⟩ := hl
    exact ⟨_, e, rfl⟩
  · obtain ⟨k, e⟩ := hl
    refine PySem.P.reverse_list e ?_ (by rw [List.size_toArray, sizeLine_eq]; omega)
    refine hQ _ ⟨_, _, rfl⟩ (Heap.SameBut.update ..) ?_
    obtain ⟨n', hd'⟩ := Obj.data_mapSeq (o := { cls := .type "list", data := .seq us.toArray k }) rfl (fun x => x.reverse)
    refine ⟨_, Heap.get?_update_self _ e (Obj.isFreed_of_seq hd'), (Obj.cls_mapSeq ..), n', ?_⟩
    rw [hd']
    simp

theorem cmp_le_int {a b : Int} : ∀ s E x y, Kp g s.heap → (vInt a).P s.heap x → (vInt b).P s.heap y → wpAny (model prog w) A (compareOp .LtE x y) (fun v s' => v = .bool (decide (a ≤ b)) ∧ Keeps s s') E s := by
  rintro s E x y _ ⟨t, rfl⟩ ⟨u, rfl⟩
  exact PyProof.Rows.le_int ⟨rfl, keeps_refl s⟩
theorem cmp_lt_int {a b : Int} : ∀ s E x y, Kp g s.heap → (vInt a).P s.heap x → (vInt b).P s.heap y → wpAny (model prog w) A (compareOp .Lt x y) (fun v s' => v = .bool (decide (a < b)) ∧ Keeps s s') E s := by
  rintro s E x y _ ⟨t, rfl⟩ ⟨u, rfl⟩
  exact PyProof.Rows.lt_int ⟨rfl, keeps_refl s⟩
theorem ev_globalR {x : Str} {pos : Pos} {v : Value} {R : VP} {mg : Str → Option Value} (hg : g.Ns env.globals mg) (hv : mg x = some v) (r : R.P g v)
    (hk : env.scope.kind = .function := by rfl) (hl : env.kindOf x = some .globalImplicit := by rfl)
    (hd : (x == ("__debug__" : Str)) = false := by decide) : Ev prog w A env g m (.Name x pos) R :=
  fun s _ k _ => Name_function_global hk hl (loadGlobal_global (hg.keeps k) hv ⟨R.st k r, keeps_refl s⟩) hd

theorem evC_d21 {a b n : Nat} (G : Gl mg mb g) (hd : A.depth < recursionLimit) (ha : a < 2 ^ 64) (hb : 0 < b) (hb2 : b < 1000) : EvC prog w A g (.ref 35) [vInt a, vInt b, vInt n] (vTup [vInt (a / b : Nat), vInt (a % b : Nat)]) := by
  refine evC_def (i := 5) (fun vs => [("a", vs.getD 0 .none), ("b", vs.getD 1 .none), ("n", vs.getD 2 .none)]) G.d21 G.lim hd ?_ ?_ ?_
  · intro fd hp hd hk vs hl
    match vs, hl with
    | [v, u, t], _ => unfold bindArgs; rw [hp, hd, hk]; rfl
  · intro vs hl x hx
    rcases List.mem_cons.mp hx with rfl | hx
    · rfl
    rcases List.mem_cons.mp hx with rfl | hx
    · rfl
    · rw [List.mem_singleton.mp hx]; rfl
  · intro cd s s₁ E vs k hv r k₁ hns
    obtain ⟨_, _, _, rfl, ⟨t1, rfl⟩, ⟨t2, rfl⟩, ⟨t3, rfl⟩⟩ := vps3 hv
    have G₁ : Gl mg mb s₁.heap := G.keeps (k.trans k₁)
    obtain ⟨tl, hlim⟩ := G.nm.limit
    rw [show bodyAt 5 = _ :: _ :: _ from rfl]
    refine wpAny_execs_cons (st_if (g := s₁.heap) (c := true) ?_ (Kp.refl _) hns ?_ ?_)
    · have : decide ((bits a : Int) - (n : Int) ≤ 4000) = true := decide_eq_true (by have := bits_le ha; omega)
      rw [← this]
      exact evT_cmp (ev_sub (ev_bitlen (ev_local rfl ⟨t1, rfl⟩)) (ev_local rfl ⟨t3, rfl⟩)) (ev_globalR (R := vInt 4000) G₁.g hlim ⟨tl, rfl⟩) cmp_le_int
    · intro s₂ _ k₂
      have G₂ := G₁.keeps (kp_of k₂)
      refine wpAny_execs_cons (ev_ret (g := s₂.heap) (ev_callB (Rs := [vInt a, vInt b]) (ev_builtin G₂.g G₂.nm.divmod.1 G₂.b G₂.nm.divmod.2) (evs_cons (ev_local rfl ⟨t1, rfl⟩) (evs_cons (ev_local rfl ⟨t2, rfl⟩) evs_nil)) (evC_divmod hb hb2)) (Kp.refl _) (ns_keeps hns k₂) fun v s₃ hv₃ k₃ => ?_)
      exact ⟨hv₃, Rest.of (keeps_trans k₂ k₃), k₁.trans (kp_of (keeps_trans k₂ k₃))⟩
    · intro s₂ hc; cases hc

theorem call_def {i : Nat} {a : Addr} {vs : List Value} {binds : List (Str × Value)} {Q : Value → Shared → Prop} (hf : FnAt i s.heap a) (hl : s.heap.NoLimit) (hd : A.depth < recursionLimit)
    (hb : ∀ fd : FuncData, fd.params = paramsAt i → fd.defaults = .none → fd.kwdefaults = .none → bindArgs fd ⟨vs, []⟩ = pure binds)
    (hloc : ∀ x ∈ binds, (scopeAt i).names.lookup x.1 = some .local)
    (body : ∀ cd h₁ tk E', Kp s.heap h₁ → h₁.Ns s.heap.objs.size (fun x => binds.reverse.lookup x) →
      wpAny (model prog w) (A.deeper (envOf (nameAt i) (scopeAt i) s.heap.objs.size a cd)) (execs (bodyAt i) (envOf (nameAt i) (scopeAt i) s.heap.objs.size a cd))
        (fun f s' => Q (match f with | .ret v => v | _ => .none) s') E' { s with heap := h₁, toks := tk })
    (hcell : ∀ x ∈ (scopeAt i).names, x.2 ≠ .cell := by decide)
    (hco : (scopeAt i).isCoroutine = false := by rfl) (hgen : (scopeAt i).isGenerator = false := by rfl) (hk : (scopeAt i).kind = .function := by rfl) :
    wpAny (model prog w) A (call (.ref a) vs) Q E s := by
  obtain ⟨o, doc, pm, an, cd, ct, ho, hdat, hcd⟩ := hf
  refine wpAny_call ?_
  exact codeAny_call_def (fd := fnOf (nameAt i) (nameAt i) (paramsAt i) (bodyAt i) (scopeAt i) .none .none doc pm an cd ct) (body := bodyAt i) (binds := binds) hd ho hdat hl hcd rfl
    (BindsTo.of_eq (hb _ rfl rfl rfl)) hcell hloc (fun h₁ hns hk₁ => body cd h₁ _ _ hk₁ hns) hco hgen hk

/-- x = f(..), f a def of the text that may turn the tables -/
theorem st_assign_call {x : Str} {px : Pos} {f : Str} {p pos cpos : Pos} {e : Expr} {es : List Expr} {a : Addr} {o : Obj} {fd : FuncData} {Rs : List VP} {Q : Flow → Shared → Prop} (hf : Ev prog w A env g m (.Name f p) (vIs (.ref a))) (hs : Evs prog w A env g m (e :: es) Rs)
    (ho : g.get? a = some o) (hd : o.data = .func fd) (k : Kp g s.heap) (n : s.heap.Ns env.locals m)
    (hc : ∀ s' vs E, Keeps s s' → VPs s'.heap Rs vs → wpAny (model prog w) A (call (.ref a) vs) (fun v s'' => s''.heap.Ns env.locals m ∧ ∀ h', Heap.SameBut env.locals s''.heap h' → h'.Ns env.locals (upd m x v) → Q .next { s'' with heap := h', toks := s''.toks + 1 }) E s')
    (he : starEach (e :: es) env = (false, eval e env) :: starEach es env := by rfl)
    (hsw : swapsWith (.Call (.Name f p) (e :: es) [] cpos) (some (.Name x px)) pos.line env = pure false := by rfl) (hx : env.kindOf x = some .local := by rfl)
    (hp : (env.scope.kind == .class || (env.scope.kind == .module && env.locals != env.globals)) = false := by rfl) :
    wpAny (model prog w) A (exec (.Assign [.Name x px] (.Call (.Name f p) (e :: es) [] cpos) pos) env) Q E s := by
  refine wpAny_Assign_Name (eval_callF hf hs ho hd k n (fun s' vs ks hv => wpAny_mono (hc s' vs _ ks hv) (fun v s'' h => ?_) fun _ _ y => y) he) hsw
  exact wpAny_storeName_local hx h.1 (fun h' n' hs' => h.2 h' hs' n') hp
end
end Mine
open PySem PySem.W PySem.Calls PyProof.Rows
set_option Elab.async false
set_option maxRecDepth 100000
namespace Mine

theorem vps_get {h : Heap} {ds : List Nat} {vs : List Value} (x : VPs h (nats ds) vs) {i : Nat} {v : Value} (hv : vs[i]? = some v) : ∃ d t, ds[i]? = some d ∧ v = .int ((d : Nat) : Int) t := by
  have hlen := x.len
  rw [List.length_map] at hlen
  have hi : i < ds.length := by rw [← hlen]; exact (List.getElem?_eq_some_iff.mp hv).1
  obtain ⟨u, hu, t, rfl⟩ := x.get (i := i) (R := vInt (ds[i] : Nat)) (by simp [hi])
  rw [hv] at hu; cases hu
  exact ⟨ds[i], t, List.getElem?_eq_getElem hi, rfl⟩
theorem nats_snoc {h : Heap} {ds : List Nat} {vs : List Value} {d : Nat} {t : Tok} (x : VPs h (nats ds) vs) : VPs h (nats (ds ++ [d])) (vs ++ [.int ((d : Nat) : Int) t]) := by
  show VPs h (List.map _ _) _
  rw [List.map_append]
  exact x.append ⟨⟨t, rfl⟩, trivial⟩
theorem nats_rev {h : Heap} : ∀ {ds : List Nat} {vs : List Value}, VPs h (nats ds) vs → VPs h (nats ds.reverse) vs.reverse
  | [], [], _ => trivial
  | d :: ds, v :: vs, x => by
    obtain ⟨⟨t, rfl⟩, y⟩ := x
    rw [List.reverse_cons, List.reverse_cons]
    exact nats_snoc (nats_rev y)

/-- one digit more -/
theorem div_step {n b r d V : Nat} {qs : List Nat} (h : val n qs.reverse * b + r = V) :
    val n (qs ++ [(r * 2 ^ n + d) / b]).reverse * b + (r * 2 ^ n + d) % b = d + 2 ^ n * V := by
  rw [List.reverse_append, List.reverse_cons, List.reverse_nil, List.nil_append, List.singleton_append, val]
  have h2 := Nat.div_add_mod (r * 2 ^ n + d) b
  rw [Nat.mul_comm b] at h2
  rw [Nat.add_mul, ← h, Nat.mul_add, Nat.mul_assoc, Nat.mul_comm (2 ^ n) r]
  omega

section
variable {prog : Program} {w : World} {A : Around} {env : Env} {g : Heap} {m mg mb : Str → Option Value} {s : Shared} {E : Value → Shared → Prop}

theorem dmp_call {x b : Nat} {t1 t2 : Tok} (G : Gt mg mb g) (hg4 : g.get? 44 = none) (hg5 : g.get? 51 = none) (k : Kp g s.heap) (T : Tabs s.heap) (hd : A.depth + 70 ≤ recursionLimit) (hh : A.handled = none) (hx : x < 2 ^ 40) (hb : 1 ≤ b) (hb3 : b ≤ 3) :
    wpAny (model prog w) A (call (.ref 63) [.int (x : Int) t1, .int (b : Int) t2]) (fun v s' => (vTup [vInt (x / b : Nat), vInt (x % b : Nat)]).P s'.heap v ∧ Rest s s' ∧ KpN [44, 51] s.heap s'.heap ∧ Tabs s'.heap) E s := by
  refine call_def (i := 9) (binds := [("a", .int (x : Int) t1), ("b", .int (b : Int) t2)]) (G.gl.dmp.keeps k) (G.gl.lim.keeps k) (by omega) ?_ ?_ ?_
  · intro fd hp hd hk; unfold bindArgs; rw [hp, hd, hk]; rfl
  · intro x hx
    rcases List.mem_cons.mp hx with rfl | hx
    · rfl
    · rw [List.mem_singleton.mp hx]; rfl
  intro cd h₁ tk E' k₁ hns
  generalize hLdef : s.heap.objs.size = L at hns ⊢
  have fresh : ∀ p, L ≤ p → s.heap.get? p = none := fun p hp => get_fresh (by rw [hLdef]; exact hp)
  have gfresh : ∀ p, L ≤ p → g.get? p = none := fun p hp => by
    cases e : g.get? p with
    | none => rfl
    | some o => have := k _ _ e; rw [fresh p hp] at this; cases this
  have gL : ∀ p ∈ [L], g.get? p = none := fun p hp => by rw [List.mem_singleton.mp hp]; exact gfresh _ (Nat.le_refl _)
  have sL : ∀ p ∈ [L], p ∈ [44, 51] ∨ s.heap.get? p = none := fun p hp => .inr (by rw [List.mem_singleton.mp hp]; exact fresh _ (Nat.le_refl _))
  have T₁ : Tabs h₁ := T.keeps k₁
  have kg₁ := k.trans k₁
  have hhd : ∀ e : Env, (A.deeper e).handled = none := fun _ => hh
  have hbb : bits b ≤ 2 := bits_le (by omega)
  have hbb1 : 1 ≤ bits b := by
    have := bits_lt b
    rcases Nat.eq_zero_or_pos (bits b) with h | h
    · rw [h] at this; omega
    · exact h
  have h44 : (44 : Nat) < L := by
    obtain ⟨ps, e, _⟩ := T.a
    rw [← hLdef]; exact Heap.lt_size e
  have h51 : (51 : Nat) < L := by
    obtain ⟨ps, e, _⟩ := T.b
    rw [← hLdef]; exact Heap.lt_size e
  rw [show bodyAt 9 = [_, _, _, _, _, _, _, _] from rfl]
  refine wpAny_execs_cons (st_assign (g := g) (s := { s with heap := h₁, toks := tk }) (R := vInt (bits b : Nat)) (ev_bitlen (ev_local rfl ⟨t2, rfl⟩)) (SeqOk.int _) kg₁ hns fun v₂ s₂ hv₂ r₂ kn₂ _ n₂ => ?_)
  obtain ⟨u2, rfl⟩ := hv₂
  have kg₂ : Kp g s₂.heap := KpN.ground kn₂ kg₁ gL
  have T₂ : Tabs s₂.heap := T₁.local hns kn₂
  have r02 : Rest s s₂ := (Rest.set s h₁ tk).trans r₂
  have km₂ : KpN [44, 51] s.heap s₂.heap := (KpN.of k₁).drop kn₂ sL
  obtain ⟨od, doc, pm, an, ct, hof, hdf, _⟩ := G.f1
  refine wpAny_execs_cons (st_assign_call (g := g) (Rs := [vInt x, vInt (bits b : Nat)]) (ev_global G.gl.g G.gl.nm.i2d) (evs_cons (ev_local rfl ⟨t1, rfl⟩) (evs_cons (ev_local rfl ⟨u2, rfl⟩) evs_nil)) hof hdf kg₂ n₂ ?_)
  intro s' vs E ks hvs
  obtain ⟨_, _, rfl, ⟨w1, rfl⟩, ⟨w2, rfl⟩⟩ := vps2 hvs
  refine wpAny_mono (i2d_call (x := x) (n := bits b) G hg4 (kg₂.trans (kp_of ks)) (T₂.keeps (kp_of ks)) (by show A.depth + 1 + 66 ≤ _; omega) (Nat.lt_trans hx (by decide)) hbb1 hbb) (fun v s'' h => ?_) fun _ _ y => y
  obtain ⟨⟨ds, hvD, hval, hle, hlen⟩, r₃, kn₃, T₃⟩ := h
  have n₃ : s''.heap.Ns L _ := (ns_keeps n₂ ks).at' fun o e => kn₃ _ o (fun z => by
    have z' : L = 44 := List.mem_singleton.mp z
    omega) e
  refine ⟨n₃, fun h₃ hs₃ n₃' => ?_⟩
  obtain ⟨D, us, rfl, hlD, hus⟩ := hvD
  have kn₃' : KpN [L] s''.heap h₃ := KpN.same hs₃ (List.Mem.head [])
  have g4 : ∀ p ∈ [44], g.get? p = none := fun p hp => by rw [List.mem_singleton.mp hp]; exact hg4
  have kg₃ : Kp g h₃ := kn₃'.ground (kn₃.ground (kg₂.trans (kp_of ks)) g4) gL
  have T₃' : Tabs h₃ := T₃.local n₃ kn₃'
  have km₃ : KpN [44, 51] s.heap h₃ := ((km₂.trans (KpN.of (kp_of ks))).trans (kn₃.mono fun p hp => by rw [List.mem_singleton.mp hp]; exact .head _)).drop kn₃' sL
  have r03 : Rest s { s'' with heap := h₃, toks := s''.toks + 1 } := r02.trans ((Rest.of ks).trans (r₃.trans (Rest.set s'' h₃ _)))
  have neLD : ∀ {h : Heap} {m : Str → Option Value}, h.Ns L m → h.IsList D us.toArray → D ≠ L := fun n x => by
    rintro rfl
    obtain ⟨o, e, _, k, d⟩ := x
    obtain ⟨o', es, ep, e', d', _⟩ := n
    rw [e] at e'; cases e'
    rw [d] at d'; cases d'
  have hDL : D ≠ L := neLD n₃ hlD
  have hlD₃ := isList_kp hlD kn₃' (fun z => hDL (List.mem_singleton.mp z))
  refine wpAny_execs_cons (st_assign (g := g) (s := { s'' with heap := h₃, toks := s''.toks + 1 }) (R := vInt ((0 : Nat) : Int)) ev_int (SeqOk.int _) kg₃ n₃' fun v₄ s₄ hv₄ r₄ kn₄ _ n₄ => ?_)
  obtain ⟨u4, rfl⟩ := hv₄
  have kg₄ : Kp g s₄.heap := KpN.ground kn₄ kg₃ gL
  have T₄ : Tabs s₄.heap := T₃'.local n₃' kn₄
  have km₄ : KpN [44, 51] s.heap s₄.heap := km₃.drop kn₄ sL
  have hlD₄ := isList_kp hlD₃ kn₄ (fun z => hDL (List.mem_singleton.mp z))
  -- the list of the quotient's digits
  refine wpAny_execs_cons (wpAny_Assign_Name (wpAny_List (wpAny_items_nil ⟨Nat.zero_le _, wpAny_storeName_local rfl (n₄.push _) (fun h₅ n₅ hs₅ => ?_) rfl⟩)))
  have hQL : s₄.heap.objs.size ≠ L := Nat.ne_of_gt n₄.lt
  have hLQ : L < s₄.heap.objs.size := n₄.lt
  generalize hQ : s₄.heap.objs.size = Q at n₅ hs₅ hQL hLQ ⊢
  have hq₅ : h₅.PlainList Q #[] := ⟨0, hs₅.extBut _ _ hQL (by rw [← hQ]; exact Heap.get?_push_size _ rfl)⟩
  have kn₅ : KpN [L] s₄.heap h₅ := (KpN.of (Kp.push _ _)).trans (KpN.same hs₅ (List.Mem.head []))
  have kg₅ : Kp g h₅ := kn₅.ground kg₄ gL
  have T₅ : Tabs h₅ := T₄.local n₄ kn₅
  have km₅ : KpN [44, 51] s.heap h₅ := km₄.drop kn₅ sL
  have hlD₅ := isList_kp hlD₄ kn₅ (fun z => hDL (List.mem_singleton.mp z))
  have hDQ : D ≠ Q := Nat.ne_of_lt (by obtain ⟨o, e, _⟩ := hlD₄; rw [← hQ]; exact Heap.lt_size e)
  have r05 : Rest s { s₄ with heap := h₅, toks := s₄.toks + 1 } := r03.trans (r₄.trans (Rest.set s₄ h₅ _))
  let g₁ := hide h₅ [L, Q]
  have Tg : Tabs g₁ := T₅.hide n₅ hq₅.isList
  have gLQ : ∀ p ∈ [L, Q], g.get? p = none := fun p hp => by
    rcases List.mem_cons.mp hp with rfl | hp
    · exact gfresh _ (Nat.le_refl _)
    · rw [List.mem_singleton.mp hp]; exact gfresh _ (Nat.le_of_lt hLQ)
  have kgg : Kp g g₁ := kp_into_hide kg₅ gLQ
  have g₁L : g₁.get? L = none := hideAll_none _ (.head _)
  have g₁Q : g₁.get? Q = none := hideAll_none _ (.tail _ (.head _))
  have base : ∀ {h : Heap}, Kp g₁ h → KpN [44, 51] s.heap h := fun kh p o hp e => kh p o (hide_get (km₅ p o hp e) fun z => by
    rcases List.mem_cons.mp z with z | z
    · rw [z, fresh L (Nat.le_refl _)] at e; cases e
    · rw [List.mem_singleton.mp z, fresh Q (Nat.le_of_lt hLQ)] at e; cases e)
  have G₅ := G.gl.keeps kg₅
  refine wpAny_execs_cons (wpAny_For (eval_callT (g := h₅) (Rs := [vIs (.ref D)]) (ev_builtin G₅.g G₅.nm.reversed.1 G₅.b G₅.nm.reversed.2) (evs_cons (ev_local rfl rfl) evs_nil) (Kp.refl _) n₅ ?_))
  intro s₆ vs k₆ hvs
  obtain ⟨_, rfl, hvD⟩ := vps1 hvs
  cases hvD
  have kp₆ : Kp h₅ s₆.heap := kp_of k₆
  have hl₆ := isList_kp hlD₅ (KpN.of (N := []) kp₆) (fun z => nomatch z)
  have hq₆ : s₆.heap.PlainList Q #[] := hq₅.at fun o e => kp₆ _ o e
  have n₆ := ns_keeps n₅ k₆
  refine call_reversed_list hl₆ ?_
  have husl : us.length = ds.length := by have := hus.len; rwa [List.length_map] at this
  have hsz : us.toArray.size = ds.length := by rw [List.size_toArray, husl]
  have kpush : Kp s₆.heap (s₆.heap.push (revObj D ((us.toArray.size : Int) - 1))) := Kp.push _ _
  have hIt : (s₆.heap.push (revObj D ((us.toArray.size : Int) - 1))).IsRevIter s₆.heap.objs.size D ((us.toArray.size : Int) - 1) := ⟨_, Heap.get?_push_size _ rfl, rfl, rfl⟩
  refine wpAny_pyIter_revIter hIt ?_
  have lt₆ : ∀ {p : Addr} {o : Obj}, s₆.heap.get? p = some o → p ≠ s₆.heap.objs.size := fun e => Nat.ne_of_lt (Heap.lt_size e)
  have hDI : D ≠ s₆.heap.objs.size := by obtain ⟨o, e, _⟩ := hl₆; exact lt₆ e
  have hQI : Q ≠ s₆.heap.objs.size := by obtain ⟨n, e⟩ := hq₆; exact lt₆ e
  have hLI : L ≠ s₆.heap.objs.size := Nat.ne_of_lt n₆.lt
  have g₁I : g₁.get? s₆.heap.objs.size = none := by
    cases e : g₁.get? s₆.heap.objs.size with
    | none => rfl
    | some o => exact absurd rfl (lt₆ (kp₆ _ _ (kp_hide h₅ [L, Q] _ _ e)))
  have W := Walks.listRev (prog := prog) (w := w) (A := A.deeper (envOf (nameAt 9) (scopeAt 9) L 63 cd)) hh s₆.heap.objs.size D hDI us.toArray
  have hvalD : ∀ i, val (bits b) (ds.drop i) ≤ x := fun i => by rw [← hval]; exact val_drop_le _ _ _
  refine for_loop (env := envOf (nameAt 9) (scopeAt 9) L 63 cd) L W (fun z => ?_) (Nat.le_refl _) rfl rfl ?_
    (fun i m s' => m "n" = some (.int (bits b : Nat) u2) ∧ m "b" = some (.int (b : Int) t2) ∧ m "q_digits" = some (.ref Q) ∧
      (∃ (r : Nat) (u : Tok) (qs : List Nat) (qv : List Value), m "r" = some (.int (r : Int) u) ∧ r < b ∧ s'.heap.PlainList Q qv.toArray ∧ VPs s'.heap (nats qs) qv ∧ qs.length = i ∧ val (bits b) qs.reverse * b + r = val (bits b) (ds.drop (ds.length - i))) ∧
      Kp g₁ s'.heap ∧ Rest s s') ?_ ?_ ?_ ⟨Nat.zero_le _, ?_, ?_⟩ (n₆.push _) ?_
  · rcases List.mem_cons.mp z with z | z
    · exact hLI z
    · exact hDL (List.mem_singleton.mp z).symm
  · rintro i h ⟨_, ⟨o, e, _, d⟩, _⟩ p hp o' e'
    rw [List.mem_singleton.mp hp, e] at e'; cases e'
    exact ⟨_, d⟩
  · rintro i m s' h' tk _ ⟨a1, a2, a3, ⟨r, u, qs, qv, a4, a5, a6, a7, a8, a9⟩, a10, a11⟩ _ kn kb
    refine ⟨a1, a2, a3, ⟨r, u, qs, qv, a4, a5, ?_, nats_any a7, a8, a9⟩, kn.ground a10 (fun p hp => ?_), a11.trans (Rest.set s' h' tk)⟩
    · obtain ⟨n, e⟩ := a6
      exact ⟨n, kb _ _ e (.inl ⟨_, _, rfl⟩)⟩
    · rcases List.mem_cons.mp hp with rfl | hp
      · exact g₁L
      · rw [List.mem_singleton.mp hp]; exact g₁I
  · rintro i v m s' E hi hP hns' ⟨a1, a2, a3, ⟨r, u, qs, qv, a4, a5, a6, a7, a8, a9⟩, a10, a11⟩
    rw [hsz] at hi
    obtain ⟨d, td, hd, rfl⟩ := vps_get hus (i := us.toArray.size - 1 - i) (v := v) (by simpa using hP)
    rw [hsz] at hd
    have hdx : d ≤ x := hle d (List.mem_of_getElem? hd)
    have hpw : 2 ^ bits b ≤ 4 := by
      rcases (show bits b = 1 ∨ bits b = 2 by omega) with h | h <;> rw [h] <;> decide
    have hrn : r * 2 ^ bits b ≤ 12 := Nat.le_trans (Nat.mul_le_mul (show r ≤ 3 by omega) hpw) (by decide)
    have Gs : Gl mg mb s'.heap := G.gl.keeps (kgg.trans a10)
    obtain ⟨o5, doc5, pm5, an5, cd5, ct5, ho5, hd5, _⟩ := Gs.d21
    have b0 : upd m "a_digit" (.int ((d : Nat) : Int) td) "a_digit" = some (.int ((d : Nat) : Int) td) := rfl
    have b1 : upd m "a_digit" (.int ((d : Nat) : Int) td) "n" = some (.int (bits b : Nat) u2) := a1
    have b2 : upd m "a_digit" (.int ((d : Nat) : Int) td) "b" = some (.int (b : Int) t2) := a2
    have b3 : upd m "a_digit" (.int ((d : Nat) : Int) td) "q_digits" = some (.ref Q) := a3
    have b4 : upd m "a_digit" (.int ((d : Nat) : Int) td) "r" = some (.int (r : Int) u) := a4
    generalize upd m "a_digit" (.int ((d : Nat) : Int) td) = m' at b0 b1 b2 b3 b4 hns'
    clear a1 a2 a3 a4
    refine wpAny_execs_cons (st_unpack (g := s'.heap) (Rs := [vInt ((r * 2 ^ bits b + d) / b : Nat), vInt ((r * 2 ^ bits b + d) % b : Nat)]) [("q_digit", _), ("r", _)]
      (ev_callF (Rs := [vInt (r * 2 ^ bits b + d : Nat), vInt (b : Nat), vInt (bits b : Nat)]) (ev_global Gs.g Gs.nm.d21) (evs_cons (ev_cast (ev_add (ev_shl (a := r) (n := bits b) (ev_local b4 ⟨u, rfl⟩) (ev_local b1 ⟨u2, rfl⟩) (by omega) (by omega)) (ev_local b0 ⟨td, rfl⟩)) (by omega)) (evs_cons (ev_local b2 ⟨t2, rfl⟩) (evs_cons (ev_local b1 ⟨u2, rfl⟩) evs_nil))) ho5 hd5
        (evC_d21 Gs (by show A.depth + 1 < _; omega) (by omega) (by omega) (by omega)))
      (SeqOk.cons (SeqOk.int _) (SeqOk.cons (SeqOk.int _) SeqOk.nil)) hh (Kp.refl _) hns' rfl ?_)
    intro vs₈ s₈ hv₈ r₈ kn₈ ks₈ n₈
    obtain ⟨_, _, rfl, ⟨w1, rfl⟩, ⟨w2, rfl⟩⟩ := vps2 hv₈
    have hq₈ : s₈.heap.PlainList Q qv.toArray := by obtain ⟨n, e⟩ := a6; exact ⟨n, ks₈ _ _ e ⟨_, _, rfl⟩⟩
    have hqv : qv.length = i := by have := a7.len; rw [List.length_map, a8] at this; exact this
    refine wpAny_execs_cons (st_append (D := Q) (us := qv) (R := vIs (.int (((r * 2 ^ bits b + d) / b : Nat) : Int) w1)) ?_ hq₈ (ev_local rfl rfl) n₈ (by omega) ?_)
    · exact b3
    intro v s₁₀ s₉ k₉ hv₉ r₁₀ hs₁₀ hq₁₀
    cases hv₉
    have kq : KpN [Q] s₉.heap s₁₀.heap := KpN.same hs₁₀ (List.Mem.head [])
    have kn810 : KpN [L, Q] s'.heap s₁₀.heap := (kn₈.mono fun p hp => by rw [List.mem_singleton.mp hp]; exact .head _).trans ((KpN.of (kp_of k₉)).trans (kq.mono fun p hp => by rw [List.mem_singleton.mp hp]; exact .tail _ (.head _)))
    refine wpAny_execs_nil ⟨rfl, fun p hp o e => kn810 p o (fun z => ?_) e, _, (ns_keeps n₈ k₉).at' fun o e => kq _ o (fun z => hQL (List.mem_singleton.mp z).symm) e, b1, b2, b3, ⟨_, w2, qs ++ [(r * 2 ^ bits b + d) / b], qv ++ [.int (((r * 2 ^ bits b + d) / b : Nat) : Int) w1], rfl, Nat.mod_lt _ (by omega), hq₁₀, nats_snoc (nats_any a7), by rw [List.length_append, a8]; rfl, ?_⟩, ?_, ?_⟩
    · rcases List.mem_cons.mp hp with rfl | hp
      · rcases List.mem_cons.mp z with z | z
        · exact hLI z.symm
        · exact hQI (List.mem_singleton.mp z).symm
      · rw [List.mem_singleton.mp hp] at z
        rcases List.mem_cons.mp z with z | z
        · exact hDL z
        · exact hDQ (List.mem_singleton.mp z)
    · rw [div_step a9]
      have hi2 : ds.length - (i + 1) = ds.length - 1 - i := by omega
      have hlt : ds.length - 1 - i < ds.length := by omega
      have hd' : ds[ds.length - 1 - i] = d := by
        have := List.getElem?_eq_getElem hlt
        rw [hd] at this
        exact (Option.some.inj this).symm
      rw [hi2, List.drop_eq_getElem_cons hlt, val, hd', show ds.length - 1 - i + 1 = ds.length - i by omega]
    · exact kn810.ground a10 fun p hp => by
        rcases List.mem_cons.mp hp with rfl | hp
        · exact g₁L
        · rw [List.mem_singleton.mp hp]; exact g₁Q
    · exact a11.trans (r₈.trans ((Rest.of k₉).trans r₁₀))
  · rintro m s' hns' ⟨a1, a2, a3, ⟨r, u, qs, qv, a4, a5, a6, a7, a8, a9⟩, a10, a11⟩
    rw [hsz, Nat.sub_self, List.drop_zero, hval] at a9
    rw [hsz] at a8
    have hqv : qv.length = ds.length := by have := a7.len; rw [List.length_map, a8] at this; exact this
    refine wpAny_execs_cons (st_reverse (D := Q) (us := qv) a3 a6 hns' (by omega) fun s₈ r₈ hs₈ hq₈ => ?_)
    have kq₈ : KpN [Q] s'.heap s₈.heap := KpN.same hs₈ (List.Mem.head [])
    have kg₈ : Kp g₁ s₈.heap := kq₈.ground a10 (fun p hp => by rw [List.mem_singleton.mp hp]; exact g₁Q)
    have n₈ : s₈.heap.Ns L _ := hns'.at' fun o e => kq₈ _ o (fun z => hQL (List.mem_singleton.mp z).symm) e
    have hvl : val (bits b) qs.reverse < 2 ^ 60 := by
      have : val (bits b) qs.reverse ≤ val (bits b) qs.reverse * b := Nat.le_mul_of_pos_right _ (by omega)
      omega
    obtain ⟨od, doc, pm, an, ct, hof, hdf, _⟩ := (G.keeps (kgg.trans kg₈)).f2
    have G₈ := (G.keeps (kgg.trans kg₈)).gl
    refine wpAny_execs_cons (st_assign_call (g := s₈.heap) (Rs := [vIs (.ref Q), vInt (bits b : Nat)]) (ev_global G₈.g G₈.nm.d2i) (evs_cons (ev_local a3 rfl) (evs_cons (ev_local a1 ⟨u2, rfl⟩) evs_nil)) hof hdf (Kp.refl _) n₈ ?_)
    intro s₉ vs E ks hvs
    obtain ⟨_, _, rfl, hvQ, ⟨w2, rfl⟩⟩ := vps2 hvs
    cases hvQ
    refine wpAny_mono (d2i_call (n := bits b) (ds := qs.reverse) G hg5 ((kgg.trans kg₈).trans (kp_of ks)) (Tg.keeps (kg₈.trans (kp_of ks))) (by show A.depth + 1 + 66 ≤ _; omega)
      ⟨Q, qv.reverse, rfl, isList_kp hq₈ (KpN.of (N := []) (kp_of ks)) (fun z => nomatch z), nats_rev (nats_any a7)⟩ (by rw [List.length_reverse]; omega) hvl hbb) (fun v s₁₀ h => ?_) fun _ _ y => y
    obtain ⟨⟨w3, rfl⟩, r₁₀, kn₁₀, T₁₀⟩ := h
    have n₁₀ : s₁₀.heap.Ns L _ := (ns_keeps n₈ ks).at' fun o e => kn₁₀ _ o (fun z => by
      have z' : L = 51 := List.mem_singleton.mp z
      omega) e
    refine ⟨n₁₀, fun h₁₁ hs₁₁ n₁₁ => ?_⟩
    have kL₁₁ : KpN [L] s₁₀.heap h₁₁ := KpN.same hs₁₁ (List.Mem.head [])
    have T₁₁ := T₁₀.local n₁₀ kL₁₁
    have km₁₁ : KpN [44, 51] s.heap h₁₁ := ((base (kg₈.trans (kp_of ks))).trans (kn₁₀.mono fun p hp => by rw [List.mem_singleton.mp hp]; exact .tail _ (.head _))).drop kL₁₁ sL
    have hq : x / b = val (bits b) qs.reverse := by
      rw [← a9, Nat.mul_comm, Nat.mul_add_div (by omega), Nat.div_eq_of_lt a5]; rfl
    have hr : x % b = r := by
      rw [← a9, Nat.mul_comm, Nat.mul_add_mod, Nat.mod_eq_of_lt a5]
    rw [hq, hr]
    refine wpAny_execs_cons (ev_ret (g := h₁₁) (m := upd m "q" (.int ((val (bits b) qs.reverse : Nat) : Int) w3)) (R := vTup [vInt (val (bits b) qs.reverse : Nat), vInt (r : Nat)]) (ev_pt (ev_local rfl ⟨w3, rfl⟩) (ev_local a4 ⟨u, rfl⟩)) (Kp.refl _) n₁₁ fun v s₁₂ hv k₁₂ => ?_)
    exact ⟨hv, a11.trans (r₈.trans ((Rest.of ks).trans (r₁₀.trans ((Rest.set s₁₀ h₁₁ _).trans (Rest.of k₁₂))))), km₁₁.trans (KpN.of (kp_of k₁₂)), T₁₁.keeps (kp_of k₁₂)⟩
  · have e : ((us.toArray.size : Int) - 1 - ((0 : Nat) : Int)) = (us.toArray.size : Int) - 1 := by simp
    rw [e]; exact hIt
  · exact hl₆.at fun o e => kpush _ o e
  · refine ⟨rfl, rfl, rfl, ⟨0, u4, [], [], rfl, by omega, ?_, trivial, rfl, ?_⟩, ?_, ?_⟩
    · exact hq₆.at fun o e => kpush _ o e
    · rw [Nat.sub_zero, List.drop_length]; simp [val]
    · exact ((kp_hide h₅ [L, Q]).trans kp₆).trans kpush
    · exact r05.trans ((Rest.of k₆).trans ⟨_, _, rfl⟩)
end
end Mine
open PySem PySem.W PySem.Calls PyProof.Rows
set_option Elab.async false
set_option maxRecDepth 100000
namespace Mine
section
variable {prog : Program} {w : World} {A : Around} {env : Env} {g : Heap} {m mg mb : Str → Option Value} {s : Shared} {E : Value → Shared → Prop}

theorem idm_call {x b : Nat} {t1 t2 : Tok} (G : Gt mg mb g) (hg4 : g.get? 44 = none) (hg5 : g.get? 51 = none) (k : Kp g s.heap) (T : Tabs s.heap) (hd : A.depth + 71 ≤ recursionLimit) (hh : A.handled = none) (hx : x < 2 ^ 40) (hb : 1 ≤ b) (hb3 : b ≤ 3) :
    wpAny (model prog w) A (call (.ref 70) [.int (x : Int) t1, .int (b : Int) t2]) (fun v s' => (vTup [vInt (x / b : Nat), vInt (x % b : Nat)]).P s'.heap v ∧ Rest s s' ∧ KpN [44, 51] s.heap s'.heap ∧ Tabs s'.heap) E s := by
  refine call_def (i := 10) (binds := [("a", .int (x : Int) t1), ("b", .int (b : Int) t2)]) (G.gl.idm.keeps k) (G.gl.lim.keeps k) (by omega) ?_ ?_ ?_
  · intro fd hp hd hk; unfold bindArgs; rw [hp, hd, hk]; rfl
  · intro x hx
    rcases List.mem_cons.mp hx with rfl | hx
    · rfl
    · rw [List.mem_singleton.mp hx]; rfl
  intro cd h₁ tk E' k₁ hns
  have kg₁ := k.trans k₁
  rw [show bodyAt 10 = [_] from rfl]
  refine wpAny_execs_cons (st_if (g := g) (s := { s with heap := h₁, toks := tk }) (c := decide ((b : Int) = 0)) (evT_cmp (ev_local (R := vInt (b : Int)) rfl ⟨t2, rfl⟩) ev_int cmp_eq_int) kg₁ hns (fun s₂ hc => absurd (of_decide_eq_true hc) (by omega)) fun s₂ _ k₂ => ?_)
  refine wpAny_execs_cons (st_if (g := g) (c := decide ((b : Int) < 0)) (evT_cmp (ev_local (R := vInt (b : Int)) rfl ⟨t2, rfl⟩) ev_int cmp_lt_int) (kg₁.trans (kp_of k₂)) (ns_keeps hns k₂) (fun s₂ hc => absurd (of_decide_eq_true hc) (by omega)) fun s₃ _ k₃ => ?_)
  refine wpAny_execs_cons (st_if (g := g) (c := decide ((x : Int) < 0)) (evT_cmp (ev_local (R := vInt (x : Int)) rfl ⟨t1, rfl⟩) ev_int cmp_lt_int) ((kg₁.trans (kp_of k₂)).trans (kp_of k₃)) (ns_keeps (ns_keeps hns k₂) k₃) (fun s₂ hc => absurd (of_decide_eq_true hc) (by omega)) fun s₄ _ k₄ => ?_)
  have k24 := keeps_trans k₂ (keeps_trans k₃ k₄)
  have kg₄ : Kp g s₄.heap := kg₁.trans (kp_of k24)
  obtain ⟨od, doc, pm, an, cd', ct, hof, hdf, _⟩ := G.gl.dmp
  refine wpAny_execs_cons (wpAny_Return_some (eval_callF (g := g) (Rs := [vInt (x : Nat), vInt (b : Nat)]) (ev_global G.gl.g G.gl.nm.dmp) (evs_cons (ev_local rfl ⟨t1, rfl⟩) (evs_cons (ev_local rfl ⟨t2, rfl⟩) evs_nil)) hof hdf kg₄ (ns_keeps hns k24) ?_))
  intro s₅ vs k₅ hvs
  obtain ⟨_, _, rfl, ⟨w1, rfl⟩, ⟨w2, rfl⟩⟩ := vps2 hvs
  have k25 := keeps_trans k24 k₅
  have kp5 : Kp s.heap s₅.heap := k₁.trans (kp_of k25)
  refine wpAny_mono (dmp_call G hg4 hg5 (k.trans kp5) (T.keeps kp5) (by show A.depth + 1 + 70 ≤ _; omega) hh hx hb hb3) (fun v s₆ h => ?_) fun _ _ y => y
  obtain ⟨hv, r₆, kn₆, T₆⟩ := h
  exact ⟨hv, (Rest.set s h₁ tk).trans ((Rest.of k25).trans r₆), (KpN.of kp5).trans kn₆, T₆⟩
end
end Mine
open PySem PySem.W PySem.Calls PyProof.Rows
set_option Elab.async false
set_option maxRecDepth 100000
namespace Mine
section
variable {prog : Program} {w : World} {A : Around} {env : Env} {g : Heap} {m mg mb : Str → Option Value} {s : Shared} {E : Value → Shared → Prop}

theorem cmp_eq_pt {a b c d : Nat} (hu : A.units + 64 < cLine) : ∀ s E x y, Kp g s.heap → (pt a b).P s.heap x → (pt c d).P s.heap y → wpAny (model prog w) A (compareOp .Eq x y) (fun v s' => v = .bool (decide (a = c ∧ b = d)) ∧ Keeps s s') E s := by
  rintro s E x y _ ⟨l, us, rfl, hl, hv⟩ ⟨l', us', rfl, hl', hv'⟩
  obtain ⟨_, _, rfl, ⟨t1, rfl⟩, ⟨t2, rfl⟩⟩ := vps2 hv
  obtain ⟨_, _, rfl, ⟨t3, rfl⟩, ⟨t4, rfl⟩⟩ := vps2 hv'
  refine SeqAt.eq_tupleAt (e := fun j => if j = 0 then ((a : Int) == c) else ((b : Int) == d)) hl hl' (by omega) ?_ ⟨?_, keeps_refl s⟩
  · intro j h1 h2
    match j, h1 with
    | 0, _ => exact SeqAt.EqAt.int_int _ _ _ _
    | 1, _ => exact SeqAt.EqAt.int_int _ _ _ _
  · show Value.bool ((List.range 2).all _ && true) = _
    rw [show List.range 2 = [0, 1] from rfl]
    simp only [List.all_cons, List.all_nil, Bool.and_true, if_true, show ¬ (1 : Nat) = 0 from by decide, if_false]
    congr 1
    rw [Bool.beq_eq_decide_eq, Bool.beq_eq_decide_eq, ← Bool.decide_and]
    congr 1
    simp only [eq_iff_iff]
    omega

theorem bind_names (hp : (env.scope.kind == .class || (env.scope.kind == .module && env.locals != env.globals)) = false) (xs : List Str) : ∀ (vs : List Value) (m : Str → Option Value) (s : Shared) (Q : Unit → Shared → Prop), s.heap.Ns env.locals m → vs.length = xs.length →
    (∀ x ∈ xs, env.kindOf x = some .local) →
    (∀ s', Rest s s' → KpN [env.locals] s.heap s'.heap → KpS s.heap s'.heap → s'.heap.Ns env.locals (updAll m xs vs) → Q () s') →
    wpAny (model prog w) A (assignInOrder (xs.map fun n => bindName env n) vs) Q E s := by
  induction xs with
  | nil =>
    intro vs m s Q n hl _ hQ
    cases vs with
    | nil => exact wpAny_pure (hQ s (Rest.refl s) (KpN.refl _ _) (KpS.refl _) n)
    | cons _ _ => cases hl
  | cons x xs ih =>
    intro vs m s Q n hl hx hQ
    cases vs with
    | nil => cases hl
    | cons v vs =>
      rw [List.map_cons]
      refine PyProof.Rows.assignInOrder_cons (wpAny_bindName (wpAny_storeName_local (hx x (.head _)) n (fun h' n' hs' => ?_) hp))
      refine ih vs _ _ Q n' (by simpa using hl) (fun y hy => hx y (.tail _ hy)) fun s' r kn ks n'' => ?_
      exact hQ s' ((Rest.set s h' _).trans r) ((KpN.same hs' (List.Mem.head [])).trans kn) ((KpS.ns hs' n).trans ks) n''

/-- x, y = e, f as the compiler lays it -/
theorem st_swapped {elts : List Expr} {kk : Nat} {tpos pos : Pos} {value : Expr} {Rs : List VP} {Q : Flow → Shared → Prop} (xs : List Str) (h : Ev prog w A env g m value (vTup Rs)) (hh : A.handled = none)
    (k : Kp g s.heap) (n : s.heap.Ns env.locals m) (hl : Rs.length = xs.length)
    (hQ : ∀ vs s₁ s', Keeps s s₁ → VPs s₁.heap Rs vs → Rest s₁ s' → KpN [env.locals] s₁.heap s'.heap → KpS s₁.heap s'.heap → s'.heap.Ns env.locals (updAll m xs.reverse vs.reverse) → Q .next s')
    (hx : (xs.all fun x => env.kindOf x == some .local) = true := by rfl)
    (hp : (env.scope.kind == .class || (env.scope.kind == .module && env.locals != env.globals)) = false := by rfl)
    (hs : swapsWithSole [.Tuple elts kk tpos] value pos.line env = pure false := by rfl)
    (hw : swappedStores [.Tuple elts kk tpos] value env = pure (some xs) := by rfl) :
    wpAny (model prog w) A (exec (.Assign [.Tuple elts kk tpos] value pos) env) Q E s := by
  refine Assign_Tuple_swapped (wpAny_mono (h s E k n) (fun v s₁ h₁ => ?_) fun _ _ x => x) hs hw
  obtain ⟨⟨a, vs, rfl, ht, hv⟩, k₁⟩ := h₁
  have hlen := hv.len
  have hsz : xs.length = vs.toArray.size := by rw [List.size_toArray, hlen, hl]
  rw [hsz]
  refine wpAny_unpackItems_tuple hh ht fun h' hx' => ?_
  have kp' : Kp s₁.heap h' := fun b o e => hx' b o (Nat.ne_of_lt (Heap.lt_size e)) e
  have n₁ := (ns_keeps n k₁).keeps kp'
  refine bind_names hp xs.reverse vs.reverse m { s₁ with heap := h' } _ n₁ (by rw [List.length_reverse, List.length_reverse, hlen, hl]) (fun x hm => by simpa using List.all_eq_true.mp hx x (List.mem_reverse.mp hm)) fun s' r kn ks n' => ?_
  exact hQ vs s₁ s' k₁ hv ((Rest.set s₁ h' s₁.toks).trans r) ((KpN.of kp').trans kn) ((KpS.of kp').trans ks) n'

/-- x, y = f(..), f a def of the text that may turn the tables -/
theorem st_unpack_call {elts : List Expr} {kk : Nat} {tpos cpos pos : Pos} {f : Str} {p : Pos} {e : Expr} {es : List Expr} {a : Addr} {o : Obj} {fd : FuncData} {Rs : List VP} {Q : Flow → Shared → Prop} (xs : List (Str × Pos)) (hf : Ev prog w A env g m (.Name f p) (vIs (.ref a))) (hs : Evs prog w A env g m (e :: es) Rs)
    (ho : g.get? a = some o) (hd : o.data = .func fd) (hh : A.handled = none) (k : Kp g s.heap) (n : s.heap.Ns env.locals m)
    (hc : ∀ s' vs E, Keeps s s' → VPs s'.heap Rs vs → wpAny (model prog w) A (call (.ref a) vs) (fun v s₁ => s₁.heap.Ns env.locals m ∧ ∃ t us, v = .ref t ∧ IsTup s₁.heap t (us : List Value).toArray ∧ us.length = xs.length ∧
      ∀ s', Rest s₁ s' → KpN [env.locals] s₁.heap s'.heap → KpS s₁.heap s'.heap → s'.heap.Ns env.locals (updAll m (xs.map (·.1)) us) → Q .next s') E s')
    (he : starEach (e :: es) env = (false, eval e env) :: starEach es env := by rfl)
    (ha : assignEach elts env = xs.map fun x => (false, assign (.Name x.1 x.2) env) := by rfl)
    (hx : (xs.all fun x => env.kindOf x.1 == some .local) = true := by rfl)
    (hp : (env.scope.kind == .class || (env.scope.kind == .module && env.locals != env.globals)) = false := by rfl)
    (hsw : swapsWithSole [.Tuple elts kk tpos] (.Call (.Name f p) (e :: es) [] cpos) pos.line env = pure false := by rfl)
    (hw : swappedStores [.Tuple elts kk tpos] (.Call (.Name f p) (e :: es) [] cpos) env = pure none := by rfl) :
    wpAny (model prog w) A (exec (.Assign [.Tuple elts kk tpos] (.Call (.Name f p) (e :: es) [] cpos) pos) env) Q E s := by
  refine Assign_Tuple (eval_callF hf hs ho hd k n (fun s' vs ks hv => wpAny_mono (hc s' vs _ ks hv) (fun v s₁ h => ?_) fun _ _ y => y) he) hsw hw
  obtain ⟨n₁, t, us, rfl, ht, hl, hQ⟩ := h
  refine wpAny_assign_Tuple hh ht (by rw [ha, List.length_map, List.size_toArray, hl]) (by rw [ha]; simp) fun h' hx' => ?_
  have kp' : Kp s₁.heap h' := fun b o e => hx' b o (Nat.ne_of_lt (Heap.lt_size e)) e
  rw [ha, List.map_map]
  refine assign_names hp xs us m { s₁ with heap := h' } _ (n₁.keeps kp') hl (fun x hm => by simpa using List.all_eq_true.mp hx x hm) fun s' r kn ks n' => ?_
  exact hQ s' ((Rest.set s₁ h' s₁.toks).trans r) ((KpN.of kp').trans kn) ((KpS.of kp').trans ks) n'

/-- for x in range(n): the body turns none but what N names of what stood -/
theorem st_for_range {x : Str} {px pos : Pos} {iter : Expr} {body : List Stmt} {n : Nat} {Q : Flow → Shared → Prop} (B : Nat) (N : List Addr) (hh : A.handled = none) (hi : Ev prog w A env g m iter (vRange 0 n)) (hn : n ≤ 1000)
    (k : Kp g s.heap) (ns : s.heap.Ns env.locals m) (hLB : env.locals ≤ B) (hN : ∀ p ∈ N, ∃ o, s.heap.get? p = some o)
    (J : Nat → (Str → Option Value) → Shared → Prop)
    (move : ∀ I, s.heap.get? I = none → ∀ i m s' h' tk, J i m s' → s'.heap.Ns env.locals m → (∀ c q, s'.heap.CodeRec (.ref c) q → c ≠ I) → KpN [env.locals, I] s'.heap h' → KpB B s'.heap h' → J i m { s' with heap := h', toks := tk })
    (turn : ∀ i t m s' E, i < n → s'.heap.Ns env.locals (upd m x (.int ((i : Nat) : Int) t)) → J i m s' →
      wpAny (model prog w) A (execs body env) (fun f s₂ => f = .next ∧ (∀ b o, s.heap.get? b = none → s'.heap.get? b = some o → b ∉ N → s₂.heap.get? b = some o) ∧ ∃ m₂, s₂.heap.Ns env.locals m₂ ∧ J (i + 1) m₂ s₂) E s')
    (j0 : ∀ s', Keeps s s' → J 0 m s')
    (fin : ∀ m s', s'.heap.Ns env.locals m → J n m s' → Q .next s')
    (hx : env.kindOf x = some .local := by rfl) (hp : (env.scope.kind == .class || (env.scope.kind == .module && env.locals != env.globals)) = false := by rfl)
    (hs : ∀ x, foldedSetIterable iter env x = pure x := by intro _; rfl) :
    wpAny (model prog w) A (exec (.For (.Name x px) iter body [] pos) env) Q E s := by
  refine wpAny_For (wpAny_mono (hi s E k ns) (fun v s₁ h₁ => ?_) fun _ _ y => y) hs
  obtain ⟨⟨r, t, u, o, rfl, hr⟩, k₁⟩ := h₁
  have hrg := small_range (a := 0) (n := n) (by decide) (by decide) hn
  rw [Int.zero_add] at hrg
  refine wpAny_pyIter_range hr hrg ?_
  have hsize := rangeSize_one 0 n
  rw [Int.zero_add] at hsize
  rw [hsize]
  have W := Walks.range (prog := prog) (w := w) hh s₁.heap.objs.size 0 1 n
  have ns₁ := ns_keeps ns k₁
  have hI : s.heap.get? s₁.heap.objs.size = none := by
    cases e : s.heap.get? s₁.heap.objs.size with
    | none => rfl
    | some o => exact absurd (Heap.lt_size (kp_of k₁ _ _ e)) (Nat.lt_irrefl _)
  have hLI : env.locals ≠ s₁.heap.objs.size := Nat.ne_of_lt ns₁.lt
  refine for_loop B W (fun z => hLI (List.mem_singleton.mp z)) hLB hx hp ?_ J ?_ ?_ fin ?_ (ns₁.push _) (j0 _ (keeps_trans k₁ (keeps_push s₁ _)))
  · intro i h st p hp o e
    have st' : IsRangeIter h s₁.heap.objs.size _ _ _ := st
    rw [List.mem_singleton.mp hp, st'] at e
    cases e
    exact ⟨_, rfl⟩
  · rintro i m s' h' tk ⟨j, st⟩ jj n' kn kb
    refine move _ hI i m s' h' tk jj n' ?_ kn kb
    rintro c q ⟨c', o', vs, t', e, ho, hd, hv⟩ rfl
    cases e
    have st' : IsRangeIter s'.heap s₁.heap.objs.size _ _ _ := st
    rw [st'] at ho; cases ho
    cases hd
    simp [rawInt] at hv
  · rintro i v m s' E' hi ⟨tv, rfl⟩ n' jj
    have e0 : (0 : Int) + ((i : Nat) : Int) * 1 = ((i : Nat) : Int) := by omega
    rw [e0] at n'
    refine wpAny_mono (turn i tv m s' E' hi n' jj) (fun f s₂ h => ?_) fun _ _ y => y
    obtain ⟨rfl, hk, rest⟩ := h
    refine ⟨rfl, fun p hp o e => ?_, rest⟩
    rw [List.mem_singleton.mp hp] at e ⊢
    refine hk _ o hI e fun z => ?_
    obtain ⟨o', e'⟩ := hN _ z
    rw [hI] at e'; cases e'
  · show IsRangeIter _ _ _ _ _
    rw [show (0 : Int) + ((0 : Nat) : Int) * 1 = 0 from by simp, show (n : Int) - ((0 : Nat) : Int) = n from by simp]
    exact Heap.get?_push_size _ rfl
end
end Mine
open PySem PySem.W PySem.Calls PyProof.Rows
set_option Elab.async false
set_option maxRecDepth 100000
namespace Mine

def kindsOf (n r c : Nat) : List Nat :=
  if r = 0 ∧ c = 0 then [0] else if r = n ∧ c = 0 then [1] else if r = n ∧ c = n then [2] else if r = n then [1, 2] else if c = 0 then [0, 1] else if c = r then [0, 2] else [0, 1, 2]
theorem kinds_len (n r c : Nat) : 1 ≤ (kindsOf n r c).length ∧ (kindsOf n r c).length ≤ 3 := by
  unfold kindsOf
  repeat' split
  all_goals decide
def forBody : Stmt → List Stmt
  | .For _ _ b _ _ => b
  | _ => []
def outerFor : Stmt := ((bodyAt 12)[1]?).getD (.Pass default)
def innerFor : Stmt := ((forBody outerFor)[0]?).getD (.Pass default)
def ifSt : Stmt := ((forBody innerFor)[0]?).getD (.Pass default)

section
variable {prog : Program} {w : World} {A : Around} {env : Env} {g : Heap} {m mg mb : Str → Option Value} {s : Shared} {E : Value → Shared → Prop}

theorem st_kinds {L n r c : Nat} {cd : Value} {tr tc tn : Tok} {Q : Flow → Shared → Prop} (hu : A.units + 64 < cLine) (ns : s.heap.Ns L m) (hr : m "row" = some (.int (r : Int) tr)) (hc : m "column" = some (.int (c : Int) tc)) (hn : m "size" = some (.int (n : Int) tn))
    (hQ : ∀ v s', (vList (nats (kindsOf n r c))).P s'.heap v → Rest s s' → KpN [L] s.heap s'.heap → KpS s.heap s'.heap → s'.heap.Ns L (upd m "kinds" v) → Q .next s') :
    wpAny (model prog w) A (exec ifSt (envOf (nameAt 12) (scopeAt 12) L 77 cd)) Q E s := by
  have leaf : ∀ (Q' : Flow → Shared → Prop), (∀ s', Q .next s' → Q' .next s') → ∀ (ks : List Nat) (value : Expr) (px pos : Pos) s₁, Keeps s s₁ → Ev prog w A (envOf (nameAt 12) (scopeAt 12) L 77 cd) s₁.heap m value (vList (nats ks)) → kindsOf n r c = ks → swapsWith value (some (.Name "kinds" px)) pos.line (envOf (nameAt 12) (scopeAt 12) L 77 cd) = pure false →
      wpAny (model prog w) A (execs [.Assign [.Name "kinds" px] value pos] (envOf (nameAt 12) (scopeAt 12) L 77 cd)) Q' E s₁ := by
    intro Q' hQ' ks value px pos s₁ k₁ he hk hsw
    refine wpAny_execs_cons (st_assign (g := s₁.heap) he (SeqOk.list fun R hR => by
      obtain ⟨d, _, rfl⟩ := List.mem_map.mp hR
      exact SeqOk.int _) (Kp.refl _) (ns_keeps ns k₁) (fun v s' hv r' kn ks' n' => wpAny_execs_nil ?_) hsw)
    exact hQ' _ <| hQ v s' (by rw [hk]; exact hv) ((Rest.of k₁).trans r') ((KpN.of (kp_of k₁)).trans kn) ((KpS.of (kp_of k₁)).trans ks') n'
  have er : ∀ (h : Heap) (p : Pos), Ev prog w A (envOf (nameAt 12) (scopeAt 12) L 77 cd) h m (.Name "row" p) (vInt (r : Int)) := fun h p => ev_local hr ⟨tr, rfl⟩
  have ec : ∀ (h : Heap) (p : Pos), Ev prog w A (envOf (nameAt 12) (scopeAt 12) L 77 cd) h m (.Name "column" p) (vInt (c : Int)) := fun h p => ev_local hc ⟨tc, rfl⟩
  have en : ∀ (h : Heap) (p : Pos), Ev prog w A (envOf (nameAt 12) (scopeAt 12) L 77 cd) h m (.Name "size" p) (vInt (n : Int)) := fun h p => ev_local hn ⟨tn, rfl⟩
  have e0 : ∀ (h : Heap) (p : Pos), Ev prog w A (envOf (nameAt 12) (scopeAt 12) L 77 cd) h m (.Constant (.int 0) 0 p) (vInt ((0 : Nat) : Int)) := fun h p => ev_int
  rw [show ifSt = .If _ _ _ _ from rfl]
  refine st_if (g := s.heap) (c := decide (r = 0 ∧ c = 0)) (evT_cmp (ev_pt (er _ _) (ec _ _)) (ev_pt (e0 _ _) (e0 _ _)) (cmp_eq_pt hu)) (Kp.refl _) ns (fun s₁ h1 k₁ => ?_) fun s₁ h1 k₁ => ?_
  · exact leaf Q (fun _ h => h) [0] _ _ _ s₁ k₁ (ev_list (evs_cons ev_int evs_nil)) (by unfold kindsOf; rw [if_pos (of_decide_eq_true h1)]) rfl
  refine wpAny_execs_cons (st_if (g := s₁.heap) (c := decide (r = n ∧ c = 0)) (evT_cmp (ev_pt (er _ _) (ec _ _)) (ev_pt (en _ _) (e0 _ _)) (cmp_eq_pt hu)) (Kp.refl _) (ns_keeps ns k₁) (fun s2 h2 k2' => ?_) fun s2 h2 k2' => ?_)
  · exact leaf _ (fun s' h => by repeat' (first | exact h | refine wpAny_execs_nil ?_)) [1] _ _ _ s2 (keeps_trans k₁ k2') (ev_list (evs_cons ev_int evs_nil)) (by unfold kindsOf; rw [if_neg (of_decide_eq_false h1), if_pos (of_decide_eq_true h2)]) rfl
  have k2 := keeps_trans k₁ k2'
  refine wpAny_execs_cons (st_if (g := s2.heap) (c := decide (r = n ∧ c = n)) (evT_cmp (ev_pt (er _ _) (ec _ _)) (ev_pt (en _ _) (en _ _)) (cmp_eq_pt hu)) (Kp.refl _) (ns_keeps ns k2) (fun s3 h3 k3' => ?_) fun s3 h3 k3' => ?_)
  · exact leaf _ (fun s' h => by repeat' (first | exact h | refine wpAny_execs_nil ?_)) [2] _ _ _ s3 (keeps_trans k2 k3') (ev_list (evs_cons ev_int evs_nil)) (by unfold kindsOf; rw [if_neg (of_decide_eq_false h1), if_neg (of_decide_eq_false h2), if_pos (of_decide_eq_true h3)]) rfl
  have k3 := keeps_trans k2 k3'
  refine wpAny_execs_cons (st_if (g := s3.heap) (c := decide (r = n)) (evT_cmp (er _ _) (en _ _) (cmp_eq_nat rfl rfl)) (Kp.refl _) (ns_keeps ns k3) (fun s4 h4 k4' => ?_) fun s4 h4 k4' => ?_)
  · exact leaf _ (fun s' h => by repeat' (first | exact h | refine wpAny_execs_nil ?_)) [1, 2] _ _ _ s4 (keeps_trans k3 k4') (ev_list2 ev_int ev_int) (by unfold kindsOf; rw [if_neg (of_decide_eq_false h1), if_neg (of_decide_eq_false h2), if_neg (of_decide_eq_false h3), if_pos (of_decide_eq_true h4)]) rfl
  have k4 := keeps_trans k3 k4'
  refine wpAny_execs_cons (st_if (g := s4.heap) (c := decide (c = 0)) (evT_cmp (ec _ _) (e0 _ _) (cmp_eq_nat rfl rfl)) (Kp.refl _) (ns_keeps ns k4) (fun s5 h5 k5' => ?_) fun s5 h5 k5' => ?_)
  · exact leaf _ (fun s' h => by repeat' (first | exact h | refine wpAny_execs_nil ?_)) [0, 1] _ _ _ s5 (keeps_trans k4 k5') (ev_list2 ev_int ev_int) (by unfold kindsOf; rw [if_neg (of_decide_eq_false h1), if_neg (of_decide_eq_false h2), if_neg (of_decide_eq_false h3), if_neg (of_decide_eq_false h4), if_pos (of_decide_eq_true h5)]) rfl
  have k5 := keeps_trans k4 k5'
  refine wpAny_execs_cons (st_if (g := s5.heap) (c := decide (c = r)) (evT_cmp (ec _ _) (er _ _) (cmp_eq_nat rfl rfl)) (Kp.refl _) (ns_keeps ns k5) (fun s6 h6 k6' => ?_) fun s6 h6 k6' => ?_)
  · exact leaf _ (fun s' h => by repeat' (first | exact h | refine wpAny_execs_nil ?_)) [0, 2] _ _ _ s6 (keeps_trans k5 k6') (ev_list2 ev_int ev_int) (by unfold kindsOf; rw [if_neg (of_decide_eq_false h1), if_neg (of_decide_eq_false h2), if_neg (of_decide_eq_false h3), if_neg (of_decide_eq_false h4), if_neg (of_decide_eq_false h5), if_pos (of_decide_eq_true h6)]) rfl
  have k6 := keeps_trans k5 k6'
  exact leaf _ (fun s' h => by repeat' (first | exact h | refine wpAny_execs_nil ?_)) [0, 1, 2] _ _ _ s6 k6 (ev_list3 ev_int ev_int ev_int) (by unfold kindsOf; rw [if_neg (of_decide_eq_false h1), if_neg (of_decide_eq_false h2), if_neg (of_decide_eq_false h3), if_neg (of_decide_eq_false h4), if_neg (of_decide_eq_false h5), if_neg (of_decide_eq_false h6)]) rfl
end
end Mine
open PySem PySem.W PySem.Calls PyProof.Rows
set_option Elab.async false
set_option maxRecDepth 100000
namespace Mine

def rowKeys (r k : Nat) : List (List Int) := (List.range k).map fun (c : Nat) => [(r : Int), (c : Int)]
def keysRows : Nat → List (List Int)
  | 0 => []
  | r + 1 => keysRows r ++ rowKeys r (r + 1)
def keysTo (row col : Nat) : List (List Int) := keysRows row ++ rowKeys row col
theorem rowKeys_succ (r k : Nat) : rowKeys r (k + 1) = rowKeys r k ++ [[(r : Int), (k : Int)]] := by
  unfold rowKeys
  rw [List.range_succ, List.map_append]; rfl
theorem keysTo_succ (row col : Nat) : keysTo row (col + 1) = keysTo row col ++ [[(row : Int), (col : Int)]] := by
  unfold keysTo
  rw [rowKeys_succ, List.append_assoc]
theorem keysTo_row (row : Nat) : keysTo (row + 1) 0 = keysTo row (row + 1) := by
  unfold keysTo
  rw [keysRows]
  simp [rowKeys]
theorem mem_rowKeys {r k : Nat} {x : List Int} (h : x ∈ rowKeys r k) : ∃ c, c < k ∧ x = [(r : Int), (c : Int)] := by
  obtain ⟨c, hc, rfl⟩ := List.mem_map.mp h
  exact ⟨c, List.mem_range.mp hc, rfl⟩
theorem mem_keysRows {x : List Int} : ∀ {r : Nat}, x ∈ keysRows r → ∃ a c, a < r ∧ x = [((a : Nat) : Int), ((c : Nat) : Int)]
  | 0, h => nomatch h
  | r + 1, h => by
    unfold keysRows at h
    rcases List.mem_append.mp h with h | h
    · obtain ⟨a, c, ha, e⟩ := mem_keysRows h
      exact ⟨a, c, Nat.lt_succ_of_lt ha, e⟩
    · obtain ⟨c, _, e⟩ := mem_rowKeys h
      exact ⟨r, c, Nat.lt_succ_self r, e⟩
theorem keysTo_new (row col : Nat) : [(row : Int), (col : Int)] ∉ keysTo row col := fun h => by
  rcases List.mem_append.mp h with h | h
  · obtain ⟨a, c, ha, e⟩ := mem_keysRows h
    simp only [List.cons.injEq, and_true] at e
    omega
  · obtain ⟨c, hc, e⟩ := mem_rowKeys h
    simp only [List.cons.injEq, and_true, true_and] at e
    omega
theorem look_none {kvs : List (List Int × Int)} {k : List Int} (h : k ∉ kvs.map (·.1)) : look kvs k = none := by
  unfold look
  have : kvs.find? (fun p => decide (p.1 = k)) = none := by
    rw [List.find?_eq_none]
    intro p hp
    simp only [decide_eq_true_eq]
    rintro rfl
    exact h (List.mem_map_of_mem hp)
  rw [this]; rfl

theorem IntMulOk.of_right {a b : Int} (h : Builtin.Int.intBits b ≤ 64) : PySem.IntMulOk a b := by
  have h' : ¬ (Builtin.Int.intBits b > shortFactorBits) := Nat.not_lt.mpr h
  unfold PySem.IntMulOk; rw [decide_eq_false h']; simp
def ValOk (n : Nat) (p : List Int × Int) : Prop := ∃ r c d : Nat, p.1 = [(r : Int), (c : Int)] ∧ d ∈ kindsOf n r c ∧ p.2 = (d : Int)

theorem kpb_tabs {B : Nat} {a b : Heap} (T : Tabs a) (k : KpN [44, 51] a b) (hB : 51 ≤ B) : KpB B a b := fun p o e q =>
  k p o (fun z => by
    have hlt : p ≤ B := by
      rcases List.mem_cons.mp z with z | z
      · rw [z]; exact Nat.le_trans (by decide) hB
      · rw [List.mem_singleton.mp z]; exact hB
    rcases q with ⟨vs, n, d⟩ | ⟨q, _⟩
    · rcases List.mem_cons.mp z with z | z
      · obtain ⟨ps, e', _⟩ := T.a
        rw [z, e'] at e; cases e; cases d
      · obtain ⟨ps, e', _⟩ := T.b
        rw [List.mem_singleton.mp z, e'] at e; cases e; cases d
    · exact absurd (Nat.lt_of_lt_of_le q hlt) (Nat.lt_irrefl _)) e

section
variable (prog : Program) (w : World)
theorem dict_kpb {B : Nat} {h h' : Heap} {d : Addr} {xs : List (List Int × Addr × Value)} (k : KpB B h h') (hd : B < d) (x : h.DictOfH (Kd prog w) d xs) : h'.DictOfH (Kd prog w) d xs := by
  obtain ⟨o, es, ep, ho, he, hd', hl, hi, hn⟩ := x
  refine ⟨o, es, ep, k _ _ ho (.inr ⟨hd, fun vs e => ?_⟩), he, hd', hl, fun x hx => ?_, hn⟩
  · rw [hd'] at e; cases e
  · obtain ⟨o', its, n, ho', hc, hdd, r⟩ := hi x hx
    exact ⟨o', its, n, k _ _ ho' (.inl ⟨its, n, hdd⟩), hc, hdd, r⟩

def NInv (g : Heap) (s₂ : Shared) (L d : Nat) (n x : Nat) (t1 : Tok) (keys : List (List Int)) (m : Str → Option Value) (s' : Shared) : Prop :=
  m "size" = some (.int (n : Int) t1) ∧ m "found" = some (.ref d) ∧
  (∃ (num told mul : Nat) (u1 u2 u3 : Tok), m "number" = some (.int (num : Int) u1) ∧ m "told" = some (.int (told : Int) u2) ∧ m "by" = some (.int (mul : Int) u3) ∧ told + num * mul = x ∧ num ≤ x) ∧
  (∃ kvs xs, s'.heap.DictOfH (Kd prog w) d xs ∧ KVs kvs xs ∧ kvs.map (·.1) = keys ∧ ∀ p ∈ kvs, ValOk n p) ∧
  Kp g s'.heap ∧ Tabs s'.heap ∧ KpN [44, 51, L, d] s₂.heap s'.heap ∧ Rest s₂ s'
end

section
variable {prog : Program} {w : World} {A : Around} {env : Env} {g : Heap} {m mg mb : Str → Option Value} {s : Shared} {E : Value → Shared → Prop}

theorem NInv.move {s₂ s' : Shared} {L d n x : Nat} {t1 : Tok} {keys : List (List Int)} (J : NInv prog w g s₂ L d n x t1 keys m s') (hLd : L < d) (h51 : 51 < L) (gL : g.get? L = none) {I : Addr} (hI : s₂.heap.get? I = none) (gI : g.get? I = none)
    (h4 : ∃ o, s₂.heap.get? 44 = some o) (h5 : ∃ o, s₂.heap.get? 51 = some o) (ns : s'.heap.Ns L m) (nc : ∀ c q, s'.heap.CodeRec (.ref c) q → c ≠ I) {h' : Heap} {tk : Nat} (kn : KpN [L, I] s'.heap h') (kb : KpB L s'.heap h') :
    NInv prog w g s₂ L d n x t1 keys m { s' with heap := h', toks := tk } := by
  obtain ⟨a1, a2, a3, ⟨kvs, xs, b1, b2, b3, b4⟩, a5, a6, a7, a8⟩ := J
  have ne : ∀ {P : Addr}, (∃ o, s₂.heap.get? P = some o) → P ≠ I := fun h z => by
    obtain ⟨o, e⟩ := h
    rw [z, hI] at e; cases e
  have ni : ∀ {P : Nat}, P ≤ 51 → (∃ o, s₂.heap.get? P = some o) → (P : Addr) ∉ [L, I] := fun hP h z => by
    rcases List.mem_cons.mp z with z | z
    · have z' : (_ : Nat) = L := z
      omega
    · exact ne h (List.mem_singleton.mp z)
  refine ⟨a1, a2, a3, ⟨kvs, xs, dict_kpb prog w kb hLd b1, b2, b3, b4⟩, kn.ground a5 (fun p hp => ?_), a6.kp kn (ni (by decide) h4) (ni (by decide) h5) (fun c q r z => ?_), a7.drop kn (fun p hp => ?_), a8.trans (Rest.set s' h' tk)⟩
  · rcases List.mem_cons.mp hp with rfl | hp
    · exact gL
    · rw [List.mem_singleton.mp hp]; exact gI
  · rcases List.mem_cons.mp z with z | z
    · obtain ⟨c', o, vs, t', e, ho, hd, hv⟩ := r
      cases e
      obtain ⟨o', es, ep, e', d', _⟩ := ns
      rw [z, e'] at ho; cases ho
      rw [d'] at hd; cases hd
    · exact nc c q r (List.mem_singleton.mp z)
  · rcases List.mem_cons.mp hp with rfl | hp
    · exact .inl (.tail _ (.tail _ (.head _)))
    · rw [List.mem_singleton.mp hp]; exact .inr hI

theorem names_turn {s₂ s' : Shared} {L d n x row col : Nat} {t1 tr tc : Tok} {cd : Value} (G : Gt mg mb g) (hg4 : g.get? 44 = none) (hg5 : g.get? 51 = none) (gL : g.get? L = none) (gd : g.get? d = none) (hd : A.depth + 75 ≤ recursionLimit) (hh : A.handled = none) (hu : A.units + 200 < cLine) (hx : x < 2 ^ 40)
    (h51 : 51 < L) (hLd : L < d) (hlen : (keysTo row col).length ≤ 1000) (J : NInv prog w g s₂ L d n x t1 (keysTo row col) m s') (ns : s'.heap.Ns L m) (hr : m "row" = some (.int (row : Int) tr)) (hc : m "column" = some (.int (col : Int) tc)) :
    wpAny (model prog w) A (execs (forBody innerFor) (envOf (nameAt 12) (scopeAt 12) L 77 cd))
      (fun f s₃ => f = .next ∧ KpN [44, 51, L, d] s'.heap s₃.heap ∧ ∃ m₂, s₃.heap.Ns L m₂ ∧ m₂ "row" = some (.int (row : Int) tr) ∧ NInv prog w g s₂ L d n x t1 (keysTo row (col + 1)) m₂ s₃) E s' := by
  obtain ⟨a1, a2, ⟨num, told, mul, u1, u2, u3, c1, c2, c3, c4, c5⟩, ⟨kvs, xs, b1, b2, b3, b4⟩, a5, a6, a7, a8⟩ := J
  rw [show forBody innerFor = [ifSt, _, _, _] from rfl]
  refine wpAny_execs_cons (st_kinds (n := n) (r := row) (c := col) (by omega) ns hr hc a1 fun kv s₁ hkv r₁ kn₁ ks₁ n₁ => ?_)
  obtain ⟨hk1, hk3⟩ := kinds_len n row col
  generalize hks : kindsOf n row col = ks at hkv hk1 hk3
  have kg₁ : Kp g s₁.heap := kn₁.ground a5 (fun p hp => by rw [List.mem_singleton.mp hp]; exact gL)
  have T₁ : Tabs s₁.heap := a6.local ns kn₁
  have G₁ := G.gl.keeps kg₁
  obtain ⟨od, doc, pm, an, cd', ct, hof, hdf, _⟩ := G₁.idm
  have hnat : ∀ R ∈ nats ks, SeqOk R := fun R hR => by
    obtain ⟨q, _, rfl⟩ := List.mem_map.mp hR
    exact SeqOk.int _
  refine wpAny_execs_cons (st_unpack_call (g := s₁.heap) (m := upd m "kinds" kv) (Rs := [vInt (num : Nat), vInt (ks.length : Nat)]) [("number", _), ("rest", _)] (ev_global G₁.g G₁.nm.idm)
    (evs_cons (ev_local c1 ⟨u1, rfl⟩) (evs_cons (ev_cast (ev_len G₁ (ev_local rfl hkv) (by rw [List.length_map]; omega)) (by rw [List.length_map])) evs_nil)) hof hdf hh (Kp.refl _) n₁ ?_)
  intro s₄ vs E' k₄ hvs
  obtain ⟨_, _, rfl, ⟨w1, rfl⟩, ⟨w2, rfl⟩⟩ := vps2 hvs
  have T₄ := T₁.keeps (kp_of k₄)
  refine wpAny_mono (idm_call (x := num) (b := ks.length) G hg4 hg5 (kg₁.trans (kp_of k₄)) T₄ (by omega) hh (by omega) hk1 hk3) (fun v s₅ h => ?_) fun _ _ y => y
  obtain ⟨⟨t, us, rfl, ht, hus⟩, r₅, kn₅, T₅⟩ := h
  have L44 : L ≠ 44 := Nat.ne_of_gt (Nat.lt_trans (by decide) h51)
  have L51 : L ≠ 51 := Nat.ne_of_gt h51
  have kb₅ : KpB L s₄.heap s₅.heap := kpb_tabs T₄ kn₅ (Nat.le_of_lt h51)
  have n₅ : s₅.heap.Ns L (upd m "kinds" kv) := (ns_keeps n₁ k₄).at' fun o e => kn₅ _ o (fun z => by
    rcases List.mem_cons.mp z with z | z
    · exact L44 z
    · exact L51 (List.mem_singleton.mp z)) e
  have g45 : ∀ p ∈ [44, 51], g.get? p = none := fun p hp => by
    rcases List.mem_cons.mp hp with rfl | hp
    · exact hg4
    · rw [List.mem_singleton.mp hp]; exact hg5
  have kg₅ : Kp g s₅.heap := kn₅.ground (kg₁.trans (kp_of k₄)) g45
  refine ⟨n₅, t, us, rfl, ht, hus.len, fun s₆ r₆ kn₆ ks₆ n₆ => ?_⟩
  obtain ⟨_, _, rfl, ⟨w3, rfl⟩, ⟨w4, rfl⟩⟩ := vps2 hus
  have kg₆ : Kp g s₆.heap := KpN.ground kn₆ kg₅ (fun p hp => by rw [List.mem_singleton.mp hp]; exact gL)
  have T₆ : Tabs s₆.heap := T₅.local n₅ kn₆
  have kb₁₆ : KpB L s'.heap s₆.heap := (KpB.ns kn₁ ns (Nat.le_refl _)).trans ((KpB.of (kp_of k₄)).trans (kb₅.trans (KpB.ns kn₆ n₅ (Nat.le_refl _))))
  have hkv₆ : (vList (nats ks)).P s₆.heap kv := SeqOk.list hnat ks₆ (SeqOk.list hnat kb₅.s (VP.st _ (kp_of k₄) hkv))
  have hD₆ := dict_kpb prog w kb₁₆ hLd b1
  have inM : ∀ {p : Addr}, p ∈ [L] → p ∈ [44, 51, L, d] := fun hp => by rw [List.mem_singleton.mp hp]; exact .tail _ (.tail _ (.head _))
  have in45 : ∀ {p : Addr}, p ∈ [44, 51] → p ∈ [44, 51, L, d] := fun hp => by
    rcases List.mem_cons.mp hp with rfl | hp
    · exact .head _
    · rw [List.mem_singleton.mp hp]; exact .tail _ (.head _)
  have kn₁₆ : KpN [44, 51, L, d] s'.heap s₆.heap := (kn₁.mono fun p hp => inM hp).trans ((KpN.of (kp_of k₄)).trans ((kn₅.mono fun p hp => in45 hp).trans (kn₆.mono fun p hp => inM hp)))
  have r₁₆ : Rest s' s₆ := r₁.trans ((Rest.of k₄).trans (r₅.trans r₆))
  have hlt : num % ks.length < ks.length := Nat.mod_lt _ (by omega)
  have hget : (nats ks)[num % ks.length]? = some (vInt (ks[num % ks.length] : Nat)) := by
    rw [List.getElem?_map, List.getElem?_eq_getElem hlt]; rfl
  let m₆ : Str → Option Value := updAll (upd m "kinds" kv) ["number", "rest"] [.int ((num / ks.length : Nat) : Int) w3, .int ((num % ks.length : Nat) : Int) w4]
  have n₆' : s₆.heap.Ns L m₆ := n₆
  refine wpAny_execs_cons (wpAny_Assign_Subscript (ev_at (g := s₆.heap) (m := m₆) (R := vInt (ks[num % ks.length] : Nat)) (ev_item (Rs := nats ks) (k := ((num % ks.length : Nat) : Int)) (ev_local rfl hkv₆) (ev_local rfl ⟨w4, rfl⟩) (Int.natCast_nonneg _) (by omega) (by rw [Int.toNat_natCast]; exact hget)) (Kp.refl _) n₆' fun v s₇ hv k₇ =>
    ev_at (g := s₆.heap) (m := m₆) (R := vIs (.ref d)) (ev_local a2 rfl) (kp_of k₇) (ns_keeps n₆' k₇) fun ov s₈ ho k₈ =>
    ev_at (g := s₆.heap) (m := m₆) (R := pt row col) (ev_pt (ev_local hr ⟨tr, rfl⟩) (ev_local hc ⟨tc, rfl⟩)) ((kp_of k₇).trans (kp_of k₈)) (ns_keeps (ns_keeps n₆' k₇) k₈) fun iv s₉ hi k₉ => ?_))
  cases ho
  obtain ⟨w5, rfl⟩ := hv
  obtain ⟨ka, rfl, hkey⟩ := key_of_pt (prog := prog) (w := w) hi
  have k69 := keeps_trans k₇ (keeps_trans k₈ k₉)
  have hD₉ := dict_keeps prog w (kp_of k69) hD₆
  have hxl : xs.length = kvs.length := b2.len
  have hkl : kvs.length ≤ 1000 := by rw [← b3, List.length_map] at hlen; exact hlen
  refine wpAny_setItem_heap (knd := Kd prog w) (show A.units + 1 < cLine by omega) hkey hD₉ (fun h₁₀ hD₁₀ hs₁₀ => ?_) (by rw [hxl, sizeLine_eq]; omega)
  have hnew : look kvs [(row : Int), (col : Int)] = none := look_none (by rw [b3]; exact keysTo_new row col)
  rw [storedH_new (b2.fresh hnew)] at hD₁₀
  have n₁₀ : h₁₀.Ns L m₆ := (ns_keeps n₆' k69).sameBut hs₁₀ (Nat.ne_of_lt hLd)
  have knd : KpN [d] s₉.heap h₁₀ := KpN.same hs₁₀ (List.Mem.head [])
  have kb₉₁₀ : KpS s₉.heap h₁₀ := fun p o e ⟨vs, n, dd⟩ => hs₁₀.extBut p o (fun z => by
    obtain ⟨o', es, ep, e', _, d', _⟩ := hD₉
    rw [z, e'] at e; cases e
    rw [d'] at dd; cases dd) e
  have hkv₁₀ : (vList (nats ks)).P h₁₀ kv := SeqOk.list hnat kb₉₁₀ (VP.st _ (kp_of k69) hkv₆)
  have kg₁₀ : Kp g h₁₀ := knd.ground (kg₆.trans (kp_of k69)) (fun p hp => by rw [List.mem_singleton.mp hp]; exact gd)
  have T₁₀ : Tabs h₁₀ := by
    refine (T₆.keeps (kp_of k69)).kp knd (fun z => ?_) (fun z => ?_) (fun c' q r z => ?_)
    · have z' : (44 : Nat) = d := List.mem_singleton.mp z
      omega
    · have z' : (51 : Nat) = d := List.mem_singleton.mp z
      omega
    · obtain ⟨c, o, vs, t', e, ho, hd, hv⟩ := r
      cases e
      obtain ⟨o', es, ep, e', _, d', _⟩ := hD₉
      rw [List.mem_singleton.mp z, e'] at ho; cases ho
      rw [d'] at hd; cases hd
  have G₁₀ := G.gl.keeps kg₁₀
  generalize hS : ({ s₉ with heap := h₁₀, toks := s₉.toks + (Kd prog w).draws [(row : Int), (col : Int)] } : Shared) = s₁₀
  have hS1 : s₁₀.heap = h₁₀ := by rw [← hS]
  have rS : Rest s₉ s₁₀ := by rw [← hS]; exact ⟨_, _, rfl⟩
  subst hS1
  clear hS
  refine wpAny_execs_cons (st_swapped (g := s₁₀.heap) (m := m₆) (Rs := [vInt (told + num % ks.length * mul : Nat), vInt (mul * ks.length : Nat)]) ["told", "by"]
    (ev_tuple (evs_cons (ev_cast (ev_add (ev_local c2 ⟨u2, rfl⟩) (ev_mul (a := ((num % ks.length : Nat) : Int)) (b := (mul : Int)) (ev_local rfl ⟨w4, rfl⟩) (ev_local c3 ⟨u3, rfl⟩) (IntMulOk.of_left (bits_le (k := 64) (by omega))))) (by push_cast; rfl))
      (evs_cons (ev_cast (ev_mul (a := (mul : Int)) (b := ((nats ks).length : Int)) (ev_local c3 ⟨u3, rfl⟩) (ev_len G₁₀ (ev_local rfl hkv₁₀) (by rw [List.length_map]; omega)) (IntMulOk.of_right (bits_le (k := 64) (by rw [List.length_map]; omega)))) (by rw [List.length_map]; push_cast; rfl)) evs_nil)))
    hh (Kp.refl _) n₁₀ rfl fun vs s₁₁ s₁₂ k₁₁ hvs r₁₂ kn₁₂ ks₁₂ n₁₂ => wpAny_execs_nil ?_)
  obtain ⟨_, _, rfl, ⟨w6, rfl⟩, ⟨w7, rfl⟩⟩ := vps2 hvs
  have n₁₁ : s₁₁.heap.Ns L m₆ := ns_keeps n₁₀ k₁₁
  have knd' : KpN [44, 51, L, d] s₉.heap s₁₀.heap := knd.mono fun p hp => by rw [List.mem_singleton.mp hp]; exact .tail _ (.tail _ (.tail _ (.head _)))
  have kall : KpN [44, 51, L, d] s'.heap s₁₂.heap := kn₁₆.trans ((KpN.of (kp_of k69)).trans (knd'.trans ((KpN.of (kp_of k₁₁)).trans (kn₁₂.mono fun p hp => inM hp))))
  refine ⟨rfl, kall, updAll m₆ ["by", "told"] [.int ((mul * ks.length : Nat) : Int) w7, .int ((told + num % ks.length * mul : Nat) : Int) w6], n₁₂, hr, a1, a2, ⟨num / ks.length, told + num % ks.length * mul, mul * ks.length, w3, w6, w7, rfl, rfl, rfl, ?_, ?_⟩, ⟨kvs ++ [([(row : Int), (col : Int)], ((ks[num % ks.length] : Nat) : Int))], xs ++ [([(row : Int), (col : Int)], ka, .int ((ks[num % ks.length] : Nat) : Int) w5)], ?_, b2.snoc rfl ⟨w5, rfl⟩, ?_, ?_⟩, ?_, ?_, ?_, ?_⟩
  · have := Nat.div_add_mod num ks.length
    rw [← c4, ← this]
    generalize hq : num / ks.length = q
    generalize hrr : num % ks.length = r
    have e1 : (ks.length * q + r) * mul = q * (mul * ks.length) + r * mul := by
      rw [Nat.add_mul, Nat.mul_comm ks.length q, Nat.mul_assoc, Nat.mul_comm ks.length mul]
    rw [show (ks.length * q + r) / ks.length = q from by rw [← hq, ← hrr, this], show (ks.length * q + r) % ks.length = r from by rw [← hq, ← hrr, this]]
    omega
  · exact Nat.le_trans (Nat.div_le_self _ _) c5
  · exact dict_kpb prog w ((KpB.of (kp_of k₁₁)).trans (KpB.ns kn₁₂ n₁₁ (Nat.le_refl _))) hLd hD₁₀
  · rw [List.map_append, b3, keysTo_succ]; rfl
  · intro p hp
    rcases List.mem_append.mp hp with hp | hp
    · exact b4 p hp
    · rw [List.mem_singleton.mp hp]
      exact ⟨row, col, _, rfl, by rw [hks]; exact List.getElem_mem _, rfl⟩
  · exact KpN.ground kn₁₂ (kg₁₀.trans (kp_of k₁₁)) (fun p hp => by rw [List.mem_singleton.mp hp]; exact gL)
  · exact (T₁₀.keeps (kp_of k₁₁)).local n₁₁ kn₁₂
  · exact a7.trans kall
  · exact a8.trans (r₁₆.trans ((Rest.of k69).trans (rS.trans ((Rest.of k₁₁).trans r₁₂))))
end
end Mine
open PySem PySem.W PySem.Calls PyProof.Rows
set_option Elab.async false
set_option maxRecDepth 100000
namespace Mine

theorem rowKeys_len (r k : Nat) : (rowKeys r k).length = k := by unfold rowKeys; rw [List.length_map, List.length_range]
theorem keysRows_len : ∀ r, (keysRows r).length ≤ r * r + r
  | 0 => Nat.le_refl _
  | r + 1 => by
    have := keysRows_len r
    unfold keysRows
    rw [List.length_append, rowKeys_len, Nat.add_mul, Nat.mul_add]
    omega
theorem keysTo_len {row col : Nat} (h : row ≤ 10) (h' : col ≤ 20) : (keysTo row col).length ≤ 1000 := by
  unfold keysTo
  have := keysRows_len row
  have h2 : row * row ≤ 10 * 10 := Nat.mul_le_mul h h
  rw [List.length_append, rowKeys_len]
  omega

section
variable {prog : Program} {w : World} {A : Around} {env : Env} {g : Heap} {m mg mb : Str → Option Value} {s : Shared} {E : Value → Shared → Prop}

theorem NInv.row {g : Heap} {s₂ s' : Shared} {L d n x : Nat} {t1 : Tok} {keys : List (List Int)} {v : Value} (J : NInv prog w g s₂ L d n x t1 keys m s') : NInv prog w g s₂ L d n x t1 keys (upd m "row" v) s' := by
  obtain ⟨a1, a2, a3, r⟩ := J
  exact ⟨a1, a2, a3, r⟩
theorem NInv.col {g : Heap} {s₂ s' : Shared} {L d n x : Nat} {t1 : Tok} {keys : List (List Int)} {v : Value} (J : NInv prog w g s₂ L d n x t1 keys m s') : NInv prog w g s₂ L d n x t1 keys (upd m "column" v) s' := by
  obtain ⟨a1, a2, a3, r⟩ := J
  exact ⟨a1, a2, a3, r⟩
theorem NInv.grow {g : Heap} {s₂ s' s'' : Shared} {L d n x : Nat} {t1 : Tok} {keys : List (List Int)} (J : NInv prog w g s₂ L d n x t1 keys m s') (k : Keeps s' s'') : NInv prog w g s₂ L d n x t1 keys m s'' := by
  obtain ⟨a1, a2, a3, ⟨kvs, xs, b1, b2, b3, b4⟩, a5, a6, a7, a8⟩ := J
  exact ⟨a1, a2, a3, ⟨kvs, xs, dict_keeps prog w (kp_of k) b1, b2, b3, b4⟩, a5.trans (kp_of k), a6.keeps (kp_of k), a7.trans (KpN.of (kp_of k)), a8.trans (Rest.of k)⟩

theorem nms_call {n x B : Nat} {t1 t2 : Tok} (G : Gt mg mb g) (hg4 : g.get? 44 = none) (hg5 : g.get? 51 = none) (k : Kp g s.heap) (T : Tabs s.heap) (hd : A.depth + 76 ≤ recursionLimit) (hh : A.handled = none) (hu : A.units + 300 < cLine) (hx : x < 2 ^ 40) (hn : n ≤ 9) (hB : ∃ o, s.heap.get? B = some o) :
    wpAny (model prog w) A (call (.ref 77) [.int (n : Int) t1, .int (x : Int) t2]) (fun v s' => (∃ kvs : List (List Int × Int), (vTup [vNames prog w B kvs, vInt (x : Int)]).P s'.heap v ∧ kvs.map (·.1) = keysRows (n + 1) ∧ ∀ p ∈ kvs, ValOk n p) ∧ Rest s s' ∧ KpN [44, 51] s.heap s'.heap ∧ Tabs s'.heap) E s := by
  refine call_def (i := 12) (binds := [("size", .int (n : Int) t1), ("number", .int (x : Int) t2)]) (G.gl.nms.keeps k) (G.gl.lim.keeps k) (by omega) ?_ ?_ ?_
  · intro fd hp hd hk; unfold bindArgs; rw [hp, hd, hk]; rfl
  · intro x hx
    rcases List.mem_cons.mp hx with rfl | hx
    · rfl
    · rw [List.mem_singleton.mp hx]; rfl
  intro cd h₁ tk E' k₁ hns
  generalize hLdef : s.heap.objs.size = L at hns ⊢
  have fresh : ∀ p, L ≤ p → s.heap.get? p = none := fun p hp => get_fresh (by rw [hLdef]; exact hp)
  have gfresh : ∀ p, L ≤ p → g.get? p = none := fun p hp => by
    cases e : g.get? p with
    | none => rfl
    | some o => have := k _ _ e; rw [fresh p hp] at this; cases this
  have T₁ : Tabs h₁ := T.keeps k₁
  have kg₁ := k.trans k₁
  have h44 : (44 : Nat) < L := by
    obtain ⟨ps, e, _⟩ := T.a
    rw [← hLdef]; exact Heap.lt_size e
  have h51 : (51 : Nat) < L := by
    obtain ⟨ps, e, _⟩ := T.b
    rw [← hLdef]; exact Heap.lt_size e
  have hBL : B < L := by
    obtain ⟨o, e⟩ := hB
    rw [← hLdef]; exact Heap.lt_size e
  have hud : ∀ e : Env, (A.deeper e).units = A.units + 3 := fun _ => rfl
  rw [show bodyAt 12 = [_, outerFor, _] from rfl]
  refine wpAny_execs_cons (st_swapped (g := h₁) (s := { s with heap := h₁, toks := tk }) (Rs := [vD0 prog w L, vInt 0, vInt 1]) ["found", "told", "by"] (ev_tuple (evs_cons (ev_dict0 (by obtain ⟨o, es, ep, e, _⟩ := hns; exact ⟨o, e⟩)) (evs_cons ev_int (evs_cons ev_int evs_nil)))) hh (Kp.refl _) hns rfl fun vs s₁ s₂ k₁' hvs r₂ kn₂ ks₂ n₂ => ?_)
  obtain ⟨_, _, _, rfl, ⟨d, ep, rfl, hLd, hdict⟩, ⟨w2, rfl⟩, ⟨w3, rfl⟩⟩ := vps3 hvs
  have n₁ : s₁.heap.Ns L _ := hns.keeps (kp_of k₁')
  have hd₂ : s₂.heap.DictAt (intKind prog w) d [] ep := hdict.at fun o e => kn₂ _ o (fun z => by
    have z' : d = L := List.mem_singleton.mp z
    omega) e
  have hD₂ : s₂.heap.DictOfH (Kd prog w) d [] := by
    obtain ⟨o, es, e, hex, hdat, _, hf, _⟩ := hd₂
    refine ⟨o, es, ep, e, hex, hdat, ?_, fun _ h => (nomatch h), List.nodup_nil⟩
    generalize es.toList = l at hf
    cases hf
    rfl
  have gL : g.get? L = none := gfresh L (Nat.le_refl _)
  have gd : g.get? d = none := gfresh d (Nat.le_of_lt hLd)
  have kg₂ : Kp g s₂.heap := KpN.ground kn₂ (kg₁.trans (kp_of k₁')) (fun p hp => by rw [List.mem_singleton.mp hp]; exact gL)
  have T₂ : Tabs s₂.heap := (T₁.keeps (kp_of k₁')).local n₁ kn₂
  have km₂ : KpN [44, 51] s.heap s₂.heap := (KpN.of (k₁.trans (kp_of k₁'))).drop kn₂ (fun p hp => .inr (by rw [List.mem_singleton.mp hp]; exact fresh L (Nat.le_refl _)))
  have r02 : Rest s s₂ := (Rest.set s h₁ tk).trans ((Rest.of k₁').trans r₂)
  have e4 : ∀ {h : Heap}, Tabs h → ∃ o, h.get? 44 = some o := fun T => by obtain ⟨ps, e, _⟩ := T.a; exact ⟨_, e⟩
  have e5 : ∀ {h : Heap}, Tabs h → ∃ o, h.get? 51 = some o := fun T => by obtain ⟨ps, e, _⟩ := T.b; exact ⟨_, e⟩
  have allN : ∀ {h : Heap} {m : Str → Option Value} {xs : List (List Int × Addr × Value)}, Tabs h → h.Ns L m → h.DictOfH (Kd prog w) d xs → ∀ p ∈ [44, 51, L, d], ∃ o, h.get? p = some o := fun T n D p hp => by
    rcases List.mem_cons.mp hp with rfl | hp
    · exact e4 T
    rcases List.mem_cons.mp hp with rfl | hp
    · exact e5 T
    rcases List.mem_cons.mp hp with rfl | hp
    · obtain ⟨o, es, ep, e, _⟩ := n; exact ⟨o, e⟩
    · rw [List.mem_singleton.mp hp]
      obtain ⟨o, es, ep, e, _⟩ := D; exact ⟨o, e⟩
  have gnone : ∀ {h : Heap} {I : Addr}, Kp g h → h.get? I = none → g.get? I = none := fun {h I} kh e => by
    cases e' : g.get? I with
    | none => rfl
    | some o => have := kh _ _ e'; rw [e] at this; cases this
  have G₂ := G.gl.keeps kg₂
  refine wpAny_execs_cons ?_
  rw [show outerFor = .For (.Name "row" ⟨97, 8, 97, 11⟩) _ [innerFor] [] _ from rfl]
  refine st_for_range (g := s₂.heap) (n := n + 1) L [44, 51, L, d] hh (ev_range1 (n := ((n + 1 : Nat) : Int)) G₂ (ev_cast (ev_add (ev_local rfl ⟨t1, rfl⟩) ev_int) (by omega))) (by omega) (Kp.refl _) n₂ (Nat.le_refl _) (allN T₂ n₂ hD₂)
    (fun i m s' => NInv prog w g s₂ L d n x t1 (keysTo i 0) m s') ?_ ?_ ?_ ?_
  · intro I hI i m s' h' tk J n' nc kn kb
    exact J.move hLd h51 gL hI (gnone kg₂ hI) (e4 T₂) (e5 T₂) n' nc kn kb
  · intro i t m s' E' hi n' J
    have J' := J.row (v := .int ((i : Nat) : Int) t)
    have hrow : upd m "row" (.int ((i : Nat) : Int) t) "row" = some (.int ((i : Nat) : Int) t) := rfl
    generalize upd m "row" (.int ((i : Nat) : Int) t) = m' at J' hrow n'
    obtain ⟨kvs', xs', hD', _⟩ := J'.2.2.2.1
    have kg' : Kp g s'.heap := J'.2.2.2.2.1
    have T' : Tabs s'.heap := J'.2.2.2.2.2.1
    have kn' : KpN [44, 51, L, d] s₂.heap s'.heap := J'.2.2.2.2.2.2.1
    have G' := G.gl.keeps kg'
    have all' := allN T' n' hD'
    have down : ∀ {I : Addr}, s'.heap.get? I = none → s₂.heap.get? I = none := fun {I} e => by
      cases e' : s₂.heap.get? I with
      | none => rfl
      | some o =>
        by_cases hI : I ∈ [44, 51, L, d]
        · obtain ⟨o', e''⟩ := all' I hI
          rw [e] at e''; cases e''
        · have := kn' I o hI e'
          rw [e] at this; cases this
    refine wpAny_execs_cons ?_
    rw [show innerFor = .For (.Name "column" ⟨98, 12, 98, 18⟩) _ (forBody innerFor) [] _ from rfl]
    refine st_for_range (g := s'.heap) (n := i + 1) L [44, 51, L, d] hh (ev_range1 (n := ((i + 1 : Nat) : Int)) G' (ev_cast (ev_add (ev_local hrow ⟨t, rfl⟩) ev_int) (by omega))) (by omega) (Kp.refl _) n' (Nat.le_refl _) all'
      (fun j m s'' => NInv prog w g s₂ L d n x t1 (keysTo i j) m s'' ∧ m "row" = some (.int ((i : Nat) : Int) t) ∧ KpN [44, 51, L, d] s'.heap s''.heap) ?_ ?_ ?_ ?_
    · rintro I hI j m s'' h' tk ⟨J, hr, kk⟩ n'' nc kn kb
      refine ⟨J.move hLd h51 gL (down hI) (gnone kg' hI) (e4 T₂) (e5 T₂) n'' nc kn kb, hr, kk.drop kn fun p hp => ?_⟩
      rcases List.mem_cons.mp hp with rfl | hp
      · exact .inl (.tail _ (.tail _ (.head _)))
      · rw [List.mem_singleton.mp hp]; exact .inr hI
    · rintro j tj m s'' E'' hj n'' ⟨J, hr, kk⟩
      refine wpAny_mono (names_turn (row := i) (col := j) (m := upd m "column" (.int ((j : Nat) : Int) tj)) G hg4 hg5 gL gd (by show A.depth + 1 + 75 ≤ _; omega) hh (by show A.units + 3 + 200 < _; omega) hx h51 hLd (keysTo_len (by omega) (by omega)) (J.col (v := .int ((j : Nat) : Int) tj)) n'' hr rfl) (fun f s₃ h => ?_) fun _ _ y => y
      obtain ⟨rfl, k3, m₃, n₃, hr₃, J₃⟩ := h
      refine ⟨rfl, fun b o _ e hb => k3 b o hb e, m₃, n₃, J₃, hr₃, kk.trans k3⟩
    · intro s'' ks
      refine ⟨?_, hrow, KpN.of (kp_of ks)⟩
      exact J'.grow ks
    · rintro m s'' n'' ⟨J, hr, kk⟩
      refine wpAny_execs_nil ⟨rfl, fun b o _ e hb => kk b o hb e, m, n'', ?_⟩
      rw [keysTo_row]
      exact J
  · intro s' ks
    refine NInv.grow ?_ ks
    exact ⟨rfl, rfl, ⟨x, 0, 1, t2, w2, w3, rfl, rfl, rfl, by omega, Nat.le_refl _⟩, ⟨[], [], hD₂, trivial, rfl, fun _ h => (nomatch h)⟩, kg₂, T₂, KpN.refl _ _, Rest.refl _⟩
  · intro m s' n' J
    obtain ⟨a1, a2, ⟨num, told, mul, u1, u2, u3, c1, c2, c3, c4, c5⟩, ⟨kvs, xs, b1, b2, b3, b4⟩, a5, a6, a7, a8⟩ := J
    refine wpAny_execs_cons (ev_ret (g := s'.heap) (R := vTup [vNames prog w B kvs, vInt (x : Int)]) (ev_tuple (evs_cons (ev_local a2 ⟨d, xs, rfl, Nat.lt_trans hBL hLd, b1, b2⟩) (evs_cons (ev_cast (ev_add (ev_local c2 ⟨u2, rfl⟩) (ev_mul (a := (num : Int)) (b := (mul : Int)) (ev_local c1 ⟨u1, rfl⟩) (ev_local c3 ⟨u3, rfl⟩) (IntMulOk.of_left (bits_le (k := 64) (by omega))))) (by rw [← c4]; push_cast; rfl)) evs_nil))) (Kp.refl _) n' fun v s₃ hv k₃ => ?_)
    have kk : KpN [44, 51] s.heap s₃.heap := (km₂.drop a7 fun p hp => ?_).trans (KpN.of (kp_of k₃))
    · refine ⟨⟨kvs, hv, ?_, b4⟩, r02.trans (a8.trans (Rest.of k₃)), kk, a6.keeps (kp_of k₃)⟩
      rw [b3]; simp [keysTo, rowKeys]
    · rcases List.mem_cons.mp hp with rfl | hp
      · exact .inl (.head _)
      rcases List.mem_cons.mp hp with rfl | hp
      · exact .inl (.tail _ (.head _))
      rcases List.mem_cons.mp hp with rfl | hp
      · exact .inr (fresh _ (Nat.le_refl _))
      · rw [List.mem_singleton.mp hp]; exact .inr (fresh _ (Nat.le_of_lt hLd))
end
end Mine
open PySem PySem.W PySem.Calls PyProof.Rows
set_option Elab.async false
set_option maxRecDepth 100000
namespace Mine

/-- goes on holding where lists, tuples and what lies behind B stay -/
def BOk (B : Nat) (R : VP) : Prop := ∀ {h h' v}, KpB B h h' → R.P h v → R.P h' v
theorem BOk.of {B : Nat} {R : VP} (x : SeqOk R) : BOk B R := fun k h => x k.s h
theorem VPs.bok {B : Nat} {h h' : Heap} (k : KpB B h h') : ∀ {Rs : List VP} {vs : List Value}, (∀ R ∈ Rs, BOk B R) → VPs h Rs vs → VPs h' Rs vs
  | [], [], _, _ => trivial
  | R :: _, _ :: _, q, x => ⟨q R (.head _) k x.1, VPs.bok k (fun S hS => q S (.tail _ hS)) x.2⟩
theorem BOk.tup {B : Nat} {Rs : List VP} (q : ∀ R ∈ Rs, BOk B R) : BOk B (vTup Rs) := fun k x => by
  obtain ⟨a, vs, e, ⟨o, ho, hc, n, r⟩, y⟩ := x
  exact ⟨a, vs, e, ⟨o, k a o ho (.inl ⟨_, n, r⟩), hc, n, r⟩, y.bok k q⟩
theorem BOk.d0 {prog : Program} {w : World} {B : Nat} : BOk B (vD0 prog w B) := fun k x => by
  obtain ⟨d, ep, rfl, hB, o, es, e, he, hd, r⟩ := x
  exact ⟨d, ep, rfl, hB, o, es, k _ _ e (.inr ⟨hB, fun vs z => by rw [hd] at z; cases z⟩), he, hd, r⟩
theorem BOk.names {prog : Program} {w : World} {B : Nat} {kvs : List (List Int × Int)} : BOk B (vNames prog w B kvs) := fun k x => by
  obtain ⟨d, xs, rfl, hB, hD, hK⟩ := x
  exact ⟨d, xs, rfl, hB, dict_kpb prog w k hB hD, hK⟩
theorem BOk.cons {B : Nat} {R : VP} {Rs : List VP} (h : BOk B R) (hs : ∀ R ∈ Rs, BOk B R) : ∀ S ∈ R :: Rs, BOk B S := fun S hS => by
  rcases List.mem_cons.mp hS with rfl | hS
  · exact h
  · exact hs S hS
theorem BOk.nil {B : Nat} : ∀ R ∈ ([] : List VP), BOk B R := fun _ h => nomatch h
theorem BOk.tally {prog : Program} {w : World} {B : Nat} {a b c d : Int} : BOk B (vTally prog w B a b c d) :=
  BOk.tup (BOk.cons (BOk.of (SeqOk.int _)) (BOk.cons (BOk.of (SeqOk.int _)) (BOk.cons (BOk.of (SeqOk.int _)) (BOk.cons (BOk.of (SeqOk.int _)) (BOk.cons BOk.d0 BOk.nil)))))

section
variable {prog : Program} {w : World} {A : Around} {env : Env} {g : Heap} {m mg mb : Str → Option Value} {s : Shared} {E : Value → Shared → Prop}

theorem st_assignB {x : Str} {px pos : Pos} {value : Expr} {R : VP} {B : Nat} {Q : Flow → Shared → Prop} (h : Ev prog w A env g m value R) (hR : BOk B R) (hB : env.locals ≤ B) (k : Kp g s.heap) (n : s.heap.Ns env.locals m)
    (hQ : ∀ v s', R.P s'.heap v → Rest s s' → KpN [env.locals] s.heap s'.heap → KpB B s.heap s'.heap → s'.heap.Ns env.locals (upd m x v) → Q .next s')
    (hs : swapsWith value (some (.Name x px)) pos.line env = pure false := by rfl) (hx : env.kindOf x = some .local := by rfl)
    (hp : (env.scope.kind == .class || (env.scope.kind == .module && env.locals != env.globals)) = false := by rfl) :
    wpAny (model prog w) A (exec (.Assign [.Name x px] value pos) env) Q E s := by
  refine wpAny_Assign_Name (wpAny_mono (h s E k n) (fun v s₁ h₁ => ?_) fun _ _ x => x) hs
  obtain ⟨hv, k₁⟩ := h₁
  have n₁ := ns_keeps n k₁
  refine wpAny_storeName_local hx n₁ (fun h' n' hs' => ?_) hp
  have kb : KpB B s₁.heap h' := KpB.ns (KpN.same hs' (List.Mem.head [])) n₁ hB
  exact hQ v _ (hR kb hv) ((Rest.of k₁).trans (Rest.set s₁ h' _)) ((KpN.of (kp_of k₁)).trans (KpN.same hs' (List.Mem.head []))) ((KpB.of (kp_of k₁)).trans kb) n'
theorem st_assignCB {x : Str} {px pos : Pos} {value : Expr} {R : VP} {B cc : Nat} {v₀ : Option Value} {Q : Flow → Shared → Prop} (h : Ev prog w A env g m value R) (hR : BOk B R) (hB : cc ≤ B) (k : Kp g s.heap) (n : s.heap.Ns env.locals m) (hc : s.heap.IsCell cc v₀)
    (hcc : env.cells.lookup x = some cc)
    (hQ : ∀ v s', R.P s'.heap v → Rest s s' → KpN [cc] s.heap s'.heap → KpB B s.heap s'.heap → s'.heap.IsCell cc (some v) → Q .next s')
    (hs : swapsWith value (some (.Name x px)) pos.line env = pure false := by rfl) (hk : env.scope.kind = .function := by rfl) (hx : env.kindOf x = some .cell := by rfl) :
    wpAny (model prog w) A (exec (.Assign [.Name x px] value pos) env) Q E s := by
  refine wpAny_Assign_Name (wpAny_mono (h s E k n) (fun v s₁ h₁ => ?_) fun _ _ x => x) hs
  obtain ⟨hv, k₁⟩ := h₁
  have hc₁ := hc.keeps (kp_of k₁)
  refine wpAny_storeName_cell hk hx hcc hc₁ fun h' hc' hs' => ?_
  have kb : KpB B s₁.heap h' := KpB.cell (KpN.same hs' (List.Mem.head [])) hc₁ hB
  exact hQ v _ (hR kb hv) ((Rest.of k₁).trans (Rest.set s₁ h' _)) ((KpN.of (kp_of k₁)).trans (KpN.same hs' (List.Mem.head []))) ((KpB.of (kp_of k₁)).trans kb) hc'

/-- a list of ints as it came -/
def vInts (ns : List Int) : VP := ⟨fun h v => ∃ a vs, v = .ref a ∧ h.IsList a (vs : List Value).toArray ∧ IntsAre vs ns,
  fun k x => by obtain ⟨a, vs, e, t, y⟩ := x; exact ⟨a, vs, e, isList_kp t (KpN.of (N := []) k) (fun z => nomatch z), y⟩⟩
theorem evC_sum {ns : List Int} (hh : A.handled = none) : EvC prog w A g (.builtin "sum") [vInts ns] (vInt ns.sum) := by
  rintro s E vs _ hv
  obtain ⟨_, rfl, ⟨l, vs, rfl, hl, hi⟩⟩ := vps1 hv
  obtain ⟨xs, hx⟩ := hi.allInts.items
  have hl' : s.heap.IsList l (intItems xs) := hx ▸ hl
  refine sum_intListG hh hl' fun h' tk t' hk => ?_
  have e1 : ns = xs.toList.map (·.1) := by
    rw [← nums_intItems, ← hx]
    exact (show numsOf vs.toArray.toList = ns from hi.numsOf).symm
  have e2 : preSum (numAt xs) xs.size = ns.sum := by
    rw [preSum_eq, List.take_of_length_le (by simp), e1]
  rw [e2]
  exact ⟨⟨t', rfl⟩, h', tk, rfl, hk⟩
theorem evC_abs {a : Int} : EvC prog w A g (.builtin "abs") [vInt a] (vInt a.natAbs) := by
  rintro s E vs _ hv
  obtain ⟨_, rfl, ⟨t, rfl⟩⟩ := vps1 hv
  refine call_abs_int fun u tk => ⟨⟨u, ?_⟩, s.heap, tk, rfl, fun _ _ e => e⟩
  congr 1
  split <;> omega
theorem ev_pow {l r : Expr} {pos : Pos} {a n : Nat} (hl : Ev prog w A env g m l (vInt a)) (hr : Ev prog w A env g m r (vInt n)) (ha : a < 2 ^ 64) (hn : n ≤ 1000000) : Ev prog w A env g m (.BinOp l .Pow r pos) (vInt (a ^ n : Nat)) :=
  ev_bin hl hr fun s E x y _ hx hy => by
    obtain ⟨t, rfl⟩ := hx; obtain ⟨u, rfl⟩ := hy
    refine pow_int_small (Int.natCast_nonneg _) (by omega) (by simpa using ha) ⟨⟨s.toks, ?_⟩, keeps_tok s _⟩
    rw [Int.toNat_natCast, Int.natCast_pow]
end
end Mine
open PySem PySem.W PySem.Calls PyProof.Rows
set_option Elab.async false
set_option maxRecDepth 100000
namespace Mine

def e01 (x y : Int) : Bool := decide (srt [x, y] = [0, 1])
def sidesOf (x y z : Int) : Nat := (0 + (if e01 z x then 1 else 0) + (if e01 x y then 1 else 0)) + (if e01 y z then 1 else 0)
def bow (x y z : Int) : Bool := decide (srt [x, y, z] = [0, 1, 2])
abbrev lawEnv (L a : Addr) (cd : Value) : Env := envOfC (nameAt 15) (scopeAt 15) L a cd
def lawFor : Stmt := ((bodyAt 15)[7]?).getD (.Pass default)

section
variable {prog : Program} {w : World} {A : Around} {env : Env} {g : Heap} {m mg mb : Str → Option Value} {s : Shared} {E : Value → Shared → Prop}

theorem evT_or2 {x y : Expr} {pos : Pos} {c d : Bool} (hx : EvT prog w A env g m x c) (hy : EvT prog w A env g m y d) : EvT prog w A env g m (.BoolOp .Or [x, y] pos) (c || d) := fun s E k n => by
  refine wpAny_isTrue_BoolOp (wpAny_allTrue_Or_cons (wpAny_mono (hx s E k n) (fun b s₁ h₁ => ?_) fun _ _ x => x))
  obtain ⟨rfl, k₁⟩ := h₁
  cases b with
  | true => exact ⟨rfl, k₁⟩
  | false =>
    refine wpAny_allTrue_Or_cons (wpAny_mono (hy s₁ E (kp_step k k₁) (ns_keeps n k₁)) (fun b s₂ h₂ => ?_) fun _ _ x => x)
    obtain ⟨rfl, k₂⟩ := h₂
    cases b with
    | true => exact ⟨rfl, keeps_trans k₁ k₂⟩
    | false => exact wpAny_allTrue_Or_nil ⟨rfl, keeps_trans k₁ k₂⟩
theorem evT_or4 {x y z u : Expr} {pos : Pos} {b c d e : Bool} (hx : EvT prog w A env g m x b) (hy : EvT prog w A env g m y c) (hz : EvT prog w A env g m z d) (hu : EvT prog w A env g m u e) : EvT prog w A env g m (.BoolOp .Or [x, y, z, u] pos) (b || (c || (d || e))) := fun s E k n => by
  refine wpAny_isTrue_BoolOp (wpAny_allTrue_Or_cons (wpAny_mono (hx s E k n) (fun b s₁ h₁ => ?_) fun _ _ x => x))
  obtain ⟨rfl, k₁⟩ := h₁
  cases b with
  | true => exact ⟨rfl, k₁⟩
  | false =>
    refine wpAny_allTrue_Or_cons (wpAny_mono (hy s₁ E (kp_step k k₁) (ns_keeps n k₁)) (fun b s₂ h₂ => ?_) fun _ _ x => x)
    obtain ⟨rfl, k₂⟩ := h₂
    have k₂ := keeps_trans k₁ k₂
    cases b with
    | true => exact ⟨rfl, k₂⟩
    | false =>
      refine wpAny_allTrue_Or_cons (wpAny_mono (hz s₂ E (kp_step k k₂) (ns_keeps n k₂)) (fun b s₃ h₃ => ?_) fun _ _ x => x)
      obtain ⟨rfl, k₃⟩ := h₃
      have k₃ := keeps_trans k₂ k₃
      cases b with
      | true => exact ⟨rfl, k₃⟩
      | false =>
        refine wpAny_allTrue_Or_cons (wpAny_mono (hu s₃ E (kp_step k k₃) (ns_keeps n k₃)) (fun b s₄ h₄ => ?_) fun _ _ x => x)
        obtain ⟨rfl, k₄⟩ := h₄
        have k₄ := keeps_trans k₃ k₄
        cases b with
        | true => exact ⟨rfl, k₄⟩
        | false => exact wpAny_allTrue_Or_nil ⟨rfl, k₄⟩
theorem cmp_ne_bool {a b : Bool} : ∀ s E x y, Kp g s.heap → (vBool a).P s.heap x → (vBool b).P s.heap y → wpAny (model prog w) A (compareOp .NotEq x y) (fun v s' => v = .bool (a != b) ∧ Keeps s s') E s := by
  rintro s E x y _ rfl rfl
  exact SeqAt.RcNeAt.bool_bool a b prog w E _ ⟨rfl, keeps_refl s⟩
theorem cmpB {op : CmpOp} {c : Bool} {R S : VP} (h : ∀ s E a b, Kp g s.heap → R.P s.heap a → S.P s.heap b → wpAny (model prog w) A (compareOp op a b) (fun v s' => v = .bool c ∧ Keeps s s') E s) :
    ∀ s E a b, Kp g s.heap → R.P s.heap a → S.P s.heap b → wpAny (model prog w) A (compareOp op a b) (fun v s' => (vBool c).P s'.heap v ∧ Keeps s s') E s := h

theorem outs_len_cnt {b : Nat → Bool} {Ro : Nat → VP} (n : Nat) : ((outs b Ro n).length : Int) = (cntB b n : Int) := by rw [outs_cnt]


theorem notin_add {L i : Nat} (h : 0 < i) : (L : Nat) ∉ [L + i] := fun z => by have z' : L = L + i := List.mem_singleton.mp z; omega
theorem notin_add' {L i : Nat} (h : 0 < i) : (L + i : Nat) ∉ [L] := fun z => by have z' : L + i = L := List.mem_singleton.mp z; omega
theorem law_turn {L a B : Nat} {cd : Value} {kvs : List (List Int × Int)} {p1 p2 p3 p4 p5 p6 x y z w0 w1 w2 w3 : Int} {nv tv v : Value} {cv : Option Value} (G : Gl mg mb g) (gL : g.get? L = none) (g3 : g.get? (L + 3) = none) (hd : A.depth + 10 ≤ recursionLimit) (hh : A.handled = none) (hu : A.units + 300 < cLine) (hB : B = L + 4)
    (hn : g.IsCell (L + 2) (some nv)) (hnv : (vNames prog w B kvs).P g nv) (h1 : look kvs [p1, p2] = some x) (h2 : look kvs [p3, p4] = some y) (h3 : look kvs [p5, p6] = some z)
    (k : Kp g s.heap) (ns : s.heap.Ns L m) (hc : s.heap.IsCell (L + 3) cv) (hBo : ∃ o, s.heap.get? B = some o) (hm : m "three" = some v) (hv : (three p1 p2 p3 p4 p5 p6).P s.heap v) (hw : m "whole" = some tv) (htv : (vTally prog w B w0 w1 w2 w3).P s.heap tv)
    (ok : (decide (sidesOf x y z = 3) || (decide (sidesOf x y z = 1) != bow x y z)) = false) :
    wpAny (model prog w) A (execs (forBody lawFor) (lawEnv L a cd))
      (fun f s' => f = .next ∧ Rest s s' ∧ KpN [L, L + 3] s.heap s'.heap ∧ KpB B s.heap s'.heap ∧ (∃ cv, s'.heap.IsCell (L + 3) (some cv)) ∧ ∃ m', s'.heap.Ns L m' ∧ (∃ tv', m' "whole" = some tv' ∧ (vTally prog w B ((sidesOf x y z : Nat) + w0) ((if sidesOf x y z = 1 then 1 else 0) + w1) (1 + w2) (rnd x y z + w3)).P s'.heap tv') ∧
        m' "upright" = m "upright" ∧ m' "down" = m "down") E s := by
  have LN : (L : Nat) ∉ [L + 3] := notin_add (by decide)
  have N3 : ∀ {h : Heap} {m : Str → Option Value}, h.Ns L m → (L + 3 : Nat) ∉ [L] := fun _ => notin_add' (by decide)
  have G₀ := G.keeps k
  rw [show forBody lawFor = [_, _, _, _] from rfl]
  refine wpAny_execs_cons (st_assignCB (g := s.heap) (B := B) (cc := L + 3) (R := vList ([x, y, z].map vInt)) (ev_told (B := B) (kvs := kvs) (cl := [("names", L + 2)]) hh (by omega) (ev_local hm hv) h1 h2 h3 (fun C g₁ m₂ kg => ?_)) (BOk.of (SeqOk.list (SeqOk.ints _))) (by omega) (Kp.refl _) ns hc rfl fun tl s₁ htl r₁ kn₁ kb₁ hc₁ => ?_)
  · exact ev_cell (c := L + 2) rfl ((hn.keeps k).keeps kg) (VP.st _ (k.trans kg) hnv)
  have n₁ : s₁.heap.Ns L m := ns.at' fun o e => kn₁ _ o LN e
  have k₁ : Kp g s₁.heap := KpN.ground kn₁ k (fun p hp => by rw [List.mem_singleton.mp hp]; exact g3)
  have G₁ := G.keeps k₁
  have htv₁ := BOk.tally kb₁ htv
  have hit : Iter prog w A s₁.heap (vRange 0 3) ((List.range 3).map fun (i : Nat) => vInt (i : Int)) := iter_r hh (by decide) (by decide) (by decide) (by decide) (by intro i; omega)
  refine wpAny_execs_cons (st_assign (g := s₁.heap) (R := vInt (sidesOf x y z : Nat)) (ev_cast (ev_len (Rs := outs (fun i => e01 ([z, x, y].getD i 0) ([x, y, z].getD i 0)) (fun i => vInt (i : Int)) 3) G₁
    (ev_comp1 (x := "k") (cl := [("told", L + 3)]) (Rs := (List.range 3).map fun (i : Nat) => vInt (i : Int)) (b := fun i => e01 ([z, x, y].getD i 0) ([x, y, z].getD i 0)) (Ro := fun i => vInt (i : Int)) (ev_range1 G₁ ev_int) hit (by decide) (fun i => TupOk.int _) (fun C g₁ i T m₂ v kg hT hTv hm => ?_))
    (Nat.lt_of_le_of_lt (outs_len _ _ _) (by decide))) (outs_len_cnt 3)) (SeqOk.int _) (Kp.refl _) n₁ fun sv s₂ hsv r₂ kn₂ ks₂ n₂ => ?_)
  · have hi : i < 3 := by
      rcases Nat.lt_or_ge i 3 with h | h
      · exact h
      · rw [List.getElem?_map, List.getElem?_eq_none (by simpa using h)] at hT; cases hT
    have hTe : T = vInt (i : Int) := by
      rw [List.getElem?_map, List.getElem?_range hi] at hT
      exact (Option.some.inj hT).symm
    subst hTe
    have tv : Ev prog w A (compEnvC { kind := .function, names := [(".0", .local), ("k", .local), ("sorted", .globalImplicit), ("told", .free)], isGenerator := false, isCoroutine := false, more := [] } [(Str.ofString "told", L + 3)] C (lawEnv L a cd)) g₁ m₂ (.Name "told" ⟨136, 52, 136, 56⟩) (vList ([x, y, z].map vInt)) := ev_cell (c := L + 3) rfl (hc₁.keeps kg) (VP.st _ kg htl)
    have tv' : Ev prog w A (compEnvC { kind := .function, names := [(".0", .local), ("k", .local), ("sorted", .globalImplicit), ("told", .free)], isGenerator := false, isCoroutine := false, more := [] } [(Str.ofString "told", L + 3)] C (lawEnv L a cd)) g₁ m₂ (.Name "told" ⟨136, 65, 136, 69⟩) (vList ([x, y, z].map vInt)) := ev_cell (c := L + 3) rfl (hc₁.keeps kg) (VP.st _ kg htl)
    refine ⟨evTs_one (evT_cmp (ev_sorted (ns := [[z, x, y].getD i 0, [x, y, z].getD i 0]) (G₁.keeps kg) (ev_list2 ?_ ?_) (by exact Nat.le_of_ble_eq_true rfl)) (ev_list2 ev_int ev_int) (cmp_eq_ints (by omega))), fun _ => ev_local hm hTv⟩
    · match i, hi with
      | 0, _ => exact ev_item_neg (k := -1) tv (ev_cast (ev_sub (ev_local hm hTv) ev_int) rfl) (by decide) (by simp) (by exact Nat.le_of_ble_eq_true rfl) rfl
      | 1, _ => exact ev_item (k := 0) tv (ev_cast (ev_sub (ev_local hm hTv) ev_int) rfl) (by decide) (by decide) rfl
      | 2, _ => exact ev_item (k := 1) tv (ev_cast (ev_sub (ev_local hm hTv) ev_int) rfl) (by decide) (by decide) rfl
    · match i, hi with
      | 0, _ => exact ev_item (k := 0) tv' (ev_local hm hTv) (by decide) (by decide) rfl
      | 1, _ => exact ev_item (k := 1) tv' (ev_local hm hTv) (by decide) (by decide) rfl
      | 2, _ => exact ev_item (k := 2) tv' (ev_local hm hTv) (by decide) (by decide) rfl
  obtain ⟨us, rfl⟩ := hsv
  have k₂ : Kp g s₂.heap := KpN.ground kn₂ k₁ (fun p hp => by rw [List.mem_singleton.mp hp]; exact gL)
  have G₂ := G.keeps k₂
  have kb₂ : KpB B s₁.heap s₂.heap := KpB.ns kn₂ n₁ (by show L ≤ B; omega)
  have hc₂ : s₂.heap.IsCell (L + 3) (some tl) := by obtain ⟨o, e, d⟩ := hc₁; exact ⟨o, kn₂ _ _ (N3 n₁) e, d⟩
  have htl₂ : (vList ([x, y, z].map vInt)).P s₂.heap tl := SeqOk.list (SeqOk.ints _) ks₂ htl
  have htv₂ := BOk.tally kb₂ htv₁
  let m₂ : Str → Option Value := upd m "sides" (.int ((sidesOf x y z : Nat) : Int) us)
  have n₂' : s₂.heap.Ns L m₂ := n₂
  refine wpAny_execs_cons (st_if (g := s₂.heap) (m := m₂) (c := (decide (sidesOf x y z = 3) || (decide (sidesOf x y z = 1) != bow x y z)))
    (evT_or2 (evT_cmp (R := vInt ((sidesOf x y z : Nat) : Int)) (S := vInt ((3 : Nat) : Int)) (ev_local rfl ⟨us, rfl⟩) ev_int (cmp_eq_nat rfl rfl))
      (evT_cmp (R := vBool (decide (sidesOf x y z = 1))) (S := vBool (bow x y z)) (ev_cmp (R := vInt ((sidesOf x y z : Nat) : Int)) (S := vInt ((1 : Nat) : Int)) (ev_local rfl ⟨us, rfl⟩) ev_int (cmpB (cmp_eq_nat rfl rfl))) (ev_cmp (ev_sorted (ns := [x, y, z]) G₂ (ev_cell (c := L + 3) rfl hc₂ htl₂) (by exact Nat.le_of_ble_eq_true rfl)) (ev_list3 ev_int ev_int ev_int) (cmpB (cmp_eq_ints (by omega)))) cmp_ne_bool))
    (Kp.refl _) n₂' (fun s₃ hcc _ => by rw [ok] at hcc; cases hcc) fun s₃ _ k₃ => ?_)
  refine wpAny_execs_nil ?_
  have kp₃ := kp_of k₃
  have G₃ := G₂.keeps kp₃
  have n₃ := ns_keeps n₂' k₃
  have hc₃ := hc₂.keeps kp₃
  have htl₃ := VP.st _ kp₃ htl₂
  have htv₃ := VP.st _ kp₃ htv₂
  have kb₀₃ : KpB B s.heap s₃.heap := kb₁.trans (kb₂.trans (KpB.of kp₃))
  have hB₃ : ∃ o, s₃.heap.get? B = some o := by
    obtain ⟨o, e⟩ := hBo
    have k1 : s₁.heap.get? B = some o := kn₁ _ _ (fun z => by have z' : B = L + 3 := List.mem_singleton.mp z; omega) e
    have k2 : s₂.heap.get? B = some o := kn₂ _ _ (fun z => by have z' : B = L := List.mem_singleton.mp z; omega) k1
    exact ⟨o, kp₃ _ _ k2⟩
  obtain ⟨od, doc, pm, an, cd1, ct, hof, hdf, _⟩ := G₃.afs
  obtain ⟨od', doc', pm', an', cd1', ct', hof', hdf', _⟩ := G₃.rnd
  refine wpAny_execs_cons (st_assignB (g := s₃.heap) (m := m₂) (B := B) (R := vTally prog w B ((sidesOf x y z : Nat) + w0) ((if sidesOf x y z = 1 then 1 else 0) + w1) (1 + w2) (rnd x y z + w3))
    (ev_callF (Rs := [vTally prog w B w0 w1 w2 w3, vTally prog w B (sidesOf x y z : Nat) (if sidesOf x y z = 1 then 1 else 0) 1 (rnd x y z)]) (ev_global G₃.g G₃.nm.afs) (evs_cons (ev_local hw htv₃) (evs_cons (ev_tuple (evs_cons (ev_local rfl ⟨us, rfl⟩) (evs_cons ?_ (evs_cons ev_int (evs_cons ?_ (evs_cons (ev_dict0 hB₃) evs_nil)))))) evs_nil)) hof hdf (evC_afs G₃ hB₃ (by omega) hh (by omega)))
    BOk.tally (by show L ≤ B; omega) (Kp.refl _) n₃ fun v₄ s₄ hv₄ r₄ kn₄ kb₄ n₄ => wpAny_execs_nil ?_)
  · refine ev_cast (ev_callT (Rs := [vBool (decide (sidesOf x y z = 1))]) (ev_builtin G₃.g G₃.nm.int.1 G₃.b G₃.nm.int.2) (evs_cons (ev_cmp (R := vInt ((sidesOf x y z : Nat) : Int)) (S := vInt ((1 : Nat) : Int)) (ev_local rfl ⟨us, rfl⟩) ev_int (cmpB (cmp_eq_nat rfl rfl))) evs_nil) evC_int) ?_
    by_cases h : sidesOf x y z = 1 <;> simp [h]
  · exact ev_callF (Rs := [vList ([x, y, z].map vInt)]) (ev_global G₃.g G₃.nm.rnd) (evs_cons (ev_cell (c := L + 3) rfl hc₃ htl₃) evs_nil) hof' hdf' (evC_round G₃ (by omega) (by omega))
  · have i0 : ∀ p ∈ [L], p ∈ [L, L + 3] := fun p hp => by rw [List.mem_singleton.mp hp]; exact .head _
    have i3 : ∀ p ∈ [L + 3], p ∈ [L, L + 3] := fun p hp => by rw [List.mem_singleton.mp hp]; exact .tail _ (.head _)
    have kall : KpN [L, L + 3] s.heap s₄.heap := (kn₁.mono i3).trans ((KpN.mono kn₂ i0).trans ((KpN.of kp₃).trans (KpN.mono kn₄ i0)))
    refine ⟨rfl, r₁.trans (r₂.trans ((Rest.of k₃).trans r₄)), kall, kb₀₃.trans kb₄, ⟨tl, ?_⟩, upd m₂ "whole" v₄, n₄, ⟨v₄, rfl, hv₄⟩, rfl, rfl⟩
    obtain ⟨o, e, d⟩ := hc₃
    exact ⟨o, kn₄ _ _ (N3 n₁) e, d⟩
end
end Mine
open PySem PySem.W PySem.Calls PyProof.Rows
set_option Elab.async false
set_option maxRecDepth 100000
namespace Mine

structure T6 where
  a : Int
  b : Int
  c : Int
  d : Int
  e : Int
  f : Int
def three6 (t : T6) : VP := three t.a t.b t.c t.d t.e t.f
def nam (kvs : List (List Int × Int)) (r c : Int) : Int := (look kvs [r, c]).getD 0
def sid (kvs : List (List Int × Int)) (t : T6) : Nat := sidesOf (nam kvs t.a t.b) (nam kvs t.c t.d) (nam kvs t.e t.f)
def bw (kvs : List (List Int × Int)) (t : T6) : Bool := bow (nam kvs t.a t.b) (nam kvs t.c t.d) (nam kvs t.e t.f)
def rn (kvs : List (List Int × Int)) (t : T6) : Int := rnd (nam kvs t.a t.b) (nam kvs t.c t.d) (nam kvs t.e t.f)
def S0 (kvs : List (List Int × Int)) (ts : List T6) : Int := (ts.map fun t => ((sid kvs t : Nat) : Int)).sum
def S1 (kvs : List (List Int × Int)) (ts : List T6) : Int := (ts.map fun t => if sid kvs t = 1 then (1 : Int) else 0).sum
def S3 (kvs : List (List Int × Int)) (ts : List T6) : Int := (ts.map fun t => rn kvs t).sum
theorem S0_snoc (kvs : List (List Int × Int)) (ts : List T6) (t : T6) : S0 kvs (ts ++ [t]) = (sid kvs t : Nat) + S0 kvs ts := by
  unfold S0; rw [List.map_append, List.sum_append]; simp; omega
theorem S1_snoc (kvs : List (List Int × Int)) (ts : List T6) (t : T6) : S1 kvs (ts ++ [t]) = (if sid kvs t = 1 then 1 else 0) + S1 kvs ts := by
  unfold S1; rw [List.map_append, List.sum_append]; simp; omega
theorem S3_snoc (kvs : List (List Int × Int)) (ts : List T6) (t : T6) : S3 kvs (ts ++ [t]) = rn kvs t + S3 kvs ts := by
  unfold S3; rw [List.map_append, List.sum_append]; simp; omega
theorem take_snoc {α : Type} {l : List α} {i : Nat} {x : α} (h : l[i]? = some x) : l.take (i + 1) = l.take i ++ [x] := by
  rw [List.take_succ, h]; rfl
def Looks (kvs : List (List Int × Int)) (t : T6) : Prop := look kvs [t.a, t.b] = some (nam kvs t.a t.b) ∧ look kvs [t.c, t.d] = some (nam kvs t.c t.d) ∧ look kvs [t.e, t.f] = some (nam kvs t.e t.f)
def Fine (kvs : List (List Int × Int)) (t : T6) : Prop := (decide (sid kvs t = 3) || (decide (sid kvs t = 1) != bw kvs t)) = false

section
variable {prog : Program} {w : World} {A : Around} {env : Env} {g : Heap} {m mg mb : Str → Option Value} {s : Shared} {E : Value → Shared → Prop}

theorem law_loop {L a B : Nat} {cd : Value} {kvs : List (List Int × Int)} {us ds : List VP} {ts : List T6} {nv v1 v2 tv : Value} {cv cv' : Option Value} {Q : Flow → Shared → Prop} (G : Gl mg mb g) (gL : g.get? L = none) (g3 : g.get? (L + 3) = none) (hd : A.depth + 10 ≤ recursionLimit) (hh : A.handled = none) (hu : A.units + 300 < cLine) (hB : B = L + 4)
    (hn : g.IsCell (L + 2) (some nv)) (hnv : (vNames prog w B kvs).P g nv) (hts : us ++ ds = ts.map three6) (hul : us.length ≤ 1000) (hdl : ds.length ≤ 1000) (htl : ts.length ≤ 1000) (hlk : ∀ t ∈ ts, Looks kvs t) (hok : ∀ t ∈ ts, Fine kvs t)
    (k : Kp g s.heap) (ns : s.heap.Ns L m) (hc : s.heap.IsCell (L + 3) cv) (hc4 : s.heap.IsCell B cv') (h1 : m "upright" = some v1) (hv1 : (vList us).P s.heap v1) (h2 : m "down" = some v2) (hv2 : (vList ds).P s.heap v2) (hw : m "whole" = some tv) (htv : (vTally prog w B 0 0 0 0).P s.heap tv)
    (hQ : ∀ s' m', Rest s s' → KpN [L, L + 3] s.heap s'.heap → KpB B s.heap s'.heap → (∃ cv, s'.heap.IsCell (L + 3) cv) → s'.heap.Ns L m' → (∃ tv', m' "whole" = some tv' ∧ (vTally prog w B (S0 kvs ts) (S1 kvs ts) ts.length (S3 kvs ts)).P s'.heap tv') →
      m' "upright" = some v1 → m' "down" = some v2 → Q .next s') :
    wpAny (model prog w) A (exec lawFor (lawEnv L a cd)) Q E s := by
  rw [show lawFor = .For (.Name "three" ⟨134, 8, 134, 13⟩) _ (forBody lawFor) [] _ from rfl]
  refine wpAny_For (ev_at (g := s.heap) (m := m) (R := vList (us ++ ds)) (ev_addlist (ev_local h1 hv1) (ev_local h2 hv2) hul hdl) (Kp.refl _) ns fun xv s₁ hxv k₁ => ?_)
  rw [hts] at hxv
  obtain ⟨ax, vs, rfl, hp, hvs⟩ := hxv
  have kp₁ := kp_of k₁
  have n₁ := ns_keeps ns k₁
  have hc₁ := hc.keeps kp₁
  have hc4₁ := hc4.keeps kp₁
  have hpl := hp.isList
  have hvl : vs.length = ts.length := by have := hvs.len; rwa [List.length_map] at this
  have hsz : vs.toArray.size = ts.length := by rw [List.size_toArray, hvl]
  have haL : ax ≠ L := by
    rintro rfl
    obtain ⟨o, es, ep, e, d, _⟩ := n₁
    obtain ⟨q, e'⟩ := hp
    rw [e] at e'; cases e'; cases d
  have ha3 : ax ≠ (L + 3 : Nat) := Ne.symm (cell_ne_seq hc₁ hpl)
  refine wpAny_pyIter_list hpl ?_
  have hI : s.heap.get? s₁.heap.objs.size = none := by
    cases e : s.heap.get? s₁.heap.objs.size with
    | none => rfl
    | some o => exact absurd (Heap.lt_size (kp₁ _ _ e)) (Nat.lt_irrefl _)
  have hLI : L ≠ s₁.heap.objs.size := Nat.ne_of_lt n₁.lt
  have h3I : (L + 3 : Nat) ≠ s₁.heap.objs.size := Nat.ne_of_lt hc₁.lt
  have hBI : B ≠ s₁.heap.objs.size := Nat.ne_of_lt hc4₁.lt
  have haI : ax ≠ s₁.heap.objs.size := by obtain ⟨q, e⟩ := hp; exact Nat.ne_of_lt (Heap.lt_size e)
  let g₁ := hide s₁.heap [L, L + 3]
  have kgg : Kp g g₁ := kp_into_hide (k.trans kp₁) fun p hp => by
    rcases List.mem_cons.mp hp with rfl | hp
    · exact gL
    · rw [List.mem_singleton.mp hp]; exact g3
  have g₁L : g₁.get? L = none := hideAll_none _ (.head _)
  have g₁3 : g₁.get? (L + 3) = none := hideAll_none _ (.tail _ (.head _))
  have g₁I : g₁.get? s₁.heap.objs.size = none := by
    cases e : g₁.get? s₁.heap.objs.size with
    | none => rfl
    | some o => exact absurd (Heap.lt_size (kp_hide s₁.heap [L, L + 3] _ _ e)) (Nat.lt_irrefl _)
  have kt : KpT s₁.heap g₁ := fun b o e ⟨_, vs, n, d⟩ => hide_get e fun z => by
    rcases List.mem_cons.mp z with z | z
    · obtain ⟨o', es, ep, e', d', _⟩ := n₁
      rw [z, e'] at e; cases e
      rw [d'] at d; cases d
    · obtain ⟨o', e', d'⟩ := hc₁
      rw [List.mem_singleton.mp z, e'] at e; cases e
      rw [d'] at d; cases d
  have hvg : VPs g₁ (ts.map three6) vs := hvs.tup kt fun R hR => by
    obtain ⟨t, _, rfl⟩ := List.mem_map.mp hR
    exact three_tup _ _ _ _ _ _
  have W := Walks.list (prog := prog) (w := w) (A := A) hh s₁.heap.objs.size ax haI vs.toArray
  refine for_loop (env := lawEnv L a cd) B W (fun z => ?_) (by show L ≤ B; omega) rfl rfl ?_
    (fun i m s' => Kp g₁ s'.heap ∧ Rest s s' ∧ KpN [L, L + 3] s.heap s'.heap ∧ KpB B s.heap s'.heap ∧ (∃ cv, s'.heap.IsCell (L + 3) cv) ∧ (∃ cv, s'.heap.IsCell B cv) ∧ m "upright" = some v1 ∧ m "down" = some v2 ∧
      ∃ tv, m "whole" = some tv ∧ (vTally prog w B (S0 kvs (ts.take i)) (S1 kvs (ts.take i)) ((ts.take i).length : Int) (S3 kvs (ts.take i))).P s'.heap tv) ?_ ?_ ?_ ⟨⟨_, Heap.get?_push_size _ rfl, rfl, rfl⟩, hpl.push _⟩ (n₁.push _) ?_
  · rcases List.mem_cons.mp z with z | z
    · exact hLI z
    · exact haL (List.mem_singleton.mp z).symm
  · rintro i h ⟨⟨o, e, _, d⟩, _⟩ p hp o' e'
    rw [List.mem_singleton.mp hp, e] at e'; cases e'
    exact ⟨_, d⟩
  · rintro i m s' h' tk _ ⟨a1, a2, a3, a4, ⟨c3, b3⟩, ⟨c4, b4⟩, a7, a8, tv, a9, a10⟩ n' kn kb
    have in_ : ∀ {p : Addr}, p ≠ L → p ≠ s₁.heap.objs.size → p ∉ [L, s₁.heap.objs.size] := fun h h' z => by
      rcases List.mem_cons.mp z with z | z
      · exact h z
      · exact h' (List.mem_singleton.mp z)
    refine ⟨kn.ground a1 (fun p hp => ?_), a2.trans (Rest.set s' h' tk), a3.drop kn (fun p hp => ?_), a4.trans kb, ⟨c3, ?_⟩, ⟨c4, ?_⟩, a7, a8, tv, a9, BOk.tally kb a10⟩
    · rcases List.mem_cons.mp hp with rfl | hp
      · exact g₁L
      · rw [List.mem_singleton.mp hp]; exact g₁I
    · rcases List.mem_cons.mp hp with rfl | hp
      · exact .inl (.head _)
      · rw [List.mem_singleton.mp hp]; exact .inr hI
    · obtain ⟨o, e, d⟩ := b3
      exact ⟨o, kn _ _ (in_ (by have : L + 3 ≠ L := by omega
                                exact this) h3I) e, d⟩
    · obtain ⟨o, e, d⟩ := b4
      exact ⟨o, kn _ _ (in_ (by have : B ≠ L := by omega
                                exact this) hBI) e, d⟩
  · rintro i v m s' E' hi hP n' ⟨a1, a2, a3, a4, ⟨c3, b3⟩, ⟨c4, b4⟩, a7, a8, tv, a9, a10⟩
    rw [hsz] at hi
    have hti : ts[i]? = some ts[i] := List.getElem?_eq_getElem hi
    have hmem : ts[i] ∈ ts := List.getElem_mem hi
    obtain ⟨u, hu', hr⟩ := hvg.get (i := i) (R := three6 ts[i]) (by rw [List.getElem?_map, hti]; rfl)
    have hP' : vs[i]? = some v := by simpa using hP
    rw [hP'] at hu'; cases hu'
    obtain ⟨l1, l2, l3⟩ := hlk _ hmem
    refine wpAny_mono (law_turn (B := B) (kvs := kvs) (m := upd m "three" v) (v := v) (tv := tv) G gL g3 hd hh hu hB hn hnv l1 l2 l3 (kgg.trans a1) n' b3 (by obtain ⟨o, e, _⟩ := b4; exact ⟨o, e⟩) rfl (VP.st _ a1 hr) a9 a10 (hok _ hmem)) (fun f s₂ h => ?_) fun _ _ y => y
    obtain ⟨rfl, r₂, kn₂, kb₂, ⟨c3', b3'⟩, m₂, n₂, ⟨tv', e1, e2⟩, e3, e4⟩ := h
    refine ⟨rfl, fun p hp o e => kn₂ p o (fun z => ?_) e, m₂, n₂, kn₂.ground a1 (fun p hp => ?_), a2.trans r₂, a3.trans kn₂, a4.trans kb₂, ⟨_, b3'⟩, ⟨c4, ?_⟩, e3.trans a7, e4.trans a8, tv', e1, ?_⟩
    · rcases List.mem_cons.mp hp with rfl | hp
      · rcases List.mem_cons.mp z with z | z
        · exact hLI z.symm
        · exact h3I (List.mem_singleton.mp z).symm
      · rw [List.mem_singleton.mp hp] at z
        rcases List.mem_cons.mp z with z | z
        · exact haL z
        · exact ha3 (List.mem_singleton.mp z)
    · rcases List.mem_cons.mp hp with rfl | hp
      · exact g₁L
      · rw [List.mem_singleton.mp hp]; exact g₁3
    · obtain ⟨o, e, d⟩ := b4
      refine ⟨o, kn₂ _ _ (fun z => ?_) e, d⟩
      rcases List.mem_cons.mp z with z | z
      · have z' : B = L := z
        omega
      · have z' : B = L + 3 := List.mem_singleton.mp z
        omega
    · rw [take_snoc hti, S0_snoc, S1_snoc, S3_snoc, List.length_append]
      have : (((ts.take i).length + [ts[i]].length : Nat) : Int) = 1 + ((ts.take i).length : Int) := by simp; omega
      rw [this]
      exact e2
  · rintro m s' n' ⟨a1, a2, a3, a4, b3, b4, a7, a8, tv, a9, a10⟩
    rw [hsz, List.take_length] at a10
    exact hQ s' m a2 a3 a4 b3 n' ⟨tv, a9, a10⟩ a7 a8
  · refine ⟨(kp_hide s₁.heap [L, L + 3]).trans (Kp.push _ _), (Rest.of k₁).trans ⟨_, _, rfl⟩, KpN.of (kp₁.trans (Kp.push _ _)), KpB.of (kp₁.trans (Kp.push _ _)), ⟨_, hc₁.keeps (Kp.push _ _)⟩, ⟨_, hc4₁.keeps (Kp.push _ _)⟩, h1, h2, tv, hw, VP.st _ (kp₁.trans (Kp.push _ _)) htv⟩
end
end Mine
open PySem PySem.W PySem.Calls PyProof.Rows
set_option Elab.async false
set_option maxRecDepth 100000
namespace Mine

structure T4 where
  a : Int
  b : Int
  c : Int
  d : Int
def two4 (t : T4) : VP := two t.a t.b t.c t.d
def lnA (n : Nat) : List VP := outs2 (fun i => i + 1) (fun i j => two i j (i + 1) j) n
def lnB (n : Nat) : List VP := outs2 (fun i => i + 1) (fun i j => two i j (i + 1) (j + 1)) n
def lnC (n : Nat) : List VP := outs2 (fun i => i + 1) (fun i j => two (1 + i) j (1 + i) (j + 1)) n
def edg (kvs : List (List Int × Int)) (n : Nat) : Nat := cntB (fun i => e01 (nam kvs (i : Nat) 0) (nam kvs ((i : Nat) + 1) 0)) n
def ln (l : List T4) (i : Nat) : T4 := l.getD i ⟨0, 0, 0, 0⟩
def mrk (kvs : List (List Int × Int)) (l : List T4) : Nat := cntB (fun i => e01 (nam kvs (ln l i).a (ln l i).b) (nam kvs (ln l i).c (ln l i).d)) l.length
theorem outs2_seq {cnt : Nat → Nat} {Ro : Nat → Nat → VP} (h : ∀ i j, SeqOk (Ro i j)) : ∀ n, ∀ R ∈ outs2 cnt Ro n, SeqOk R
  | 0, _, hm => nomatch hm
  | i + 1, R, hm => by
    unfold outs2 at hm
    rcases List.mem_append.mp hm with hm | hm
    · exact outs2_seq h i R hm
    · have : ∀ k, ∀ R ∈ outs (fun _ => true) (Ro i) k, SeqOk R := by
        intro k
        induction k with
        | zero => intro R hR; exact nomatch hR
        | succ k ih =>
          intro R hR
          unfold outs at hR
          rcases List.mem_append.mp hR with hR | hR
          · exact ih R hR
          · rw [if_pos rfl] at hR
            rw [List.mem_singleton.mp hR]; exact h i k
      exact this _ R hm
theorem two_seq (a b c d : Int) : SeqOk (two a b c d) := SeqOk.tup (SeqOk.cons (SeqOk.tup (SeqOk.cons (SeqOk.int _) (SeqOk.cons (SeqOk.int _) SeqOk.nil))) (SeqOk.cons (SeqOk.tup (SeqOk.cons (SeqOk.int _) (SeqOk.cons (SeqOk.int _) SeqOk.nil))) SeqOk.nil))

section
variable {prog : Program} {w : World} {A : Around} {env : Env} {g : Heap} {m mg mb : Str → Option Value} {s : Shared} {E : Value → Shared → Prop}

theorem law_edge {L a B n : Nat} {tn : Tok} {cd : Value} {kvs : List (List Int × Int)} {nv : Value} {rest : List Stmt} {Q : Flow → Shared → Prop} (G : Gl mg mb g) (hh : A.handled = none) (hu : A.units + 300 < cLine)
    (hz : g.IsCell (L + 1) (some (.int (n : Int) tn))) (hn : g.IsCell (L + 2) (some nv)) (hnv : (vNames prog w B kvs).P g nv) (hn20 : n ≤ 20) (hlk : ∀ i : Nat, i ≤ n → look kvs [(i : Int), 0] = some (nam kvs i 0))
    (k : Kp g s.heap) (ns : s.heap.Ns L m) (hr : rest = (bodyAt 15).drop 9)
    (hQ : ∀ s' t, Rest s s' → KpN [L] s.heap s'.heap → s'.heap.Ns L (upd m "edge" (.int (edg kvs n : Nat) t)) → wpAny (model prog w) A (execs rest (lawEnv L a cd)) Q E s') :
    wpAny (model prog w) A (execs ((bodyAt 15).drop 8) (lawEnv L a cd)) Q E s := by
  subst hr
  rw [show (bodyAt 15).drop 8 = _ :: (bodyAt 15).drop 9 from rfl]
  have hit : Iter prog w A g (vRange 0 n) ((List.range n).map fun (i : Nat) => vInt (i : Int)) := iter_r hh (by decide) (by decide) (by omega) (by omega) (by intro i; omega)
  have hlen : ((List.range n).map fun (i : Nat) => vInt (i : Int)).length = n := by rw [List.length_map, List.length_range]
  refine wpAny_execs_cons (st_assign (g := g) (R := vInt (edg kvs n : Nat)) (ev_cast (ev_len (Rs := outs (fun i => e01 (nam kvs (i : Nat) 0) (nam kvs ((i : Nat) + 1) 0)) (fun i => vInt (i : Int)) ((List.range n).map fun (i : Nat) => vInt (i : Int)).length) G
    (ev_comp1 (x := "row") (cl := [(Str.ofString "names", L + 2)]) (b := fun i => e01 (nam kvs (i : Nat) 0) (nam kvs ((i : Nat) + 1) 0)) (Ro := fun i => vInt (i : Int)) (ev_range1 G (ev_cell (c := L + 1) rfl hz ⟨tn, rfl⟩)) hit (by rw [hlen]; omega) (fun i => TupOk.int _) (fun C g₁ i T m₂ v kg hT hTv hm => ?_))
    (Nat.lt_of_le_of_lt (outs_len _ _ _) (by rw [hlen]; omega))) (by rw [outs_len_cnt, hlen]; rfl)) (SeqOk.int _) k ns fun sv s₂ hsv r₂ kn₂ ks₂ n₂ => ?_)
  · have hi : i < n := by
      rcases Nat.lt_or_ge i n with h | h
      · exact h
      · rw [List.getElem?_map, List.getElem?_eq_none (by simpa using h)] at hT; cases hT
    have hTe : T = vInt (i : Int) := by
      rw [List.getElem?_map, List.getElem?_range hi] at hT
      exact (Option.some.inj hT).symm
    subst hTe
    refine ⟨evTs_one (evT_cmp (ev_sorted (ns := [nam kvs (i : Nat) 0, nam kvs ((i : Nat) + 1) 0]) (G.keeps kg) (ev_list2 ?_ ?_) (by exact Nat.le_of_ble_eq_true rfl)) (ev_list2 ev_int ev_int) (cmp_eq_ints (by omega))), fun _ => ev_local hm hTv⟩
    · exact ev_names (B := B) (kvs := kvs) (by omega) (ev_cell (c := L + 2) rfl (hn.keeps kg) (VP.st _ kg hnv)) (ev_pt (ev_local hm hTv) ev_int) (hlk i (by omega))
    · refine ev_names (B := B) (kvs := kvs) (by omega) (ev_cell (c := L + 2) rfl (hn.keeps kg) (VP.st _ kg hnv)) (ev_pt (ev_add (ev_local hm hTv) ev_int) ev_int) ?_
      have := hlk (i + 1) (by omega)
      push_cast at this
      exact this
  · obtain ⟨t, rfl⟩ := hsv
    exact hQ s₂ t r₂ kn₂ n₂

theorem law_lines {L a n : Nat} {tn : Tok} {cd : Value} {Q : Flow → Shared → Prop} (G : Gl mg mb g) (hh : A.handled = none)
    (hz : g.IsCell (L + 1) (some (.int (n : Int) tn))) (hn20 : n ≤ 20)
    (k : Kp g s.heap) (ns : s.heap.Ns L m)
    (hQ : ∀ v s', (vList (lnA n ++ lnB n ++ lnC n)).P s'.heap v → Rest s s' → KpN [L] s.heap s'.heap → KpS s.heap s'.heap → s'.heap.Ns L (upd m "lines" v) → wpAny (model prog w) A (execs ((bodyAt 15).drop 10) (lawEnv L a cd)) Q E s') :
    wpAny (model prog w) A (execs ((bodyAt 15).drop 9) (lawEnv L a cd)) Q E s := by
  rw [show (bodyAt 15).drop 9 = _ :: (bodyAt 15).drop 10 from rfl]
  have hl : ∀ (Ro : Nat → Nat → VP) (i : Nat), i ≤ n → (outs2 (fun i => i + 1) Ro i).length ≤ 441 := fun Ro i hi =>
    Nat.le_trans (outs2_le (b := 21) i fun j hj => by omega) (Nat.le_trans (Nat.mul_le_mul_right 21 (show i ≤ 20 by omega)) (by decide))
  have sz : Ev prog w A (lawEnv L a cd) g m (.Name "size" ⟨141, 49, 141, 53⟩) (vInt (n : Int)) := ev_cell (c := L + 1) rfl hz ⟨tn, rfl⟩
  refine wpAny_execs_cons (st_assign (g := g) (R := vList (lnA n ++ lnB n ++ lnC n)) (ev_addlist (ev_addlist (Rs := lnA n) (Ss := lnB n)
    (ev_comp2 (n := n) (cl := []) (fun i => (i : Int)) (fun i => i + 1) (fun _ j => (j : Int)) (fun i => vRange 0 (i + 1)) (fun i j => two i j (i + 1) j) (fun i hi => by omega) (fun i hi => Nat.le_trans (hl _ i hi) (by decide))
      (ev_range1 G (ev_cell (c := L + 1) rfl hz ⟨tn, rfl⟩)) (iterF_r hh (by decide) (by decide) (by omega) (by omega) (by intro i; omega)) (fun i j => two_tup _ _ _ _) (by decide)
      (fun C g₁ i m₂ t kg hi hm => ⟨ev_range1 (G.keeps kg) (ev_add (ev_local hm ⟨t, rfl⟩) ev_int), iterF_r hh (by decide) (by decide) (by omega) (by omega) (by intro j; omega)⟩)
      (fun C g₁ i j m₂ t u kg hi hj h0 h1 => ev_tuple (evs_cons (ev_pt (ev_local h0 ⟨t, rfl⟩) (ev_local h1 ⟨u, rfl⟩)) (evs_cons (ev_pt (ev_add (ev_local h0 ⟨t, rfl⟩) ev_int) (ev_local h1 ⟨u, rfl⟩)) evs_nil))))
    (ev_comp2 (n := n) (cl := []) (fun i => (i : Int)) (fun i => i + 1) (fun _ j => (j : Int)) (fun i => vRange 0 (i + 1)) (fun i j => two i j (i + 1) (j + 1)) (fun i hi => by omega) (fun i hi => Nat.le_trans (hl _ i hi) (by decide))
      (ev_range1 G (ev_cell (c := L + 1) rfl hz ⟨tn, rfl⟩)) (iterF_r hh (by decide) (by decide) (by omega) (by omega) (by intro i; omega)) (fun i j => two_tup _ _ _ _) (by decide)
      (fun C g₁ i m₂ t kg hi hm => ⟨ev_range1 (G.keeps kg) (ev_add (ev_local hm ⟨t, rfl⟩) ev_int), iterF_r hh (by decide) (by decide) (by omega) (by omega) (by intro j; omega)⟩)
      (fun C g₁ i j m₂ t u kg hi hj h0 h1 => ev_tuple (evs_cons (ev_pt (ev_local h0 ⟨t, rfl⟩) (ev_local h1 ⟨u, rfl⟩)) (evs_cons (ev_pt (ev_add (ev_local h0 ⟨t, rfl⟩) ev_int) (ev_add (ev_local h1 ⟨u, rfl⟩) ev_int)) evs_nil))))
    (Nat.le_trans (hl _ n (Nat.le_refl _)) (by decide)) (Nat.le_trans (hl _ n (Nat.le_refl _)) (by decide)))
    (ev_comp2 (n := n) (cl := []) (fun i => 1 + (i : Int)) (fun i => i + 1) (fun _ j => (j : Int)) (fun i => vRange 0 (1 + i)) (fun i j => two (1 + i) j (1 + i) (j + 1)) (fun i hi => by omega) (fun i hi => Nat.le_trans (hl _ i hi) (by decide))
      (ev_range2 G ev_int (ev_add (ev_cell (c := L + 1) rfl hz ⟨tn, rfl⟩) ev_int)) (iterF_r hh (by decide) (by decide) (by omega) (by omega) (by intro i; omega)) (fun i j => two_tup _ _ _ _) (by decide)
      (fun C g₁ i m₂ t kg hi hm => ⟨ev_range1 (G.keeps kg) (ev_local hm ⟨t, rfl⟩), iterF_r hh (by decide) (by decide) (by omega) (by omega) (by intro j; omega)⟩)
      (fun C g₁ i j m₂ t u kg hi hj h0 h1 => ev_tuple (evs_cons (ev_pt (ev_local h0 ⟨t, rfl⟩) (ev_local h1 ⟨u, rfl⟩)) (evs_cons (ev_pt (ev_local h0 ⟨t, rfl⟩) (ev_add (ev_local h1 ⟨u, rfl⟩) ev_int)) evs_nil))))
    (by rw [List.length_append]; have := hl (fun i j => two i j (i + 1) j) n (Nat.le_refl _); have := hl (fun i j => two i j (i + 1) (j + 1)) n (Nat.le_refl _); unfold lnA lnB; omega) (Nat.le_trans (hl _ n (Nat.le_refl _)) (by decide)))
    (SeqOk.list fun R hR => ?_) k ns fun sv s₂ hsv r₂ kn₂ ks₂ n₂ => ?_)
  · rcases List.mem_append.mp hR with hR | hR
    · rcases List.mem_append.mp hR with hR | hR
      · exact outs2_seq (fun _ _ => two_seq _ _ _ _) n R hR
      · exact outs2_seq (fun _ _ => two_seq _ _ _ _) n R hR
    · exact outs2_seq (fun _ _ => two_seq _ _ _ _) n R hR
  · exact hQ sv s₂ hsv r₂ kn₂ ks₂ n₂
end
end Mine
open PySem PySem.W PySem.Calls PyProof.Rows
set_option Elab.async false
set_option maxRecDepth 100000
namespace Mine
section
variable {prog : Program} {w : World} {A : Around} {env : Env} {g : Heap} {m mg mb : Str → Option Value} {s : Shared} {E : Value → Shared → Prop}

theorem law_mark {L a B : Nat} {cd : Value} {kvs : List (List Int × Int)} {nv lv : Value} {l : List T4} {Q : Flow → Shared → Prop} (G : Gl mg mb g) (hh : A.handled = none) (hu : A.units + 300 < cLine)
    (hn : g.IsCell (L + 2) (some nv)) (hnv : (vNames prog w B kvs).P g nv) (hm : m "lines" = some lv) (hlv : (vList (l.map two4)).P g lv) (hl : l.length < 1000)
    (hlk : ∀ t ∈ l, look kvs [t.a, t.b] = some (nam kvs t.a t.b) ∧ look kvs [t.c, t.d] = some (nam kvs t.c t.d))
    (k : Kp g s.heap) (ns : s.heap.Ns L m)
    (hQ : ∀ s' t, Rest s s' → KpN [L] s.heap s'.heap → s'.heap.Ns L (upd m "marked" (.int (mrk kvs l : Nat) t)) → wpAny (model prog w) A (execs ((bodyAt 15).drop 11) (lawEnv L a cd)) Q E s') :
    wpAny (model prog w) A (execs ((bodyAt 15).drop 10) (lawEnv L a cd)) Q E s := by
  rw [show (bodyAt 15).drop 10 = _ :: (bodyAt 15).drop 11 from rfl]
  have hlen : (l.map two4).length = l.length := List.length_map ..
  have hget : ∀ i, i < l.length → l[i]? = some (ln l i) := fun i hi => by
    unfold ln
    rw [List.getElem?_eq_getElem hi, List.getD_eq_getElem?_getD, List.getElem?_eq_getElem hi]; rfl
  refine wpAny_execs_cons (st_assign (g := g) (R := vInt (mrk kvs l : Nat)) (ev_cast (ev_len (Rs := outs (fun i => e01 (nam kvs (ln l i).a (ln l i).b) (nam kvs (ln l i).c (ln l i).d)) (fun _ => vInt 1) (l.map two4).length) G
    (ev_comp1P (x := "one") (y := "other") (cl := [(Str.ofString "names", L + 2)]) (Rs := l.map two4) (b := fun i => e01 (nam kvs (ln l i).a (ln l i).b) (nam kvs (ln l i).c (ln l i).d)) (Ro := fun _ => vInt 1) (S := fun i => pt (ln l i).a (ln l i).b) (T := fun i => pt (ln l i).c (ln l i).d)
      hh (ev_local hm hlv) (fun i hi => ?_) (by rw [hlen]; omega) (fun i => TupOk.int _) (by decide) (fun C g₁ i m₂ v1 v2 kg hi hv1 hv2 hm1 hm2 => ?_))
    (Nat.lt_of_le_of_lt (outs_len _ _ _) (by rw [hlen]; omega))) (by rw [outs_len_cnt, hlen]; rfl)) (SeqOk.int _) k ns fun sv s₂ hsv r₂ kn₂ ks₂ n₂ => ?_)
  · rw [hlen] at hi
    rw [List.getElem?_map, hget i hi]; rfl
  · rw [hlen] at hi
    obtain ⟨l1, l2⟩ := hlk (ln l i) (List.mem_of_getElem? (hget i hi))
    refine ⟨evTs_one (evT_cmp (ev_sorted (ns := [nam kvs (ln l i).a (ln l i).b, nam kvs (ln l i).c (ln l i).d]) (G.keeps kg) (ev_list2 ?_ ?_) (by exact Nat.le_of_ble_eq_true rfl)) (ev_list2 ev_int ev_int) (cmp_eq_ints (by omega))), fun _ => ev_int⟩
    · exact ev_names (B := B) (kvs := kvs) (by omega) (ev_cell (c := L + 2) rfl (hn.keeps kg) (VP.st _ kg hnv)) (ev_local hm1 hv1) l1
    · exact ev_names (B := B) (kvs := kvs) (by omega) (ev_cell (c := L + 2) rfl (hn.keeps kg) (VP.st _ kg hnv)) (ev_local hm2 hv2) l2
  · obtain ⟨t, rfl⟩ := hsv
    exact hQ s₂ t r₂ kn₂ n₂

theorem law_check {L a B n : Nat} {tn te tm : Tok} {cd : Value} {tv : Value} {ed mk : Nat} {w0 w1 w2 w3 : Int} {Q : Flow → Shared → Prop}
    (hz : g.IsCell (L + 1) (some (.int (n : Int) tn))) (h1 : m "edge" = some (.int (ed : Int) te)) (h2 : m "marked" = some (.int (mk : Int) tm)) (h3 : m "whole" = some tv) (htv : (vTally prog w B w0 w1 w2 w3).P g tv) (hn20 : n ≤ 20)
    (c1 : (ed : Int).fmod 2 = 1) (c2 : w1.fmod 2 = 1) (c3 : w0 = 2 * (mk : Int) - ed) (c4 : w2 = (n : Int) * n)
    (k : Kp g s.heap) (ns : s.heap.Ns L m)
    (hQ : ∀ s', Keeps s s' → wpAny (model prog w) A (execs ((bodyAt 15).drop 12) (lawEnv L a cd)) Q E s') :
    wpAny (model prog w) A (execs ((bodyAt 15).drop 11) (lawEnv L a cd)) Q E s := by
  rw [show (bodyAt 15).drop 11 = _ :: (bodyAt 15).drop 12 from rfl]
  have hw : ∀ p, Ev prog w A (lawEnv L a cd) g m (.Name "whole" p) (vTup [vInt w0, vInt w1, vInt w2, vInt w3, vD0 prog w B]) := fun p => ev_local h3 htv
  have b1 : (!decide ((ed : Int).fmod 2 = 1)) = false := by rw [decide_eq_true c1]; rfl
  have b2 : (!decide (w1.fmod 2 = 1)) = false := by rw [decide_eq_true c2]; rfl
  have b3 : (!decide (w0 = 2 * (mk : Int) - ed)) = false := by rw [decide_eq_true c3]; rfl
  have b4 : (!decide (w2 = (n : Int) * n)) = false := by rw [decide_eq_true c4]; rfl
  refine wpAny_execs_cons (st_if (g := g) (c := (!decide ((ed : Int).fmod 2 = 1)) || ((!decide (w1.fmod 2 = 1)) || ((!decide (w0 = 2 * (mk : Int) - ed)) || (!decide (w2 = (n : Int) * n)))))
    (evT_or4 (evT_cmp (R := vInt ((ed : Int).fmod 2)) (S := vInt 1) (ev_mod (ev_local h1 ⟨te, rfl⟩) ev_int (by decide)) ev_int cmp_ne_int)
      (evT_cmp (R := vInt (w1.fmod 2)) (S := vInt 1) (ev_mod (ev_itemT (k := 1) (hw _) ev_int (by decide) (by decide) (by simp) rfl) ev_int (by decide)) ev_int cmp_ne_int)
      (evT_cmp (R := vInt w0) (S := vInt (2 * (mk : Int) - ed)) (ev_itemT (k := 0) (hw _) ev_int (by decide) (by decide) (by simp) rfl) (ev_sub (ev_mul ev_int (ev_local h2 ⟨tm, rfl⟩) (IntMulOk.of_left (by decide))) (ev_local h1 ⟨te, rfl⟩)) cmp_ne_int)
      (evT_cmp (R := vInt w2) (S := vInt ((n : Int) * n)) (ev_itemT (k := 2) (hw _) ev_int (by decide) (by decide) (by simp) rfl) (ev_mul (ev_cell (c := L + 1) rfl hz ⟨tn, rfl⟩) (ev_cell (c := L + 1) rfl hz ⟨tn, rfl⟩) (IntMulOk.of_left (bits_le (k := 64) (by omega)))) cmp_ne_int))
    k ns (fun s₃ hcc _ => by rw [b1, b2, b3, b4] at hcc; cases hcc) fun s₃ _ k₃ => wpAny_execs_nil (hQ s₃ k₃))
end
end Mine
open PySem PySem.W PySem.Calls PyProof.Rows
set_option Elab.async false
set_option maxRecDepth 100000
namespace Mine

/-- a dict whose entries are these -/
def RawD (h : Heap) (d : Addr) (es : Array DictEntry) (ep : Nat) : Prop := ∃ o, h.get? d = some o ∧ o.ExactDict ∧ o.data = .dict es ep
theorem RawD.kp {h h' : Heap} {d : Addr} {es : Array DictEntry} {ep : Nat} (x : RawD h d es ep) (k : ∀ o, h.get? d = some o → h'.get? d = some o) : RawD h' d es ep := by
  obtain ⟨o, e, r⟩ := x
  exact ⟨o, k o e, r⟩
theorem RawD.typeIs {s : Shared} {d : Addr} {es : Array DictEntry} {ep : Nat} (x : RawD s.heap d es ep) : s.TypeIs (.ref d) "dict" := by
  obtain ⟨o, e, hc, _⟩ := x
  exact ⟨o, e, hc.1⟩

section
variable {prog : Program} {w : World} {A : Around} {env : Env} {E : Value → Shared → Prop} {s : Shared}

/-- ALL items of such a dict, whatever its keys -/
theorem raw_items_call {o : Expr} {apos pos : Pos} {d : Addr} {es : Array DictEntry} {ep : Nat} {Q : Value → Shared → Prop} (hd : (d == sysModules) = false) (hm : RawD s.heap d es ep)
    (hbase : attributeBase o "items" env (eval o env) = eval o env) (hline : (apos.endLine == pos.line) = true) (ho : ∀ Q', Q' (.ref d) s → wpAny (model prog w) A (eval o env) Q' E s)
    (hQ : Q (.ref s.heap.objs.size) { s with heap := s.heap.push { cls := .type "dict_items", data := .fields #[.ref d] } }) :
    wpAny (model prog w) A (eval (.Call (.Attribute o "items" apos) [] [] pos) env) Q E s := by
  refine Call_method0 hbase hline (ho _ ⟨"dict", "dict.items", F.plainAttrs_dict, F.slot_dict_items, F.type_dict_items, hm.typeIs, fun a e => ?_, ?_⟩)
  · cases e
    obtain ⟨ob, e, hc, _⟩ := hm
    exact ⟨ob, e, hc.2.1⟩
  · have M : MeetsIn prog w (Builtin.«dict.items» ⟨[.ref d], []⟩) (fun _ R s => RawD s.heap d es ep ∧ R (.ok (.ret (.ref s.heap.objs.size))) { s with heap := s.heap.push { cls := .type "dict_items", data := .fields #[.ref d] } }) :=
      .of_wp fun A R s ⟨hm, h⟩ => by
        unfold Builtin.«dict.items» Builtin.Dict.noArgs
        refine wpAny_bind (wpAny_bind (wpAny_notOrdered_dict hm.typeIs (wpAny_pure ?_)))
        show wpAny _ _ (Builtin.Dict.showsAll d >>= _) _ _ s
        unfold Builtin.Dict.showsAll
        rw [if_neg (by rw [hd]; exact Bool.false_ne_true)]
        exact wpAny_bind (wpAny_pure (wpAny_bind (wpAny_newObj_type (wpAny_pure ⟨_, rfl, h⟩))))
    exact method_meetsIn F.slot_dict_items F.entry_dict_items rfl (PySem.evalArgs_none ⟨rfl, hm.typeIs, F.args_dict_items_1 _, _, M, hm, hQ⟩)

theorem raw_pyIter {v d : Addr} {es : Array DictEntry} {ep : Nat} {Q : Value → Shared → Prop} (hv : s.heap.IsItemsView v d) (hm : RawD s.heap d es ep)
    (hQ : Q (.ref s.heap.objs.size) { s with heap := s.heap.push { cls := .type "dict_itemiterator", data := .fields #[.none, .bool false, .ref d, .int 0 0, .int es.size 0, .int ep 0, .none, .none] } }) :
    wpAny (model prog w) A (pyIter (.ref v)) Q E s := by
  obtain ⟨ov, hov, hcv, hdv⟩ := id hv
  obtain ⟨o, ho, hc, hdat⟩ := id hm
  refine wpAny_pyIter_slot hv.typeIs F.slot_dict_items_iter (wpAny_call_entry F.slot_dict_items_iter hv.typeIs F.entry_dict_items_iter ?_ (F.args_dict_items_iter_1 _))
  unfold Builtin.«dict_items.__iter__» Builtin.Dict_items.dictOf Builtin.Dict_items.newIterator
  refine wpAny_bind (wpAny_pure (wpAny_bind (wpAny_bind (wpAny_field hov hdv (x := .ref d) rfl (wpAny_pure ?_)))))
  refine wpAny_bind (wpAny_bind (wpAny_dictEntries ho hdat (wpAny_bind (wpAny_dictEpoch ho hdat ?_))))
  have hown : Builtin.Dict_items.ownsTuple "dict_itemiterator" = true := by decide
  simp only [hown, if_true]
  refine wpAny_newObj_type (wpAny_pure ⟨_, rfl, "dict_itemiterator", _, ⟨_, Heap.get?_push_size _ rfl, rfl⟩, F.slot_dict_itemiterator_next.lookup, ?_⟩)
    (by simp only [sizeOk, Builtin.Dict_items.ownedTupleFields, List.size_toArray, List.length_append, List.length_cons, List.length_nil, sizeLine_eq]; omega)
  simpa [rawInt, Builtin.Dict_items.ownedTupleFields] using hQ

/-- one item more of such a dict -/
theorem raw_next {it d : Addr} {i ep : Nat} {es : Array DictEntry} {e : DictEntry} {ok ov : Value} {Q : Option Value → Shared → Prop} (hit : IsItemIter s.heap it d i es.size ep ok ov) (hm : RawD s.heap d es ep) (hx : es[i]? = some e)
    (hQ : ∀ h', IsItemIterOut h' it d (i + 1) es.size ep e.key e.val s.heap.objs.size → h'.get? s.heap.objs.size = some { cls := .type "tuple", data := .seq #[e.key, e.val] } →
      (∀ b o, b ≠ it → s.heap.get? b = some o → h'.get? b = some o) → Q (some (.ref s.heap.objs.size)) { s with heap := h' }) : wpAny (model prog w) A (pyNext (.ref it)) Q E s := by
  obtain ⟨hp, g, dr, tk, os⟩ := s
  obtain ⟨od, hod, _, hdd⟩ := id hm
  have hT : ∀ {h : Heap} {o : Obj}, h.get? it = some o → o.cls = .type "dict_itemiterator" → Shared.TypeIs ⟨h, g, dr, tk, os⟩ (.ref it) "dict_itemiterator" := fun e c => ⟨_, e, c⟩
  have hT₀ := hT hit rfl
  have hown : Builtin.Dict_items.ownsTuple "dict_itemiterator" = true := by decide
  have hlt : i < es.size := (Array.getElem?_eq_some_iff.mp hx).1
  have hil : it < hp.objs.size := Heap.lt_size hit
  unfold pyNext
  refine wpAny_bind (wpAny_attempt (wpAny_callSpecial?_slot (name := Str.ofString "__next__") hT₀ F.slot_dict_itemiterator_next
    (wpAny_call_entry F.slot_dict_itemiterator_next hT₀ F.entry_dict_itemiterator_next ?_ (F.args_dict_itemiterator_next_1 _))))
  refine wpAny_bind (wpAny_pure (wpAny_bind (wpAny_bind (wpAny_bind ?_))))
  refine wpAny_typeNameOfWhole_itemiter hT₀ (wpAny_pure (wpAny_bind (wpAny_fieldsOf hit rfl ?_)))
  simp only [hown, if_true]
  show wpAny _ _ (if (Value.ref d == Value.none) = true then _ else _) _ _ _
  rw [if_neg (show ¬ ((Value.ref d == Value.none) = true) from Bool.false_ne_true)]
  refine wpAny_bind (wpAny_pure (wpAny_bind (wpAny_dictEntries hod hdd ?_)))
  rw [if_neg (by simp)]
  refine wpAny_bind (wpAny_pure (wpAny_bind (wpAny_dictEpoch hod hdd ?_)))
  rw [if_neg (by simp)]
  refine wpAny_pure ?_
  simp only [show ¬ ((i : Int) < 0) from by omega, if_false, Int.toNat_natCast, hx]
  refine wpAny_bind (wpAny_bind (wpAny_typeNameOfWhole_itemiter hT₀ (wpAny_pure ?_)))
  refine wpAny_bind (wpAny_isOneOf_itemiter hT₀ ?_)
  show wpAny _ _ (setField (.ref it) 3 (rawInt ((i : Int) + 1)) >>= _) _ _ ⟨hp, g, dr, tk, os⟩
  refine wpAny_bind (wpAny_setField_rec hit (by simp) fun h₁ he₁ hs₁ => ?_)
  have e1 : ((i + 1 : Nat) : Int) = (i : Int) + 1 := by omega
  have he₁' : IsItemIter h₁ it d (i + 1) es.size ep ok ov := by unfold IsItemIter; rw [e1]; simpa [rawInt] using he₁
  refine wpAny_bind (wpAny_holding (wpAny_bind (wpAny_isOneOf_itemiter (hT he₁' rfl) (wpAny_bind (wpAny_isOneOf_itemiter (hT he₁' rfl) ?_)))))
  show wpAny _ _ (Builtin.Dict_items.pairFromOwner (.ref it) 6 e.key e.val) _ _ ⟨h₁, g, dr, tk, os⟩
  unfold Builtin.Dict_items.pairFromOwner
  refine wpAny_bind (wpAny_newTuple ?_)
  have hz₁ : h₁.objs.size = hp.objs.size := hs₁.1
  have he₂ : IsItemIter (h₁.push { cls := .type "tuple", data := .seq #[e.key, e.val] }) it d (i + 1) es.size ep ok ov := Heap.get?_push_of_some _ he₁'
  have ht₂ : (h₁.push { cls := .type "tuple", data := .seq #[e.key, e.val] }).get? hp.objs.size = some { cls := .type "tuple", data := .seq #[e.key, e.val] } := by rw [← hz₁]; exact Heap.get?_push_size _ rfl
  have hk₂ : ∀ b o, b ≠ it → hp.get? b = some o → (h₁.push { cls := .type "tuple", data := .seq #[e.key, e.val] }).get? b = some o := fun b o hb q => Heap.get?_push_of_some _ (hs₁.extBut b o hb q)
  show wpAny _ _ (Builtin.Dict_items.ownedTupleIsFree (.ref it) >>= _) _ _ ⟨h₁.push { cls := .type "tuple", data := .seq #[e.key, e.val] }, g, dr, tk, os⟩
  rw [show h₁.objs.size = hp.objs.size from hz₁]
  generalize h₁.push { cls := .type "tuple", data := .seq #[e.key, e.val] } = h₂ at he₂ ht₂ hk₂
  unfold Builtin.Dict_items.ownedTupleIsFree
  refine wpAny_bind (wpAny_bind (wpAny_field he₂ rfl (x := .none) rfl (wpAny_pure ?_)))
  simp only [if_true]
  refine wpAny_bind (wpAny_field he₂ rfl (x := ok) rfl (wpAny_bind (wpAny_field he₂ rfl (x := ov) rfl ?_)))
  refine wpAny_bind (wpAny_setField_rec he₂ (by simp) fun h₃ he₃ hs₃ => ?_)
  replace he₃ : IsItemIter h₃ it d (i + 1) es.size ep e.key ov := he₃
  refine wpAny_bind (wpAny_setField_rec he₃ (by simp) fun h₄ he₄ hs₄ => ?_)
  replace he₄ : IsItemIter h₄ it d (i + 1) es.size ep e.key e.val := he₄
  refine wpAny_bind (wpAny_setField_rec he₄ (by simp) fun h₅ he₅ hs₅ => ?_)
  replace he₅ : IsItemIterOut h₅ it d (i + 1) es.size ep e.key e.val hp.objs.size := he₅
  refine wpAny_bind (wpAny_setField_rec he₅ (by simp) fun h₆ he₆ hs₆ => ?_)
  have all : ∀ b o, b ≠ it → h₂.get? b = some o → h₆.get? b = some o := fun b o hb q => hs₆.extBut b o hb (hs₅.extBut b o hb (hs₄.extBut b o hb (hs₃.extBut b o hb q)))
  exact wpAny_bind (wpAny_letGo (wpAny_pure (wpAny_pure ⟨_, rfl, wpAny_pure (hQ h₆ he₆ (all _ _ (Nat.ne_of_gt hil) ht₂) fun b o hb q => all b o hb (hk₂ b o hb q))⟩)))
theorem raw_next_end {it d : Addr} {ep : Nat} {es : Array DictEntry} {ok ov : Value} {Q : Option Value → Shared → Prop} (hh : A.handled = none) (hit : IsItemIter s.heap it d es.size es.size ep ok ov) (hm : RawD s.heap d es ep)
    (hQ : ∀ h', Heap.ExtBut it s.heap h' → Q none { s with heap := h' }) : wpAny (model prog w) A (pyNext (.ref it)) Q E s := by
  obtain ⟨od, hod, _, hdd⟩ := id hm
  have hT : s.TypeIs (.ref it) "dict_itemiterator" := ⟨_, hit, rfl⟩
  have hown : Builtin.Dict_items.ownsTuple "dict_itemiterator" = true := by decide
  unfold pyNext
  refine wpAny_bind (wpAny_attempt (wpAny_callSpecial?_slot (name := Str.ofString "__next__") hT F.slot_dict_itemiterator_next
    (wpAny_call_entry F.slot_dict_itemiterator_next hT F.entry_dict_itemiterator_next ?_ (F.args_dict_itemiterator_next_1 _))))
  refine wpAny_bind (wpAny_pure (wpAny_bind (wpAny_bind (wpAny_bind ?_))))
  refine wpAny_typeNameOfWhole_itemiter hT (wpAny_pure (wpAny_bind (wpAny_fieldsOf hit rfl ?_)))
  simp only [hown, if_true]
  show wpAny _ _ (if (Value.ref d == Value.none) = true then _ else _) _ _ s
  rw [if_neg (show ¬ ((Value.ref d == Value.none) = true) from Bool.false_ne_true)]
  refine wpAny_bind (wpAny_pure (wpAny_bind (wpAny_dictEntries hod hdd ?_)))
  rw [if_neg (by simp)]
  refine wpAny_bind (wpAny_pure (wpAny_bind (wpAny_dictEpoch hod hdd ?_)))
  rw [if_neg (by simp)]
  refine wpAny_pure ?_
  simp only [show ¬ ((es.size : Int) < 0) from by omega, if_false, Int.toNat_natCast, Array.getElem?_eq_none (Nat.le_refl es.size)]
  refine wpAny_bind (wpAny_bind (wpAny_typeNameOfWhole_itemiter hT (wpAny_pure ?_)))
  show wpAny _ _ (setField (.ref it) 2 .none >>= _) _ _ s
  refine wpAny_bind (wpAny_setField hit rfl (by simp) ?_)
  show wpAny _ _ (newExc (.type "StopIteration") [] >>= _) _ _ _
  refine wpAny_bind ?_
  simp only [newExc, newTuple]
  refine wpAny_bind (wpAny_newObj_type ?_ (by size_fits))
  refine wpAny_bind (m := firstArgMember _ _) (wpAny_of_eq (a := Value.none) (by first | rfl | (simp only [firstArgMember]; rfl)) ?_)
  refine wpAny_newObj_type ?_ (by size_fits)
  simp only [raiseNew]
  refine wpAny_bind (wpAny_handled ?_)
  rw [show A.in1.handled = none from hh]
  refine wpAny_bind (wpAny_pure (wpAny_throw ?_))
  refine wpAny_bind (wpAny_isInstance (T := "StopIteration") (b := true) ⟨_, Heap.get?_push_size _ rfl, rfl⟩ isSubtype_stop ?_)
  exact wpAny_pure (hQ _ (((Heap.SameBut.update ..).extBut.push _).push _))
end
end Mine
open PySem PySem.W PySem.Calls PyProof.Rows
set_option Elab.async false
set_option maxRecDepth 100000
namespace Mine

theorem KVs.get : ∀ {kvs : List (List Int × Int)} {xs : List (List Int × Addr × Value)}, KVs kvs xs → ∀ {i : Nat} {p : List Int × Int}, kvs[i]? = some p → ∃ x, xs[i]? = some x ∧ p.1 = x.1 ∧ ∃ t, x.2.2 = .int p.2 t
  | p :: _, x :: _, y, 0, _, e => by cases e; exact ⟨x, rfl, y.1.1, y.1.2⟩
  | _ :: _, _ :: _, y, i + 1, _, e => KVs.get y.2 (i := i) (by simpa using e)
theorem pt_of_key {prog : Program} {w : World} {h : Heap} {r c : Int} {a : Addr} (x : (Kd prog w).is h [r, c] a) : (pt r c).P h (.ref a) := by
  obtain ⟨o, its, n, ho, hc, hd, hI⟩ := x
  obtain ⟨vs⟩ := its
  refine ⟨a, vs, rfl, ⟨o, ho, hc, n, hd⟩, ?_⟩
  cases hI with
  | cons h1 hr =>
    cases hr with
    | cons h2 hr2 =>
      cases hr2
      refine ⟨?_, ?_, trivial⟩
      · rename_i v u
        clear h2 hd
        cases v with
        | int i t => exact ⟨t, by simp [intKind, Value.isInt] at h1; rw [h1]⟩
        | _ => simp [intKind, Value.isInt] at h1
      · rename_i v u
        clear h1 hd
        cases u with
        | int i t => exact ⟨t, by simp [intKind, Value.isInt] at h2; rw [h2]⟩
        | _ => simp [intKind, Value.isInt] at h2
section
variable {prog : Program} {w : World} {A : Around} {env : Env} {g : Heap} {m mg mb : Str → Option Value} {s : Shared} {E : Value → Shared → Prop}

theorem ev_compItems {elt : Expr} {nm x y : Str} {np apos cpos px py tp pos : Pos} {kk : Nat} {scope : Scope} {cl : List (Str × Addr)} {c d : Addr} {kvs : List (List Int × Int)} {xs : List (List Int × Addr × Value)} {Ro : Nat → VP}
    (hh : A.handled = none) (hdS : (d == sysModules) = false) (hcc : env.cells.lookup nm = some c) (hcv : g.IsCell c (some (.ref d))) (hD : g.DictOfH (Kd prog w) d xs) (hK : KVs kvs xs) (hlen : kvs.length ≤ 1000)
    (hform : ∀ p ∈ kvs, ∃ r c : Int, p.1 = [r, c]) (hro : ∀ i, TupOk (Ro i)) (hxy : x ≠ y)
    (turn : ∀ C g₁ i m₂ v1 v2 r c n, Kp g g₁ → kvs[i]? = some ([r, c], n) → (pt r c).P g₁ v1 → (vInt n).P g₁ v2 → m₂ x = some v1 → m₂ y = some v2 → Ev prog w A (compEnvC scope cl C env) g₁ m₂ elt (Ro i))
    (hk : env.scope.kind = .function := by rfl) (hl : env.kindOf nm = some .cell := by rfl) (hdb : (nm == ("__debug__" : Str)) = false := by decide)
    (hbase : attributeBase (.Name nm np) "items" env (eval (.Name nm np) env) = eval (.Name nm np) env := by rfl) (hline : (apos.endLine == cpos.line) = true := by rfl)
    (hclos : closureFor scope env = pure cl := by rfl) (hcell : ∀ y ∈ scope.names, y.2 ≠ .cell := by decide) (hkind : scope.kind = .function := by rfl)
    (hnames : ∀ y ∈ scope.names, y.2 = .local → scope.names.lookup y.1 = some .local := by decide) (hx : scope.names.lookup x = some .local := by rfl) (hy : scope.names.lookup y = some .local := by rfl)
    (hs : ∀ z, foldedSetIterable (.Call (.Attribute (.Name nm np) "items" apos) [] [] cpos) env z = pure z := by intro _; rfl) :
    Ev prog w A env g m (.ListComp elt [⟨.Tuple [.Name x px, .Name y py] kk tp, .Call (.Attribute (.Name nm np) "items" apos) [] [] cpos, [], 0⟩] scope pos) (vList (outs (fun _ => true) Ro kvs.length)) := fun s E k n => by
  have hDs := dict_keeps prog w k hD
  obtain ⟨od, es, ep, hod, hex, hdat, hes, hkeys, hnod⟩ := id hDs
  have hR : RawD s.heap d es ep := ⟨od, hod, hex, hdat⟩
  have hsz : es.size = kvs.length := by rw [← Array.length_toList, hes, List.length_map, hK.len]
  rw [eval_ListComp]
  refine wpAny_comprehension_free (use := none) rfl hs hclos hkind hnames (raw_items_call hdS hR hbase hline (fun Q' q => wpAny_Name (wpAny_loadName_cell hk hl hcc (hcv.keeps k) q) hdb) ?_)
  have hR₁ := hR.kp (h' := s.heap.push { cls := .type "dict_items", data := .fields #[.ref d] }) fun o e => Heap.get?_push_of_some _ e
  refine raw_pyIter (v := s.heap.objs.size) ⟨_, Heap.get?_push_size _ rfl, rfl, rfl⟩ hR₁ ?_
  generalize hS₂ : ({ s with heap := (s.heap.push { cls := .type "dict_items", data := .fields #[.ref d] }).push { cls := .type "dict_itemiterator", data := .fields #[.none, .bool false, .ref d, .int 0 0, .int es.size 0, .int ep 0, .none, .none] } } : Shared) = s₂
  have hIsz : (s.heap.push { cls := .type "dict_items", data := .fields #[.ref d] }).objs.size = s.heap.objs.size + 1 := Heap.size_push ..
  have hit₂ : IsItemIter s₂.heap (s.heap.objs.size + 1) d 0 es.size ep .none .none := by rw [← hS₂, ← hIsz]; exact Heap.get?_push_size _ rfl
  have hsz₂ : s₂.heap.objs.size = s.heap.objs.size + 2 := by rw [← hS₂]; show (Heap.push _ _).objs.size = _; rw [Heap.size_push, hIsz]
  have k₂ : Kp s.heap s₂.heap := by rw [← hS₂]; exact (Kp.push _ _).trans (Kp.push _ _)
  have r₂ : Rest s s₂ := by rw [← hS₂]; exact ⟨_, _, rfl⟩
  rw [hIsz]
  generalize hI : s.heap.objs.size + 1 = I at hit₂ ⊢
  have sI : s.heap.get? I = none := get_fresh (by rw [← hI]; exact Nat.le_succ _)
  refine comp_core (RR := fun acc C => compPost (model prog w) A E none _ acc C) hcell hkind (fun h tk Q E' kh q => kcp_self (kh _ _ hit₂) q) ?_
  intro D C h tk hDl hCl hDC kh hpl hns
  rw [hsz₂] at hDl hCl
  have hsize : ∀ {p : Nat}, s.heap.objs.size ≤ p → s.heap.get? p = none := fun hp => get_fresh hp
  have sD : s.heap.get? D = none := hsize (Nat.le_trans (Nat.le_add_right _ 2) hDl)
  have sC : s.heap.get? C = none := hsize (Nat.le_trans (Nat.le_add_right _ 2) hCl)
  have hDI : D ≠ I := fun z => by have z' : (D : Nat) = I := z; omega
  have hCI : C ≠ I := fun z => by have z' : (C : Nat) = I := z; omega
  refine kcp_loop (fun j s' => ∃ i m' ys ok ov, i ≤ kvs.length ∧ j = kvs.length + 1 - i ∧ IsItemIter s'.heap I d i es.size ep ok ov ∧ Rest s s' ∧ Kp s.heap s'.heap ∧ s'.heap.Ns C m' ∧ s'.heap.PlainList D (ys : List Value).toArray ∧ VPs s'.heap (outs (fun _ => true) Ro i) ys) ?_ (kvs.length + 1)
    ⟨0, _, [], _, _, Nat.zero_le _, rfl, kh _ _ hit₂, r₂.trans (Rest.set s₂ h tk), k₂.trans kh, hns, hpl, trivial⟩
  rintro j s' ⟨i, m', ys, ok, ov, hi, rfl, hit, rr, kk', hn', hp, hv⟩
  have hR' : RawD s'.heap d es ep := hR.kp fun o e => kk' _ o e
  have nthing : ∀ o, s'.heap.get? I = some o → ¬ IsT o := by
    rintro o e ⟨cc, _⟩
    have hit' : s'.heap.get? I = some _ := hit
    rw [hit'] at e; cases e; simp at cc
  by_cases hlt : i < kvs.length
  · obtain ⟨⟨ks, nv⟩, hp0⟩ : ∃ p, kvs[i]? = some p := ⟨_, List.getElem?_eq_getElem hlt⟩
    obtain ⟨r, c', hrc⟩ := hform _ (List.mem_of_getElem? hp0)
    have hrc' : ks = [r, c'] := hrc
    subst hrc'
    obtain ⟨⟨x1, a, xv⟩, hxi, e1, t, e2⟩ := hK.get hp0
    have e1' : x1 = [r, c'] := e1.symm
    have e2' : xv = .int nv t := e2
    subst e1' e2'
    have hesi : es[i]? = some ⟨(Kd prog w).hash [r, c'], .ref a, .int nv t⟩ := by
      rw [← Array.getElem?_toList, hes, List.getElem?_map, hxi]; rfl
    refine raw_next hit hR' hesi fun h₁ hit₁ ht₁ hk₁ => ?_
    have kn₁ : KpN [I] s'.heap h₁ := fun b o hb e => hk₁ b o (fun z => hb (List.mem_singleton.mpr z)) e
    refine wpAny_letOwnedTupleGo_items hit₁ fun h₂ hit₂' hs₂ => ?_
    have kn₂ : KpN [I] h₁ h₂ := KpN.same hs₂ (List.Mem.head [])
    have hTI : s'.heap.objs.size ≠ I := fun z => by
      have hit' : s'.heap.get? I = some _ := hit
      exact absurd (Heap.lt_size hit') (by rw [z]; exact Nat.lt_irrefl _)
    have ht₂ : h₂.IsTuple s'.heap.objs.size #[.ref a, .int nv t] := ⟨_, kn₂ _ _ (fun z => hTI (List.mem_singleton.mp z)) ht₁, rfl, _, rfl⟩
    have hn₂ : h₂.Ns C m' := (hn'.at' fun o e => kn₁ _ o (fun z => hCI (List.mem_singleton.mp z)) e).at' fun o e => kn₂ _ o (fun z => hCI (List.mem_singleton.mp z)) e
    refine kcp_assign (env := compEnvC scope cl C env) hh ht₂ (lookup_relabel_local hx) (lookup_relabel_local hy) (by simp [compEnvC, relabel, hkind]) hn₂ fun h₃ tk₃ hn₃ hk₃ => ?_
    have kn₃ : KpN [C] h₂ h₃ := fun b o hb e => hk₃ b o (fun z => hb (List.mem_singleton.mpr z)) e
    have k3 : Kp s.heap h₃ := (kn₃.ground (kn₂.ground (kn₁.ground kk' fun p hp => by rw [List.mem_singleton.mp hp]; exact sI) fun p hp => by rw [List.mem_singleton.mp hp]; exact sI) fun p hp => by rw [List.mem_singleton.mp hp]; exact sC)
    have kt₃ : KpT s'.heap h₃ := ((KpT.ofN kn₁ fun p hp o e => by rw [List.mem_singleton.mp hp] at e; exact nthing o e).trans (KpT.ofN kn₂ fun p hp o e => by
      rw [List.mem_singleton.mp hp] at e
      rintro ⟨cc, _⟩
      have hit' : h₁.get? I = some _ := hit₁
      rw [hit'] at e; cases e; simp at cc)).trans (KpT.ofN kn₃ fun p hp o e => by rw [List.mem_singleton.mp hp] at e; exact ns_notT hn₂ o e)
    have hit₃ : IsItemIter h₃ I d (i + 1) es.size ep (.ref a) (.int nv t) := hk₃ _ _ (Ne.symm hCI) hit₂'
    have hp₃ : h₃.PlainList D ys.toArray := ((hp.at fun o e => kn₁ _ o (fun z => hDI (List.mem_singleton.mp z)) e).at fun o e => kn₂ _ o (fun z => hDI (List.mem_singleton.mp z)) e).at fun o e => kn₃ _ o (fun z => hDC (List.mem_singleton.mp z)) e
    have hkey : (pt r c').P h₃ (.ref a) := VP.st _ k3 (pt_of_key (prog := prog) (w := w) (hkeys _ (List.mem_of_getElem? hxi)))
    refine ev_at (turn C h₃ i _ (.ref a) (.int nv t) r c' nv (k.trans k3) hp0 hkey ⟨t, rfl⟩ (by simp [hxy]) (by simp)) (Kp.refl _) hn₃ fun u s₄ hu k₄ => ?_
    have kp₄ := kp_of k₄
    have hp₄ : s₄.heap.PlainList D ys.toArray := hp₃.at fun o e => kp₄ _ o e
    have hv₄ : VPs s₄.heap (outs (fun _ => true) Ro i) ys := ((hv.tup kt₃ (outs_tup hro i)).st kp₄)
    refine wpAny_list_append_plain hp₄ (fun h₅ hp₅ hs₅ => ?_) (by
      rw [List.size_toArray, hv.len]
      exact lt_sizeLine (Nat.le_trans (outs_len _ Ro i) (by omega)))
    have kt₅ : KpT s₄.heap h₅ := KpT.ofN (KpN.same hs₅ (List.Mem.head [])) (fun p hp' o e => by rw [List.mem_singleton.mp hp'] at e; exact list_notT hp₄ o e)
    refine ⟨kvs.length + 1 - (i + 1), by omega, i + 1, _, ys ++ [u], .ref a, .int nv t, hlt, rfl, hs₅.extBut _ _ (Ne.symm hDI) (kp₄ _ _ hit₃), ?_, ?_, (ns_keeps hn₃ k₄).sameBut hs₅ (Ne.symm hDC), ?_, ?_⟩
    · exact rr.trans (Rest.trans (b := { s' with heap := h₃, toks := tk₃ }) ⟨h₃, tk₃, rfl⟩ ((Rest.of k₄).trans (Rest.set s₄ h₅ _)))
    · exact (KpN.same hs₅ (List.Mem.head [])).ground (k3.trans kp₄) (fun p hp => by rw [List.mem_singleton.mp hp]; exact sD)
    · have : (ys ++ [u]).toArray = ys.toArray.push u := by simp
      rw [this]; exact hp₅
    · unfold outs
      rw [if_pos rfl]
      exact (hv₄.tup kt₅ (outs_tup hro i)).snoc (hro i kt₅ hu)
  · have : i = kvs.length := by omega
    subst this
    rw [← hsz] at hit
    refine raw_next_end hh hit hR' fun h₁ he₁ => ?_
    have kn₁ : KpN [I] s'.heap h₁ := fun b o hb e => he₁ b o (fun z => hb (List.mem_singleton.mpr z)) e
    have kt₁ : KpT s'.heap h₁ := KpT.ofN kn₁ fun p hp o e => by rw [List.mem_singleton.mp hp] at e; exact nthing o e
    have hn₁ : h₁.Ns C m' := hn'.at' fun o e => kn₁ _ o (fun z => hCI (List.mem_singleton.mp z)) e
    refine ⟨m', hn₁, fun h' hs' => ?_⟩
    have kt : KpT h₁ h' := KpT.ofN (KpN.same hs' (List.Mem.head [])) (fun p hp' o e => by rw [List.mem_singleton.mp hp'] at e; exact ns_notT hn₁ o e)
    refine ⟨⟨D, ys, rfl, (hp.at fun o e => kn₁ _ o (fun z => hDI (List.mem_singleton.mp z)) e).at fun o e => hs'.extBut D o hDC e, hv.tup (kt₁.trans kt) (outs_tup hro _)⟩, ?_⟩
    refine keeps_of (rr.trans ((Rest.set s' h₁ s'.toks).trans ⟨h', _, rfl⟩)) ?_
    exact (KpN.same hs' (List.Mem.head [])).ground (kn₁.ground kk' fun p hp => by rw [List.mem_singleton.mp hp]; exact sI) (fun p hp' => by rw [List.mem_singleton.mp hp']; exact sC)
end
end Mine
open PySem PySem.W PySem.Calls PyProof.Rows
set_option Elab.async false
set_option maxRecDepth 100000
namespace Mine

theorem lk_list_keys : typeLookup (.type "list") "keys" = pure none := am_miss_of_fast (by kernel_rfl)
section
variable {prog : Program} {w : World} {A : Around} {E : Value → Shared → Prop} {s : Shared}

set_option maxHeartbeats 8000000 in
theorem getAttr?_keys_list {a : Addr} {xs : Array Value} {k : Nat} {Q : Option Value → Shared → Prop} (hx : s.heap.get? a = some { cls := .type "list", dict := none, data := .seq xs k, slots := #[] }) (hA : A.handled = none)
    (h : ∀ h' tk, Kp s.heap h' → Q none { s with heap := h', toks := tk }) : wpAny (model prog w) A (getAttr? (.ref a) "keys") Q E s := by
  obtain ⟨hp, g, d, tk, os⟩ := s
  have hT : ∀ tk', (⟨hp, g, d, tk', os⟩ : Shared).TypeIs (.ref a) "list" := fun _ => ⟨_, hx, rfl⟩
  have f1 := sub_AttributeError
  have f3 := F.slot_list_getattribute.lookup
  have f4 := F.slot_list_getattribute.bind (.ref a)
  have f5 := am_list_getattr_none
  unfold getAttr? getAttrBy? getAttrBy
  repeat (any_goals (first | assumption | exact hT _ | ((with_reducible show wpAny _ _ (call (Value.builtin "list.__getattribute__") _ _) _ _ _); refine call_meets F.slot_list_getattribute (hT _) am_entry_list_getattribute (F.args_list_getattribute_2 _ _) (meets_getattribute_miss_list a xs k #[] "keys" _ lk_list_keys (by decide) (by rw [sizeLine_eq]; decide)) ⟨hx, hA, fun h' tk' e hx' => ?_⟩) | wp_step))
  obtain ⟨t', u', he⟩ := hx'.there
  show wpAny _ _ (getattributeRaised _ _ _ _ _ _ _) _ _ _
  unfold getattributeRaised
  repeat (any_goals (first | assumption | wp_step))
  exact h _ _ hx'.keeps
end
end Mine
open PySem PySem.W PySem.Calls PyProof.Rows
set_option Elab.async false
set_option maxRecDepth 100000
namespace Mine

structure P3 where
  r : Int
  c : Int
  n : Int
def P3.kv (p : P3) : List Int × Int := ([p.r, p.c], p.n)
def P3.vp (p : P3) : VP := vTup [pt p.r p.c, vInt p.n]
theorem P3.tup (p : P3) : TupOk p.vp := TupOk.tup fun R hR => by
  rcases List.mem_cons.mp hR with rfl | hR
  · exact pt_tup _ _
  · rw [List.mem_singleton.mp hR]; exact TupOk.int _
theorem entry_update_loop : entryFor table "dict.update.loop" = some Builtin.«dict.update.loop» := entryFor_of_tree (by kernel_rfl)
theorem plain_update_loop : plainId "dict.update.loop" = true := by decide +kernel

theorem dict_kpN (prog : Program) (w : World) {N : List Addr} {h h' : Heap} {d : Addr} {xs : List (List Int × Addr × Value)} (k : KpN N h h') (hd : d ∉ N) (hN : ∀ p ∈ N, ∀ o, h.get? p = some o → ¬ ∃ vs n, o.data = .seq vs n) (x : h.DictOfH (Kd prog w) d xs) : h'.DictOfH (Kd prog w) d xs := by
  obtain ⟨o, es, ep, ho, he, hd', hl, hi, hn⟩ := x
  refine ⟨o, es, ep, k _ _ hd ho, he, hd', hl, fun x hx => ?_, hn⟩
  obtain ⟨o', its, n, ho', hc, hdd, r⟩ := hi x hx
  exact ⟨o', its, n, k _ _ (fun z => hN _ z o' ho' ⟨its, n, hdd⟩) ho', hc, hdd, r⟩
section
variable {prog : Program} {w : World} {A : Around} {E : Value → Shared → Prop}

theorem update_loop {l d I : Addr} {vs : List Value} {ps : List P3} (hh : A.handled = none) (hu : A.units + 100 < cLine) (hlI : l ≠ I) (hdI : d ≠ I) (hdl : d ≠ l) (hps : ps.length ≤ 1000) (hnd : (ps.map (·.kv.1)).Nodup) :
    ∀ k i (s : Shared) xs (R : Result → Shared → Prop), i + k = ps.length → s.heap.IsListIter I l i → s.heap.IsList l vs.toArray → VPs s.heap (ps.map (·.vp)) vs → s.heap.DictOfH (Kd prog w) d xs → KVs ((ps.take i).map (·.kv)) xs →
      (∀ s' xs', s'.heap.DictOfH (Kd prog w) d xs' → KVs (ps.map (·.kv)) xs' → Rest s s' → KpN [d, I] s.heap s'.heap → R (.ok (.ret .none)) s') →
      codeAny (model prog w) A (.builtin "dict.update.loop" ⟨[.ref d, .ref I, rawInt (i : Int), .none], []⟩) R s := by
  intro k
  induction k with
  | zero =>
    intro i s xs R hi hit hl hv hD hK hR
    refine codeAny_builtin entry_update_loop ?_
    rw [Around.under_plainId plain_update_loop _]
    show wpAny _ _ (pyNext (.ref I) >>= _) _ _ s
    have W := Walks.list (prog := prog) (w := w) (A := A.in1) hh I l hlI vs.toArray
    have hsz : vs.toArray.size = i := by
      have := hv.len
      rw [List.size_toArray, this, List.length_map]; omega
    refine wpAny_bind (W.done s _ _ (by rw [hsz]; exact ⟨hit, hl⟩) fun h' tk hk => ?_)
    have kn : KpN [I] s.heap h' := fun b o hb e => hk b o hb e
    show wpAny _ _ (Builtin.Dict.addKeywords d [] >>= _) _ _ _
    refine wpAny_bind (wpAny_pure (wpAny_pure (hR _ xs ?_ ?_ ⟨h', tk, rfl⟩ (kn.mono fun p hp => .tail _ hp))))
    · exact dict_kpN prog w kn (fun z => hdI (List.mem_singleton.mp z)) (fun p hp o e => by
        rw [List.mem_singleton.mp hp] at e
        rintro ⟨vs, n, dd⟩
        obtain ⟨o', e', _, d'⟩ := hit
        rw [e'] at e; cases e
        rw [d'] at dd; cases dd) hD
    · rwa [show i = ps.length by omega, List.take_length] at hK
  | succ k ih =>
    intro i s xs R hi hit hl hv hD hK hR
    refine codeAny_builtin entry_update_loop ?_
    rw [Around.under_plainId plain_update_loop _]
    show wpAny _ _ (pyNext (.ref I) >>= _) _ _ s
    have W := Walks.list (prog := prog) (w := w) (A := A.in1) hh I l hlI vs.toArray
    have hsz : vs.toArray.size = ps.length := by
      have := hv.len
      rw [List.size_toArray, this, List.length_map]
    refine wpAny_bind (W.item i s _ _ (by rw [hsz]; omega) ⟨hit, hl⟩ fun v h' tk hP st hk => ?_)
    have kn : KpN [I] s.heap h' := fun b o hb e => hk b o hb e
    have hlt : i < ps.length := by omega
    have hpi : ps[i]? = some ps[i] := List.getElem?_eq_getElem hlt
    obtain ⟨u, hu', hr⟩ := hv.get (i := i) (R := ps[i].vp) (by rw [List.getElem?_map, hpi]; rfl)
    have hP' : vs[i]? = some v := by simpa using hP
    rw [hP'] at hu'; cases hu'
    have itNoSeq : ∀ o, s.heap.get? I = some o → ¬ ∃ vs n, o.data = .seq vs n := fun o e => by
      rintro ⟨vs, n, dd⟩
      obtain ⟨o', e', _, d'⟩ := hit
      rw [e'] at e; cases e
      rw [d'] at dd; cases dd
    have kt : KpT s.heap h' := KpT.ofN kn fun p hp o e q => by
      rw [List.mem_singleton.mp hp] at e
      obtain ⟨_, vs, n, dd⟩ := q
      exact itNoSeq o e ⟨vs, n, dd⟩
    have hr' := ps[i].tup kt hr
    have hv' : VPs h' (ps.map (·.vp)) vs := hv.tup kt fun R hR => by
      obtain ⟨q, _, rfl⟩ := List.mem_map.mp hR
      exact q.tup
    have hD' : h'.DictOfH (Kd prog w) d xs := dict_kpN prog w kn (fun z => hdI (List.mem_singleton.mp z)) (fun p hp o e => by rw [List.mem_singleton.mp hp] at e; exact itNoSeq o e) hD
    obtain ⟨a, us, rfl, ht, hus⟩ := hr'
    obtain ⟨kv, nv, rfl, hkv, ⟨tn, rfl⟩⟩ := vps2 hus
    obtain ⟨ka, rfl, hkey⟩ := key_of_pt (prog := prog) (w := w) hkv
    obtain ⟨o, ho, hc, nn, hdat⟩ := ht
    show wpAny _ _ (holding [Value.ref a] _ >>= _) _ _ _
    refine wpAny_bind (wpAny_holding (wpAny_bind (wpAny_tryCatch ?_)))
    unfold Builtin.Dict.pairItems
    refine wpAny_bind (wpAny_typeOf (T := "tuple") ⟨o, ho, hc⟩ ?_)
    rw [if_pos (by decide)]
    refine wpAny_bind (wpAny_seqItems ho hdat (wpAny_pure ?_))
    show wpAny _ _ (holding [Value.ref ka, Value.int ps[i].n tn] (dictSet d (.ref ka) (.int ps[i].n tn))) _ _ _
    refine wpAny_holding (wpAny_dictSet_heap (knd := Kd prog w) (show A.units + 1 < cLine by omega) hkey hD' (fun h₂ hD₂ hs₂ => ?_) (by
      have := hK.len
      rw [this, List.length_map, List.length_take, sizeLine_eq]; omega))
    have hnew : look ((ps.take i).map (·.kv)) [ps[i].r, ps[i].c] = none := look_none fun hm => by
      rw [List.map_map] at hm
      obtain ⟨q, hq, e⟩ := List.mem_map.mp hm
      obtain ⟨j, hj, e2⟩ := List.getElem_of_mem hq
      rw [List.length_take] at hj
      rw [List.getElem_take] at e2
      have hj' : j < ps.length := by omega
      have e3 : (ps.map (·.kv.1))[j]? = (ps.map (·.kv.1))[i]? := by
        rw [List.getElem?_map, List.getElem?_map, List.getElem?_eq_getElem hj', hpi]
        show some (ps[j].kv.1) = some (ps[i].kv.1)
        rw [e2]; exact congrArg some e
      have := (List.getElem?_inj (by rw [List.length_map]; exact hj') hnd).mp e3
      omega
    rw [storedH_new (hK.fresh hnew)] at hD₂
    have kd : KpN [d] h' h₂ := KpN.same hs₂ (List.Mem.head [])
    have kt₂ : KpT h' h₂ := KpT.ofN kd fun p hp o e q => by
      rw [List.mem_singleton.mp hp] at e
      obtain ⟨_, vs, n, dd⟩ := q
      obtain ⟨o', es, ep, e', _, d', _⟩ := hD'
      rw [e'] at e; cases e
      rw [d'] at dd; cases dd
    refine wpAny_pure ⟨plainId_quiet plain_update_loop _, ?_⟩
    refine ih (i + 1) _ (xs ++ [([ps[i].r, ps[i].c], ka, .int ps[i].n tn)]) R (by omega) (st.1.at fun o e => kd _ o (fun z => hdI (List.mem_singleton.mp z).symm) e) (st.2.at fun o e => kd _ o (fun z => hdl (List.mem_singleton.mp z).symm) e) (hv'.tup kt₂ fun R hR => by
      obtain ⟨q, _, rfl⟩ := List.mem_map.mp hR
      exact q.tup) hD₂ ?_ (fun s' xs' q1 q2 q3 q4 => ?_)
    · rw [take_snoc hpi, List.map_append]
      exact hK.snoc rfl ⟨tn, rfl⟩
    · refine hR s' xs' q1 q2 (Rest.trans ⟨_, _, rfl⟩ q3) ?_
      exact ((kn.mono fun p hp => .tail _ hp).trans (kd.mono fun p hp => by rw [List.mem_singleton.mp hp]; exact .head _)).trans q4
end
end Mine
open PySem PySem.W PySem.Calls PyProof.Rows
set_option Elab.async false
set_option maxRecDepth 100000
namespace Mine
section
variable {prog : Program} {w : World} {A : Around} {env : Env} {g : Heap} {m mg mb : Str → Option Value} {s : Shared} {E : Value → Shared → Prop}

theorem evC_dict {B : Nat} {ps : List P3} (hB : ∃ o, g.get? B = some o) (hh : A.handled = none) (hu : A.units + 120 < cLine) (hps : ps.length ≤ 1000) (hnd : (ps.map (·.kv.1)).Nodup) :
    EvC prog w A g (.type "dict") [vList (ps.map (·.vp))] (vNames prog w B (ps.map (·.kv))) := by
  rintro s E vs k hv
  obtain ⟨_, rfl, ⟨l, us, rfl, hl, hus⟩⟩ := vps1 hv
  have hBs : B < s.heap.objs.size := by obtain ⟨o, e⟩ := hB; exact Heap.lt_size (k _ _ e)
  refine callType_codes (Q₁ := fun obj s₁ => obj = .ref s.heap.objs.size ∧ s₁ = { s with heap := s.heap.push { cls := .type "dict", data := .dict #[] } }) F.kt_called_dict (F.kt_typeCall_dict_1 _) F.entry_dict_init (kt_code_dict_new _ ⟨rfl, rfl⟩) ?_
  rintro obj s₁ ⟨rfl, rfl⟩
  have hnew : (s.heap.push { cls := .type "dict", data := .dict #[] }).DictOfH (Kd prog w) s.heap.objs.size [] := Heap.DictOfH.new s.heap
  have kp : Kp s.heap (s.heap.push { cls := .type "dict", data := .dict #[] }) := Kp.push _ _
  obtain ⟨n, hle⟩ := hl
  have hdl : s.heap.objs.size ≠ l := Nat.ne_of_gt (Heap.lt_size hle)
  refine ⟨hnew.typeIs, F.args_dict_init_2 _ _, ?_⟩
  unfold Builtin.«dict.__init__»
  refine wpAny_bind ?_
  unfold Builtin.Dict.selfAndRest
  refine wpAny_bind (wpAny_notOrdered_dict hnew.typeIs ?_)
  show wpAny _ _ (pure (s.heap.objs.size, [Value.ref l])) _ _ _
  refine wpAny_pure ?_
  show wpAny _ _ (Builtin.Dict.updateFrom "dict.__init__" s.heap.objs.size (.ref l) [] .none) _ _ _
  unfold Builtin.Dict.updateFrom
  refine wpAny_bind (wpAny_typeOf (T := "list") ⟨_, kp _ _ hle, rfl⟩ ?_)
  rw [if_pos (by decide)]
  refine wpAny_bind (getAttr?_keys_list (kp _ _ hle) hh fun h' tk kp' => ?_)
  simp only [Option.isNone_none, if_true]
  refine wpAny_bind (wpAny_rule ?_)
  have hl' : h'.PlainList l us.toArray := ⟨n, kp' _ _ (kp _ _ hle)⟩
  have hD' := dict_keeps prog w kp' hnew
  refine wpAny_bind (wpAny_pyIter_list hl'.isList ?_)
  have hlI : l ≠ h'.objs.size := Nat.ne_of_lt (Heap.lt_size (kp' _ _ (kp _ _ hle)))
  have hdI : s.heap.objs.size ≠ h'.objs.size := by obtain ⟨o, es, ep, e, _⟩ := hD'; exact Nat.ne_of_lt (Heap.lt_size e)
  have kp'' : Kp h' (h'.push { cls := .type "list_iterator", data := .fields #[.ref l, .int 0 0] }) := Kp.push _ _
  refine wpAny_pure ⟨plainId_quiet plain_update_loop _, ?_⟩
  refine update_loop (prog := prog) (w := w) (A := A.in1) (I := h'.objs.size) (ps := ps) (vs := us) hh (by rw [PyProof.Rows.units_in1]; omega) hlI hdI hdl hps hnd ps.length 0 _ [] _ (by omega) ⟨_, Heap.get?_push_size _ rfl, rfl, rfl⟩ (hl'.isList.push _) (hus.st (kp.trans (kp'.trans kp''))) (dict_keeps prog w kp'' hD') trivial (fun s' xs' hD hK r kn => ?_)
  refine ⟨rfl, ⟨s.heap.objs.size, xs', rfl, hBs, hD, hK⟩, keeps_of (Rest.trans ⟨_, _, rfl⟩ r) fun b o e => kn b o (fun z => ?_) (kp'' _ _ (kp' _ _ (kp _ _ e)))⟩
  rcases List.mem_cons.mp z with z | z
  · exact absurd (Heap.lt_size e) (by rw [z]; exact Nat.lt_irrefl _)
  · exact absurd (Heap.lt_size (kp' _ _ (kp _ _ e))) (by rw [List.mem_singleton.mp z]; exact Nat.lt_irrefl _)
end
end Mine
open PySem PySem.W PySem.Calls PyProof.Rows
set_option Elab.async false
set_option maxRecDepth 100000
namespace Mine

def turnP (n : Nat) (p : List Int × Int) : P3 := ⟨n - p.1.getD 1 0, p.1.getD 0 0 - p.1.getD 1 0, (p.2 + 2).fmod 3⟩
def tps (n : Nat) (kvs : List (List Int × Int)) : List P3 := kvs.map (turnP n)
def tkvs (n : Nat) (kvs : List (List Int × Int)) : List (List Int × Int) := (tps n kvs).map (·.kv)
theorem outs_true_map (Ro : Nat → VP) : ∀ n, outs (fun _ => true) Ro n = (List.range n).map Ro
  | 0 => rfl
  | n + 1 => by unfold outs; rw [outs_true_map Ro n, List.range_succ, List.map_append]; rfl
theorem range_getD {α β : Type} (f : α → β) (d : α) (l : List α) : (List.range l.length).map (fun i => f (l.getD i d)) = l.map f := by
  apply List.ext_getElem
  · simp
  · intro i h1 h2
    simp only [List.length_map, List.length_range] at h1
    simp [List.getD_eq_getElem?_getD, h1]
def tri (ts : List T6) (i : Nat) : T6 := ts.getD i ⟨0, 0, 0, 0, 0, 0⟩
def agn (kv : List (List Int × Int)) (ts : List T6) : Nat := cntB (fun i => bw kv (tri ts i)) ts.length

section
variable {prog : Program} {w : World} {A : Around} {env : Env} {g : Heap} {m mg mb : Str → Option Value} {s : Shared} {E : Value → Shared → Prop}

theorem law_turned {L a B n : Nat} {tn : Tok} {cd : Value} {kvs : List (List Int × Int)} {nv : Value} {cv : Option Value} {Q : Flow → Shared → Prop} (G : Gl mg mb g) (hh : A.handled = none) (hu : A.units + 300 < cLine) (hB : B = L + 4)
    (hz : g.IsCell (L + 1) (some (.int (n : Int) tn))) (hn : g.IsCell (L + 2) (some nv)) (hnv : (vNames prog w B kvs).P g nv) (hlen : kvs.length ≤ 1000) (hform : ∀ p ∈ kvs, ∃ r c : Int, p.1 = [r, c]) (hnd : ((tkvs n kvs).map (·.1)).Nodup)
    (hBg : ∃ o, g.get? (L + 2) = some o) (k : Kp g s.heap) (ns : s.heap.Ns L m) (hc : s.heap.IsCell B cv)
    (hQ : ∀ v s', (vNames prog w B (tkvs n kvs)).P s'.heap v → Rest s s' → KpN [L + 4] s.heap s'.heap → KpB B s.heap s'.heap → s'.heap.IsCell B (some v) → wpAny (model prog w) A (execs ((bodyAt 15).drop 13) (lawEnv L a cd)) Q E s') :
    wpAny (model prog w) A (execs ((bodyAt 15).drop 12) (lawEnv L a cd)) Q E s := by
  subst hB
  rw [show (bodyAt 15).drop 12 = _ :: (bodyAt 15).drop 13 from rfl]
  obtain ⟨d, xs, rfl, hBd, hD, hK⟩ := hnv
  have G₀ := G.keeps k
  have hRo : outs (fun _ => true) (fun i => (turnP n (kvs.getD i ([], 0))).vp) kvs.length = (tps n kvs).map (·.vp) := by
    rw [outs_true_map, range_getD (fun p => (turnP n p).vp) ([], 0) kvs]
    unfold tps; rw [List.map_map]; rfl
  refine wpAny_execs_cons (st_assignCB (g := s.heap) (B := L + 4) (cc := L + 4) (R := vNames prog w (L + 4) (tkvs n kvs)) (ev_callT (Rs := [vList ((tps n kvs).map (·.vp))]) (ev_builtin G₀.g G₀.nm.dict.1 G₀.b G₀.nm.dict.2)
    (evs_cons (hRo ▸ ev_compItems (c := L + 2) (d := d) (cl := [(Str.ofString "size", L + 1)]) (x := "place") (y := "name") hh (not_sys (B := L + 4) (by omega) hBd) rfl (hn.keeps k) (dict_keeps prog w k hD) hK hlen hform (fun i => P3.tup _) (by decide) (fun C g₁ i m₂ v1 v2 r c q kg hp h1 h2 e1 e2 => ?_)) evs_nil)
    (evC_dict (B := L + 4) (ps := tps n kvs) (by obtain ⟨o, e, _⟩ := hc; exact ⟨o, e⟩) hh (by omega) (by unfold tps; rw [List.length_map]; exact hlen) (by unfold tkvs at hnd; rw [List.map_map] at hnd; exact hnd)))
    BOk.names (Nat.le_refl _) (Kp.refl _) ns hc rfl fun v s' hv r' kn kb hc' => hQ v s' hv r' kn kb hc')
  have hgd : kvs.getD i ([], 0) = ([r, c], q) := by rw [List.getD_eq_getElem?_getD, hp]; rfl
  show Ev _ _ _ _ _ _ _ (turnP n (kvs.getD i ([], 0))).vp
  rw [hgd]
  have pl : ∀ p, Ev prog w A (compEnvC { kind := .function, names := [(".0", .local), ("place", .local), ("name", .local), ("size", .free)], isGenerator := false, isCoroutine := false, more := [] } [(Str.ofString "size", L + 1)] C (lawEnv L a cd)) g₁ m₂ (.Name "place" p) (vTup [vInt r, vInt c]) := fun p => ev_local e1 h1
  exact ev_tuple (evs_cons (ev_pt (ev_sub (ev_cell (c := L + 1) rfl ((hz.keeps k).keeps kg) ⟨tn, rfl⟩) (ev_itemT (k := 1) (pl _) ev_int (by decide) (by decide) (by simp) rfl)) (ev_sub (ev_itemT (k := 0) (pl _) ev_int (by decide) (by decide) (by simp) rfl) (ev_itemT (k := 1) (pl _) ev_int (by decide) (by decide) (by simp) rfl)))
    (evs_cons (ev_mod (ev_add (ev_local e2 h2) ev_int) ev_int (by decide)) evs_nil))

theorem law_again {L a B : Nat} {cd : Value} {kv : List (List Int × Int)} {tv v1 v2 : Value} {us ds : List VP} {ts : List T6} {Q : Flow → Shared → Prop} (G : Gl mg mb g) (hh : A.handled = none) (hu : A.units + 300 < cLine)
    (hc : g.IsCell (L + 4) (some tv)) (hnv : (vNames prog w B kv).P g tv) (hts : us ++ ds = ts.map three6) (hul : us.length ≤ 1000) (hdl : ds.length ≤ 1000) (htl : ts.length < 1000) (hlk : ∀ t ∈ ts, Looks kv t)
    (h1 : m "upright" = some v1) (hv1 : (vList us).P g v1) (h2 : m "down" = some v2) (hv2 : (vList ds).P g v2)
    (k : Kp g s.heap) (ns : s.heap.Ns L m)
    (hQ : ∀ s' t, Rest s s' → KpN [L] s.heap s'.heap → KpB L s.heap s'.heap → s'.heap.Ns L (upd m "again" (.int (agn kv ts : Nat) t)) → wpAny (model prog w) A (execs ((bodyAt 15).drop 14) (lawEnv L a cd)) Q E s') :
    wpAny (model prog w) A (execs ((bodyAt 15).drop 13) (lawEnv L a cd)) Q E s := by
  rw [show (bodyAt 15).drop 13 = _ :: (bodyAt 15).drop 14 from rfl]
  have hlen : (ts.map three6).length = ts.length := List.length_map ..
  have hget : ∀ i, i < ts.length → ts[i]? = some (tri ts i) := fun i hi => by
    unfold tri
    rw [List.getElem?_eq_getElem hi, List.getD_eq_getElem?_getD, List.getElem?_eq_getElem hi]; rfl
  refine wpAny_execs_cons (st_assignB (g := g) (B := L) (R := vInt (agn kv ts : Nat)) (ev_cast (ev_len (Rs := outs (fun i => bw kv (tri ts i)) (fun _ => vInt 1) (ts.map three6).length) G
    (ev_comp1 (x := "three") (cl := [(Str.ofString "turned", L + 4)]) (Ri := vList (ts.map three6)) (Rs := ts.map three6) (b := fun i => bw kv (tri ts i)) (Ro := fun _ => vInt 1) (hts ▸ ev_addlist (ev_local h1 hv1) (ev_local h2 hv2) hul hdl) (iter_list hh) (by rw [hlen]; omega) (fun i => TupOk.int _) (fun C g₁ i T m₂ v kg hT hTv hm => ?_))
    (Nat.lt_of_le_of_lt (outs_len _ _ _) (by rw [hlen]; omega))) (by rw [outs_len_cnt, hlen]; rfl)) (BOk.of (SeqOk.int _)) (Nat.le_refl _) k ns fun sv s₂ hsv r₂ kn₂ kb₂ n₂ => ?_)
  · have hi : i < ts.length := by
      rcases Nat.lt_or_ge i ts.length with h | h
      · exact h
      · rw [List.getElem?_map, List.getElem?_eq_none h] at hT; cases hT
    have hTe : T = three6 (tri ts i) := by
      rw [List.getElem?_map, hget i hi] at hT
      exact (Option.some.inj hT).symm
    subst hTe
    obtain ⟨l1, l2, l3⟩ := hlk (tri ts i) (List.mem_of_getElem? (hget i hi))
    refine ⟨evTs_one (evT_cmp (ev_sorted (ns := [nam kv (tri ts i).a (tri ts i).b, nam kv (tri ts i).c (tri ts i).d, nam kv (tri ts i).e (tri ts i).f]) (G.keeps kg)
      (ev_told (B := B) (kvs := kv) (cl := [(Str.ofString "turned", L + 4)]) hh (by omega) (ev_local hm hTv) l1 l2 l3 (fun C' g₂ m₃ kg₂ => ?_)) (by exact Nat.le_of_ble_eq_true rfl)) (ev_list3 ev_int ev_int ev_int) (cmp_eq_ints (by omega))), fun _ => ev_int⟩
    exact ev_cell (c := L + 4) rfl ((hc.keeps kg).keeps kg₂) (VP.st _ (kg.trans kg₂) hnv)
  · obtain ⟨t, rfl⟩ := hsv
    exact hQ s₂ t r₂ kn₂ kb₂ n₂

theorem law_end {L a B : Nat} {cd : Value} {tv : Value} {ag : Nat} {ta : Tok} {w0 w1 w2 w3 : Int} {Q : Flow → Shared → Prop} (h1 : m "again" = some (.int (ag : Int) ta)) (h3 : m "whole" = some tv) (htv : (vTally prog w B w0 w1 w2 w3).P g tv)
    (c1 : (ag : Int) = w1) (c2 : w3 = 1) (k : Kp g s.heap) (ns : s.heap.Ns L m) (hQ : ∀ s', Keeps s s' → Q (.ret (.bool true)) s') :
    wpAny (model prog w) A (execs ((bodyAt 15).drop 14) (lawEnv L a cd)) Q E s := by
  rw [show (bodyAt 15).drop 14 = [_] from rfl]
  have hw : ∀ p, Ev prog w A (lawEnv L a cd) g m (.Name "whole" p) (vTup [vInt w0, vInt w1, vInt w2, vInt w3, vD0 prog w B]) := fun p => ev_local h3 htv
  have b1 : decide ((ag : Int) = w1) = true := decide_eq_true c1
  have b2 : decide (w3 = 1) = true := decide_eq_true c2
  refine wpAny_execs_cons (wpAny_Return_some (wpAny_And2 ?_))
  refine ev_at (g := g) (R := vBool (decide ((ag : Int) = w1))) (ev_cmp (R := vInt (ag : Int)) (S := vInt w1) (ev_local h1 ⟨ta, rfl⟩) (ev_itemT (k := 1) (hw _) ev_int (by decide) (by decide) (by simp) rfl) (cmpB cmp_eq_int)) k ns fun v s₁ hv k₁ => ?_
  have hv' : v = .bool (decide ((ag : Int) = w1)) := hv
  subst hv'
  refine wpAny_truthy_bool ?_
  rw [b1]
  show wpAny _ _ _ _ _ _
  refine ev_at (g := g) (R := vBool (decide (w3 = 1))) (ev_cmp (R := vInt w3) (S := vInt 1) (ev_itemT (k := 3) (hw _) ev_int (by decide) (by decide) (by simp) rfl) ev_int (cmpB cmp_eq_int)) (kp_step k k₁) (ns_keeps ns k₁) fun v s₂ hv k₂ => ?_
  have hv' : v = .bool (decide (w3 = 1)) := hv
  subst hv'
  rw [b2]
  exact hQ s₂ (keeps_trans k₁ k₂)
end
end Mine
open PySem PySem.W PySem.Calls PyProof.Rows
set_option Elab.async false
set_option maxRecDepth 100000
namespace Mine

def cat2 {α : Type} (cnt : Nat → Nat) (f : Nat → Nat → α) : Nat → List α
  | 0 => []
  | i + 1 => cat2 cnt f i ++ (List.range (cnt i)).map (f i)
theorem outs2_cat2 {α : Type} (F : α → VP) (cnt : Nat → Nat) (f : Nat → Nat → α) : ∀ n, outs2 cnt (fun i j => F (f i j)) n = (cat2 cnt f n).map F
  | 0 => rfl
  | n + 1 => by
    unfold outs2 cat2
    rw [outs2_cat2 F cnt f n, List.map_append, outs_true_map, List.map_map]; rfl
def upT (n : Nat) : List T6 := cat2 (fun i => i + 1) (fun i j => ⟨i, j, i + 1, j, i + 1, j + 1⟩) n
def dnT (n : Nat) : List T6 := cat2 (fun i => i + 1) (fun i j => ⟨1 + i, j, 1 + i + 1, j + 1, 1 + i, j + 1⟩) n
def tris (n : Nat) : List T6 := upT n ++ dnT (n - 1)
def lns (n : Nat) : List T4 := cat2 (fun i => i + 1) (fun i j => ⟨i, j, i + 1, j⟩) n ++ cat2 (fun i => i + 1) (fun i j => ⟨i, j, i + 1, j + 1⟩) n ++ cat2 (fun i => i + 1) (fun i j => ⟨1 + i, j, 1 + i, j + 1⟩) n
theorem tris_eq (n : Nat) : ups n ++ dns (n - 1) = (tris n).map three6 := by
  unfold tris upT dnT
  rw [List.map_append, ← outs2_cat2, ← outs2_cat2]; rfl
theorem lns_eq (n : Nat) : lnA n ++ lnB n ++ lnC n = (lns n).map two4 := by
  unfold lns
  rw [List.map_append, List.map_append, ← outs2_cat2, ← outs2_cat2, ← outs2_cat2]; rfl

structure Good (n : Nat) (kvs : List (List Int × Int)) : Prop where
  looks : ∀ t ∈ tris n, Looks kvs t
  fine : ∀ t ∈ tris n, Fine kvs t
  edge : ∀ i : Nat, i ≤ n → look kvs [(i : Int), 0] = some (nam kvs i 0)
  lines : ∀ t ∈ lns n, look kvs [t.a, t.b] = some (nam kvs t.a t.b) ∧ look kvs [t.c, t.d] = some (nam kvs t.c t.d)
  c1 : (edg kvs n : Int).fmod 2 = 1
  c2 : (S1 kvs (tris n)).fmod 2 = 1
  c3 : S0 kvs (tris n) = 2 * (mrk kvs (lns n) : Int) - edg kvs n
  c4 : (((ups n).length : Int) + ((dns (n - 1)).length : Int)) = (n : Int) * n
  c4' : ((tris n).length : Int) = (n : Int) * n
  len : kvs.length ≤ 1000
  form : ∀ p ∈ kvs, ∃ r c : Int, p.1 = [r, c]
  nd : ((tkvs n kvs).map (·.1)).Nodup
  looks2 : ∀ t ∈ tris n, Looks (tkvs n kvs) t
  c5 : (agn (tkvs n kvs) (tris n) : Int) = S1 kvs (tris n)
  c6 : S3 kvs (tris n) = 1

theorem three_seq (a b c d e f : Int) : SeqOk (three a b c d e f) := SeqOk.tup (SeqOk.cons (SeqOk.tup (SeqOk.cons (SeqOk.int _) (SeqOk.cons (SeqOk.int _) SeqOk.nil))) (SeqOk.cons (SeqOk.tup (SeqOk.cons (SeqOk.int _) (SeqOk.cons (SeqOk.int _) SeqOk.nil))) (SeqOk.cons (SeqOk.tup (SeqOk.cons (SeqOk.int _) (SeqOk.cons (SeqOk.int _) SeqOk.nil))) SeqOk.nil)))
theorem ups_seq (n : Nat) : SeqOk (vList (ups n)) := SeqOk.list (outs2_seq (fun _ _ => three_seq _ _ _ _ _ _) n)
theorem dns_seq (n : Nat) : SeqOk (vList (dns n)) := SeqOk.list (outs2_seq (fun _ _ => three_seq _ _ _ _ _ _) n)
theorem ups_len {n : Nat} (h : n ≤ 20) : (ups n).length ≤ 441 := Nat.le_trans (outs2_le (b := 21) n fun j hj => by omega) (Nat.le_trans (Nat.mul_le_mul_right 21 h) (by decide))
theorem dns_len {n : Nat} (h : n ≤ 20) : (dns n).length ≤ 441 := Nat.le_trans (outs2_le (b := 21) n fun j hj => by omega) (Nat.le_trans (Nat.mul_le_mul_right 21 h) (by decide))
theorem kpn_hide (h : Heap) (N : List Addr) : KpN N h (hide h N) := fun _ _ hb e => hide_get e hb

section
variable {prog : Program} {w : World} {A : Around} {env : Env} {g : Heap} {m mg mb : Str → Option Value} {s : Shared} {E : Value → Shared → Prop}

/-- all behind the names -/
theorem law_rest {L a n : Nat} {tn t5 t6 : Tok} {cd : Value} {x : Int} {kvs : List (List Int × Int)} {nv : Value} {cv cv' : Option Value} (hgood : Good n kvs) (hn1 : 1 ≤ n) (hn9 : n ≤ 9) (G : Gl mg mb g) (gL : g.get? L = none) (g3 : g.get? (L + 3) = none) (g4 : g.get? (L + 4) = none)
    (hd : A.depth + 20 ≤ recursionLimit) (hh : A.handled = none) (hu : A.units + 400 < cLine)
    (hz : g.IsCell (L + 1) (some (.int (n : Int) tn))) (hn : g.IsCell (L + 2) (some nv)) (hnv : (vNames prog w (L + 4) kvs).P g nv) (k : Kp g s.heap) (ns : s.heap.Ns L m) (hc3 : s.heap.IsCell (L + 3) cv) (hc4 : s.heap.IsCell (L + 4) cv')
    (hb : m "back" = some (.int x t5)) (hnum : m "number" = some (.int x t6)) :
    wpAny (model prog w) A (execs ((bodyAt 15).drop 3) (lawEnv L a cd)) (fun fl s' => fl = .ret (.bool true) ∧ Rest s s' ∧ Kp g s'.heap) E s := by
  have sL : ∀ p ∈ [L], g.get? p = none := fun p hp => by rw [List.mem_singleton.mp hp]; exact gL
  rw [show (bodyAt 15).drop 3 = _ :: _ :: _ :: _ :: lawFor :: (bodyAt 15).drop 8 from rfl]
  refine wpAny_execs_cons (st_if (g := g) (c := !decide (x = x)) (evT_cmp (R := vInt x) (S := vInt x) (ev_local hb ⟨t5, rfl⟩) (ev_local hnum ⟨t6, rfl⟩) cmp_ne_int) k ns (fun s₁ hc _ => by simp at hc) fun s₁ _ k₁ => wpAny_execs_nil ?_)
  have kg₁ := kp_step k k₁
  have n₁ := ns_keeps ns k₁
  obtain ⟨od, doc, pm, an, cd1, ct, hof, hdf, _⟩ := G.sml
  refine wpAny_execs_cons (st_unpack (g := g) (Rs := [vList (ups n), vList (dns (n - 1))]) [("upright", _), ("down", _)] (ev_callF (Rs := [vInt n]) (ev_global G.g G.nm.sml) (evs_cons (ev_cell (c := L + 1) rfl hz ⟨tn, rfl⟩) evs_nil) hof hdf (evC_small G hh (by omega) (by omega) hn1))
    (SeqOk.cons (ups_seq n) (SeqOk.cons (dns_seq _) SeqOk.nil)) hh kg₁ n₁ rfl ?_)
  intro vs₂ s₂ hv₂ r₂ kn₂ ks₂ n₂
  obtain ⟨v1, v2, rfl, hv1, hv2⟩ := vps2 hv₂
  have kg₂ : Kp g s₂.heap := KpN.ground kn₂ kg₁ sL
  have G₂ := G.keeps kg₂
  have hul := ups_len (n := n) (by omega)
  have hdl := dns_len (n := n - 1) (by omega)
  let m₂ : Str → Option Value := updAll m ["upright", "down"] [v1, v2]
  have n₂' : s₂.heap.Ns L m₂ := n₂
  refine wpAny_execs_cons (st_if (g := s₂.heap) (m := m₂) (c := !decide (((ups n).length : Int) + ((dns (n - 1)).length : Int) = (n : Int) * n))
    (evT_cmp (R := vInt (((ups n).length : Int) + ((dns (n - 1)).length : Int))) (S := vInt ((n : Int) * n)) (ev_add (ev_len G₂ (ev_local rfl hv1) (by omega)) (ev_len G₂ (ev_local rfl hv2) (by omega))) (ev_mul (ev_cell (c := L + 1) rfl (hz.keeps kg₂) ⟨tn, rfl⟩) (ev_cell (c := L + 1) rfl (hz.keeps kg₂) ⟨tn, rfl⟩) (IntMulOk.of_left (bits_le (k := 64) (by omega)))) cmp_ne_int)
    (Kp.refl _) n₂' (fun s₃ hc _ => by rw [decide_eq_true hgood.c4] at hc; cases hc) fun s₃ _ k₃ => wpAny_execs_nil ?_)
  have kg₃ := kg₂.trans (kp_of k₃)
  have n₃ := ns_keeps n₂' k₃
  have hv1₃ := VP.st _ (kp_of k₃) hv1
  have hv2₃ := VP.st _ (kp_of k₃) hv2
  have cellK : ∀ {h h' : Heap} {i : Nat} {v : Option Value}, i ≠ 0 → h.IsCell (L + i) v → KpN [L] h h' → h'.IsCell (L + i) v := fun hi hc kn => by
    obtain ⟨o, e, d⟩ := hc
    exact ⟨o, kn _ _ (fun z => by have z' : L + _ = L := List.mem_singleton.mp z; omega) e, d⟩
  have hc3₃ := (cellK (i := 3) (by decide) (hc3.keeps (kp_of k₁)) kn₂).keeps (kp_of k₃)
  have hc4₃ := (cellK (i := 4) (by decide) (hc4.keeps (kp_of k₁)) kn₂).keeps (kp_of k₃)
  refine wpAny_execs_cons (st_assignB (g := s₃.heap) (m := m₂) (B := L + 4) (R := vTally prog w (L + 4) 0 0 0 0) (ev_tuple (evs_cons ev_int (evs_cons ev_int (evs_cons ev_int (evs_cons ev_int (evs_cons (ev_dict0 (by obtain ⟨o, e, _⟩ := hc4₃; exact ⟨o, e⟩)) evs_nil)))))) BOk.tally (by show L ≤ L + 4; omega) (Kp.refl _) n₃ fun wv s₄ hwv r₄ kn₄ kb₄ n₄ => ?_)
  have kg₄ : Kp g s₄.heap := KpN.ground kn₄ kg₃ sL
  have hv1₄ := ups_seq n kb₄.s hv1₃
  have hv2₄ := dns_seq _ kb₄.s hv2₃
  refine wpAny_execs_cons (law_loop (B := L + 4) (g := g) (kvs := kvs) (us := ups n) (ds := dns (n - 1)) (ts := tris n) (m := upd m₂ "whole" wv) (v1 := v1) (v2 := v2) (tv := wv) G gL g3 (by omega) hh (by omega) rfl hn hnv (tris_eq n) (by omega) (by omega)
    (by have := congrArg List.length (tris_eq n); rw [List.length_append, List.length_map] at this; omega) hgood.looks hgood.fine kg₄ n₄ (cellK (i := 3) (by decide) hc3₃ kn₄) (cellK (i := 4) (by decide) hc4₃ kn₄) rfl hv1₄ rfl hv2₄ rfl hwv ?_)
  intro s₅ m₅ r₅ kn₅ kb₅ hc3₅ n₅ hw₅ e1 e2
  obtain ⟨tv, hw5, htv⟩ := hw₅
  have kg₅ : Kp g s₅.heap := kn₅.ground kg₄ fun p hp => by
    rcases List.mem_cons.mp hp with rfl | hp
    · exact gL
    · rw [List.mem_singleton.mp hp]; exact g3
  have hc4₅ : s₅.heap.IsCell (L + 4) cv' := by
    obtain ⟨o, e, d⟩ := cellK (i := 4) (by decide) hc4₃ kn₄
    refine ⟨o, kn₅ _ _ (fun z => ?_) e, d⟩
    rcases List.mem_cons.mp z with z | z
    · have z' : L + 4 = L := z
      omega
    · have z' : L + 4 = L + 3 := List.mem_singleton.mp z
      omega
  have hv1₅ := ups_seq n kb₅.s hv1₄
  have hv2₅ := dns_seq _ kb₅.s hv2₄
  have r05 : Rest s s₅ := (Rest.of k₁).trans (r₂.trans ((Rest.of k₃).trans (r₄.trans r₅)))
  refine law_edge (B := L + 4) (g := g) G hh (by omega) hz hn hnv (by omega) hgood.edge kg₅ n₅ rfl fun s₆ te r₆ kn₆ n₆ => ?_
  have kb₆ : KpB (L + 4) s₅.heap s₆.heap := KpB.ns kn₆ n₅ (by omega)
  have kg₆ := KpN.ground kn₆ kg₅ sL
  refine law_lines (g := g) G hh hz (by omega) kg₆ n₆ fun lv s₇ hlv r₇ kn₇ ks₇ n₇ => ?_
  have kb₇ : KpB (L + 4) s₆.heap s₇.heap := KpB.ns kn₇ n₆ (by omega)
  have kg₇ := KpN.ground kn₇ kg₆ sL
  rw [lns_eq] at hlv
  have hll : (lns n).length < 1000 := by
    have e := congrArg List.length (lns_eq n)
    unfold lnA lnB lnC at e
    rw [List.length_append, List.length_append, List.length_map] at e
    have a1 := outs2_le (cnt := fun i => i + 1) (Ro := fun i j => two i j (i + 1) j) (b := 10) n fun j hj => by omega
    have a2 := outs2_le (cnt := fun i => i + 1) (Ro := fun i j => two i j (i + 1) (j + 1)) (b := 10) n fun j hj => by omega
    have a3 := outs2_le (cnt := fun i => i + 1) (Ro := fun i j => two (1 + i) j (1 + i) (j + 1)) (b := 10) n fun j hj => by omega
    omega
  refine law_mark (B := L + 4) (g := s₇.heap) (G.keeps kg₇) hh (by omega) (hn.keeps kg₇) (VP.st _ kg₇ hnv) rfl hlv hll hgood.lines (Kp.refl _) n₇ fun s₈ tm r₈ kn₈ n₈ => ?_
  have kb₈ : KpB (L + 4) s₇.heap s₈.heap := KpB.ns kn₈ n₇ (by omega)
  have kg₈ := KpN.ground kn₈ kg₇ sL
  have kb58 := kb₆.trans (kb₇.trans kb₈)
  have htv₈ := BOk.tally kb58 htv
  have hw8 : upd (upd (upd m₅ "edge" (.int (edg kvs n : Nat) te)) "lines" lv) "marked" (.int (mrk kvs (lns n) : Nat) tm) "whole" = some tv := hw5
  refine law_check (B := L + 4) (g := s₈.heap) (hz.keeps kg₈) rfl rfl hw8 htv₈ (by omega) hgood.c1 hgood.c2 hgood.c3 hgood.c4' (Kp.refl _) n₈ fun s₉ k₉ => ?_
  have kg₉ := kg₈.trans (kp_of k₉)
  have n₉ := ns_keeps n₈ k₉
  have hc4₉ := ((cellK (i := 4) (by decide) (cellK (i := 4) (by decide) (cellK (i := 4) (by decide) hc4₅ kn₆) kn₇) kn₈)).keeps (kp_of k₉)
  refine law_turned (B := L + 4) (g := g) G hh (by omega) rfl hz hn hnv hgood.len hgood.form hgood.nd (by obtain ⟨o, e, _⟩ := hn; exact ⟨o, e⟩) kg₉ n₉ hc4₉ fun uv s₁₀ huv r₁₀ kn₁₀ kb₁₀ hc₁₀ => ?_
  have kg₁₀ : Kp g s₁₀.heap := KpN.ground kn₁₀ kg₉ fun p hp => by rw [List.mem_singleton.mp hp]; exact g4
  have n₁₀ : s₁₀.heap.Ns L _ := n₉.at' fun o e => kn₁₀ _ o (notin_add (by decide)) e
  have kb510 : KpB (L + 4) s₅.heap s₁₀.heap := kb58.trans ((KpB.of (kp_of k₉)).trans kb₁₀)
  have hv1₁₀ := ups_seq n kb510.s hv1₅
  have hv2₁₀ := dns_seq _ kb510.s hv2₅
  have f1 : upd (upd (upd m₅ "edge" (.int (edg kvs n : Nat) te)) "lines" lv) "marked" (.int (mrk kvs (lns n) : Nat) tm) "upright" = some v1 := e1
  have f2 : upd (upd (upd m₅ "edge" (.int (edg kvs n : Nat) te)) "lines" lv) "marked" (.int (mrk kvs (lns n) : Nat) tm) "down" = some v2 := e2
  refine law_again (B := L + 4) (g := s₁₀.heap) (kv := tkvs n kvs) (us := ups n) (ds := dns (n - 1)) (ts := tris n) (G.keeps kg₁₀) hh (by omega) hc₁₀ huv (tris_eq n) (by omega) (by omega)
    (by have := congrArg List.length (tris_eq n); rw [List.length_append, List.length_map] at this; omega) hgood.looks2 f1 hv1₁₀ f2 hv2₁₀ (Kp.refl _) n₁₀ fun s₁₁ ta r₁₁ kn₁₁ kb₁₁ n₁₁ => ?_
  have kg₁₁ := KpN.ground kn₁₁ kg₁₀ sL
  have kb11 : KpB (L + 4) s₁₀.heap s₁₁.heap := KpB.ns kn₁₁ n₁₀ (by omega)
  have htv₁₁ := BOk.tally (kb510.trans kb11) htv
  have hw11 : upd (upd (upd (upd m₅ "edge" (.int (edg kvs n : Nat) te)) "lines" lv) "marked" (.int (mrk kvs (lns n) : Nat) tm)) "again" (.int (agn (tkvs n kvs) (tris n) : Nat) ta) "whole" = some tv := hw5
  refine law_end (B := L + 4) (g := s₁₁.heap) rfl hw11 htv₁₁ hgood.c5 hgood.c6 (Kp.refl _) n₁₁ fun s₁₂ k₁₂ => ?_
  exact ⟨rfl, r05.trans (r₆.trans (r₇.trans (r₈.trans ((Rest.of k₉).trans (r₁₀.trans (r₁₁.trans (Rest.of k₁₂))))))), kg₁₁.trans (kp_of k₁₂)⟩
end
end Mine
open PySem PySem.W PySem.Calls PyProof.Rows
set_option Elab.async false
set_option maxRecDepth 100000
namespace Mine
section
variable {prog : Program} {w : World} {A : Around} {env : Env} {g : Heap} {m mg mb : Str → Option Value} {s : Shared} {E : Value → Shared → Prop}

theorem law_body {L a : Nat} {cd : Value} {ns : List Int} {v : Value} (hgood : ∀ n kvs, 2 ≤ n → n ≤ 5 → kvs.map (·.1) = keysRows (n + 1) → (∀ p ∈ kvs, ValOk n p) → Good n kvs) (hsum : mg "sum" = none ∧ mb "sum" = some (.builtin "sum")) (habs : mg "abs" = none ∧ mb "abs" = some (.builtin "abs"))
    (G : Gt mg mb g) (hg4 : g.get? 44 = none) (hg5 : g.get? 51 = none) (gf : ∀ p : Nat, L ≤ p → g.get? p = none) (k : Kp g s.heap) (T : Tabs s.heap) (h51 : 51 < L) (hn : s.heap.Ns L m) (hm : m "script" = some v) (hv : (vInts ns).P s.heap v)
    (hc1 : s.heap.IsCell (L + 1) none) (hc2 : s.heap.IsCell (L + 2) none) (hc3 : s.heap.IsCell (L + 3) none) (hc4 : s.heap.IsCell (L + 4) none) (hd : A.depth + 80 ≤ recursionLimit) (hh : A.handled = none) (hu : A.units + 500 < cLine) :
    wpAny (model prog w) A (execs (bodyAt 15) (lawEnv L a cd)) (fun fl s' => fl = .ret (.bool true) ∧ Rest s s' ∧ Kp g s'.heap ∧ Tabs s'.heap) E s := by
  have gN : ∀ {N : List Nat}, (∀ p ∈ N, L ≤ p) → ∀ p ∈ N, g.get? p = none := fun h p hp => gf p (h p hp)
  have G₀ := G.gl.keeps k
  rw [show bodyAt 15 = _ :: _ :: _ :: (bodyAt 15).drop 3 from rfl]
  have h0 : 0 ≤ ns.sum.fmod 4 := Int.fmod_nonneg_of_pos _ (by decide)
  have h4 : ns.sum.fmod 4 < 4 := Int.fmod_lt_of_pos _ (by decide)
  generalize hnd : (2 + ns.sum.fmod 4).toNat = n
  have hn2 : 2 ≤ n := by omega
  have hn5 : n ≤ 5 := by omega
  have esum : ∀ {h : Heap} {m' : Str → Option Value} (p p2 q : Pos), Gl mg mb h → m' "script" = some v → (vInts ns).P h v → Ev prog w A (lawEnv L a cd) h m' (.Call (.Name "sum" p) [.Name "script" p2] [] q) (vInt ns.sum) := fun p p2 q G' e hv =>
    ev_callB (Rs := [vInts ns]) (ev_builtin G'.g hsum.1 G'.b hsum.2) (evs_cons (ev_local e hv) evs_nil) (evC_sum hh)
  refine wpAny_execs_cons (st_assignC (g := s.heap) (R := vInt (n : Int)) (cc := L + 1) (ev_cast (ev_add ev_int (ev_mod (esum _ _ _ G₀ hm hv) ev_int (by decide))) (by omega)) (SeqOk.int _) (Kp.refl _) hn hc1 rfl fun v₁ s₁ hv₁ r₁ kn₁ ks₁ hc1₁ => ?_)
  obtain ⟨tn, rfl⟩ := hv₁
  have kg₁ : Kp g s₁.heap := KpN.ground kn₁ k (gN fun p hp => by rw [List.mem_singleton.mp hp]; omega)
  have n₁ : s₁.heap.Ns L m := hn.at' fun o e => kn₁ _ o (notin_add (by decide)) e
  have seqL : ∀ {h h' : Heap}, KpS h h' → (vInts ns).P h v → (vInts ns).P h' v := fun ks x => by
    obtain ⟨l, us, e, ⟨o, ho, hc, nn, hdd⟩, hi⟩ := x
    exact ⟨l, us, e, ⟨o, ks _ _ ho ⟨_, _, hdd⟩, hc, nn, hdd⟩, hi⟩
  have hv₁ := seqL ks₁ hv
  have cellK : ∀ {h h' : Heap} {i j : Nat} {v : Option Value}, i ≠ j → h.IsCell (L + i) v → KpN [L + j] h h' → h'.IsCell (L + i) v := fun hi hc kn => by
    obtain ⟨o, e, d⟩ := hc
    exact ⟨o, kn _ _ (fun z => by have z' : L + _ = L + _ := List.mem_singleton.mp z; omega) e, d⟩
  have cellT : ∀ {h h' : Heap} {j : Nat} {v : Option Value}, Tabs h → h.IsCell (L + j) v → KpN [L + j] h h' → Tabs h' := fun {h h' j v} T hc kn => T.kp kn (fun z => by have z' : 44 = L + j := List.mem_singleton.mp z; omega) (fun z => by have z' : 51 = L + j := List.mem_singleton.mp z; omega) (fun c' q r z => by
    obtain ⟨c, o, vs, t', e, ho, hd, hv⟩ := r
    cases e
    obtain ⟨o', e', d'⟩ := hc
    rw [List.mem_singleton.mp z, e'] at ho; cases ho
    rw [d'] at hd; cases hd)
  have T₁ : Tabs s₁.heap := cellT T hc1 kn₁
  have hc2₁ := cellK (i := 2) (j := 1) (by decide) hc2 kn₁
  have hc3₁ := cellK (i := 3) (j := 1) (by decide) hc3 kn₁
  have hc4₁ := cellK (i := 4) (j := 1) (by decide) hc4 kn₁
  have G₁ := G.gl.keeps kg₁
  have hpos : (0 : Nat) < 10 ^ 9 := by decide
  generalize hxd : ns.sum.natAbs % 10 ^ 9 = x
  have hx9 : x < 10 ^ 9 := by rw [← hxd]; exact Nat.mod_lt _ hpos
  refine wpAny_execs_cons (st_assign (g := s₁.heap) (R := vInt (x : Int)) (ev_cast (ev_mod (a := ((ns.sum.natAbs : Nat) : Int)) (b := ((10 ^ 9 : Nat) : Int)) (ev_callB (Rs := [vInt ns.sum]) (ev_builtin G₁.g habs.1 G₁.b habs.2) (evs_cons (esum _ _ _ G₁ hm hv₁) evs_nil) evC_abs) (ev_pow ev_int ev_int (by decide) (by decide)) (by decide))
    (by rw [Int.fmod_eq_emod_of_nonneg _ (by decide), ← hxd]; rfl)) (SeqOk.int _) (Kp.refl _) n₁ fun v₂ s₂ hv₂ r₂ kn₂ ks₂ n₂ => ?_)
  obtain ⟨tx, rfl⟩ := hv₂
  have kg₂ : Kp g s₂.heap := KpN.ground kn₂ kg₁ (gN fun p hp => by rw [List.mem_singleton.mp hp]; exact Nat.le_refl _)
  have T₂ : Tabs s₂.heap := T₁.local n₁ kn₂
  have cellL : ∀ {h h' : Heap} {i : Nat} {v : Option Value}, 0 < i → h.IsCell (L + i) v → KpN [L] h h' → h'.IsCell (L + i) v := fun hi hc kn => by
    obtain ⟨o, e, d⟩ := hc
    exact ⟨o, kn _ _ (notin_add' hi) e, d⟩
  have hc1₂ := cellL (i := 1) (by decide) hc1₁ kn₂
  have hc2₂ := cellL (i := 2) (by decide) hc2₁ kn₂
  have hc3₂ := cellL (i := 3) (by decide) hc3₁ kn₂
  have hc4₂ := cellL (i := 4) (by decide) hc4₁ kn₂
  have G₂ := G.gl.keeps kg₂
  obtain ⟨od, doc, pm, an, cd1, ct, hof, hdf, _⟩ := G₂.nms
  let m₂ : Str → Option Value := upd m "number" (.int (x : Int) tx)
  have n₂' : s₂.heap.Ns L m₂ := n₂
  refine wpAny_execs_cons (Assign_Tuple (eval_callF (g := s₂.heap) (m := m₂) (Rs := [vInt (n : Int), vInt (x : Int)]) (ev_global G₂.g G₂.nm.nms) (evs_cons (ev_cell (c := L + 1) rfl hc1₂ ⟨tn, rfl⟩) (evs_cons (ev_local rfl ⟨tx, rfl⟩) evs_nil)) hof hdf (Kp.refl _) n₂' ?_))
  intro s₃ vs k₃ hvs
  obtain ⟨_, _, rfl, ⟨w1, rfl⟩, ⟨w2, rfl⟩⟩ := vps2 hvs
  have kp₃ := kp_of k₃
  refine wpAny_mono (nms_call (n := n) (x := x) (B := L + 4) G hg4 hg5 (kg₂.trans kp₃) (T₂.keeps kp₃) (by omega) hh (by omega) (by omega) (by omega) (by obtain ⟨o, e, _⟩ := hc4₂; exact ⟨o, kp₃ _ _ e⟩)) (fun v s₄ h => ?_) fun _ _ y => y
  obtain ⟨⟨kvs, ⟨t, us, rfl, ht, hus⟩, hkeys, hval⟩, r₄, kn₄, T₄⟩ := h
  obtain ⟨nv, bv, rfl, hnv, ⟨tb, rfl⟩⟩ := vps2 hus
  have n45 : ∀ {i : Nat}, (L + i : Nat) ∉ [44, 51] := fun {i} z => by
    rcases List.mem_cons.mp z with z | z
    · have z' : L + i = 44 := z
      omega
    · have z' : L + i = 51 := List.mem_singleton.mp z
      omega
  have g45 : ∀ p ∈ [44, 51], g.get? p = none := fun p hp => by
    rcases List.mem_cons.mp hp with rfl | hp
    · exact hg4
    · rw [List.mem_singleton.mp hp]; exact hg5
  have kg₄ : Kp g s₄.heap := kn₄.ground (kg₂.trans kp₃) g45
  have n₄ : s₄.heap.Ns L m₂ := (ns_keeps n₂' k₃).at' fun o e => kn₄ _ o (n45 (i := 0)) e
  have cell45 : ∀ {i : Nat} {v : Option Value}, s₂.heap.IsCell (L + i) v → s₄.heap.IsCell (L + i) v := fun hc => by
    obtain ⟨o, e, d⟩ := hc
    exact ⟨o, kn₄ _ _ n45 (kp₃ _ _ e), d⟩
  refine wpAny_assign_Tuple hh ht rfl rfl fun h₅ hx₅ => ?_
  have kp₅ : Kp s₄.heap h₅ := fun b o e => hx₅ b o (Nat.ne_of_lt (Heap.lt_size e)) e
  show wpAny _ _ (assignInOrder [assign (.Name "names" _) _, assign (.Name "back" _) _] [nv, .int (x : Int) tb]) _ _ _
  refine PyProof.Rows.assignInOrder_cons (wpAny_assign_Name (wpAny_storeName_cell (c := L + 2) rfl rfl rfl ((cell45 hc2₂).keeps kp₅) fun h₆ hc₆ hs₆ => ?_))
  have kn₆ : KpN [L + 2] h₅ h₆ := KpN.same hs₆ (List.Mem.head [])
  have n₆ : h₆.Ns L m₂ := (n₄.keeps kp₅).at' fun o e => kn₆ _ o (notin_add (by decide)) e
  refine PyProof.Rows.assignInOrder_cons (wpAny_assign_Name (wpAny_storeName_local rfl n₆ (fun h₇ n₇ hs₇ => ?_) rfl))
  have kn₇ : KpN [L] h₆ h₇ := KpN.same hs₇ (List.Mem.head [])
  refine PyProof.Rows.assignInOrder_nil ?_
  have n₇' : h₇.Ns L _ := n₇
  have T₆ : Tabs h₆ := cellT (j := 2) (T₄.keeps kp₅) ((cell45 hc2₂).keeps kp₅) kn₆
  have T₇ : Tabs h₇ := T₆.local n₆ kn₇
  have kg₇ : Kp g h₇ := kn₇.ground (kn₆.ground (kg₄.trans kp₅) (gN fun p hp => by rw [List.mem_singleton.mp hp]; omega)) (gN fun p hp => by rw [List.mem_singleton.mp hp]; exact Nat.le_refl _)
  have up7 : ∀ {i : Nat} {v : Option Value}, 0 < i → i ≠ 2 → s₂.heap.IsCell (L + i) v → h₇.IsCell (L + i) v := fun h1 h2 hc => cellL h1 (cellK h2 ((cell45 hc).keeps kp₅) kn₆) kn₇
  have hc1₇ := up7 (by decide) (by decide) hc1₂
  have hc3₇ := up7 (by decide) (by decide) hc3₂
  have hc4₇ := up7 (by decide) (by decide) hc4₂
  have hc2₇ : h₇.IsCell (L + 2) (some nv) := cellL (by decide) hc₆ kn₇
  have hnv₇ : (vNames prog w (L + 4) kvs).P h₇ nv := BOk.names (KpB.ns kn₇ n₆ (by omega)) (BOk.names (KpB.cell kn₆ ((cell45 hc2₂).keeps kp₅) (by omega)) (VP.st _ kp₅ hnv))
  -- the ground of the rest: all but the frame and two cells
  let g₂ := hide h₇ [L, L + 3, L + 4]
  have mem3 : ∀ {P : Nat → Prop}, P L → P (L + 3) → P (L + 4) → ∀ p ∈ [L, L + 3, L + 4], P p := fun h1 h2 h3 p hp => by
    rcases List.mem_cons.mp hp with rfl | hp
    · exact h1
    rcases List.mem_cons.mp hp with rfl | hp
    · exact h2
    · rw [List.mem_singleton.mp hp]; exact h3
  have knh : KpN [L, L + 3, L + 4] h₇ g₂ := kpn_hide _ _
  have kgg : Kp g g₂ := kp_into_hide kg₇ (mem3 (gf _ (Nat.le_refl _)) (gf _ (by omega)) (gf _ (by omega)))
  have notseq : ∀ p ∈ [L, L + 3, L + 4], ∀ o, h₇.get? p = some o → ¬ ∃ vs n, o.data = .seq vs n := by
    have one : ∀ {c : Nat} {v : Option Value}, h₇.IsCell c v → ∀ o, h₇.get? c = some o → ¬ ∃ vs n, o.data = .seq vs n := fun hc o e ⟨vs, n, dd⟩ => by
      obtain ⟨o', e', d'⟩ := hc
      rw [e'] at e; cases e
      rw [d'] at dd; cases dd
    refine mem3 (fun o e ⟨vs, n, dd⟩ => ?_) (one hc3₇) (one hc4₇)
    obtain ⟨o', es, ep, e', d', _⟩ := n₇'
    rw [e'] at e; cases e
    rw [d'] at dd; cases dd
  have hnvg : (vNames prog w (L + 4) kvs).P g₂ nv := by
    obtain ⟨d, xs, rfl, hBd, hD, hK⟩ := hnv₇
    refine ⟨d, xs, rfl, hBd, dict_kpN prog w knh (fun z => ?_) notseq hD, hK⟩
    exact mem3 (P := fun p => d ≠ p) (by omega) (by omega) (by omega) d z rfl
  have cellg : ∀ {i : Nat} {v : Option Value}, i ≠ 0 → i ≠ 3 → i ≠ 4 → h₇.IsCell (L + i) v → g₂.IsCell (L + i) v := fun {i v} a1 a2 a3 hc => by
    obtain ⟨o, e, d⟩ := hc
    exact ⟨o, knh _ _ (fun z => mem3 (P := fun p => L + i ≠ p) (by omega) (by omega) (by omega) _ z rfl) e, d⟩
  have Tg : Tabs g₂ := by
    refine T₇.kp knh (fun z => mem3 (P := fun p => 44 ≠ p) (by omega) (by omega) (by omega) _ z rfl) (fun z => mem3 (P := fun p => 51 ≠ p) (by omega) (by omega) (by omega) _ z rfl) (fun c' q r z => ?_)
    obtain ⟨c, o, vs, t', e, ho, hd, hv⟩ := r
    cases e
    have one : ∀ {c : Nat} {v : Option Value}, h₇.IsCell c v → c' ≠ c := fun hc z => by
      obtain ⟨o', e', d'⟩ := hc
      rw [z, e'] at ho; cases ho
      rw [d'] at hd; cases hd
    refine mem3 (P := fun p => c' ≠ p) (fun z => ?_) (one hc3₇) (one hc4₇) _ z rfl
    obtain ⟨o', es, ep, e', d', _⟩ := n₇'
    rw [z, e'] at ho; cases ho
    rw [d'] at hd; cases hd
  have gnone : ∀ p ∈ [L, L + 3, L + 4], g₂.get? p = none := fun p hp => hideAll_none _ hp
  have r07 : Rest s { s₄ with heap := h₇, toks := s₄.toks + 1 } := r₁.trans (r₂.trans ((Rest.of k₃).trans (r₄.trans ⟨_, _, rfl⟩)))
  refine wpAny_mono (law_rest (g := g₂) (x := (x : Int)) (hgood n kvs hn2 hn5 hkeys hval) (by omega) (by omega) (G.gl.keeps kgg) (gnone _ (.head _)) (gnone _ (.tail _ (.head _))) (gnone _ (.tail _ (.tail _ (.head _)))) (by omega) hh (by omega) (cellg (by decide) (by decide) (by decide) hc1₇) (cellg (by decide) (by decide) (by decide) hc2₇) hnvg (kp_hide _ _) n₇ hc3₇ hc4₇ rfl rfl) (fun fl s' h => ?_) fun _ _ y => y
  obtain ⟨e, r', k'⟩ := h
  exact ⟨e, r07.trans (Rest.trans ⟨_, _, rfl⟩ r'), kgg.trans k', Tg.keeps k'⟩
end
end Mine
open PySem PySem.W PySem.Calls PyProof.Rows
set_option Elab.async false
set_option maxRecDepth 100000
namespace Mine

theorem srt_congr {l l' : List Int} (p : l.Perm l') : srt l = srt l' := sorted_unique ((srt_perm l).trans (p.trans (srt_perm l').symm)) (srt_le l) (srt_le l')
theorem e01_comm (x y : Int) : e01 x y = e01 y x := by unfold e01; rw [srt_congr (.swap y x [])]
theorem bow_rot (x y z : Int) : bow z x y = bow x y z := by
  unfold bow
  rw [srt_congr (((List.Perm.swap x z [y])).trans ((List.Perm.swap y z []).cons x))]
def EI (x y : Int) : Int := if e01 x y then 1 else 0
def BI (x y z : Int) : Int := if bow x y z then 1 else 0
def W01 (x y : Int) : Int := if x = 0 ∧ y = 1 then 1 else if x = 1 ∧ y = 0 then -1 else 0
theorem EI_comm (x y : Int) : EI x y = EI y x := by unfold EI; rw [e01_comm]
theorem W_comm (x y : Int) : W01 x y = - W01 y x := by
  unfold W01
  by_cases h1 : x = 0 ∧ y = 1
  · obtain ⟨rfl, rfl⟩ := h1; rfl
  · by_cases h2 : x = 1 ∧ y = 0
    · obtain ⟨rfl, rfl⟩ := h2; rfl
    · rw [if_neg h1, if_neg h2, if_neg (fun h => h2 ⟨h.2, h.1⟩), if_neg (fun h => h1 ⟨h.2, h.1⟩)]; rfl
def V3 (x : Int) : Prop := x = 0 ∨ x = 1 ∨ x = 2
theorem sid_EI (x y z : Int) : ((sidesOf x y z : Nat) : Int) = EI z x + EI x y + EI y z := by
  unfold sidesOf EI
  push_cast
  split <;> split <;> split <;> rfl
theorem tri_facts {x y z : Int} (hx : V3 x) (hy : V3 y) (hz : V3 z) :
    (decide (sidesOf x y z = 3) || (decide (sidesOf x y z = 1) != bow x y z)) = false ∧ (if sidesOf x y z = 1 then (1 : Int) else 0) = BI x y z ∧ (((sidesOf x y z : Nat) : Int) - BI x y z) % 2 = 0 ∧ rnd x y z = W01 x y + W01 y z + W01 z x ∧ bow ((x + 2).fmod 3) ((y + 2).fmod 3) ((z + 2).fmod 3) = bow x y z := by
  rcases hx with rfl | rfl | rfl <;> rcases hy with rfl | rfl | rfl <;> rcases hz with rfl | rfl | rfl <;> decide
theorem EI_lo {x y : Int} (hx : x = 1 ∨ x = 2) (hy : y = 1 ∨ y = 2) : EI x y = 0 := by
  rcases hx with rfl | rfl <;> rcases hy with rfl | rfl <;> decide
theorem EI_di {x y : Int} (hx : x = 0 ∨ x = 2) (hy : y = 0 ∨ y = 2) : EI x y = 0 := by
  rcases hx with rfl | rfl <;> rcases hy with rfl | rfl <;> decide
theorem EI_le {x y : Int} (hx : x = 0 ∨ x = 1) (hy : y = 0 ∨ y = 1) : (EI x y - (y - x)) % 2 = 0 := by
  rcases hx with rfl | rfl <;> rcases hy with rfl | rfl <;> decide
theorem W_lo {x y : Int} (hx : x = 1 ∨ x = 2) (hy : y = 1 ∨ y = 2) : W01 x y = 0 := by
  rcases hx with rfl | rfl <;> rcases hy with rfl | rfl <;> decide
theorem W_di {x y : Int} (hx : x = 0 ∨ x = 2) (hy : y = 0 ∨ y = 2) : W01 x y = 0 := by
  rcases hx with rfl | rfl <;> rcases hy with rfl | rfl <;> decide
theorem W_le {x y : Int} (hx : x = 0 ∨ x = 1) (hy : y = 0 ∨ y = 1) : W01 x y = y - x := by
  rcases hx with rfl | rfl <;> rcases hy with rfl | rfl <;> decide

theorem look_get {kvs : List (List Int × Int)} {k : List Int} (h : k ∈ kvs.map (·.1)) : ∃ v, look kvs k = some v ∧ (k, v) ∈ kvs := by
  obtain ⟨p, hp, rfl⟩ := List.mem_map.mp h
  unfold look
  cases e : kvs.find? (fun q => decide (q.1 = p.1)) with
  | none =>
    rw [List.find?_eq_none] at e
    exact absurd (e p hp) (by simp)
  | some q =>
    have h1 := List.find?_some e
    have h2 := List.mem_of_find?_eq_some e
    simp only [decide_eq_true_eq] at h1
    exact ⟨q.2, rfl, by rw [← h1]; exact h2⟩
theorem look_of_mem {kvs : List (List Int × Int)} (hn : (kvs.map (·.1)).Nodup) {k : List Int} {v : Int} (h : (k, v) ∈ kvs) : look kvs k = some v := by
  obtain ⟨u, hu, hm⟩ := look_get (List.mem_map_of_mem (f := (·.1)) h)
  have : u = v := by
    obtain ⟨i, hi, e1⟩ := List.getElem_of_mem hm
    obtain ⟨j, hj, e2⟩ := List.getElem_of_mem h
    have e3 : (kvs.map (·.1))[i]? = (kvs.map (·.1))[j]? := by
      rw [List.getElem?_map, List.getElem?_map, List.getElem?_eq_getElem hi, List.getElem?_eq_getElem hj, e1, e2]; rfl
    have := (List.getElem?_inj (by rw [List.length_map]; exact hi) hn).mp e3
    subst this
    rw [e1] at e2
    exact (Prod.mk.inj e2).2
  rw [hu, this]

theorem sum_cnt {α : Type} (p : α → Bool) (d : α) (l : List α) : ∀ k, k ≤ l.length → (cntB (fun i => p (l.getD i d)) k : Int) = ((l.take k).map fun t => if p t then (1 : Int) else 0).sum
  | 0, _ => rfl
  | k + 1, h => by
    have hk : k < l.length := h
    rw [cntB, take_snoc (List.getElem?_eq_getElem hk), List.map_append, List.sum_append, ← sum_cnt p d l k (Nat.le_of_lt hk)]
    have : l.getD k d = l[k] := by rw [List.getD_eq_getElem?_getD, List.getElem?_eq_getElem hk]; rfl
    rw [this]
    simp
    split <;> rfl
theorem mrk_sum (kvs : List (List Int × Int)) (l : List T4) : (mrk kvs l : Int) = (l.map fun t => EI (nam kvs t.a t.b) (nam kvs t.c t.d)).sum := by
  have := sum_cnt (fun t : T4 => e01 (nam kvs t.a t.b) (nam kvs t.c t.d)) ⟨0, 0, 0, 0⟩ l l.length (Nat.le_refl _)
  rw [List.take_length] at this
  exact this
theorem agn_sum (kv : List (List Int × Int)) (l : List T6) : (agn kv l : Int) = (l.map fun t => BI (nam kv t.a t.b) (nam kv t.c t.d) (nam kv t.e t.f)).sum := by
  have := sum_cnt (fun t : T6 => bw kv t) ⟨0, 0, 0, 0, 0, 0⟩ l l.length (Nat.le_refl _)
  rw [List.take_length] at this
  exact this
theorem edg_sum (kvs : List (List Int × Int)) : ∀ n : Nat, (edg kvs n : Int) = ((List.range n).map fun (i : Nat) => EI (nam kvs i 0) (nam kvs (i + 1) 0)).sum
  | 0 => rfl
  | n + 1 => by
    have h := edg_sum kvs n
    unfold edg at h ⊢
    rw [cntB, List.range_succ, List.map_append, List.sum_append, ← h]
    simp [EI]
    split <;> rfl
theorem S0_app (kvs : List (List Int × Int)) (a b : List T6) : S0 kvs (a ++ b) = S0 kvs a + S0 kvs b := by unfold S0; rw [List.map_append, List.sum_append]
theorem S1_app (kvs : List (List Int × Int)) (a b : List T6) : S1 kvs (a ++ b) = S1 kvs a + S1 kvs b := by unfold S1; rw [List.map_append, List.sum_append]
theorem S3_app (kvs : List (List Int × Int)) (a b : List T6) : S3 kvs (a ++ b) = S3 kvs a + S3 kvs b := by unfold S3; rw [List.map_append, List.sum_append]
def V3s (kvs : List (List Int × Int)) (t : T6) : Prop := V3 (nam kvs t.a t.b) ∧ V3 (nam kvs t.c t.d) ∧ V3 (nam kvs t.e t.f)
theorem S0_up (kvs : List (List Int × Int)) (l : List T6) : S0 kvs l = (l.map fun t => EI (nam kvs t.a t.b) (nam kvs t.e t.f) + EI (nam kvs t.a t.b) (nam kvs t.c t.d) + EI (nam kvs t.c t.d) (nam kvs t.e t.f)).sum := by
  unfold S0
  congr 1
  apply List.map_congr_left
  intro t _
  unfold sid
  rw [sid_EI, EI_comm (nam kvs t.e t.f) (nam kvs t.a t.b)]
theorem S0_dn (kvs : List (List Int × Int)) (l : List T6) : S0 kvs l = (l.map fun t => EI (nam kvs t.a t.b) (nam kvs t.e t.f) + EI (nam kvs t.a t.b) (nam kvs t.c t.d) + EI (nam kvs t.e t.f) (nam kvs t.c t.d)).sum := by
  unfold S0
  congr 1
  apply List.map_congr_left
  intro t _
  unfold sid
  rw [sid_EI, EI_comm (nam kvs t.e t.f) (nam kvs t.a t.b), EI_comm (nam kvs t.c t.d) (nam kvs t.e t.f)]
theorem S1_BI (kvs : List (List Int × Int)) (l : List T6) (h : ∀ t ∈ l, V3s kvs t) : S1 kvs l = (l.map fun t => BI (nam kvs t.a t.b) (nam kvs t.c t.d) (nam kvs t.e t.f)).sum := by
  unfold S1
  congr 1
  apply List.map_congr_left
  intro t ht
  obtain ⟨h1, h2, h3⟩ := h t ht
  exact (tri_facts h1 h2 h3).2.1
theorem S01 (kvs : List (List Int × Int)) : ∀ (l : List T6), (∀ t ∈ l, V3s kvs t) → (S0 kvs l - S1 kvs l) % 2 = 0
  | [], _ => rfl
  | t :: l, h => by
    have ih := S01 kvs l fun t ht => h t (.tail _ ht)
    obtain ⟨h1, h2, h3⟩ := h t (.head _)
    have f := tri_facts h1 h2 h3
    have e1 : S0 kvs (t :: l) = (sid kvs t : Nat) + S0 kvs l := by unfold S0; rw [List.map_cons, List.sum_cons]
    have e2 : S1 kvs (t :: l) = (if sid kvs t = 1 then 1 else 0) + S1 kvs l := by unfold S1; rw [List.map_cons, List.sum_cons]
    have f1 := f.2.1
    have f2 := f.2.2.1
    have e3 : (if sid kvs t = 1 then (1 : Int) else 0) = BI (nam kvs t.a t.b) (nam kvs t.c t.d) (nam kvs t.e t.f) := f1
    have e4 : (((sid kvs t : Nat) : Int) - BI (nam kvs t.a t.b) (nam kvs t.c t.d) (nam kvs t.e t.f)) % 2 = 0 := f2
    rw [e1, e2, e3]
    omega
theorem S3_up (kvs : List (List Int × Int)) (l : List T6) (h : ∀ t ∈ l, V3s kvs t) : S3 kvs l = (l.map fun t => W01 (nam kvs t.a t.b) (nam kvs t.c t.d) + W01 (nam kvs t.c t.d) (nam kvs t.e t.f) - W01 (nam kvs t.a t.b) (nam kvs t.e t.f)).sum := by
  unfold S3
  congr 1
  apply List.map_congr_left
  intro t ht
  obtain ⟨h1, h2, h3⟩ := h t ht
  have := (tri_facts h1 h2 h3).2.2.2.1
  unfold rn
  rw [this, W_comm (nam kvs t.e t.f) (nam kvs t.a t.b)]
  omega
theorem S3_dn (kvs : List (List Int × Int)) (l : List T6) (h : ∀ t ∈ l, V3s kvs t) : S3 kvs l = (l.map fun t => W01 (nam kvs t.a t.b) (nam kvs t.c t.d) - W01 (nam kvs t.e t.f) (nam kvs t.c t.d) - W01 (nam kvs t.a t.b) (nam kvs t.e t.f)).sum := by
  unfold S3
  congr 1
  apply List.map_congr_left
  intro t ht
  obtain ⟨h1, h2, h3⟩ := h t ht
  have := (tri_facts h1 h2 h3).2.2.2.1
  unfold rn
  rw [this, W_comm (nam kvs t.e t.f) (nam kvs t.a t.b), W_comm (nam kvs t.c t.d) (nam kvs t.e t.f)]
  omega
end Mine
open PySem PySem.W PySem.Calls PyProof.Rows
set_option Elab.async false
set_option maxRecDepth 100000
namespace Mine

theorem keysRows_mem {r c : Nat} (hc : c ≤ r) : ∀ {m : Nat}, r < m → [(r : Int), (c : Int)] ∈ keysRows m
  | m + 1, h => by
    unfold keysRows
    rcases Nat.lt_or_ge r m with h' | h'
    · exact List.mem_append_left _ (keysRows_mem hc h')
    · have : r = m := by omega
      subst this
      refine List.mem_append_right _ (List.mem_map.mpr ⟨c, List.mem_range.mpr (by omega), rfl⟩)
/-- a place of the triangle -/
def InT (n : Nat) (a b : Int) : Prop := ∃ r c : Nat, a = r ∧ b = c ∧ c ≤ r ∧ r ≤ n
theorem mem_cat2 {α : Type} {cnt : Nat → Nat} {f : Nat → Nat → α} {t : α} : ∀ {n : Nat}, t ∈ cat2 cnt f n → ∃ i j, i < n ∧ j < cnt i ∧ t = f i j
  | n + 1, h => by
    unfold cat2 at h
    rcases List.mem_append.mp h with h | h
    · obtain ⟨i, j, hi, r⟩ := mem_cat2 h
      exact ⟨i, j, Nat.lt_succ_of_lt hi, r⟩
    · obtain ⟨j, hj, rfl⟩ := List.mem_map.mp h
      exact ⟨n, j, Nat.lt_succ_self n, List.mem_range.mp hj, rfl⟩
theorem tri_in {n : Nat} (t : T6) (h : t ∈ tris n) : InT n t.a t.b ∧ InT n t.c t.d ∧ InT n t.e t.f := by
  rcases List.mem_append.mp h with h | h
  · obtain ⟨i, j, hi, hj, rfl⟩ := mem_cat2 h
    exact ⟨⟨i, j, rfl, rfl, by omega, by omega⟩, ⟨i + 1, j, by push_cast; rfl, rfl, by omega, by omega⟩, ⟨i + 1, j + 1, by push_cast; rfl, by push_cast; rfl, by omega, by omega⟩⟩
  · obtain ⟨i, j, hi, hj, rfl⟩ := mem_cat2 h
    exact ⟨⟨1 + i, j, by push_cast; rfl, rfl, by omega, by omega⟩, ⟨1 + i + 1, j + 1, by push_cast; rfl, by push_cast; rfl, by omega, by omega⟩, ⟨1 + i, j + 1, by push_cast; rfl, by push_cast; rfl, by omega, by omega⟩⟩
theorem ln_in {n : Nat} (t : T4) (h : t ∈ lns n) : InT n t.a t.b ∧ InT n t.c t.d := by
  rcases List.mem_append.mp h with h | h
  · rcases List.mem_append.mp h with h | h
    · obtain ⟨i, j, hi, hj, rfl⟩ := mem_cat2 h
      exact ⟨⟨i, j, rfl, rfl, by omega, by omega⟩, ⟨i + 1, j, by push_cast; rfl, rfl, by omega, by omega⟩⟩
    · obtain ⟨i, j, hi, hj, rfl⟩ := mem_cat2 h
      exact ⟨⟨i, j, rfl, rfl, by omega, by omega⟩, ⟨i + 1, j + 1, by push_cast; rfl, by push_cast; rfl, by omega, by omega⟩⟩
  · obtain ⟨i, j, hi, hj, rfl⟩ := mem_cat2 h
    exact ⟨⟨1 + i, j, by push_cast; rfl, rfl, by omega, by omega⟩, ⟨1 + i, j + 1, by push_cast; rfl, by push_cast; rfl, by omega, by omega⟩⟩

section
variable {n : Nat} {kvs : List (List Int × Int)} (hk : kvs.map (·.1) = keysRows (n + 1)) (hv : ∀ p ∈ kvs, ValOk n p)
include hk hv
theorem val_at {r c : Nat} (hc : c ≤ r) (hr : r ≤ n) : ∃ d ∈ kindsOf n r c, look kvs [(r : Int), (c : Int)] = some (d : Int) ∧ nam kvs r c = (d : Int) ∧ ([(r : Int), (c : Int)], (d : Int)) ∈ kvs := by
  obtain ⟨v, h1, h2⟩ := look_get (kvs := kvs) (k := [(r : Int), (c : Int)]) (by rw [hk]; exact keysRows_mem hc (by omega))
  obtain ⟨r', c', d, e1, hd, e2⟩ := hv _ h2
  simp only [List.cons.injEq, and_true] at e1
  have er : r = r' := by omega
  have ec : c = c' := by omega
  subst er ec
  have e2' : v = (d : Int) := e2
  subst e2'
  exact ⟨d, hd, h1, by unfold nam; rw [h1]; rfl, h2⟩
theorem look_in {a b : Int} (h : InT n a b) : look kvs [a, b] = some (nam kvs a b) := by
  obtain ⟨r, c, rfl, rfl, hc, hr⟩ := h
  obtain ⟨d, _, h1, h2, _⟩ := val_at hk hv hc hr
  rw [h1, h2]
theorem V3_in {a b : Int} (h : InT n a b) : V3 (nam kvs a b) := by
  obtain ⟨r, c, rfl, rfl, hc, hr⟩ := h
  obtain ⟨d, hd, _, h2, _⟩ := val_at hk hv hc hr
  rw [h2]
  unfold kindsOf at hd
  unfold V3
  have : d = 0 ∨ d = 1 ∨ d = 2 := by
    repeat' split at hd
    all_goals simp at hd
    all_goals omega
  omega
theorem left_at {r : Nat} (hn : 1 ≤ n) (hr : r ≤ n) : nam kvs r 0 = 0 ∨ nam kvs r 0 = 1 := by
  obtain ⟨d, hd, _, h2, _⟩ := val_at hk hv (Nat.zero_le r) hr
  have h2' : nam kvs r 0 = (d : Int) := h2
  rw [h2']
  unfold kindsOf at hd
  have : d = 0 ∨ d = 1 := by
    split at hd
    · simp at hd; omega
    split at hd
    · simp at hd; omega
    split at hd
    · omega
    split at hd
    · omega
    split at hd
    · simp at hd; omega
    · omega
  omega
theorem top_at : nam kvs 0 0 = 0 := by
  obtain ⟨d, hd, _, h2, _⟩ := val_at hk hv (Nat.le_refl 0) (Nat.zero_le n)
  have h2' : nam kvs 0 0 = (d : Int) := h2
  rw [h2']
  unfold kindsOf at hd
  simp at hd
  omega
theorem foot_at (hn : 1 ≤ n) : nam kvs n 0 = 1 := by
  obtain ⟨d, hd, _, h2, _⟩ := val_at hk hv (Nat.zero_le n) (Nat.le_refl n)
  have h2' : nam kvs n 0 = (d : Int) := h2
  rw [h2']
  unfold kindsOf at hd
  rw [if_neg (by omega), if_pos ⟨rfl, rfl⟩] at hd
  simp at hd
  omega
theorem bottom_at {c : Nat} (hn : 1 ≤ n) (hc : c ≤ n) : nam kvs n c = 1 ∨ nam kvs n c = 2 := by
  obtain ⟨d, hd, _, h2, _⟩ := val_at hk hv hc (Nat.le_refl n)
  rw [h2]
  unfold kindsOf at hd
  have : d = 1 ∨ d = 2 := by
    split at hd
    · omega
    split at hd
    · simp at hd; omega
    split at hd
    · simp at hd; omega
    split at hd
    · simp at hd; omega
    · omega
  omega
theorem diag_at {r : Nat} (hn : 1 ≤ n) (hr : r ≤ n) : nam kvs r r = 0 ∨ nam kvs r r = 2 := by
  obtain ⟨d, hd, _, h2, _⟩ := val_at hk hv (Nat.le_refl r) hr
  rw [h2]
  unfold kindsOf at hd
  have : d = 0 ∨ d = 2 := by
    split at hd
    · simp at hd; omega
    split at hd
    · omega
    split at hd
    · simp at hd; omega
    split at hd
    · omega
    split at hd
    · omega
    split at hd
    · simp at hd; omega
    · omega
  omega
theorem turned_at (hnd : ((tkvs n kvs).map (·.1)).Nodup) {R C : Nat} (hC : C ≤ R) (hR : R ≤ n) : look (tkvs n kvs) [(R : Int), (C : Int)] = some ((nam kvs (C + n - R : Nat) (n - R : Nat) + 2).fmod 3) := by
  obtain ⟨d, _, _, h2, h3⟩ := val_at hk hv (r := C + n - R) (c := n - R) (by omega) (by omega)
  refine look_of_mem hnd ?_
  rw [h2]
  unfold tkvs tps
  rw [List.map_map]
  refine List.mem_map.mpr ⟨_, h3, ?_⟩
  show ([(n : Int) - ((n - R : Nat) : Int), ((C + n - R : Nat) : Int) - ((n - R : Nat) : Int)], ((d : Int) + 2).fmod 3) = _
  have e1 : (n : Int) - ((n - R : Nat) : Int) = R := by omega
  have e2 : ((C + n - R : Nat) : Int) - ((n - R : Nat) : Int) = C := by omega
  rw [e1, e2]
omit hv in
theorem tkvs_keys : (tkvs n kvs).map (·.1) = (keysRows (n + 1)).map fun k => [(n : Int) - k.getD 1 0, k.getD 0 0 - k.getD 1 0] := by
  unfold tkvs tps
  rw [List.map_map, List.map_map, ← hk, List.map_map]
  rfl
end
end Mine
open PySem PySem.W PySem.Calls PyProof.Rows
set_option Elab.async false
set_option maxRecDepth 100000
namespace Mine

theorem V3s_in {n : Nat} {kvs : List (List Int × Int)} (hk : kvs.map (·.1) = keysRows (n + 1)) (hv : ∀ p ∈ kvs, ValOk n p) (t : T6) (h : t ∈ tris n) : V3s kvs t := by
  obtain ⟨h1, h2, h3⟩ := tri_in t h
  exact ⟨V3_in hk hv h1, V3_in hk hv h2, V3_in hk hv h3⟩
theorem nam_turned {n : Nat} {kvs : List (List Int × Int)} (hk : kvs.map (·.1) = keysRows (n + 1)) (hv : ∀ p ∈ kvs, ValOk n p) (hnd : ((tkvs n kvs).map (·.1)).Nodup) {a b : Int} (h : InT n a b) :
    look (tkvs n kvs) [a, b] = some (nam (tkvs n kvs) a b) ∧ nam (tkvs n kvs) a b = (nam kvs (b + n - a) (n - a) + 2).fmod 3 ∧ V3 (nam kvs (b + n - a) (n - a)) := by
  obtain ⟨R, C, rfl, rfl, hC, hR⟩ := h
  have e := turned_at hk hv hnd hC hR
  have c1 : ((C + n - R : Nat) : Int) = (C : Int) + n - R := by omega
  have c2 : ((n - R : Nat) : Int) = (n : Int) - R := by omega
  rw [c1, c2] at e
  have e2 : nam (tkvs n kvs) R C = (nam kvs ((C : Int) + n - R) ((n : Int) - R) + 2).fmod 3 := by unfold nam at e ⊢; rw [e]; rfl
  refine ⟨by rw [e2]; exact e, e2, V3_in hk hv ⟨C + n - R, n - R, c1.symm, c2.symm, by omega, by omega⟩⟩
theorem agn_turned {n : Nat} {kvs : List (List Int × Int)} (N : Int) (hN : N = n) (hk : kvs.map (·.1) = keysRows (n + 1)) (hv : ∀ p ∈ kvs, ValOk n p) (hnd : ((tkvs n kvs).map (·.1)).Nodup) :
    (agn (tkvs n kvs) (tris n) : Int) = ((tris n).map fun t => BI (nam kvs (t.d + N - t.c) (N - t.c)) (nam kvs (t.f + N - t.e) (N - t.e)) (nam kvs (t.b + N - t.a) (N - t.a))).sum := by
  subst hN
  rw [agn_sum]
  congr 1
  apply List.map_congr_left
  intro t ht
  obtain ⟨h1, h2, h3⟩ := tri_in t ht
  obtain ⟨_, e1, w1⟩ := nam_turned hk hv hnd h1
  obtain ⟨_, e2, w2⟩ := nam_turned hk hv hnd h2
  obtain ⟨_, e3, w3⟩ := nam_turned hk hv hnd h3
  rw [e1, e2, e3]
  unfold BI
  rw [(tri_facts w1 w2 w3).2.2.2.2, bow_rot]
theorem good_of {n : Nat} {kvs : List (List Int × Int)} (hn : 1 ≤ n) (hk : kvs.map (·.1) = keysRows (n + 1)) (hv : ∀ p ∈ kvs, ValOk n p) (hnd : ((tkvs n kvs).map (·.1)).Nodup) (hlen : (keysRows (n + 1)).length ≤ 1000)
    (c4 : (((ups n).length : Int) + ((dns (n - 1)).length : Int)) = (n : Int) * n) (cA : S0 kvs (tris n) = 2 * (mrk kvs (lns n) : Int) - edg kvs n) (cB : (agn (tkvs n kvs) (tris n) : Int) = S1 kvs (tris n)) (cC : S3 kvs (tris n) = 1) (cD : (edg kvs n : Int) % 2 = 1) : Good n kvs where
  looks := fun t ht => by
    obtain ⟨h1, h2, h3⟩ := tri_in t ht
    exact ⟨look_in hk hv h1, look_in hk hv h2, look_in hk hv h3⟩
  fine := fun t ht => by
    obtain ⟨h1, h2, h3⟩ := V3s_in hk hv t ht
    exact (tri_facts h1 h2 h3).1
  edge := fun i hi => look_in hk hv ⟨i, 0, rfl, rfl, Nat.zero_le _, hi⟩
  lines := fun t ht => by
    obtain ⟨h1, h2⟩ := ln_in t ht
    exact ⟨look_in hk hv h1, look_in hk hv h2⟩
  c1 := by rw [Int.fmod_eq_emod_of_nonneg _ (by decide)]; exact cD
  c2 := by
    rw [Int.fmod_eq_emod_of_nonneg _ (by decide)]
    have := S01 kvs (tris n) fun t ht => V3s_in hk hv t ht
    omega
  c3 := cA
  c4 := c4
  c4' := by
    rw [← c4]
    have := congrArg List.length (tris_eq n)
    rw [List.length_append, List.length_map] at this
    omega
  len := by
    have := congrArg List.length hk
    rw [List.length_map] at this
    omega
  form := fun p hp => by
    obtain ⟨r, c, d, e, _⟩ := hv p hp
    exact ⟨r, c, e⟩
  nd := hnd
  looks2 := fun t ht => by
    obtain ⟨h1, h2, h3⟩ := tri_in t ht
    exact ⟨(nam_turned hk hv hnd h1).1, (nam_turned hk hv hnd h2).1, (nam_turned hk hv hnd h3).1⟩
  c5 := cB
  c6 := cC

theorem good_2 {kvs : List (List Int × Int)} (hk : kvs.map (·.1) = keysRows (2 + 1)) (hv : ∀ p ∈ kvs, ValOk 2 p) : Good 2 kvs := by
  have hnd : ((tkvs 2 kvs).map (·.1)).Nodup := by rw [tkvs_keys hk]; decide +kernel
  have hV : ∀ t ∈ tris 2, V3s kvs t := fun t ht => V3s_in hk hv t ht
  have hVu : ∀ t ∈ upT 2, V3s kvs t := fun t ht => hV t (List.mem_append_left _ ht)
  have hVd : ∀ t ∈ dnT 1, V3s kvs t := fun t ht => hV t (List.mem_append_right _ ht)
  have u0 : S0 kvs (upT 2) = (EI (nam kvs 0 0) (nam kvs 1 1) + EI (nam kvs 0 0) (nam kvs 1 0) + EI (nam kvs 1 0) (nam kvs 1 1)) + ((EI (nam kvs 1 0) (nam kvs 2 1) + EI (nam kvs 1 0) (nam kvs 2 0) + EI (nam kvs 2 0) (nam kvs 2 1)) + ((EI (nam kvs 1 1) (nam kvs 2 2) + EI (nam kvs 1 1) (nam kvs 2 1) + EI (nam kvs 2 1) (nam kvs 2 2)) + 0)) := by rw [S0_up]; rfl
  have d0 : S0 kvs (dnT 1) = (EI (nam kvs 1 0) (nam kvs 1 1) + EI (nam kvs 1 0) (nam kvs 2 1) + EI (nam kvs 1 1) (nam kvs 2 1)) + 0 := by rw [S0_dn]; rfl
  have m0 : (mrk kvs (lns 2) : Int) = EI (nam kvs 0 0) (nam kvs 1 0) + (EI (nam kvs 1 0) (nam kvs 2 0) + (EI (nam kvs 1 1) (nam kvs 2 1) + (EI (nam kvs 0 0) (nam kvs 1 1) + (EI (nam kvs 1 0) (nam kvs 2 1) + (EI (nam kvs 1 1) (nam kvs 2 2) + (EI (nam kvs 1 0) (nam kvs 1 1) + (EI (nam kvs 2 0) (nam kvs 2 1) + (EI (nam kvs 2 1) (nam kvs 2 2) + 0)))))))) := by rw [mrk_sum]; rfl
  have e0 : (edg kvs 2 : Int) = EI (nam kvs 0 0) (nam kvs 1 0) + (EI (nam kvs 1 0) (nam kvs 2 0) + 0) := by rw [edg_sum]; rfl
  have u1 : S1 kvs (upT 2) = BI (nam kvs 0 0) (nam kvs 1 0) (nam kvs 1 1) + (BI (nam kvs 1 0) (nam kvs 2 0) (nam kvs 2 1) + (BI (nam kvs 1 1) (nam kvs 2 1) (nam kvs 2 2) + 0)) := by rw [S1_BI kvs _ hVu]; rfl
  have d1 : S1 kvs (dnT 1) = BI (nam kvs 1 0) (nam kvs 2 1) (nam kvs 1 1) + 0 := by rw [S1_BI kvs _ hVd]; rfl
  have a1 : (agn (tkvs 2 kvs) (tris 2) : Int) = BI (nam kvs 1 1) (nam kvs 2 1) (nam kvs 2 2) + (BI (nam kvs 0 0) (nam kvs 1 0) (nam kvs 1 1) + (BI (nam kvs 1 0) (nam kvs 2 0) (nam kvs 2 1) + (BI (nam kvs 1 0) (nam kvs 2 1) (nam kvs 1 1) + 0))) := by rw [agn_turned 2 rfl hk hv hnd]; rfl
  have u3 : S3 kvs (upT 2) = (W01 (nam kvs 0 0) (nam kvs 1 0) + W01 (nam kvs 1 0) (nam kvs 1 1) - W01 (nam kvs 0 0) (nam kvs 1 1)) + ((W01 (nam kvs 1 0) (nam kvs 2 0) + W01 (nam kvs 2 0) (nam kvs 2 1) - W01 (nam kvs 1 0) (nam kvs 2 1)) + ((W01 (nam kvs 1 1) (nam kvs 2 1) + W01 (nam kvs 2 1) (nam kvs 2 2) - W01 (nam kvs 1 1) (nam kvs 2 2)) + 0)) := by rw [S3_up kvs _ hVu]; rfl
  have d3 : S3 kvs (dnT 1) = (W01 (nam kvs 1 0) (nam kvs 2 1) - W01 (nam kvs 1 1) (nam kvs 2 1) - W01 (nam kvs 1 0) (nam kvs 1 1)) + 0 := by rw [S3_dn kvs _ hVd]; rfl
  have l0 : nam kvs 0 0 = 0 ∨ nam kvs 0 0 = 1 := left_at hk hv (r := 0) (by decide) (by decide)
  have b0 : nam kvs 2 0 = 1 ∨ nam kvs 2 0 = 2 := bottom_at hk hv (c := 0) (by decide) (by decide)
  have g0 : nam kvs 0 0 = 0 ∨ nam kvs 0 0 = 2 := diag_at hk hv (r := 0) (by decide) (by decide)
  have l1 : nam kvs 1 0 = 0 ∨ nam kvs 1 0 = 1 := left_at hk hv (r := 1) (by decide) (by decide)
  have b1 : nam kvs 2 1 = 1 ∨ nam kvs 2 1 = 2 := bottom_at hk hv (c := 1) (by decide) (by decide)
  have g1 : nam kvs 1 1 = 0 ∨ nam kvs 1 1 = 2 := diag_at hk hv (r := 1) (by decide) (by decide)
  have l2 : nam kvs 2 0 = 0 ∨ nam kvs 2 0 = 1 := left_at hk hv (r := 2) (by decide) (by decide)
  have b2 : nam kvs 2 2 = 1 ∨ nam kvs 2 2 = 2 := bottom_at hk hv (c := 2) (by decide) (by decide)
  have g2 : nam kvs 2 2 = 0 ∨ nam kvs 2 2 = 2 := diag_at hk hv (r := 2) (by decide) (by decide)
  have t0 : nam kvs 0 0 = 0 := top_at hk hv
  have f0 : nam kvs 2 0 = 1 := foot_at hk hv (by decide)
  have el0 := EI_le l0 l1
  have eb0 := EI_lo b0 b1
  have eg0 := EI_di g0 g1
  have wl0 := W_le l0 l1
  have wb0 := W_lo b0 b1
  have wg0 := W_di g0 g1
  have el1 := EI_le l1 l2
  have eb1 := EI_lo b1 b2
  have eg1 := EI_di g1 g2
  have wl1 := W_le l1 l2
  have wb1 := W_lo b1 b2
  have wg1 := W_di g1 g2
  clear l0 b0 g0 l1 b1 g1 l2 b2 g2
  have tA : S0 kvs (tris 2) = S0 kvs (upT 2) + S0 kvs (dnT 1) := S0_app kvs _ _
  have tB : S1 kvs (tris 2) = S1 kvs (upT 2) + S1 kvs (dnT 1) := S1_app kvs _ _
  have tC : S3 kvs (tris 2) = S3 kvs (upT 2) + S3 kvs (dnT 1) := S3_app kvs _ _
  refine good_of (by decide) hk hv hnd (by decide) (by rfl) ?_ ?_ ?_ ?_
  · rw [tA, u0, d0, m0, e0]; clear tA tB tC u0 d0 m0 e0 u1 d1 a1 u3 d3 t0 f0 wl0 wb0 wg0 wl1 wb1 wg1 el0 el1; omega
  · rw [tB, a1, u1, d1]; clear tA tB tC u0 d0 m0 e0 u1 d1 a1 u3 d3 t0 f0 wl0 wb0 wg0 wl1 wb1 wg1 el0 eb0 eg0 el1 eb1 eg1; omega
  · rw [tC, u3, d3]; clear tA tB tC u0 d0 m0 e0 u1 d1 a1 u3 d3 el0 eb0 eg0 el1 eb1 eg1; omega
  · rw [e0]; clear tA tB tC u0 d0 m0 e0 u1 d1 a1 u3 d3 wl0 wb0 wg0 wl1 wb1 wg1; omega

theorem good_3 {kvs : List (List Int × Int)} (hk : kvs.map (·.1) = keysRows (3 + 1)) (hv : ∀ p ∈ kvs, ValOk 3 p) : Good 3 kvs := by
  have hnd : ((tkvs 3 kvs).map (·.1)).Nodup := by rw [tkvs_keys hk]; decide +kernel
  have hV : ∀ t ∈ tris 3, V3s kvs t := fun t ht => V3s_in hk hv t ht
  have hVu : ∀ t ∈ upT 3, V3s kvs t := fun t ht => hV t (List.mem_append_left _ ht)
  have hVd : ∀ t ∈ dnT 2, V3s kvs t := fun t ht => hV t (List.mem_append_right _ ht)
  have u0 : S0 kvs (upT 3) = (EI (nam kvs 0 0) (nam kvs 1 1) + EI (nam kvs 0 0) (nam kvs 1 0) + EI (nam kvs 1 0) (nam kvs 1 1)) + ((EI (nam kvs 1 0) (nam kvs 2 1) + EI (nam kvs 1 0) (nam kvs 2 0) + EI (nam kvs 2 0) (nam kvs 2 1)) + ((EI (nam kvs 1 1) (nam kvs 2 2) + EI (nam kvs 1 1) (nam kvs 2 1) + EI (nam kvs 2 1) (nam kvs 2 2)) + ((EI (nam kvs 2 0) (nam kvs 3 1) + EI (nam kvs 2 0) (nam kvs 3 0) + EI (nam kvs 3 0) (nam kvs 3 1)) + ((EI (nam kvs 2 1) (nam kvs 3 2) + EI (nam kvs 2 1) (nam kvs 3 1) + EI (nam kvs 3 1) (nam kvs 3 2)) + ((EI (nam kvs 2 2) (nam kvs 3 3) + EI (nam kvs 2 2) (nam kvs 3 2) + EI (nam kvs 3 2) (nam kvs 3 3)) + 0))))) := by rw [S0_up]; rfl
  have d0 : S0 kvs (dnT 2) = (EI (nam kvs 1 0) (nam kvs 1 1) + EI (nam kvs 1 0) (nam kvs 2 1) + EI (nam kvs 1 1) (nam kvs 2 1)) + ((EI (nam kvs 2 0) (nam kvs 2 1) + EI (nam kvs 2 0) (nam kvs 3 1) + EI (nam kvs 2 1) (nam kvs 3 1)) + ((EI (nam kvs 2 1) (nam kvs 2 2) + EI (nam kvs 2 1) (nam kvs 3 2) + EI (nam kvs 2 2) (nam kvs 3 2)) + 0)) := by rw [S0_dn]; rfl
  have m0 : (mrk kvs (lns 3) : Int) = EI (nam kvs 0 0) (nam kvs 1 0) + (EI (nam kvs 1 0) (nam kvs 2 0) + (EI (nam kvs 1 1) (nam kvs 2 1) + (EI (nam kvs 2 0) (nam kvs 3 0) + (EI (nam kvs 2 1) (nam kvs 3 1) + (EI (nam kvs 2 2) (nam kvs 3 2) + (EI (nam kvs 0 0) (nam kvs 1 1) + (EI (nam kvs 1 0) (nam kvs 2 1) + (EI (nam kvs 1 1) (nam kvs 2 2) + (EI (nam kvs 2 0) (nam kvs 3 1) + (EI (nam kvs 2 1) (nam kvs 3 2) + (EI (nam kvs 2 2) (nam kvs 3 3) + (EI (nam kvs 1 0) (nam kvs 1 1) + (EI (nam kvs 2 0) (nam kvs 2 1) + (EI (nam kvs 2 1) (nam kvs 2 2) + (EI (nam kvs 3 0) (nam kvs 3 1) + (EI (nam kvs 3 1) (nam kvs 3 2) + (EI (nam kvs 3 2) (nam kvs 3 3) + 0))))))))))))))))) := by rw [mrk_sum]; rfl
  have e0 : (edg kvs 3 : Int) = EI (nam kvs 0 0) (nam kvs 1 0) + (EI (nam kvs 1 0) (nam kvs 2 0) + (EI (nam kvs 2 0) (nam kvs 3 0) + 0)) := by rw [edg_sum]; rfl
  have u1 : S1 kvs (upT 3) = BI (nam kvs 0 0) (nam kvs 1 0) (nam kvs 1 1) + (BI (nam kvs 1 0) (nam kvs 2 0) (nam kvs 2 1) + (BI (nam kvs 1 1) (nam kvs 2 1) (nam kvs 2 2) + (BI (nam kvs 2 0) (nam kvs 3 0) (nam kvs 3 1) + (BI (nam kvs 2 1) (nam kvs 3 1) (nam kvs 3 2) + (BI (nam kvs 2 2) (nam kvs 3 2) (nam kvs 3 3) + 0))))) := by rw [S1_BI kvs _ hVu]; rfl
  have d1 : S1 kvs (dnT 2) = BI (nam kvs 1 0) (nam kvs 2 1) (nam kvs 1 1) + (BI (nam kvs 2 0) (nam kvs 3 1) (nam kvs 2 1) + (BI (nam kvs 2 1) (nam kvs 3 2) (nam kvs 2 2) + 0)) := by rw [S1_BI kvs _ hVd]; rfl
  have a1 : (agn (tkvs 3 kvs) (tris 3) : Int) = BI (nam kvs 2 2) (nam kvs 3 2) (nam kvs 3 3) + (BI (nam kvs 1 1) (nam kvs 2 1) (nam kvs 2 2) + (BI (nam kvs 2 1) (nam kvs 3 1) (nam kvs 3 2) + (BI (nam kvs 0 0) (nam kvs 1 0) (nam kvs 1 1) + (BI (nam kvs 1 0) (nam kvs 2 0) (nam kvs 2 1) + (BI (nam kvs 2 0) (nam kvs 3 0) (nam kvs 3 1) + (BI (nam kvs 2 1) (nam kvs 3 2) (nam kvs 2 2) + (BI (nam kvs 1 0) (nam kvs 2 1) (nam kvs 1 1) + (BI (nam kvs 2 0) (nam kvs 3 1) (nam kvs 2 1) + 0)))))))) := by rw [agn_turned 3 rfl hk hv hnd]; rfl
  have u3 : S3 kvs (upT 3) = (W01 (nam kvs 0 0) (nam kvs 1 0) + W01 (nam kvs 1 0) (nam kvs 1 1) - W01 (nam kvs 0 0) (nam kvs 1 1)) + ((W01 (nam kvs 1 0) (nam kvs 2 0) + W01 (nam kvs 2 0) (nam kvs 2 1) - W01 (nam kvs 1 0) (nam kvs 2 1)) + ((W01 (nam kvs 1 1) (nam kvs 2 1) + W01 (nam kvs 2 1) (nam kvs 2 2) - W01 (nam kvs 1 1) (nam kvs 2 2)) + ((W01 (nam kvs 2 0) (nam kvs 3 0) + W01 (nam kvs 3 0) (nam kvs 3 1) - W01 (nam kvs 2 0) (nam kvs 3 1)) + ((W01 (nam kvs 2 1) (nam kvs 3 1) + W01 (nam kvs 3 1) (nam kvs 3 2) - W01 (nam kvs 2 1) (nam kvs 3 2)) + ((W01 (nam kvs 2 2) (nam kvs 3 2) + W01 (nam kvs 3 2) (nam kvs 3 3) - W01 (nam kvs 2 2) (nam kvs 3 3)) + 0))))) := by rw [S3_up kvs _ hVu]; rfl
  have d3 : S3 kvs (dnT 2) = (W01 (nam kvs 1 0) (nam kvs 2 1) - W01 (nam kvs 1 1) (nam kvs 2 1) - W01 (nam kvs 1 0) (nam kvs 1 1)) + ((W01 (nam kvs 2 0) (nam kvs 3 1) - W01 (nam kvs 2 1) (nam kvs 3 1) - W01 (nam kvs 2 0) (nam kvs 2 1)) + ((W01 (nam kvs 2 1) (nam kvs 3 2) - W01 (nam kvs 2 2) (nam kvs 3 2) - W01 (nam kvs 2 1) (nam kvs 2 2)) + 0)) := by rw [S3_dn kvs _ hVd]; rfl
  have l0 : nam kvs 0 0 = 0 ∨ nam kvs 0 0 = 1 := left_at hk hv (r := 0) (by decide) (by decide)
  have b0 : nam kvs 3 0 = 1 ∨ nam kvs 3 0 = 2 := bottom_at hk hv (c := 0) (by decide) (by decide)
  have g0 : nam kvs 0 0 = 0 ∨ nam kvs 0 0 = 2 := diag_at hk hv (r := 0) (by decide) (by decide)
  have l1 : nam kvs 1 0 = 0 ∨ nam kvs 1 0 = 1 := left_at hk hv (r := 1) (by decide) (by decide)
  have b1 : nam kvs 3 1 = 1 ∨ nam kvs 3 1 = 2 := bottom_at hk hv (c := 1) (by decide) (by decide)
  have g1 : nam kvs 1 1 = 0 ∨ nam kvs 1 1 = 2 := diag_at hk hv (r := 1) (by decide) (by decide)
  have l2 : nam kvs 2 0 = 0 ∨ nam kvs 2 0 = 1 := left_at hk hv (r := 2) (by decide) (by decide)
  have b2 : nam kvs 3 2 = 1 ∨ nam kvs 3 2 = 2 := bottom_at hk hv (c := 2) (by decide) (by decide)
  have g2 : nam kvs 2 2 = 0 ∨ nam kvs 2 2 = 2 := diag_at hk hv (r := 2) (by decide) (by decide)
  have l3 : nam kvs 3 0 = 0 ∨ nam kvs 3 0 = 1 := left_at hk hv (r := 3) (by decide) (by decide)
  have b3 : nam kvs 3 3 = 1 ∨ nam kvs 3 3 = 2 := bottom_at hk hv (c := 3) (by decide) (by decide)
  have g3 : nam kvs 3 3 = 0 ∨ nam kvs 3 3 = 2 := diag_at hk hv (r := 3) (by decide) (by decide)
  have t0 : nam kvs 0 0 = 0 := top_at hk hv
  have f0 : nam kvs 3 0 = 1 := foot_at hk hv (by decide)
  have el0 := EI_le l0 l1
  have eb0 := EI_lo b0 b1
  have eg0 := EI_di g0 g1
  have wl0 := W_le l0 l1
  have wb0 := W_lo b0 b1
  have wg0 := W_di g0 g1
  have el1 := EI_le l1 l2
  have eb1 := EI_lo b1 b2
  have eg1 := EI_di g1 g2
  have wl1 := W_le l1 l2
  have wb1 := W_lo b1 b2
  have wg1 := W_di g1 g2
  have el2 := EI_le l2 l3
  have eb2 := EI_lo b2 b3
  have eg2 := EI_di g2 g3
  have wl2 := W_le l2 l3
  have wb2 := W_lo b2 b3
  have wg2 := W_di g2 g3
  clear l0 b0 g0 l1 b1 g1 l2 b2 g2 l3 b3 g3
  have tA : S0 kvs (tris 3) = S0 kvs (upT 3) + S0 kvs (dnT 2) := S0_app kvs _ _
  have tB : S1 kvs (tris 3) = S1 kvs (upT 3) + S1 kvs (dnT 2) := S1_app kvs _ _
  have tC : S3 kvs (tris 3) = S3 kvs (upT 3) + S3 kvs (dnT 2) := S3_app kvs _ _
  refine good_of (by decide) hk hv hnd (by decide) (by rfl) ?_ ?_ ?_ ?_
  · rw [tA, u0, d0, m0, e0]; clear tA tB tC u0 d0 m0 e0 u1 d1 a1 u3 d3 t0 f0 wl0 wb0 wg0 wl1 wb1 wg1 wl2 wb2 wg2 el0 el1 el2; omega
  · rw [tB, a1, u1, d1]; clear tA tB tC u0 d0 m0 e0 u1 d1 a1 u3 d3 t0 f0 wl0 wb0 wg0 wl1 wb1 wg1 wl2 wb2 wg2 el0 eb0 eg0 el1 eb1 eg1 el2 eb2 eg2; omega
  · rw [tC, u3, d3]; clear tA tB tC u0 d0 m0 e0 u1 d1 a1 u3 d3 el0 eb0 eg0 el1 eb1 eg1 el2 eb2 eg2; omega
  · rw [e0]; clear tA tB tC u0 d0 m0 e0 u1 d1 a1 u3 d3 wl0 wb0 wg0 wl1 wb1 wg1 wl2 wb2 wg2; omega

theorem good_4 {kvs : List (List Int × Int)} (hk : kvs.map (·.1) = keysRows (4 + 1)) (hv : ∀ p ∈ kvs, ValOk 4 p) : Good 4 kvs := by
  have hnd : ((tkvs 4 kvs).map (·.1)).Nodup := by rw [tkvs_keys hk]; decide +kernel
  have hV : ∀ t ∈ tris 4, V3s kvs t := fun t ht => V3s_in hk hv t ht
  have hVu : ∀ t ∈ upT 4, V3s kvs t := fun t ht => hV t (List.mem_append_left _ ht)
  have hVd : ∀ t ∈ dnT 3, V3s kvs t := fun t ht => hV t (List.mem_append_right _ ht)
  have u0 : S0 kvs (upT 4) = (EI (nam kvs 0 0) (nam kvs 1 1) + EI (nam kvs 0 0) (nam kvs 1 0) + EI (nam kvs 1 0) (nam kvs 1 1)) + ((EI (nam kvs 1 0) (nam kvs 2 1) + EI (nam kvs 1 0) (nam kvs 2 0) + EI (nam kvs 2 0) (nam kvs 2 1)) + ((EI (nam kvs 1 1) (nam kvs 2 2) + EI (nam kvs 1 1) (nam kvs 2 1) + EI (nam kvs 2 1) (nam kvs 2 2)) + ((EI (nam kvs 2 0) (nam kvs 3 1) + EI (nam kvs 2 0) (nam kvs 3 0) + EI (nam kvs 3 0) (nam kvs 3 1)) + ((EI (nam kvs 2 1) (nam kvs 3 2) + EI (nam kvs 2 1) (nam kvs 3 1) + EI (nam kvs 3 1) (nam kvs 3 2)) + ((EI (nam kvs 2 2) (nam kvs 3 3) + EI (nam kvs 2 2) (nam kvs 3 2) + EI (nam kvs 3 2) (nam kvs 3 3)) + ((EI (nam kvs 3 0) (nam kvs 4 1) + EI (nam kvs 3 0) (nam kvs 4 0) + EI (nam kvs 4 0) (nam kvs 4 1)) + ((EI (nam kvs 3 1) (nam kvs 4 2) + EI (nam kvs 3 1) (nam kvs 4 1) + EI (nam kvs 4 1) (nam kvs 4 2)) + ((EI (nam kvs 3 2) (nam kvs 4 3) + EI (nam kvs 3 2) (nam kvs 4 2) + EI (nam kvs 4 2) (nam kvs 4 3)) + ((EI (nam kvs 3 3) (nam kvs 4 4) + EI (nam kvs 3 3) (nam kvs 4 3) + EI (nam kvs 4 3) (nam kvs 4 4)) + 0))))))))) := by rw [S0_up]; rfl
  have d0 : S0 kvs (dnT 3) = (EI (nam kvs 1 0) (nam kvs 1 1) + EI (nam kvs 1 0) (nam kvs 2 1) + EI (nam kvs 1 1) (nam kvs 2 1)) + ((EI (nam kvs 2 0) (nam kvs 2 1) + EI (nam kvs 2 0) (nam kvs 3 1) + EI (nam kvs 2 1) (nam kvs 3 1)) + ((EI (nam kvs 2 1) (nam kvs 2 2) + EI (nam kvs 2 1) (nam kvs 3 2) + EI (nam kvs 2 2) (nam kvs 3 2)) + ((EI (nam kvs 3 0) (nam kvs 3 1) + EI (nam kvs 3 0) (nam kvs 4 1) + EI (nam kvs 3 1) (nam kvs 4 1)) + ((EI (nam kvs 3 1) (nam kvs 3 2) + EI (nam kvs 3 1) (nam kvs 4 2) + EI (nam kvs 3 2) (nam kvs 4 2)) + ((EI (nam kvs 3 2) (nam kvs 3 3) + EI (nam kvs 3 2) (nam kvs 4 3) + EI (nam kvs 3 3) (nam kvs 4 3)) + 0))))) := by rw [S0_dn]; rfl
  have m0 : (mrk kvs (lns 4) : Int) = EI (nam kvs 0 0) (nam kvs 1 0) + (EI (nam kvs 1 0) (nam kvs 2 0) + (EI (nam kvs 1 1) (nam kvs 2 1) + (EI (nam kvs 2 0) (nam kvs 3 0) + (EI (nam kvs 2 1) (nam kvs 3 1) + (EI (nam kvs 2 2) (nam kvs 3 2) + (EI (nam kvs 3 0) (nam kvs 4 0) + (EI (nam kvs 3 1) (nam kvs 4 1) + (EI (nam kvs 3 2) (nam kvs 4 2) + (EI (nam kvs 3 3) (nam kvs 4 3) + (EI (nam kvs 0 0) (nam kvs 1 1) + (EI (nam kvs 1 0) (nam kvs 2 1) + (EI (nam kvs 1 1) (nam kvs 2 2) + (EI (nam kvs 2 0) (nam kvs 3 1) + (EI (nam kvs 2 1) (nam kvs 3 2) + (EI (nam kvs 2 2) (nam kvs 3 3) + (EI (nam kvs 3 0) (nam kvs 4 1) + (EI (nam kvs 3 1) (nam kvs 4 2) + (EI (nam kvs 3 2) (nam kvs 4 3) + (EI (nam kvs 3 3) (nam kvs 4 4) + (EI (nam kvs 1 0) (nam kvs 1 1) + (EI (nam kvs 2 0) (nam kvs 2 1) + (EI (nam kvs 2 1) (nam kvs 2 2) + (EI (nam kvs 3 0) (nam kvs 3 1) + (EI (nam kvs 3 1) (nam kvs 3 2) + (EI (nam kvs 3 2) (nam kvs 3 3) + (EI (nam kvs 4 0) (nam kvs 4 1) + (EI (nam kvs 4 1) (nam kvs 4 2) + (EI (nam kvs 4 2) (nam kvs 4 3) + (EI (nam kvs 4 3) (nam kvs 4 4) + 0))))))))))))))))))))))))))))) := by rw [mrk_sum]; rfl
  have e0 : (edg kvs 4 : Int) = EI (nam kvs 0 0) (nam kvs 1 0) + (EI (nam kvs 1 0) (nam kvs 2 0) + (EI (nam kvs 2 0) (nam kvs 3 0) + (EI (nam kvs 3 0) (nam kvs 4 0) + 0))) := by rw [edg_sum]; rfl
  have u1 : S1 kvs (upT 4) = BI (nam kvs 0 0) (nam kvs 1 0) (nam kvs 1 1) + (BI (nam kvs 1 0) (nam kvs 2 0) (nam kvs 2 1) + (BI (nam kvs 1 1) (nam kvs 2 1) (nam kvs 2 2) + (BI (nam kvs 2 0) (nam kvs 3 0) (nam kvs 3 1) + (BI (nam kvs 2 1) (nam kvs 3 1) (nam kvs 3 2) + (BI (nam kvs 2 2) (nam kvs 3 2) (nam kvs 3 3) + (BI (nam kvs 3 0) (nam kvs 4 0) (nam kvs 4 1) + (BI (nam kvs 3 1) (nam kvs 4 1) (nam kvs 4 2) + (BI (nam kvs 3 2) (nam kvs 4 2) (nam kvs 4 3) + (BI (nam kvs 3 3) (nam kvs 4 3) (nam kvs 4 4) + 0))))))))) := by rw [S1_BI kvs _ hVu]; rfl
  have d1 : S1 kvs (dnT 3) = BI (nam kvs 1 0) (nam kvs 2 1) (nam kvs 1 1) + (BI (nam kvs 2 0) (nam kvs 3 1) (nam kvs 2 1) + (BI (nam kvs 2 1) (nam kvs 3 2) (nam kvs 2 2) + (BI (nam kvs 3 0) (nam kvs 4 1) (nam kvs 3 1) + (BI (nam kvs 3 1) (nam kvs 4 2) (nam kvs 3 2) + (BI (nam kvs 3 2) (nam kvs 4 3) (nam kvs 3 3) + 0))))) := by rw [S1_BI kvs _ hVd]; rfl
  have a1 : (agn (tkvs 4 kvs) (tris 4) : Int) = BI (nam kvs 3 3) (nam kvs 4 3) (nam kvs 4 4) + (BI (nam kvs 2 2) (nam kvs 3 2) (nam kvs 3 3) + (BI (nam kvs 3 2) (nam kvs 4 2) (nam kvs 4 3) + (BI (nam kvs 1 1) (nam kvs 2 1) (nam kvs 2 2) + (BI (nam kvs 2 1) (nam kvs 3 1) (nam kvs 3 2) + (BI (nam kvs 3 1) (nam kvs 4 1) (nam kvs 4 2) + (BI (nam kvs 0 0) (nam kvs 1 0) (nam kvs 1 1) + (BI (nam kvs 1 0) (nam kvs 2 0) (nam kvs 2 1) + (BI (nam kvs 2 0) (nam kvs 3 0) (nam kvs 3 1) + (BI (nam kvs 3 0) (nam kvs 4 0) (nam kvs 4 1) + (BI (nam kvs 3 2) (nam kvs 4 3) (nam kvs 3 3) + (BI (nam kvs 2 1) (nam kvs 3 2) (nam kvs 2 2) + (BI (nam kvs 3 1) (nam kvs 4 2) (nam kvs 3 2) + (BI (nam kvs 1 0) (nam kvs 2 1) (nam kvs 1 1) + (BI (nam kvs 2 0) (nam kvs 3 1) (nam kvs 2 1) + (BI (nam kvs 3 0) (nam kvs 4 1) (nam kvs 3 1) + 0))))))))))))))) := by rw [agn_turned 4 rfl hk hv hnd]; rfl
  have u3 : S3 kvs (upT 4) = (W01 (nam kvs 0 0) (nam kvs 1 0) + W01 (nam kvs 1 0) (nam kvs 1 1) - W01 (nam kvs 0 0) (nam kvs 1 1)) + ((W01 (nam kvs 1 0) (nam kvs 2 0) + W01 (nam kvs 2 0) (nam kvs 2 1) - W01 (nam kvs 1 0) (nam kvs 2 1)) + ((W01 (nam kvs 1 1) (nam kvs 2 1) + W01 (nam kvs 2 1) (nam kvs 2 2) - W01 (nam kvs 1 1) (nam kvs 2 2)) + ((W01 (nam kvs 2 0) (nam kvs 3 0) + W01 (nam kvs 3 0) (nam kvs 3 1) - W01 (nam kvs 2 0) (nam kvs 3 1)) + ((W01 (nam kvs 2 1) (nam kvs 3 1) + W01 (nam kvs 3 1) (nam kvs 3 2) - W01 (nam kvs 2 1) (nam kvs 3 2)) + ((W01 (nam kvs 2 2) (nam kvs 3 2) + W01 (nam kvs 3 2) (nam kvs 3 3) - W01 (nam kvs 2 2) (nam kvs 3 3)) + ((W01 (nam kvs 3 0) (nam kvs 4 0) + W01 (nam kvs 4 0) (nam kvs 4 1) - W01 (nam kvs 3 0) (nam kvs 4 1)) + ((W01 (nam kvs 3 1) (nam kvs 4 1) + W01 (nam kvs 4 1) (nam kvs 4 2) - W01 (nam kvs 3 1) (nam kvs 4 2)) + ((W01 (nam kvs 3 2) (nam kvs 4 2) + W01 (nam kvs 4 2) (nam kvs 4 3) - W01 (nam kvs 3 2) (nam kvs 4 3)) + ((W01 (nam kvs 3 3) (nam kvs 4 3) + W01 (nam kvs 4 3) (nam kvs 4 4) - W01 (nam kvs 3 3) (nam kvs 4 4)) + 0))))))))) := by rw [S3_up kvs _ hVu]; rfl
  have d3 : S3 kvs (dnT 3) = (W01 (nam kvs 1 0) (nam kvs 2 1) - W01 (nam kvs 1 1) (nam kvs 2 1) - W01 (nam kvs 1 0) (nam kvs 1 1)) + ((W01 (nam kvs 2 0) (nam kvs 3 1) - W01 (nam kvs 2 1) (nam kvs 3 1) - W01 (nam kvs 2 0) (nam kvs 2 1)) + ((W01 (nam kvs 2 1) (nam kvs 3 2) - W01 (nam kvs 2 2) (nam kvs 3 2) - W01 (nam kvs 2 1) (nam kvs 2 2)) + ((W01 (nam kvs 3 0) (nam kvs 4 1) - W01 (nam kvs 3 1) (nam kvs 4 1) - W01 (nam kvs 3 0) (nam kvs 3 1)) + ((W01 (nam kvs 3 1) (nam kvs 4 2) - W01 (nam kvs 3 2) (nam kvs 4 2) - W01 (nam kvs 3 1) (nam kvs 3 2)) + ((W01 (nam kvs 3 2) (nam kvs 4 3) - W01 (nam kvs 3 3) (nam kvs 4 3) - W01 (nam kvs 3 2) (nam kvs 3 3)) + 0))))) := by rw [S3_dn kvs _ hVd]; rfl
  have l0 : nam kvs 0 0 = 0 ∨ nam kvs 0 0 = 1 := left_at hk hv (r := 0) (by decide) (by decide)
  have b0 : nam kvs 4 0 = 1 ∨ nam kvs 4 0 = 2 := bottom_at hk hv (c := 0) (by decide) (by decide)
  have g0 : nam kvs 0 0 = 0 ∨ nam kvs 0 0 = 2 := diag_at hk hv (r := 0) (by decide) (by decide)
  have l1 : nam kvs 1 0 = 0 ∨ nam kvs 1 0 = 1 := left_at hk hv (r := 1) (by decide) (by decide)
  have b1 : nam kvs 4 1 = 1 ∨ nam kvs 4 1 = 2 := bottom_at hk hv (c := 1) (by decide) (by decide)
  have g1 : nam kvs 1 1 = 0 ∨ nam kvs 1 1 = 2 := diag_at hk hv (r := 1) (by decide) (by decide)
  have l2 : nam kvs 2 0 = 0 ∨ nam kvs 2 0 = 1 := left_at hk hv (r := 2) (by decide) (by decide)
  have b2 : nam kvs 4 2 = 1 ∨ nam kvs 4 2 = 2 := bottom_at hk hv (c := 2) (by decide) (by decide)
  have g2 : nam kvs 2 2 = 0 ∨ nam kvs 2 2 = 2 := diag_at hk hv (r := 2) (by decide) (by decide)
  have l3 : nam kvs 3 0 = 0 ∨ nam kvs 3 0 = 1 := left_at hk hv (r := 3) (by decide) (by decide)
  have b3 : nam kvs 4 3 = 1 ∨ nam kvs 4 3 = 2 := bottom_at hk hv (c := 3) (by decide) (by decide)
  have g3 : nam kvs 3 3 = 0 ∨ nam kvs 3 3 = 2 := diag_at hk hv (r := 3) (by decide) (by decide)
  have l4 : nam kvs 4 0 = 0 ∨ nam kvs 4 0 = 1 := left_at hk hv (r := 4) (by decide) (by decide)
  have b4 : nam kvs 4 4 = 1 ∨ nam kvs 4 4 = 2 := bottom_at hk hv (c := 4) (by decide) (by decide)
  have g4 : nam kvs 4 4 = 0 ∨ nam kvs 4 4 = 2 := diag_at hk hv (r := 4) (by decide) (by decide)
  have t0 : nam kvs 0 0 = 0 := top_at hk hv
  have f0 : nam kvs 4 0 = 1 := foot_at hk hv (by decide)
  have el0 := EI_le l0 l1
  have eb0 := EI_lo b0 b1
  have eg0 := EI_di g0 g1
  have wl0 := W_le l0 l1
  have wb0 := W_lo b0 b1
  have wg0 := W_di g0 g1
  have el1 := EI_le l1 l2
  have eb1 := EI_lo b1 b2
  have eg1 := EI_di g1 g2
  have wl1 := W_le l1 l2
  have wb1 := W_lo b1 b2
  have wg1 := W_di g1 g2
  have el2 := EI_le l2 l3
  have eb2 := EI_lo b2 b3
  have eg2 := EI_di g2 g3
  have wl2 := W_le l2 l3
  have wb2 := W_lo b2 b3
  have wg2 := W_di g2 g3
  have el3 := EI_le l3 l4
  have eb3 := EI_lo b3 b4
  have eg3 := EI_di g3 g4
  have wl3 := W_le l3 l4
  have wb3 := W_lo b3 b4
  have wg3 := W_di g3 g4
  clear l0 b0 g0 l1 b1 g1 l2 b2 g2 l3 b3 g3 l4 b4 g4
  have tA : S0 kvs (tris 4) = S0 kvs (upT 4) + S0 kvs (dnT 3) := S0_app kvs _ _
  have tB : S1 kvs (tris 4) = S1 kvs (upT 4) + S1 kvs (dnT 3) := S1_app kvs _ _
  have tC : S3 kvs (tris 4) = S3 kvs (upT 4) + S3 kvs (dnT 3) := S3_app kvs _ _
  refine good_of (by decide) hk hv hnd (by decide) (by rfl) ?_ ?_ ?_ ?_
  · rw [tA, u0, d0, m0, e0]; clear tA tB tC u0 d0 m0 e0 u1 d1 a1 u3 d3 t0 f0 wl0 wb0 wg0 wl1 wb1 wg1 wl2 wb2 wg2 wl3 wb3 wg3 el0 el1 el2 el3; omega
  · rw [tB, a1, u1, d1]; clear tA tB tC u0 d0 m0 e0 u1 d1 a1 u3 d3 t0 f0 wl0 wb0 wg0 wl1 wb1 wg1 wl2 wb2 wg2 wl3 wb3 wg3 el0 eb0 eg0 el1 eb1 eg1 el2 eb2 eg2 el3 eb3 eg3; omega
  · rw [tC, u3, d3]; clear tA tB tC u0 d0 m0 e0 u1 d1 a1 u3 d3 el0 eb0 eg0 el1 eb1 eg1 el2 eb2 eg2 el3 eb3 eg3; omega
  · rw [e0]; clear tA tB tC u0 d0 m0 e0 u1 d1 a1 u3 d3 wl0 wb0 wg0 wl1 wb1 wg1 wl2 wb2 wg2 wl3 wb3 wg3; omega

theorem good_5 {kvs : List (List Int × Int)} (hk : kvs.map (·.1) = keysRows (5 + 1)) (hv : ∀ p ∈ kvs, ValOk 5 p) : Good 5 kvs := by
  have hnd : ((tkvs 5 kvs).map (·.1)).Nodup := by rw [tkvs_keys hk]; decide +kernel
  have hV : ∀ t ∈ tris 5, V3s kvs t := fun t ht => V3s_in hk hv t ht
  have hVu : ∀ t ∈ upT 5, V3s kvs t := fun t ht => hV t (List.mem_append_left _ ht)
  have hVd : ∀ t ∈ dnT 4, V3s kvs t := fun t ht => hV t (List.mem_append_right _ ht)
  have u0 : S0 kvs (upT 5) = (EI (nam kvs 0 0) (nam kvs 1 1) + EI (nam kvs 0 0) (nam kvs 1 0) + EI (nam kvs 1 0) (nam kvs 1 1)) + ((EI (nam kvs 1 0) (nam kvs 2 1) + EI (nam kvs 1 0) (nam kvs 2 0) + EI (nam kvs 2 0) (nam kvs 2 1)) + ((EI (nam kvs 1 1) (nam kvs 2 2) + EI (nam kvs 1 1) (nam kvs 2 1) + EI (nam kvs 2 1) (nam kvs 2 2)) + ((EI (nam kvs 2 0) (nam kvs 3 1) + EI (nam kvs 2 0) (nam kvs 3 0) + EI (nam kvs 3 0) (nam kvs 3 1)) + ((EI (nam kvs 2 1) (nam kvs 3 2) + EI (nam kvs 2 1) (nam kvs 3 1) + EI (nam kvs 3 1) (nam kvs 3 2)) + ((EI (nam kvs 2 2) (nam kvs 3 3) + EI (nam kvs 2 2) (nam kvs 3 2) + EI (nam kvs 3 2) (nam kvs 3 3)) + ((EI (nam kvs 3 0) (nam kvs 4 1) + EI (nam kvs 3 0) (nam kvs 4 0) + EI (nam kvs 4 0) (nam kvs 4 1)) + ((EI (nam kvs 3 1) (nam kvs 4 2) + EI (nam kvs 3 1) (nam kvs 4 1) + EI (nam kvs 4 1) (nam kvs 4 2)) + ((EI (nam kvs 3 2) (nam kvs 4 3) + EI (nam kvs 3 2) (nam kvs 4 2) + EI (nam kvs 4 2) (nam kvs 4 3)) + ((EI (nam kvs 3 3) (nam kvs 4 4) + EI (nam kvs 3 3) (nam kvs 4 3) + EI (nam kvs 4 3) (nam kvs 4 4)) + ((EI (nam kvs 4 0) (nam kvs 5 1) + EI (nam kvs 4 0) (nam kvs 5 0) + EI (nam kvs 5 0) (nam kvs 5 1)) + ((EI (nam kvs 4 1) (nam kvs 5 2) + EI (nam kvs 4 1) (nam kvs 5 1) + EI (nam kvs 5 1) (nam kvs 5 2)) + ((EI (nam kvs 4 2) (nam kvs 5 3) + EI (nam kvs 4 2) (nam kvs 5 2) + EI (nam kvs 5 2) (nam kvs 5 3)) + ((EI (nam kvs 4 3) (nam kvs 5 4) + EI (nam kvs 4 3) (nam kvs 5 3) + EI (nam kvs 5 3) (nam kvs 5 4)) + ((EI (nam kvs 4 4) (nam kvs 5 5) + EI (nam kvs 4 4) (nam kvs 5 4) + EI (nam kvs 5 4) (nam kvs 5 5)) + 0)))))))))))))) := by rw [S0_up]; rfl
  have d0 : S0 kvs (dnT 4) = (EI (nam kvs 1 0) (nam kvs 1 1) + EI (nam kvs 1 0) (nam kvs 2 1) + EI (nam kvs 1 1) (nam kvs 2 1)) + ((EI (nam kvs 2 0) (nam kvs 2 1) + EI (nam kvs 2 0) (nam kvs 3 1) + EI (nam kvs 2 1) (nam kvs 3 1)) + ((EI (nam kvs 2 1) (nam kvs 2 2) + EI (nam kvs 2 1) (nam kvs 3 2) + EI (nam kvs 2 2) (nam kvs 3 2)) + ((EI (nam kvs 3 0) (nam kvs 3 1) + EI (nam kvs 3 0) (nam kvs 4 1) + EI (nam kvs 3 1) (nam kvs 4 1)) + ((EI (nam kvs 3 1) (nam kvs 3 2) + EI (nam kvs 3 1) (nam kvs 4 2) + EI (nam kvs 3 2) (nam kvs 4 2)) + ((EI (nam kvs 3 2) (nam kvs 3 3) + EI (nam kvs 3 2) (nam kvs 4 3) + EI (nam kvs 3 3) (nam kvs 4 3)) + ((EI (nam kvs 4 0) (nam kvs 4 1) + EI (nam kvs 4 0) (nam kvs 5 1) + EI (nam kvs 4 1) (nam kvs 5 1)) + ((EI (nam kvs 4 1) (nam kvs 4 2) + EI (nam kvs 4 1) (nam kvs 5 2) + EI (nam kvs 4 2) (nam kvs 5 2)) + ((EI (nam kvs 4 2) (nam kvs 4 3) + EI (nam kvs 4 2) (nam kvs 5 3) + EI (nam kvs 4 3) (nam kvs 5 3)) + ((EI (nam kvs 4 3) (nam kvs 4 4) + EI (nam kvs 4 3) (nam kvs 5 4) + EI (nam kvs 4 4) (nam kvs 5 4)) + 0))))))))) := by rw [S0_dn]; rfl
  have m0 : (mrk kvs (lns 5) : Int) = EI (nam kvs 0 0) (nam kvs 1 0) + (EI (nam kvs 1 0) (nam kvs 2 0) + (EI (nam kvs 1 1) (nam kvs 2 1) + (EI (nam kvs 2 0) (nam kvs 3 0) + (EI (nam kvs 2 1) (nam kvs 3 1) + (EI (nam kvs 2 2) (nam kvs 3 2) + (EI (nam kvs 3 0) (nam kvs 4 0) + (EI (nam kvs 3 1) (nam kvs 4 1) + (EI (nam kvs 3 2) (nam kvs 4 2) + (EI (nam kvs 3 3) (nam kvs 4 3) + (EI (nam kvs 4 0) (nam kvs 5 0) + (EI (nam kvs 4 1) (nam kvs 5 1) + (EI (nam kvs 4 2) (nam kvs 5 2) + (EI (nam kvs 4 3) (nam kvs 5 3) + (EI (nam kvs 4 4) (nam kvs 5 4) + (EI (nam kvs 0 0) (nam kvs 1 1) + (EI (nam kvs 1 0) (nam kvs 2 1) + (EI (nam kvs 1 1) (nam kvs 2 2) + (EI (nam kvs 2 0) (nam kvs 3 1) + (EI (nam kvs 2 1) (nam kvs 3 2) + (EI (nam kvs 2 2) (nam kvs 3 3) + (EI (nam kvs 3 0) (nam kvs 4 1) + (EI (nam kvs 3 1) (nam kvs 4 2) + (EI (nam kvs 3 2) (nam kvs 4 3) + (EI (nam kvs 3 3) (nam kvs 4 4) + (EI (nam kvs 4 0) (nam kvs 5 1) + (EI (nam kvs 4 1) (nam kvs 5 2) + (EI (nam kvs 4 2) (nam kvs 5 3) + (EI (nam kvs 4 3) (nam kvs 5 4) + (EI (nam kvs 4 4) (nam kvs 5 5) + (EI (nam kvs 1 0) (nam kvs 1 1) + (EI (nam kvs 2 0) (nam kvs 2 1) + (EI (nam kvs 2 1) (nam kvs 2 2) + (EI (nam kvs 3 0) (nam kvs 3 1) + (EI (nam kvs 3 1) (nam kvs 3 2) + (EI (nam kvs 3 2) (nam kvs 3 3) + (EI (nam kvs 4 0) (nam kvs 4 1) + (EI (nam kvs 4 1) (nam kvs 4 2) + (EI (nam kvs 4 2) (nam kvs 4 3) + (EI (nam kvs 4 3) (nam kvs 4 4) + (EI (nam kvs 5 0) (nam kvs 5 1) + (EI (nam kvs 5 1) (nam kvs 5 2) + (EI (nam kvs 5 2) (nam kvs 5 3) + (EI (nam kvs 5 3) (nam kvs 5 4) + (EI (nam kvs 5 4) (nam kvs 5 5) + 0)))))))))))))))))))))))))))))))))))))))))))) := by rw [mrk_sum]; rfl
  have e0 : (edg kvs 5 : Int) = EI (nam kvs 0 0) (nam kvs 1 0) + (EI (nam kvs 1 0) (nam kvs 2 0) + (EI (nam kvs 2 0) (nam kvs 3 0) + (EI (nam kvs 3 0) (nam kvs 4 0) + (EI (nam kvs 4 0) (nam kvs 5 0) + 0)))) := by rw [edg_sum]; rfl
  have u1 : S1 kvs (upT 5) = BI (nam kvs 0 0) (nam kvs 1 0) (nam kvs 1 1) + (BI (nam kvs 1 0) (nam kvs 2 0) (nam kvs 2 1) + (BI (nam kvs 1 1) (nam kvs 2 1) (nam kvs 2 2) + (BI (nam kvs 2 0) (nam kvs 3 0) (nam kvs 3 1) + (BI (nam kvs 2 1) (nam kvs 3 1) (nam kvs 3 2) + (BI (nam kvs 2 2) (nam kvs 3 2) (nam kvs 3 3) + (BI (nam kvs 3 0) (nam kvs 4 0) (nam kvs 4 1) + (BI (nam kvs 3 1) (nam kvs 4 1) (nam kvs 4 2) + (BI (nam kvs 3 2) (nam kvs 4 2) (nam kvs 4 3) + (BI (nam kvs 3 3) (nam kvs 4 3) (nam kvs 4 4) + (BI (nam kvs 4 0) (nam kvs 5 0) (nam kvs 5 1) + (BI (nam kvs 4 1) (nam kvs 5 1) (nam kvs 5 2) + (BI (nam kvs 4 2) (nam kvs 5 2) (nam kvs 5 3) + (BI (nam kvs 4 3) (nam kvs 5 3) (nam kvs 5 4) + (BI (nam kvs 4 4) (nam kvs 5 4) (nam kvs 5 5) + 0)))))))))))))) := by rw [S1_BI kvs _ hVu]; rfl
  have d1 : S1 kvs (dnT 4) = BI (nam kvs 1 0) (nam kvs 2 1) (nam kvs 1 1) + (BI (nam kvs 2 0) (nam kvs 3 1) (nam kvs 2 1) + (BI (nam kvs 2 1) (nam kvs 3 2) (nam kvs 2 2) + (BI (nam kvs 3 0) (nam kvs 4 1) (nam kvs 3 1) + (BI (nam kvs 3 1) (nam kvs 4 2) (nam kvs 3 2) + (BI (nam kvs 3 2) (nam kvs 4 3) (nam kvs 3 3) + (BI (nam kvs 4 0) (nam kvs 5 1) (nam kvs 4 1) + (BI (nam kvs 4 1) (nam kvs 5 2) (nam kvs 4 2) + (BI (nam kvs 4 2) (nam kvs 5 3) (nam kvs 4 3) + (BI (nam kvs 4 3) (nam kvs 5 4) (nam kvs 4 4) + 0))))))))) := by rw [S1_BI kvs _ hVd]; rfl
  have a1 : (agn (tkvs 5 kvs) (tris 5) : Int) = BI (nam kvs 4 4) (nam kvs 5 4) (nam kvs 5 5) + (BI (nam kvs 3 3) (nam kvs 4 3) (nam kvs 4 4) + (BI (nam kvs 4 3) (nam kvs 5 3) (nam kvs 5 4) + (BI (nam kvs 2 2) (nam kvs 3 2) (nam kvs 3 3) + (BI (nam kvs 3 2) (nam kvs 4 2) (nam kvs 4 3) + (BI (nam kvs 4 2) (nam kvs 5 2) (nam kvs 5 3) + (BI (nam kvs 1 1) (nam kvs 2 1) (nam kvs 2 2) + (BI (nam kvs 2 1) (nam kvs 3 1) (nam kvs 3 2) + (BI (nam kvs 3 1) (nam kvs 4 1) (nam kvs 4 2) + (BI (nam kvs 4 1) (nam kvs 5 1) (nam kvs 5 2) + (BI (nam kvs 0 0) (nam kvs 1 0) (nam kvs 1 1) + (BI (nam kvs 1 0) (nam kvs 2 0) (nam kvs 2 1) + (BI (nam kvs 2 0) (nam kvs 3 0) (nam kvs 3 1) + (BI (nam kvs 3 0) (nam kvs 4 0) (nam kvs 4 1) + (BI (nam kvs 4 0) (nam kvs 5 0) (nam kvs 5 1) + (BI (nam kvs 4 3) (nam kvs 5 4) (nam kvs 4 4) + (BI (nam kvs 3 2) (nam kvs 4 3) (nam kvs 3 3) + (BI (nam kvs 4 2) (nam kvs 5 3) (nam kvs 4 3) + (BI (nam kvs 2 1) (nam kvs 3 2) (nam kvs 2 2) + (BI (nam kvs 3 1) (nam kvs 4 2) (nam kvs 3 2) + (BI (nam kvs 4 1) (nam kvs 5 2) (nam kvs 4 2) + (BI (nam kvs 1 0) (nam kvs 2 1) (nam kvs 1 1) + (BI (nam kvs 2 0) (nam kvs 3 1) (nam kvs 2 1) + (BI (nam kvs 3 0) (nam kvs 4 1) (nam kvs 3 1) + (BI (nam kvs 4 0) (nam kvs 5 1) (nam kvs 4 1) + 0)))))))))))))))))))))))) := by rw [agn_turned 5 rfl hk hv hnd]; rfl
  have u3 : S3 kvs (upT 5) = (W01 (nam kvs 0 0) (nam kvs 1 0) + W01 (nam kvs 1 0) (nam kvs 1 1) - W01 (nam kvs 0 0) (nam kvs 1 1)) + ((W01 (nam kvs 1 0) (nam kvs 2 0) + W01 (nam kvs 2 0) (nam kvs 2 1) - W01 (nam kvs 1 0) (nam kvs 2 1)) + ((W01 (nam kvs 1 1) (nam kvs 2 1) + W01 (nam kvs 2 1) (nam kvs 2 2) - W01 (nam kvs 1 1) (nam kvs 2 2)) + ((W01 (nam kvs 2 0) (nam kvs 3 0) + W01 (nam kvs 3 0) (nam kvs 3 1) - W01 (nam kvs 2 0) (nam kvs 3 1)) + ((W01 (nam kvs 2 1) (nam kvs 3 1) + W01 (nam kvs 3 1) (nam kvs 3 2) - W01 (nam kvs 2 1) (nam kvs 3 2)) + ((W01 (nam kvs 2 2) (nam kvs 3 2) + W01 (nam kvs 3 2) (nam kvs 3 3) - W01 (nam kvs 2 2) (nam kvs 3 3)) + ((W01 (nam kvs 3 0) (nam kvs 4 0) + W01 (nam kvs 4 0) (nam kvs 4 1) - W01 (nam kvs 3 0) (nam kvs 4 1)) + ((W01 (nam kvs 3 1) (nam kvs 4 1) + W01 (nam kvs 4 1) (nam kvs 4 2) - W01 (nam kvs 3 1) (nam kvs 4 2)) + ((W01 (nam kvs 3 2) (nam kvs 4 2) + W01 (nam kvs 4 2) (nam kvs 4 3) - W01 (nam kvs 3 2) (nam kvs 4 3)) + ((W01 (nam kvs 3 3) (nam kvs 4 3) + W01 (nam kvs 4 3) (nam kvs 4 4) - W01 (nam kvs 3 3) (nam kvs 4 4)) + ((W01 (nam kvs 4 0) (nam kvs 5 0) + W01 (nam kvs 5 0) (nam kvs 5 1) - W01 (nam kvs 4 0) (nam kvs 5 1)) + ((W01 (nam kvs 4 1) (nam kvs 5 1) + W01 (nam kvs 5 1) (nam kvs 5 2) - W01 (nam kvs 4 1) (nam kvs 5 2)) + ((W01 (nam kvs 4 2) (nam kvs 5 2) + W01 (nam kvs 5 2) (nam kvs 5 3) - W01 (nam kvs 4 2) (nam kvs 5 3)) + ((W01 (nam kvs 4 3) (nam kvs 5 3) + W01 (nam kvs 5 3) (nam kvs 5 4) - W01 (nam kvs 4 3) (nam kvs 5 4)) + ((W01 (nam kvs 4 4) (nam kvs 5 4) + W01 (nam kvs 5 4) (nam kvs 5 5) - W01 (nam kvs 4 4) (nam kvs 5 5)) + 0)))))))))))))) := by rw [S3_up kvs _ hVu]; rfl
  have d3 : S3 kvs (dnT 4) = (W01 (nam kvs 1 0) (nam kvs 2 1) - W01 (nam kvs 1 1) (nam kvs 2 1) - W01 (nam kvs 1 0) (nam kvs 1 1)) + ((W01 (nam kvs 2 0) (nam kvs 3 1) - W01 (nam kvs 2 1) (nam kvs 3 1) - W01 (nam kvs 2 0) (nam kvs 2 1)) + ((W01 (nam kvs 2 1) (nam kvs 3 2) - W01 (nam kvs 2 2) (nam kvs 3 2) - W01 (nam kvs 2 1) (nam kvs 2 2)) + ((W01 (nam kvs 3 0) (nam kvs 4 1) - W01 (nam kvs 3 1) (nam kvs 4 1) - W01 (nam kvs 3 0) (nam kvs 3 1)) + ((W01 (nam kvs 3 1) (nam kvs 4 2) - W01 (nam kvs 3 2) (nam kvs 4 2) - W01 (nam kvs 3 1) (nam kvs 3 2)) + ((W01 (nam kvs 3 2) (nam kvs 4 3) - W01 (nam kvs 3 3) (nam kvs 4 3) - W01 (nam kvs 3 2) (nam kvs 3 3)) + ((W01 (nam kvs 4 0) (nam kvs 5 1) - W01 (nam kvs 4 1) (nam kvs 5 1) - W01 (nam kvs 4 0) (nam kvs 4 1)) + ((W01 (nam kvs 4 1) (nam kvs 5 2) - W01 (nam kvs 4 2) (nam kvs 5 2) - W01 (nam kvs 4 1) (nam kvs 4 2)) + ((W01 (nam kvs 4 2) (nam kvs 5 3) - W01 (nam kvs 4 3) (nam kvs 5 3) - W01 (nam kvs 4 2) (nam kvs 4 3)) + ((W01 (nam kvs 4 3) (nam kvs 5 4) - W01 (nam kvs 4 4) (nam kvs 5 4) - W01 (nam kvs 4 3) (nam kvs 4 4)) + 0))))))))) := by rw [S3_dn kvs _ hVd]; rfl
  have l0 : nam kvs 0 0 = 0 ∨ nam kvs 0 0 = 1 := left_at hk hv (r := 0) (by decide) (by decide)
  have b0 : nam kvs 5 0 = 1 ∨ nam kvs 5 0 = 2 := bottom_at hk hv (c := 0) (by decide) (by decide)
  have g0 : nam kvs 0 0 = 0 ∨ nam kvs 0 0 = 2 := diag_at hk hv (r := 0) (by decide) (by decide)
  have l1 : nam kvs 1 0 = 0 ∨ nam kvs 1 0 = 1 := left_at hk hv (r := 1) (by decide) (by decide)
  have b1 : nam kvs 5 1 = 1 ∨ nam kvs 5 1 = 2 := bottom_at hk hv (c := 1) (by decide) (by decide)
  have g1 : nam kvs 1 1 = 0 ∨ nam kvs 1 1 = 2 := diag_at hk hv (r := 1) (by decide) (by decide)
  have l2 : nam kvs 2 0 = 0 ∨ nam kvs 2 0 = 1 := left_at hk hv (r := 2) (by decide) (by decide)
  have b2 : nam kvs 5 2 = 1 ∨ nam kvs 5 2 = 2 := bottom_at hk hv (c := 2) (by decide) (by decide)
  have g2 : nam kvs 2 2 = 0 ∨ nam kvs 2 2 = 2 := diag_at hk hv (r := 2) (by decide) (by decide)
  have l3 : nam kvs 3 0 = 0 ∨ nam kvs 3 0 = 1 := left_at hk hv (r := 3) (by decide) (by decide)
  have b3 : nam kvs 5 3 = 1 ∨ nam kvs 5 3 = 2 := bottom_at hk hv (c := 3) (by decide) (by decide)
  have g3 : nam kvs 3 3 = 0 ∨ nam kvs 3 3 = 2 := diag_at hk hv (r := 3) (by decide) (by decide)
  have l4 : nam kvs 4 0 = 0 ∨ nam kvs 4 0 = 1 := left_at hk hv (r := 4) (by decide) (by decide)
  have b4 : nam kvs 5 4 = 1 ∨ nam kvs 5 4 = 2 := bottom_at hk hv (c := 4) (by decide) (by decide)
  have g4 : nam kvs 4 4 = 0 ∨ nam kvs 4 4 = 2 := diag_at hk hv (r := 4) (by decide) (by decide)
  have l5 : nam kvs 5 0 = 0 ∨ nam kvs 5 0 = 1 := left_at hk hv (r := 5) (by decide) (by decide)
  have b5 : nam kvs 5 5 = 1 ∨ nam kvs 5 5 = 2 := bottom_at hk hv (c := 5) (by decide) (by decide)
  have g5 : nam kvs 5 5 = 0 ∨ nam kvs 5 5 = 2 := diag_at hk hv (r := 5) (by decide) (by decide)
  have t0 : nam kvs 0 0 = 0 := top_at hk hv
  have f0 : nam kvs 5 0 = 1 := foot_at hk hv (by decide)
  have el0 := EI_le l0 l1
  have eb0 := EI_lo b0 b1
  have eg0 := EI_di g0 g1
  have wl0 := W_le l0 l1
  have wb0 := W_lo b0 b1
  have wg0 := W_di g0 g1
  have el1 := EI_le l1 l2
  have eb1 := EI_lo b1 b2
  have eg1 := EI_di g1 g2
  have wl1 := W_le l1 l2
  have wb1 := W_lo b1 b2
  have wg1 := W_di g1 g2
  have el2 := EI_le l2 l3
  have eb2 := EI_lo b2 b3
  have eg2 := EI_di g2 g3
  have wl2 := W_le l2 l3
  have wb2 := W_lo b2 b3
  have wg2 := W_di g2 g3
  have el3 := EI_le l3 l4
  have eb3 := EI_lo b3 b4
  have eg3 := EI_di g3 g4
  have wl3 := W_le l3 l4
  have wb3 := W_lo b3 b4
  have wg3 := W_di g3 g4
  have el4 := EI_le l4 l5
  have eb4 := EI_lo b4 b5
  have eg4 := EI_di g4 g5
  have wl4 := W_le l4 l5
  have wb4 := W_lo b4 b5
  have wg4 := W_di g4 g5
  clear l0 b0 g0 l1 b1 g1 l2 b2 g2 l3 b3 g3 l4 b4 g4 l5 b5 g5
  have tA : S0 kvs (tris 5) = S0 kvs (upT 5) + S0 kvs (dnT 4) := S0_app kvs _ _
  have tB : S1 kvs (tris 5) = S1 kvs (upT 5) + S1 kvs (dnT 4) := S1_app kvs _ _
  have tC : S3 kvs (tris 5) = S3 kvs (upT 5) + S3 kvs (dnT 4) := S3_app kvs _ _
  refine good_of (by decide) hk hv hnd (by decide) (by rfl) ?_ ?_ ?_ ?_
  · rw [tA, u0, d0, m0, e0]; clear tA tB tC u0 d0 m0 e0 u1 d1 a1 u3 d3 t0 f0 wl0 wb0 wg0 wl1 wb1 wg1 wl2 wb2 wg2 wl3 wb3 wg3 wl4 wb4 wg4 el0 el1 el2 el3 el4; omega
  · rw [tB, a1, u1, d1]; clear tA tB tC u0 d0 m0 e0 u1 d1 a1 u3 d3 t0 f0 wl0 wb0 wg0 wl1 wb1 wg1 wl2 wb2 wg2 wl3 wb3 wg3 wl4 wb4 wg4 el0 eb0 eg0 el1 eb1 eg1 el2 eb2 eg2 el3 eb3 eg3 el4 eb4 eg4; omega
  · rw [tC, u3, d3]; clear tA tB tC u0 d0 m0 e0 u1 d1 a1 u3 d3 el0 eb0 eg0 el1 eb1 eg1 el2 eb2 eg2 el3 eb3 eg3 el4 eb4 eg4; omega
  · rw [e0]; clear tA tB tC u0 d0 m0 e0 u1 d1 a1 u3 d3 wl0 wb0 wg0 wl1 wb1 wg1 wl2 wb2 wg2 wl3 wb3 wg3 wl4 wb4 wg4; omega

theorem good_all : ∀ n kvs, 2 ≤ n → n ≤ 5 → kvs.map (·.1) = keysRows (n + 1) → (∀ p ∈ kvs, ValOk n p) → Good n kvs := fun n kvs h2 h5 hk hv => by
  match n, h2, h5 with
  | 2, _, _ => exact good_2 hk hv
  | 3, _, _ => exact good_3 hk hv
  | 4, _, _ => exact good_4 hk hv
  | 5, _, _ => exact good_5 hk hv
end Mine
open PySem PySem.W PyProof.Rows
set_option Elab.async false
namespace Mine
set_option maxRecDepth 100000 in
set_option maxHeartbeats 0 in
open_top hd for PySem.Challenge.rw_ga0002_01
end Mine
open PySem PySem.W PySem.Calls PyProof.Rows
set_option Elab.async false
set_option maxRecDepth 100000
namespace Mine

def obAt (K : Frag) (a : Addr) : Obj := (K.lookup a).getD { cls := .none, data := .plain }
def fdOf (o : Obj) : FuncData := match o.data with
  | .func fd => fd
  | _ => fnOf "" "" default [] default .none .none .none .none none .none .none
def vsOf (o : Obj) : Array Value := match o.data with
  | .fields vs => vs
  | _ => #[]
def tokOf : Option Value → Tok
  | some (.str _ t) => t
  | some (.int _ t) => t
  | _ => 0
def gvOf (K : Frag) (x : Str) : Option Value := (nsIn K mainGlobals x).getD none
theorem fnC_of {K : Frag} {h : Heap} (X : K.In h) (i a c : Nat) (h1 : K.lookup a = some (obAt K a))
    (h2 : (obAt K a).data = .func (fnOf (nameAt i) (nameAt i) (paramsAt i) (bodyAt i) (scopeAt i) .none .none (fdOf (obAt K a)).doc (fdOf (obAt K a)).pyModule (fdOf (obAt K a)).annotations (.ref c) (fdOf (obAt K a)).closureTuple))
    (h4 : K.lookup c = some (obAt K c)) (h5 : (obAt K c).data = .fields (vsOf (obAt K c))) (h6 : (vsOf (obAt K c))[1]? = some (.str (nameAt i) (tokOf (vsOf (obAt K c))[1]?))) : FnC i h a c :=
  ⟨_, _, _, _, _, X _ _ h1, h2, ⟨c, _, _, _, rfl, X _ _ h4, h5, h6⟩⟩
theorem FnC.at {i : Nat} {h : Heap} {a c : Addr} (x : FnC i h a c) : FnAt i h a := by
  obtain ⟨o, doc, pm, an, ct, e, d, r⟩ := x
  exact ⟨o, doc, pm, an, _, ct, e, d, r⟩

section
variable {P : Params} {h : Heap} (X : (hd.heap_39 P).In h)
include X
theorem top_21 : FnC 1 h 21 20 := fnC_of X 1 21 20 (by kernel_rfl) (by kernel_rfl) (by kernel_rfl) (by kernel_rfl) (by kernel_rfl)
theorem top_28 : FnC 2 h 28 27 := fnC_of X 2 28 27 (by kernel_rfl) (by kernel_rfl) (by kernel_rfl) (by kernel_rfl) (by kernel_rfl)
theorem top_35 : FnC 5 h 35 34 := fnC_of X 5 35 34 (by kernel_rfl) (by kernel_rfl) (by kernel_rfl) (by kernel_rfl) (by kernel_rfl)
theorem top_49 : FnC 7 h 49 48 := fnC_of X 7 49 48 (by kernel_rfl) (by kernel_rfl) (by kernel_rfl) (by kernel_rfl) (by kernel_rfl)
theorem top_56 : FnC 8 h 56 55 := fnC_of X 8 56 55 (by kernel_rfl) (by kernel_rfl) (by kernel_rfl) (by kernel_rfl) (by kernel_rfl)
theorem top_63 : FnC 9 h 63 62 := fnC_of X 9 63 62 (by kernel_rfl) (by kernel_rfl) (by kernel_rfl) (by kernel_rfl) (by kernel_rfl)
theorem top_70 : FnC 10 h 70 69 := fnC_of X 10 70 69 (by kernel_rfl) (by kernel_rfl) (by kernel_rfl) (by kernel_rfl) (by kernel_rfl)
theorem top_77 : FnC 12 h 77 76 := fnC_of X 12 77 76 (by kernel_rfl) (by kernel_rfl) (by kernel_rfl) (by kernel_rfl) (by kernel_rfl)
theorem top_82 : FnC 13 h 82 81 := fnC_of X 13 82 81 (by kernel_rfl) (by kernel_rfl) (by kernel_rfl) (by kernel_rfl) (by kernel_rfl)
theorem top_89 : FnC 14 h 89 88 := fnC_of X 14 89 88 (by kernel_rfl) (by kernel_rfl) (by kernel_rfl) (by kernel_rfl) (by kernel_rfl)
end
end Mine
open PySem PySem.W PySem.Calls PyProof.Rows
set_option Elab.async false
set_option maxRecDepth 100000
namespace Mine
theorem names_ok {P : Params} {h : Heap} {mg mb : Str → Option Value} (X : (hd.heap_39 P).In h) (G : h.Ns mainGlobals mg) (B : ∀ x : Str, x ≠ "__name__" → mb x = bootBuiltins x) : Nm mg mb where
  range := ⟨mg_none_of X G (by kernel_rfl), (B "range" (by decide)).trans (by kernel_rfl)⟩
  sorted := ⟨mg_none_of X G (by kernel_rfl), (B "sorted" (by decide)).trans (by kernel_rfl)⟩
  len := ⟨mg_none_of X G (by kernel_rfl), (B "len" (by decide)).trans (by kernel_rfl)⟩
  int := ⟨mg_none_of X G (by kernel_rfl), (B "int" (by decide)).trans (by kernel_rfl)⟩
  dict := ⟨mg_none_of X G (by kernel_rfl), (B "dict" (by decide)).trans (by kernel_rfl)⟩
  divmod := ⟨mg_none_of X G (by kernel_rfl), (B "divmod" (by decide)).trans (by kernel_rfl)⟩
  reversed := ⟨mg_none_of X G (by kernel_rfl), (B "reversed" (by decide)).trans (by kernel_rfl)⟩
  limit := ⟨tokOf (gvOf (hd.heap_39 P) "_DIV_LIMIT"), mg_of X G (by kernel_rfl)⟩
  afs := mg_of X G (by kernel_rfl)
  acs := mg_of X G (by kernel_rfl)
  d21 := mg_of X G (by kernel_rfl)
  i2d := mg_of X G (by kernel_rfl)
  d2i := mg_of X G (by kernel_rfl)
  dmp := mg_of X G (by kernel_rfl)
  idm := mg_of X G (by kernel_rfl)
  nms := mg_of X G (by kernel_rfl)
  sml := mg_of X G (by kernel_rfl)
  rnd := mg_of X G (by kernel_rfl)
theorem sum_ok {P : Params} {h : Heap} {mg mb : Str → Option Value} (X : (hd.heap_39 P).In h) (G : h.Ns mainGlobals mg) (B : ∀ x : Str, x ≠ "__name__" → mb x = bootBuiltins x) : mg "sum" = none ∧ mb "sum" = some (.builtin "sum") :=
  ⟨mg_none_of X G (by kernel_rfl), (B "sum" (by decide)).trans (by kernel_rfl)⟩
theorem abs_ok {P : Params} {h : Heap} {mg mb : Str → Option Value} (X : (hd.heap_39 P).In h) (G : h.Ns mainGlobals mg) (B : ∀ x : Str, x ≠ "__name__" → mb x = bootBuiltins x) : mg "abs" = none ∧ mb "abs" = some (.builtin "abs") :=
  ⟨mg_none_of X G (by kernel_rfl), (B "abs" (by decide)).trans (by kernel_rfl)⟩
theorem gt_ok {P : Params} {h : Heap} {mg mb : Str → Option Value} {p : Program} {loose : List Str} {mean : ExcName → Option Value} (X : (hd.heap_39 P).In h) (T : Top p loose mean mg mb h) (c1 : CodeHd h 48 44) (c2 : CodeHd h 55 51) : Gt mg mb h where
  gl := ⟨T.g, T.b, T.nolimit, names_ok X T.g T.builtins, (top_21 X).at, (top_28 X).at, (top_35 X).at, (top_49 X).at, (top_56 X).at, (top_63 X).at, (top_70 X).at, (top_77 X).at, (top_82 X).at, (top_89 X).at⟩
  c1 := c1
  c2 := c2
  f1 := top_49 X
  f2 := top_56 X
  bm := T.bmain

set_option maxHeartbeats 8000000 in
theorem law_holds : PySem.Challenge.rw_ga0002_01.Holds := hd (by
  k_go0; (all_goals try k_fold)
  rename CodeHd _ (48, 44).1 _ => cc1
  rename CodeHd _ (55, 51).1 _ => cc2
  rename Frag.In _ (ghostOf _ _) => XX
  rename Top topProg _ _ _ _ _ => TT
  rename Fr _ _ _ _ => FF
  rename News _ _ _ _ => NN
  rename IntsAre _ _ => II
  rename Heap.IsList (ghostOf _ _) _ _ => LL
  refine wpAny_mono (law_body (g := ghostOf _ _) good_all (sum_ok XX TT.g TT.builtins) (abs_ok XX TT.g TT.builtins) (gt_ok XX TT cc1 cc2) (hideAll_none _ (by decide)) (hideAll_none _ (by decide)) (fun p hp => Heap.get?_none_of_le (by rw [hideAll_size]; exact hp)) FF.keep
    ⟨⟨#[], (NN (44, _) (by simp)).1, .inl rfl⟩, ⟨#[], (NN (51, _) (by simp)).1, .inl rfl⟩⟩ ?h51 FF.ns rfl ⟨_, _, rfl, isList_kp LL (KpN.of (N := []) FF.keep) (fun z => nomatch z), II⟩ ⟨_, (NN _ (.tail _ (.tail _ (.tail _ (.head _))))).1, ?c1⟩ ⟨_, (NN _ (.tail _ (.tail _ (.head _)))).1, ?c2⟩ ⟨_, (NN _ (.tail _ (.head _))).1, ?c3⟩ ⟨_, (NN _ (.head _)).1, ?c4⟩ ?hd ?hh ?hu) (fun fl s' hfl => ?fin) (fun _ _ y => y)
  case fin =>
    obtain ⟨rfl, rr, kk, tt⟩ := hfl
    obtain ⟨ps, ea, _⟩ := tt.a
    obtain ⟨qs, eb, _⟩ := tt.b
    refine ⟨⟨.inl ⟨.bool true, .bool true, [], rfl, fun _ => rfl, ?r1, ?r2, fun _ => ⟨List.nodup_nil, fun _ h => nomatch h⟩⟩, kk, ?r3, ?r4⟩, ⟨qs, eb⟩, ⟨ps, ea⟩, trivial⟩
    case r1 => exact .bool true
    case r2 => wrow_post
    case r3 => obtain ⟨h, tk, rfl⟩ := rr; rfl
    case r4 => obtain ⟨h, tk, rfl⟩ := rr; assumption
  case h51 => exact (by assumption : 51 < _ ∧ 44 < _).1
  case c1 => assumption
  case c2 => assumption
  case c3 => assumption
  case c4 => assumption
  case hd => (show callerA.depth + 1 + 80 ≤ recursionLimit); decide
  case hh => rfl
  case hu => (show callerA.units + 3 + 500 < cLine); decide)
end Mine
theorem PySem.Challenge.cw_ga0002_01_holds : PySem.Challenge.rw_ga0002_01.Holds :=
  Mine.law_holds
