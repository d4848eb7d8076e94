import PyProof.Rows.All
import Wide.All
import OpenK.AllK
import Wide.FinOn
import PySem.Challenge.RW_oh0044_01
open PySem PySem.W PyProof.Rows
set_option Elab.async false
set_option maxRecDepth 100000
set_option maxHeartbeats 8000000
set_option linter.all false
set_option genSizeOf false
set_option genSizeOfSpec false
set_option genInjectivity false
namespace Mine
open_top hd for PySem.Challenge.rw_oh0044_01
end Mine
namespace Mine
noncomputable def Ctr (w : World) (D U : Nat) (f : Addr) (vs : List Value) (news : List (Addr × Obj)) (Post : Value → List (Addr × Obj) → Prop) : Prop :=
  ∀ (mean : ExcName → Option Value) (mg mb : Str → Option Value) (dp un : Nat) (gd : Option (List Code)) (cn : Str) (cs : Scope) (a : Addr) (ccd : Value) (cl : List (Str × Addr)) (outer : List Env) (A₀ : Around) (base h₀ : Heap) (L : Addr) (m : Str → Option Value) (s : Shared)
    (Q E : Value → Shared → Prop),
    Below A₀ base outer h₀ → Fr h₀ L s.heap m → (hd.heap_39 w.params).In h₀ → News h₀ L s.heap news → Top hd.view_39 (looseW hd.view_39 [Str.ofString "_filemode_table"]) mean mg mb h₀ → cs.kind = .function → dp + D < recursionLimit → un + U < cLine →
    (∀ r news' h' tk', Fr h₀ L h' m → News h₀ L h' news' → Post r news' → Q r { s with heap := h', toks := tk' }) →
    wpAny (model PySem.Challenge.rw_oh0044_01.row.prog w) (ktrTop dp un gd cn cs L a ccd cl outer) (call (.ref f) vs) Q E s
theorem ctr_use {w : World} {D U : Nat} {f : Addr} {vs : List Value} {news : List (Addr × Obj)} {Post : Value → List (Addr × Obj) → Prop} {mean : ExcName → Option Value} {mg mb : Str → Option Value} {dp un : Nat} {gd : Option (List Code)} {cn : Str} {cs : Scope} {a : Addr} {ccd : Value} {cl : List (Str × Addr)} {outer : List Env} {A₀ : Around} {base h₀ : Heap} {L : Addr} {m : Str → Option Value} {s : Shared}
    {Q E : Value → Shared → Prop} (C : Ctr w D U f vs news Post) (B : Below A₀ base outer h₀) (F : Fr h₀ L s.heap m) (X : (hd.heap_39 w.params).In h₀) (N : News h₀ L s.heap news) (T : Top hd.view_39 (looseW hd.view_39 [Str.ofString "_filemode_table"]) mean mg mb h₀) (hk : cs.kind = .function)
    (hdp : dp + D < recursionLimit) (hu : un + U < cLine)
    (ret : ∀ r news' h' tk', Fr h₀ L h' m → News h₀ L h' news' → Post r news' → Q r { s with heap := h', toks := tk' }) :
    wpAny (model PySem.Challenge.rw_oh0044_01.row.prog w) (ktrTop dp un gd cn cs L a ccd cl outer) (call (.ref f) vs) Q E s := C _ _ _ _ _ _ _ _ _ _ _ _ _ _ _ _ _ _ _ _ B F X N T hk hdp hu ret
end Mine
namespace Mine
theorem sifmt (w : World) (i : Int) (t : Tok) (news : List (Addr × Obj)) : Ctr w 1 8 63 [.int i t] news (fun r n' => n' = news ∧ ∃ t', r = .int (Builtin.bitAnd i 61440) t') := by
  (unfold Ctr; k_fill; intro mean mg mb dp un gd cn cs a ccd cl outer A₀ base h₀ L m s Q E B F X N T hk hdp hu hret; refine wpAny_call ?_; k_dflt ktr_enter; (show (let e9 : Env := _; let A9 : Around := Around.deeper _ e9; wpAny _ A9 (execs _ e9) _ _ _)); intro e9 A9)
  k_steps
  refine hret _ _ _ _ (by k_asm) (by k_asm) ?_
  exact ⟨rfl, _, rfl⟩
theorem simode (w : World) (i : Int) (t : Tok) (news : List (Addr × Obj)) : Ctr w 1 8 56 [.int i t] news (fun r n' => n' = news ∧ ∃ t', r = .int (Builtin.bitAnd i 4095) t') := by
  (unfold Ctr; k_fill; intro mean mg mb dp un gd cn cs a ccd cl outer A₀ base h₀ L m s Q E B F X N T hk hdp hu hret; refine wpAny_call ?_; k_dflt ktr_enter; (show (let e9 : Env := _; let A9 : Around := Around.deeper _ e9; wpAny _ A9 (execs _ e9) _ _ _)); intro e9 A9)
  k_steps
  refine hret _ _ _ _ (by k_asm) (by k_asm) ?_
  exact ⟨rfl, _, rfl⟩
theorem isdir (w : World) (i : Int) (t : Tok) (news : List (Addr × Obj)) : Ctr w 2 16 70 [.int i t] news (fun r n' => n' = news ∧ r = .bool (Builtin.bitAnd i 61440 == 16384)) := by
  (unfold Ctr; k_fill; intro mean mg mb dp un gd cn cs a ccd cl outer A₀ base h₀ L m s Q E B F X N T hk hdp hu hret; refine wpAny_call ?_; k_dflt ktr_enter; (show (let e9 : Env := _; let A9 : Around := Around.deeper _ e9; wpAny _ A9 (execs _ e9) _ _ _)); intro e9 A9)
  ((try dsimp only); (try k_fold); repeat' ((fail_if_success (with_reducible show wpAny _ _ (exec (PySem.Stmt.While _ _ _ _) _) _ _ _)); (fail_if_success (with_reducible show wpAny _ _ (exec (PySem.Stmt.For _ _ _ _ _) _) _ _ _)); (fail_if_success (with_reducible show wpAny _ _ (eval (PySem.Expr.ListComp _ _ _ _) _) _ _ _)); (fail_if_success (with_reducible show wpAny _ _ (subscriptTail _ _ (Value.ref _) _) _ _ _)); (fail_if_success (with_reducible show wpAny _ _ (setItem (Value.ref _) _ _) _ _ _)); (fail_if_success (with_reducible show wpAny _ _ (compareOp CmpOp.Lt (Value.ref _) (Value.ref _)) _ _ _)); (fail_if_success (with_reducible show wpAny _ _ (call (Value.ref _) _) _ _ _)); (fail_if_success (with_reducible show wpAny _ _ (call (Value.builtin "len") [Value.ref _]) _ _ _)); (fail_if_success (with_reducible show KswEnd _ _ _ _ _ _ _ _ _ _ _ _)); (fail_if_success (with_reducible show LoopStepU _ _ _ _ _ _ _ _)); (fail_if_success (with_reducible show InvEndN _ _ _ _ _ _ _)); (fail_if_success (with_reducible show RngEnd _ _ _ _ _ _ _ _ _ _ _)); (fail_if_success (with_reducible show RngPost _ _ _ _ _ _ _ _ _ _ _ _ _)); first | (k_unfold; (try dsimp only)) | (k_end; wrow_close) | walk1 | (dsimp only; walk1) | (leave1; walk_say "STEP leave1"; try dsimp only) | fail "no step"); all_goals (repeat (k_unfold; (try dsimp only))))
  (refine' ctr_use (sifmt _ _ _ _) ?k1 ?k2 ?k3 ?k4 ?k5 ?kK ?kd ?ku ?_; (case k1 => k_asm); (case k2 => k_asm); (case k3 => k_asm); (case k4 => k_asm); (case k5 => k_asm); (case kK => first | exact rfl | assumption); (case kd => first | lia | ktr_room | ((try dsimp only [A9]); ktr_room)); (case ku => first | lia | ktr_units | ((try dsimp only [A9]); ktr_units)))
  intro r9 n9 h9 tk9 F9 N9 P9
  obtain ⟨rfl, t9, rfl⟩ := P9
  ((try dsimp only); (try k_fold); repeat' ((fail_if_success (with_reducible show wpAny _ _ (exec (PySem.Stmt.While _ _ _ _) _) _ _ _)); (fail_if_success (with_reducible show wpAny _ _ (exec (PySem.Stmt.For _ _ _ _ _) _) _ _ _)); (fail_if_success (with_reducible show wpAny _ _ (eval (PySem.Expr.ListComp _ _ _ _) _) _ _ _)); (fail_if_success (with_reducible show wpAny _ _ (subscriptTail _ _ (Value.ref _) _) _ _ _)); (fail_if_success (with_reducible show wpAny _ _ (setItem (Value.ref _) _ _) _ _ _)); (fail_if_success (with_reducible show wpAny _ _ (compareOp CmpOp.Lt (Value.ref _) (Value.ref _)) _ _ _)); (fail_if_success (with_reducible show wpAny _ _ (call (Value.ref _) _) _ _ _)); (fail_if_success (with_reducible show wpAny _ _ (call (Value.builtin "len") [Value.ref _]) _ _ _)); (fail_if_success (with_reducible show KswEnd _ _ _ _ _ _ _ _ _ _ _ _)); (fail_if_success (with_reducible show LoopStepU _ _ _ _ _ _ _ _)); (fail_if_success (with_reducible show InvEndN _ _ _ _ _ _ _)); (fail_if_success (with_reducible show RngEnd _ _ _ _ _ _ _ _ _ _ _)); (fail_if_success (with_reducible show RngPost _ _ _ _ _ _ _ _ _ _ _ _ _)); first | (k_unfold; (try dsimp only)) | (k_end; wrow_close) | walk1 | (dsimp only; walk1) | (leave1; walk_say "STEP leave1"; try dsimp only) | fail "no step"); all_goals (repeat (k_unfold; (try dsimp only))))
  refine hret _ _ _ _ (by k_asm) (by k_asm) ?_
  exact ⟨rfl, rfl⟩
theorem isreg (w : World) (i : Int) (t : Tok) (news : List (Addr × Obj)) : Ctr w 2 16 77 [.int i t] news (fun r n' => n' = news ∧ r = .bool (Builtin.bitAnd i 61440 == 32768)) := by
  (unfold Ctr; k_fill; intro mean mg mb dp un gd cn cs a ccd cl outer A₀ base h₀ L m s Q E B F X N T hk hdp hu hret; refine wpAny_call ?_; k_dflt ktr_enter; (show (let e9 : Env := _; let A9 : Around := Around.deeper _ e9; wpAny _ A9 (execs _ e9) _ _ _)); intro e9 A9)
  ((try dsimp only); (try k_fold); repeat' ((fail_if_success (with_reducible show wpAny _ _ (exec (PySem.Stmt.While _ _ _ _) _) _ _ _)); (fail_if_success (with_reducible show wpAny _ _ (exec (PySem.Stmt.For _ _ _ _ _) _) _ _ _)); (fail_if_success (with_reducible show wpAny _ _ (eval (PySem.Expr.ListComp _ _ _ _) _) _ _ _)); (fail_if_success (with_reducible show wpAny _ _ (subscriptTail _ _ (Value.ref _) _) _ _ _)); (fail_if_success (with_reducible show wpAny _ _ (setItem (Value.ref _) _ _) _ _ _)); (fail_if_success (with_reducible show wpAny _ _ (compareOp CmpOp.Lt (Value.ref _) (Value.ref _)) _ _ _)); (fail_if_success (with_reducible show wpAny _ _ (call (Value.ref _) _) _ _ _)); (fail_if_success (with_reducible show wpAny _ _ (call (Value.builtin "len") [Value.ref _]) _ _ _)); (fail_if_success (with_reducible show KswEnd _ _ _ _ _ _ _ _ _ _ _ _)); (fail_if_success (with_reducible show LoopStepU _ _ _ _ _ _ _ _)); (fail_if_success (with_reducible show InvEndN _ _ _ _ _ _ _)); (fail_if_success (with_reducible show RngEnd _ _ _ _ _ _ _ _ _ _ _)); (fail_if_success (with_reducible show RngPost _ _ _ _ _ _ _ _ _ _ _ _ _)); first | (k_unfold; (try dsimp only)) | (k_end; wrow_close) | walk1 | (dsimp only; walk1) | (leave1; walk_say "STEP leave1"; try dsimp only) | fail "no step"); all_goals (repeat (k_unfold; (try dsimp only))))
  (refine' ctr_use (sifmt _ _ _ _) ?k1 ?k2 ?k3 ?k4 ?k5 ?kK ?kd ?ku ?_; (case k1 => k_asm); (case k2 => k_asm); (case k3 => k_asm); (case k4 => k_asm); (case k5 => k_asm); (case kK => first | exact rfl | assumption); (case kd => first | lia | ktr_room | ((try dsimp only [A9]); ktr_room)); (case ku => first | lia | ktr_units | ((try dsimp only [A9]); ktr_units)))
  intro r9 n9 h9 tk9 F9 N9 P9
  obtain ⟨rfl, t9, rfl⟩ := P9
  ((try dsimp only); (try k_fold); repeat' ((fail_if_success (with_reducible show wpAny _ _ (exec (PySem.Stmt.While _ _ _ _) _) _ _ _)); (fail_if_success (with_reducible show wpAny _ _ (exec (PySem.Stmt.For _ _ _ _ _) _) _ _ _)); (fail_if_success (with_reducible show wpAny _ _ (eval (PySem.Expr.ListComp _ _ _ _) _) _ _ _)); (fail_if_success (with_reducible show wpAny _ _ (subscriptTail _ _ (Value.ref _) _) _ _ _)); (fail_if_success (with_reducible show wpAny _ _ (setItem (Value.ref _) _ _) _ _ _)); (fail_if_success (with_reducible show wpAny _ _ (compareOp CmpOp.Lt (Value.ref _) (Value.ref _)) _ _ _)); (fail_if_success (with_reducible show wpAny _ _ (call (Value.ref _) _) _ _ _)); (fail_if_success (with_reducible show wpAny _ _ (call (Value.builtin "len") [Value.ref _]) _ _ _)); (fail_if_success (with_reducible show KswEnd _ _ _ _ _ _ _ _ _ _ _ _)); (fail_if_success (with_reducible show LoopStepU _ _ _ _ _ _ _ _)); (fail_if_success (with_reducible show InvEndN _ _ _ _ _ _ _)); (fail_if_success (with_reducible show RngEnd _ _ _ _ _ _ _ _ _ _ _)); (fail_if_success (with_reducible show RngPost _ _ _ _ _ _ _ _ _ _ _ _ _)); first | (k_unfold; (try dsimp only)) | (k_end; wrow_close) | walk1 | (dsimp only; walk1) | (leave1; walk_say "STEP leave1"; try dsimp only) | fail "no step"); all_goals (repeat (k_unfold; (try dsimp only))))
  refine hret _ _ _ _ (by k_asm) (by k_asm) ?_
  exact ⟨rfl, rfl⟩
theorem islnk (w : World) (i : Int) (t : Tok) (news : List (Addr × Obj)) : Ctr w 2 16 84 [.int i t] news (fun r n' => n' = news ∧ r = .bool (Builtin.bitAnd i 61440 == 40960)) := by
  (unfold Ctr; k_fill; intro mean mg mb dp un gd cn cs a ccd cl outer A₀ base h₀ L m s Q E B F X N T hk hdp hu hret; refine wpAny_call ?_; k_dflt ktr_enter; (show (let e9 : Env := _; let A9 : Around := Around.deeper _ e9; wpAny _ A9 (execs _ e9) _ _ _)); intro e9 A9)
  ((try dsimp only); (try k_fold); repeat' ((fail_if_success (with_reducible show wpAny _ _ (exec (PySem.Stmt.While _ _ _ _) _) _ _ _)); (fail_if_success (with_reducible show wpAny _ _ (exec (PySem.Stmt.For _ _ _ _ _) _) _ _ _)); (fail_if_success (with_reducible show wpAny _ _ (eval (PySem.Expr.ListComp _ _ _ _) _) _ _ _)); (fail_if_success (with_reducible show wpAny _ _ (subscriptTail _ _ (Value.ref _) _) _ _ _)); (fail_if_success (with_reducible show wpAny _ _ (setItem (Value.ref _) _ _) _ _ _)); (fail_if_success (with_reducible show wpAny _ _ (compareOp CmpOp.Lt (Value.ref _) (Value.ref _)) _ _ _)); (fail_if_success (with_reducible show wpAny _ _ (call (Value.ref _) _) _ _ _)); (fail_if_success (with_reducible show wpAny _ _ (call (Value.builtin "len") [Value.ref _]) _ _ _)); (fail_if_success (with_reducible show KswEnd _ _ _ _ _ _ _ _ _ _ _ _)); (fail_if_success (with_reducible show LoopStepU _ _ _ _ _ _ _ _)); (fail_if_success (with_reducible show InvEndN _ _ _ _ _ _ _)); (fail_if_success (with_reducible show RngEnd _ _ _ _ _ _ _ _ _ _ _)); (fail_if_success (with_reducible show RngPost _ _ _ _ _ _ _ _ _ _ _ _ _)); first | (k_unfold; (try dsimp only)) | (k_end; wrow_close) | walk1 | (dsimp only; walk1) | (leave1; walk_say "STEP leave1"; try dsimp only) | fail "no step"); all_goals (repeat (k_unfold; (try dsimp only))))
  (refine' ctr_use (sifmt _ _ _ _) ?k1 ?k2 ?k3 ?k4 ?k5 ?kK ?kd ?ku ?_; (case k1 => k_asm); (case k2 => k_asm); (case k3 => k_asm); (case k4 => k_asm); (case k5 => k_asm); (case kK => first | exact rfl | assumption); (case kd => first | lia | ktr_room | ((try dsimp only [A9]); ktr_room)); (case ku => first | lia | ktr_units | ((try dsimp only [A9]); ktr_units)))
  intro r9 n9 h9 tk9 F9 N9 P9
  obtain ⟨rfl, t9, rfl⟩ := P9
  ((try dsimp only); (try k_fold); repeat' ((fail_if_success (with_reducible show wpAny _ _ (exec (PySem.Stmt.While _ _ _ _) _) _ _ _)); (fail_if_success (with_reducible show wpAny _ _ (exec (PySem.Stmt.For _ _ _ _ _) _) _ _ _)); (fail_if_success (with_reducible show wpAny _ _ (eval (PySem.Expr.ListComp _ _ _ _) _) _ _ _)); (fail_if_success (with_reducible show wpAny _ _ (subscriptTail _ _ (Value.ref _) _) _ _ _)); (fail_if_success (with_reducible show wpAny _ _ (setItem (Value.ref _) _ _) _ _ _)); (fail_if_success (with_reducible show wpAny _ _ (compareOp CmpOp.Lt (Value.ref _) (Value.ref _)) _ _ _)); (fail_if_success (with_reducible show wpAny _ _ (call (Value.ref _) _) _ _ _)); (fail_if_success (with_reducible show wpAny _ _ (call (Value.builtin "len") [Value.ref _]) _ _ _)); (fail_if_success (with_reducible show KswEnd _ _ _ _ _ _ _ _ _ _ _ _)); (fail_if_success (with_reducible show LoopStepU _ _ _ _ _ _ _ _)); (fail_if_success (with_reducible show InvEndN _ _ _ _ _ _ _)); (fail_if_success (with_reducible show RngEnd _ _ _ _ _ _ _ _ _ _ _)); (fail_if_success (with_reducible show RngPost _ _ _ _ _ _ _ _ _ _ _ _ _)); first | (k_unfold; (try dsimp only)) | (k_end; wrow_close) | walk1 | (dsimp only; walk1) | (leave1; walk_say "STEP leave1"; try dsimp only) | fail "no step"); all_goals (repeat (k_unfold; (try dsimp only))))
  refine hret _ _ _ _ (by k_asm) (by k_asm) ?_
  exact ⟨rfl, rfl⟩
end Mine
namespace Mine
structure Item where
  addr : Addr
  len : Int
  k : Int
  text : Str
  state : Int
  t1 : Tok
  t2 : Tok
  t3 : Tok
  t4 : Tok
deriving Inhabited
noncomputable def Item.vals (x : Item) : List Value := [.int x.len x.t1, .int x.k x.t2, .str x.text x.t3, .int x.state x.t4]
noncomputable def Item.obj (x : Item) : Obj := { cls := .type "tuple", data := .seq x.vals.toArray }
noncomputable def Item.ent (x : Item) : Addr × Obj := (x.addr, x.obj)
noncomputable def ltI (x y : Item) : Bool := decide (x.len < y.len) || (decide (x.len = y.len) && decide (x.k < y.k))
noncomputable def refs (vs : List Item) : Array Value := (vs.map fun x => Value.ref x.addr).toArray
noncomputable def heapObj (vs : List Item) (e : Nat) : Obj := { cls := .type "list", data := .seq (refs vs) e }
structure HeapIn (l : Addr) (vs : List Item) (rest : List (Addr × Obj)) : Prop where
  off : ∀ p ∈ rest, p.1 ≠ l
  mem : ∀ x ∈ vs, x.ent ∈ rest
noncomputable def sdL (x : Item) (sp : Nat) : Nat → List Item → Nat → List Item
  | 0, vs, p => vs.set p x
  | f + 1, vs, p => if sp < p then (if ltI x (vs.getD ((p - 1) / 2) default) then sdL x sp f (vs.set p (vs.getD ((p - 1) / 2) default)) ((p - 1) / 2) else vs.set p x) else vs.set p x
theorem sdL_fuel (x : Item) (sp : Nat) : ∀ (n p : Nat), p ≤ n → ∀ (f : Nat) (vs : List Item), p ≤ f → sdL x sp f vs p = sdL x sp p vs p := by
  intro n
  induction n with
  | zero =>
    intro p hp f vs hf
    obtain rfl : p = 0 := by (first | lia | omega)
    cases f <;> simp [sdL]
  | succ n ih =>
    intro p hp f vs hf
    cases p with
    | zero => cases f <;> simp [sdL]
    | succ q =>
      obtain ⟨g, rfl⟩ : ∃ g, f = g + 1 := ⟨f - 1, by (first | lia | omega)⟩
      have e : (q + 1 - 1) / 2 = q / 2 := by (first | lia | omega)
      simp only [sdL, e]
      split
      · split
        · rw [ih (q / 2) (by (first | lia | omega)) g _ (by (first | lia | omega)), ih (q / 2) (by (first | lia | omega)) q _ (by (first | lia | omega))]
        · rfl
      · rfl
theorem sdL_no (x : Item) (sp : Nat) (vs : List Item) (p : Nat) (h : ¬ sp < p) : sdL x sp p vs p = vs.set p x := by
  cases p <;> simp [sdL, h]
theorem sdL_stop (x : Item) (sp : Nat) (vs : List Item) (p : Nat) (h : ltI x (vs.getD ((p - 1) / 2) default) = false) : sdL x sp p vs p = vs.set p x := by
  cases p with
  | zero => rfl
  | succ q => simp only [sdL]; rw [h]; simp
theorem sdL_go (x : Item) (sp : Nat) (vs : List Item) (p : Nat) (h1 : sp < p) (h : ltI x (vs.getD ((p - 1) / 2) default) = true) : sdL x sp p vs p = sdL x sp ((p - 1) / 2) (vs.set p (vs.getD ((p - 1) / 2) default)) ((p - 1) / 2) := by
  cases p with
  | zero => (first | lia | omega)
  | succ q =>
    conv => lhs; unfold sdL
    rw [if_pos h1, h, if_pos rfl]
    exact sdL_fuel x sp _ _ (Nat.le_refl _) _ _ (by (first | lia | omega))
theorem getD_mem {vs : List Item} {i : Nat} (h : i < vs.length) : vs.getD i default ∈ vs := by
  simp [List.getD, h]
noncomputable def siftdown (vs : List Item) (sp p : Nat) : List Item := sdL (vs.getD p default) sp p vs p
noncomputable def childOf (vs : List Item) (p : Nat) : Nat := if 2 * p + 2 < vs.length ∧ ltI (vs.getD (2 * p + 1) default) (vs.getD (2 * p + 2) default) = false then 2 * p + 2 else 2 * p + 1
noncomputable def suL : Nat → List Item → Nat → List Item × Nat
  | 0, vs, p => (vs, p)
  | f + 1, vs, p => if 2 * p + 1 < vs.length then suL f (vs.set p (vs.getD (childOf vs p) default)) (childOf vs p) else (vs, p)
theorem suL_fuel : ∀ (f g : Nat) (vs : List Item) (p : Nat), vs.length - p ≤ f → vs.length - p ≤ g → suL f vs p = suL g vs p := by
  intro f
  induction f with
  | zero =>
    intro g vs p hf hg
    cases g with
    | zero => rfl
    | succ g =>
      have : ¬ 2 * p + 1 < vs.length := by (first | lia | omega)
      simp [suL, this]
  | succ f ih =>
    intro g vs p hf hg
    cases g with
    | zero =>
      have : ¬ 2 * p + 1 < vs.length := by (first | lia | omega)
      simp [suL, this]
    | succ g =>
      simp only [suL]
      split
      · have hc : 2 * p + 1 ≤ childOf vs p := by unfold childOf; split <;> (first | lia | omega)
        exact ih g _ _ (by rw [List.length_set]; (first | lia | omega)) (by rw [List.length_set]; (first | lia | omega))
      · rfl
theorem suL_stop (vs : List Item) (p : Nat) (h : ¬ 2 * p + 1 < vs.length) : suL vs.length vs p = (vs, p) := by
  cases hn : vs.length with
  | zero => rfl
  | succ n => rw [hn] at h; simp only [suL]; rw [hn, if_neg h]
theorem suL_go (vs : List Item) (p : Nat) (h : 2 * p + 1 < vs.length) : suL vs.length vs p = suL vs.length (vs.set p (vs.getD (childOf vs p) default)) (childOf vs p) := by
  have hc : 2 * p + 1 ≤ childOf vs p := by unfold childOf; split <;> (first | lia | omega)
  obtain ⟨n, hn⟩ : ∃ n, vs.length = n + 1 := ⟨vs.length - 1, by (first | lia | omega)⟩
  rw [hn] at h
  rw [hn]
  conv => lhs; unfold suL
  rw [hn, if_pos h]
  exact suL_fuel _ _ _ _ (by rw [List.length_set]; (first | lia | omega)) (by rw [List.length_set]; (first | lia | omega))
theorem childOf_lt (vs : List Item) (p : Nat) (h : 2 * p + 1 < vs.length) : childOf vs p < vs.length := by
  unfold childOf; split <;> (first | lia | omega)
theorem getD_set_ne {vs : List Item} {i j : Nat} {x : Item} (h : i ≠ j) : (vs.set i x).getD j default = vs.getD j default := by
  simp only [List.getD_eq_getElem?_getD]
  rw [List.getElem?_set_ne h]
theorem getD_set_eq {vs : List Item} {i : Nat} {x : Item} (h : i < vs.length) : (vs.set i x).getD i default = x := by
  simp [List.getD_eq_getElem?_getD, h]
noncomputable def siftup (vs : List Item) (p : Nat) : List Item :=
  siftdown ((suL vs.length vs p).1.set (suL vs.length vs p).2 (vs.getD p default)) p (suL vs.length vs p).2
end Mine
namespace Mine
theorem ne_of_not {z a : Str} {l : List Str} (h : (a :: l).contains z = false) : z ≠ a ∧ l.contains z = false := by
  rw [List.contains_cons, Bool.or_eq_false_iff] at h
  exact ⟨fun e => by rw [e, beq_self_eq_true] at h; exact Bool.noConfusion h.1, h.2⟩
theorem not_in {α : Type} {z : Str} {l : List Str} {x y : α} (h : l.contains z = false) : (if l.contains z then x else y) = y := if_neg (by rw [h]; exact Bool.noConfusion)
section
open PySem.SeqAt PySem.MeetsSeq PySem.MeetsSeq2 PySem.MeetsSeq3 PySem.SeqRoads2
open AutoSeq1 (wpAny_loadPart')
theorem eq_ints {A : Around} {s : Shared} (a b : Int) (t u : Tok) : EqAt A s (.int a t) (.int b u) (decide (a = b)) := by
  have := EqAt.int_int (A := A) (s := s) a t b u
  rwa [show (a == b) = decide (a = b) from rfl] at this
theorem int_eq {a b : Int} {t : Tok} (h : a = b) : some (Value.int a t) = some (Value.int b t) := by rw [h]
theorem rc_lt {prog : Program} {w : World} {A : Around} {E : Value → Shared → Prop} {s : Shared} {a b : Int} {t u : Tok} {Q : Value → Shared → Prop} (h : Q (.bool (decide (a < b))) s) :
    wpAny (model prog w) A (richCompare .Lt (.int a t) (.int b u)) Q E s := wpAny_lt_int h
theorem tuple_ltAt (l b : Addr) (x1 x2 y1 y2 : Int) (t1 t2 u1 u2 : Tok) (x3 x4 y3 y4 : Value) (n n2 : Nat) (dd dd2 : Option Addr) (sl sl2 : Array (Option Value)) (hk : x2 ≠ y2) :
    Meets (Builtin.«tuple.__lt__» ⟨[.ref l, .ref b], []⟩)
      (fun _ R s => s.heap.get? l = some { cls := .type "tuple", dict := dd, data := .seq #[.int x1 t1, .int x2 t2, x3, x4] n, slots := sl } ∧ s.heap.get? b = some { cls := .type "tuple", dict := dd2, data := .seq #[.int y1 u1, .int y2 u2, y3, y4] n2, slots := sl2 } ∧
        R (.ok (.ret (.bool (decide (x1 < y1) || (decide (x1 = y1) && decide (x2 < y2)))))) s) :=
  .of_wp fun prog w A R s h => by
    obtain ⟨hp, g, d, tk, os⟩ := s; obtain ⟨hl, hb, h⟩ := h
    have f2 := AutoSeq1.sub_tuple_tuple
    wp_walk using wpAny_loadPart' hl, wpAny_loadPart' hb, wpAny_forIn_list _ (fun rest b s' => b.1 = none ∧ s' = ⟨hp, g, d, tk, os⟩ ∧ (rest = [(Value.int x1 t1, Value.int y1 u1), (Value.int x2 t2, Value.int y2 u2), (x3, y3), (x4, y4)] ∨
      (x1 = y1 ∧ rest = [(Value.int x2 t2, Value.int y2 u2), (x3, y3), (x4, y4)]))) _
    case turn =>
      rintro ⟨y, x⟩ rest b s' ⟨hb', rfl, hz⟩
      rcases hz with hz | ⟨e1, hz⟩
      · injection hz with hyx hrest
        injection hyx with hy hx
        subst hy hx
        refine wpAny_bind (wpAny_eqBool_int ?_)
        by_cases e1 : x1 = y1
        · refine wpAny_ite_split (fun q => absurd q (by simp [e1])) fun _ => ?_
          exact wpAny_pure ⟨rfl, rfl, .inr ⟨e1, hrest⟩⟩
        · have e3 : (decide (x1 < y1) || (decide (x1 = y1) && decide (x2 < y2))) = decide (x1 < y1) := by simp [e1]
          rw [e3] at h
          refine wpAny_ite_split (fun _ => ?_) (fun q => absurd (by simp [e1]) q)
          wp_walk using rc_lt
          exact ⟨_, rfl, h⟩
      · injection hz with hyx hrest
        injection hyx with hy hx
        subst hy hx e1
        have e3 : (decide (x1 < x1) || (decide (x1 = x1) && decide (x2 < y2))) = decide (x2 < y2) := by simp
        rw [e3] at h
        refine wpAny_bind (wpAny_eqBool_int ?_)
        refine wpAny_ite_split (fun _ => ?_) (fun q => absurd (by simp [hk]) q)
        wp_walk using rc_lt
        exact ⟨_, rfl, h⟩
    case fin =>
      rintro ⟨b1, b2⟩ s' ⟨hb', rfl, hz⟩
      rcases hz with hz | ⟨_, hz⟩ <;> cases hz
    case h =>
      exact ⟨rfl, rfl, .inl rfl⟩
end
section
variable {prog : Program} {w : World} {A : Around} {E : Value → Shared → Prop} {s : Shared} {h₀ : Heap} {L l : Addr} {m : Str → Option Value} {news rest : List (Addr × Obj)} {vs : List Item} {e : Nat}
theorem tup_lt {x y : Item} {Q : Value → Shared → Prop} (N : News h₀ L s.heap news) (hx : x.ent ∈ news) (hy : y.ent ∈ news) (hk : x.k ≠ y.k) (hu : A.units < cLine) (h : Q (.bool (ltI x y)) s) :
    wpAny (model prog w) A (compareOp .Lt (.ref x.addr) (.ref y.addr)) Q E s := by
  have hox : s.heap.get? x.addr = some x.obj := (N _ hx).1
  have hoy : s.heap.get? y.addr = some y.obj := (N _ hy).1
  exact richCompare_meets_room (op := .Lt) ⟨_, hox, rfl⟩ ⟨_, hoy, rfl⟩ F.slot_tuple_lt F.entry_tuple_lt (F.args_tuple_lt_2 _ _) (tuple_ltAt x.addr y.addr x.len x.k y.len y.k x.t1 x.t2 y.t1 y.t2 _ _ _ _ 0 0 none none #[] #[] hk)
    ⟨hox, hoy, show Value.bool (ltI x y) ≠ Value.notImplemented ∧ Q (.bool (ltI x y)) s from ⟨(fun x => nomatch x), h⟩⟩ hu
theorem refs_size (vs : List Item) : (refs vs).size = vs.length := by simp [refs]
theorem refs_get {k : Nat} (hk : k < vs.length) : (refs vs)[k]? = some (.ref (vs.getD k default).addr) := by
  simp [refs, hk]
theorem refs_set (vs : List Item) (k : Nat) (x : Item) : (refs vs).setIfInBounds k (.ref x.addr) = refs (vs.set k x) := by
  apply Array.toList_inj.mp
  simp [refs, List.map_set]
theorem heap_get {value slice : PySem.Expr} {k : Nat} {u : Tok} {Q : Value → Shared → Prop} (N : News h₀ L s.heap ((l, heapObj vs e) :: rest)) (hk : k < vs.length) (hlen : vs.length ≤ 8) (h : Q (.ref (vs.getD k default).addr) s)
    (hs : subscripted slice false (.ref l) (.int (k : Int) u) = operate [.ref l, .int (k : Int) u] (getItem (.ref l) (.int (k : Int) u))) :
    wpAny (model prog w) A (subscriptTail value slice (.ref l) (.int (k : Int) u)) Q E s := by
  have ho : s.heap.get? l = some (heapObj vs e) := (N _ (.head _)).1
  have hl : s.heap.IsList l (refs vs) := ⟨_, ho, rfl, e, rfl⟩
  exact tail_any hl.typeIs slot_list_getitem.lookup (wpAny_getItem_list hl (by (first | lia | omega)) (by (first | lia | omega)) (by simpa using refs_get hk) h) hs
theorem heap_getI {value slice : PySem.Expr} {k : Int} {n : Nat} {u : Tok} {Q : Value → Shared → Prop} (N : News h₀ L s.heap ((l, heapObj vs e) :: rest)) (hkn : k = (n : Int)) (hk : n < vs.length) (hlen : vs.length ≤ 8) (h : Q (.ref (vs.getD n default).addr) s)
    (hs : subscripted slice false (.ref l) (.int k u) = operate [.ref l, .int k u] (getItem (.ref l) (.int k u))) :
    wpAny (model prog w) A (subscriptTail value slice (.ref l) (.int k u)) Q E s := by
  subst hkn
  exact heap_get N hk hlen h hs
theorem heap_set {x : Item} {k : Nat} {t : Tok} {Q : Unit → Shared → Prop} (F : Fr h₀ L s.heap m) (N : News h₀ L s.heap ((l, heapObj vs e) :: rest)) (off : ∀ p ∈ rest, p.1 ≠ l) (hk : k < vs.length) (hlen : vs.length ≤ 8)
    (h : ∀ h', Fr h₀ L h' m → News h₀ L h' ((l, heapObj (vs.set k x) e) :: rest) → Q () { s with heap := h' }) : wpAny (model prog w) A (setItem (.ref l) (.int (k : Int) t) (.ref x.addr)) Q E s := by
  have z := N (l, heapObj vs e) (.head _)
  have hf : Obj.mapSeq (·.setIfInBounds ((k : Int).toNat) (Value.ref x.addr)) (heapObj vs e) = heapObj (vs.set k x) e := by
    show (⟨_, _, .seq ((refs vs).setIfInBounds k (.ref x.addr)) (if ((refs vs).setIfInBounds k (.ref x.addr)).size == (refs vs).size then e else e + 1), _⟩ : Obj) = _
    rw [refs_set]
    simp [heapObj, refs]
  obtain ⟨F', N'⟩ := news_upd (pre := []) (post := rest) (f := Obj.mapSeq (·.setIfInBounds ((k : Int).toNat) (Value.ref x.addr))) F N (fun _ hp => nomatch hp) off hf rfl
  exact ki_setAt (n := e) z.1 (by (first | lia | omega)) (by (first | lia | omega)) (by rw [refs_size]; (first | lia | omega)) (h _ F' N')
end
end Mine
namespace Mine
theorem siftdown_c (w : World) (l : Addr) (vs : List Item) (e : Nat) (rest : List (Addr × Obj)) (sp p : Nat) (t1 t2 : Tok) (hp : p < vs.length) (hlen : vs.length ≤ 8) (hH : HeapIn l vs rest) (hd : ∀ i, i < p → (vs.getD i default).k ≠ (vs.getD p default).k) :
    Ctr w 2 16 145 [.ref l, .int sp t1, .int p t2] ((l, heapObj vs e) :: rest) (fun r n' => r = .none ∧ n' = (l, heapObj (siftdown vs sp p) e) :: rest) := by
  (unfold Ctr; k_fill; intro mean mg mb dp un gd cn cs a ccd cl outer A₀ base h₀ L m s Q E B F X N T hk hdp hu hret; refine wpAny_call ?_; k_dflt ktr_enter; (show (let e9 : Env := _; let A9 : Around := Around.deeper _ e9; wpAny _ A9 (execs _ e9) _ _ _)); intro e9 A9)
  ((try dsimp only); (try k_fold); repeat' ((fail_if_success (with_reducible show wpAny _ _ (exec (PySem.Stmt.While _ _ _ _) _) _ _ _)); (fail_if_success (with_reducible show wpAny _ _ (exec (PySem.Stmt.For _ _ _ _ _) _) _ _ _)); (fail_if_success (with_reducible show wpAny _ _ (eval (PySem.Expr.ListComp _ _ _ _) _) _ _ _)); (fail_if_success (with_reducible show wpAny _ _ (subscriptTail _ _ (Value.ref _) _) _ _ _)); (fail_if_success (with_reducible show wpAny _ _ (setItem (Value.ref _) _ _) _ _ _)); (fail_if_success (with_reducible show wpAny _ _ (compareOp CmpOp.Lt (Value.ref _) (Value.ref _)) _ _ _)); (fail_if_success (with_reducible show wpAny _ _ (call (Value.ref _) _) _ _ _)); (fail_if_success (with_reducible show wpAny _ _ (call (Value.builtin "len") [Value.ref _]) _ _ _)); (fail_if_success (with_reducible show KswEnd _ _ _ _ _ _ _ _ _ _ _ _)); (fail_if_success (with_reducible show LoopStepU _ _ _ _ _ _ _ _)); (fail_if_success (with_reducible show InvEndN _ _ _ _ _ _ _)); (fail_if_success (with_reducible show RngEnd _ _ _ _ _ _ _ _ _ _ _)); (fail_if_success (with_reducible show RngPost _ _ _ _ _ _ _ _ _ _ _ _ _)); first | (k_unfold; (try dsimp only)) | (k_end; wrow_close) | walk1 | (dsimp only; walk1) | (leave1; walk_say "STEP leave1"; try dsimp only) | fail "no step"); all_goals (repeat (k_unfold; (try dsimp only))))
  refine heap_get (by k_asm) hp hlen ?_ (by with_unfolding_all rfl)
  ((try dsimp only); (try k_fold); repeat' ((fail_if_success (with_reducible show wpAny _ _ (exec (PySem.Stmt.While _ _ _ _) _) _ _ _)); (fail_if_success (with_reducible show wpAny _ _ (exec (PySem.Stmt.For _ _ _ _ _) _) _ _ _)); (fail_if_success (with_reducible show wpAny _ _ (eval (PySem.Expr.ListComp _ _ _ _) _) _ _ _)); (fail_if_success (with_reducible show wpAny _ _ (subscriptTail _ _ (Value.ref _) _) _ _ _)); (fail_if_success (with_reducible show wpAny _ _ (setItem (Value.ref _) _ _) _ _ _)); (fail_if_success (with_reducible show wpAny _ _ (compareOp CmpOp.Lt (Value.ref _) (Value.ref _)) _ _ _)); (fail_if_success (with_reducible show wpAny _ _ (call (Value.ref _) _) _ _ _)); (fail_if_success (with_reducible show wpAny _ _ (call (Value.builtin "len") [Value.ref _]) _ _ _)); (fail_if_success (with_reducible show KswEnd _ _ _ _ _ _ _ _ _ _ _ _)); (fail_if_success (with_reducible show LoopStepU _ _ _ _ _ _ _ _)); (fail_if_success (with_reducible show InvEndN _ _ _ _ _ _ _)); (fail_if_success (with_reducible show RngEnd _ _ _ _ _ _ _ _ _ _ _)); (fail_if_success (with_reducible show RngPost _ _ _ _ _ _ _ _ _ _ _ _ _)); first | (k_unfold; (try dsimp only)) | (k_end; wrow_close) | walk1 | (dsimp only; walk1) | (leave1; walk_say "STEP leave1"; try dsimp only) | fail "no step"); all_goals (repeat (k_unfold; (try dsimp only))))
  refine ksw_while (σ := List Item × Nat × Tok) (fun c => (l, heapObj c.1 e) :: rest) (fun c => [(Str.ofString "pos", .int (c.2.1 : Int) c.2.2)]) (fun _ => True) [Str.ofString "parentpos", Str.ofString "parent"]
    (fun c => c.1.length = vs.length ∧ c.2.1 ≤ p ∧ (∀ i, i < c.2.1 → c.1.getD i default = vs.getD i default) ∧ sdL (vs.getD p default) sp c.2.1 c.1 c.2.1 = siftdown vs sp p ∧ (∀ y ∈ c.1, y.ent ∈ rest))
    (fun c => c.2.1) (vs, p, t2) (by k_asm) (by k_asm) trivial (by intro q hq; rw [List.mem_singleton.mp hq]; rfl) ⟨rfl, Nat.le_refl _, fun _ _ => rfl, rfl, hH.mem⟩ ?_
  rintro ⟨ws, q, tq⟩ u h9 tk9 - ⟨hl9, hq9, hs9, hr9, hm9⟩ F9 N9
  dsimp only at hl9 hq9 hs9 hr9 hm9 F9 N9
  have hfd : ((q : Int) - 1).fdiv (2 ^ Int.toNat 1) = (((q - 1) / 2 : Nat) : Int) ∨ q = 0 := by
    rcases Nat.eq_zero_or_pos q with h0 | h0
    · exact .inr h0
    · left
      rw [show ((2 : Int) ^ Int.toNat 1) = 2 from rfl, Int.fdiv_eq_ediv_of_nonneg _ (by (first | lia | omega))]
      (first | lia | omega)
  ((try dsimp only); (try k_fold); repeat' ((fail_if_success (with_reducible show wpAny _ _ (exec (PySem.Stmt.While _ _ _ _) _) _ _ _)); (fail_if_success (with_reducible show wpAny _ _ (exec (PySem.Stmt.For _ _ _ _ _) _) _ _ _)); (fail_if_success (with_reducible show wpAny _ _ (eval (PySem.Expr.ListComp _ _ _ _) _) _ _ _)); (fail_if_success (with_reducible show wpAny _ _ (subscriptTail _ _ (Value.ref _) _) _ _ _)); (fail_if_success (with_reducible show wpAny _ _ (setItem (Value.ref _) _ _) _ _ _)); (fail_if_success (with_reducible show wpAny _ _ (compareOp CmpOp.Lt (Value.ref _) (Value.ref _)) _ _ _)); (fail_if_success (with_reducible show wpAny _ _ (call (Value.ref _) _) _ _ _)); (fail_if_success (with_reducible show wpAny _ _ (call (Value.builtin "len") [Value.ref _]) _ _ _)); (fail_if_success (with_reducible show KswEnd _ _ _ _ _ _ _ _ _ _ _ _)); (fail_if_success (with_reducible show LoopStepU _ _ _ _ _ _ _ _)); (fail_if_success (with_reducible show InvEndN _ _ _ _ _ _ _)); (fail_if_success (with_reducible show RngEnd _ _ _ _ _ _ _ _ _ _ _)); (fail_if_success (with_reducible show RngPost _ _ _ _ _ _ _ _ _ _ _ _ _)); first | (k_unfold; (try dsimp only)) | (k_end; wrow_close) | walk1 | (dsimp only; walk1) | (leave1; walk_say "STEP leave1"; try dsimp only) | fail "no step"); all_goals (repeat (k_unfold; (try dsimp only))))
  · have hq0 : sp < q := by (first | lia | omega)
    have hfd := hfd.resolve_right (by (first | lia | omega))
    refine heap_getI (by k_asm) hfd (by (first | lia | omega)) (by (first | lia | omega)) ?_ (by with_unfolding_all rfl)
    ((try dsimp only); (try k_fold); repeat' ((fail_if_success (with_reducible show wpAny _ _ (exec (PySem.Stmt.While _ _ _ _) _) _ _ _)); (fail_if_success (with_reducible show wpAny _ _ (exec (PySem.Stmt.For _ _ _ _ _) _) _ _ _)); (fail_if_success (with_reducible show wpAny _ _ (eval (PySem.Expr.ListComp _ _ _ _) _) _ _ _)); (fail_if_success (with_reducible show wpAny _ _ (subscriptTail _ _ (Value.ref _) _) _ _ _)); (fail_if_success (with_reducible show wpAny _ _ (setItem (Value.ref _) _ _) _ _ _)); (fail_if_success (with_reducible show wpAny _ _ (compareOp CmpOp.Lt (Value.ref _) (Value.ref _)) _ _ _)); (fail_if_success (with_reducible show wpAny _ _ (call (Value.ref _) _) _ _ _)); (fail_if_success (with_reducible show wpAny _ _ (call (Value.builtin "len") [Value.ref _]) _ _ _)); (fail_if_success (with_reducible show KswEnd _ _ _ _ _ _ _ _ _ _ _ _)); (fail_if_success (with_reducible show LoopStepU _ _ _ _ _ _ _ _)); (fail_if_success (with_reducible show InvEndN _ _ _ _ _ _ _)); (fail_if_success (with_reducible show RngEnd _ _ _ _ _ _ _ _ _ _ _)); (fail_if_success (with_reducible show RngPost _ _ _ _ _ _ _ _ _ _ _ _ _)); first | (k_unfold; (try dsimp only)) | (k_end; wrow_close) | walk1 | (dsimp only; walk1) | (leave1; walk_say "STEP leave1"; try dsimp only) | fail "no step"); all_goals (repeat (k_unfold; (try dsimp only))))
    refine tup_lt (by k_asm) ?mx ?my ?mk (by first | ktr_units | ((try dsimp only [A9]); ktr_units)) ?_
    case mx => exact .tail _ (hH.mem _ (getD_mem hp))
    case my => exact .tail _ (hm9 _ (getD_mem (by (first | lia | omega))))
    case mk => rw [hs9 _ (by (first | lia | omega))]; exact Ne.symm (hd _ (by (first | lia | omega)))
    cases hlt : ltI (vs.getD p default) (ws.getD ((q - 1) / 2) default)
    · ((try dsimp only); (try k_fold); repeat' ((fail_if_success (with_reducible show wpAny _ _ (exec (PySem.Stmt.While _ _ _ _) _) _ _ _)); (fail_if_success (with_reducible show wpAny _ _ (exec (PySem.Stmt.For _ _ _ _ _) _) _ _ _)); (fail_if_success (with_reducible show wpAny _ _ (eval (PySem.Expr.ListComp _ _ _ _) _) _ _ _)); (fail_if_success (with_reducible show wpAny _ _ (subscriptTail _ _ (Value.ref _) _) _ _ _)); (fail_if_success (with_reducible show wpAny _ _ (setItem (Value.ref _) _ _) _ _ _)); (fail_if_success (with_reducible show wpAny _ _ (compareOp CmpOp.Lt (Value.ref _) (Value.ref _)) _ _ _)); (fail_if_success (with_reducible show wpAny _ _ (call (Value.ref _) _) _ _ _)); (fail_if_success (with_reducible show wpAny _ _ (call (Value.builtin "len") [Value.ref _]) _ _ _)); (fail_if_success (with_reducible show KswEnd _ _ _ _ _ _ _ _ _ _ _ _)); (fail_if_success (with_reducible show LoopStepU _ _ _ _ _ _ _ _)); (fail_if_success (with_reducible show InvEndN _ _ _ _ _ _ _)); (fail_if_success (with_reducible show RngEnd _ _ _ _ _ _ _ _ _ _ _)); (fail_if_success (with_reducible show RngPost _ _ _ _ _ _ _ _ _ _ _ _ _)); first | (k_unfold; (try dsimp only)) | (k_end; wrow_close) | walk1 | (dsimp only; walk1) | (leave1; walk_say "STEP leave1"; try dsimp only) | fail "no step"); all_goals (repeat (k_unfold; (try dsimp only))))
      refine heap_set (k := q) (by k_asm) (by k_asm) hH.off (by (first | lia | omega)) (by (first | lia | omega)) ?_
      intro h8 F8 N8
      ((try dsimp only); (try k_fold); repeat' ((fail_if_success (with_reducible show wpAny _ _ (exec (PySem.Stmt.While _ _ _ _) _) _ _ _)); (fail_if_success (with_reducible show wpAny _ _ (exec (PySem.Stmt.For _ _ _ _ _) _) _ _ _)); (fail_if_success (with_reducible show wpAny _ _ (eval (PySem.Expr.ListComp _ _ _ _) _) _ _ _)); (fail_if_success (with_reducible show wpAny _ _ (subscriptTail _ _ (Value.ref _) _) _ _ _)); (fail_if_success (with_reducible show wpAny _ _ (setItem (Value.ref _) _ _) _ _ _)); (fail_if_success (with_reducible show wpAny _ _ (compareOp CmpOp.Lt (Value.ref _) (Value.ref _)) _ _ _)); (fail_if_success (with_reducible show wpAny _ _ (call (Value.ref _) _) _ _ _)); (fail_if_success (with_reducible show wpAny _ _ (call (Value.builtin "len") [Value.ref _]) _ _ _)); (fail_if_success (with_reducible show KswEnd _ _ _ _ _ _ _ _ _ _ _ _)); (fail_if_success (with_reducible show LoopStepU _ _ _ _ _ _ _ _)); (fail_if_success (with_reducible show InvEndN _ _ _ _ _ _ _)); (fail_if_success (with_reducible show RngEnd _ _ _ _ _ _ _ _ _ _ _)); (fail_if_success (with_reducible show RngPost _ _ _ _ _ _ _ _ _ _ _ _ _)); first | (k_unfold; (try dsimp only)) | (k_end; wrow_close) | walk1 | (dsimp only; walk1) | (leave1; walk_say "STEP leave1"; try dsimp only) | fail "no step"); all_goals (repeat (k_unfold; (try dsimp only))))
      refine hret _ _ _ _ (by k_asm) (by k_asm) ?_
      refine ⟨rfl, ?_⟩
      rw [← hr9, sdL_stop _ _ _ _ hlt]
    · ((try dsimp only); (try k_fold); repeat' ((fail_if_success (with_reducible show wpAny _ _ (exec (PySem.Stmt.While _ _ _ _) _) _ _ _)); (fail_if_success (with_reducible show wpAny _ _ (exec (PySem.Stmt.For _ _ _ _ _) _) _ _ _)); (fail_if_success (with_reducible show wpAny _ _ (eval (PySem.Expr.ListComp _ _ _ _) _) _ _ _)); (fail_if_success (with_reducible show wpAny _ _ (subscriptTail _ _ (Value.ref _) _) _ _ _)); (fail_if_success (with_reducible show wpAny _ _ (setItem (Value.ref _) _ _) _ _ _)); (fail_if_success (with_reducible show wpAny _ _ (compareOp CmpOp.Lt (Value.ref _) (Value.ref _)) _ _ _)); (fail_if_success (with_reducible show wpAny _ _ (call (Value.ref _) _) _ _ _)); (fail_if_success (with_reducible show wpAny _ _ (call (Value.builtin "len") [Value.ref _]) _ _ _)); (fail_if_success (with_reducible show KswEnd _ _ _ _ _ _ _ _ _ _ _ _)); (fail_if_success (with_reducible show LoopStepU _ _ _ _ _ _ _ _)); (fail_if_success (with_reducible show InvEndN _ _ _ _ _ _ _)); (fail_if_success (with_reducible show RngEnd _ _ _ _ _ _ _ _ _ _ _)); (fail_if_success (with_reducible show RngPost _ _ _ _ _ _ _ _ _ _ _ _ _)); first | (k_unfold; (try dsimp only)) | (k_end; wrow_close) | walk1 | (dsimp only; walk1) | (leave1; walk_say "STEP leave1"; try dsimp only) | fail "no step"); all_goals (repeat (k_unfold; (try dsimp only))))
      refine heap_set (k := q) (by k_asm) (by k_asm) hH.off (by (first | lia | omega)) (by (first | lia | omega)) ?_
      intro h8 F8 N8
      ((try dsimp only); (try k_fold); repeat' ((fail_if_success (with_reducible show wpAny _ _ (exec (PySem.Stmt.While _ _ _ _) _) _ _ _)); (fail_if_success (with_reducible show wpAny _ _ (exec (PySem.Stmt.For _ _ _ _ _) _) _ _ _)); (fail_if_success (with_reducible show wpAny _ _ (eval (PySem.Expr.ListComp _ _ _ _) _) _ _ _)); (fail_if_success (with_reducible show wpAny _ _ (subscriptTail _ _ (Value.ref _) _) _ _ _)); (fail_if_success (with_reducible show wpAny _ _ (setItem (Value.ref _) _ _) _ _ _)); (fail_if_success (with_reducible show wpAny _ _ (compareOp CmpOp.Lt (Value.ref _) (Value.ref _)) _ _ _)); (fail_if_success (with_reducible show wpAny _ _ (call (Value.ref _) _) _ _ _)); (fail_if_success (with_reducible show wpAny _ _ (call (Value.builtin "len") [Value.ref _]) _ _ _)); (fail_if_success (with_reducible show KswEnd _ _ _ _ _ _ _ _ _ _ _ _)); (fail_if_success (with_reducible show LoopStepU _ _ _ _ _ _ _ _)); (fail_if_success (with_reducible show InvEndN _ _ _ _ _ _ _)); (fail_if_success (with_reducible show RngEnd _ _ _ _ _ _ _ _ _ _ _)); (fail_if_success (with_reducible show RngPost _ _ _ _ _ _ _ _ _ _ _ _ _)); first | (k_unfold; (try dsimp only)) | (k_end; wrow_close) | walk1 | (dsimp only; walk1) | (leave1; walk_say "STEP leave1"; try dsimp only) | fail "no step"); all_goals (repeat (k_unfold; (try dsimp only))))
      refine ksw_end (ws.set q (ws.getD ((q - 1) / 2) default), (q - 1) / 2, ?toka0) (by k_asm) (by k_asm) (fun _ h => h) trivial ?k1 (by intro z h2 h3; have np := h2 _ (.head _); exact (if_neg np).trans ((if_neg (ne_of_not (ne_of_not h3).2).1).trans ((if_neg (ne_of_not h3).1).trans ((if_neg np).trans (not_in h3))))) ?k2 ?k3
      case k1 => intro z hz; rw [List.mem_singleton.mp hz]; exact int_eq hfd
      case k3 => dsimp only; (first | lia | omega)
      case k2 =>
        refine ⟨by simpa using hl9, by dsimp only; (first | lia | omega), fun i hi => ?_, ?_, fun y hy => ?_⟩
        · dsimp only at hi ⊢
          rw [← hs9 i (by (first | lia | omega))]
          simp only [List.getD_eq_getElem?_getD]
          rw [List.getElem?_set_ne (by (first | lia | omega))]
        · dsimp only
          rw [← hr9, sdL_go _ _ _ _ hq0 hlt]
        · rcases List.mem_or_eq_of_mem_set hy with h | rfl
          · exact hm9 y h
          · exact hm9 _ (getD_mem (by (first | lia | omega)))
  · refine heap_set (k := q) (by k_asm) (by k_asm) hH.off (by (first | lia | omega)) (by (first | lia | omega)) ?_
    intro h8 F8 N8
    ((try dsimp only); (try k_fold); repeat' ((fail_if_success (with_reducible show wpAny _ _ (exec (PySem.Stmt.While _ _ _ _) _) _ _ _)); (fail_if_success (with_reducible show wpAny _ _ (exec (PySem.Stmt.For _ _ _ _ _) _) _ _ _)); (fail_if_success (with_reducible show wpAny _ _ (eval (PySem.Expr.ListComp _ _ _ _) _) _ _ _)); (fail_if_success (with_reducible show wpAny _ _ (subscriptTail _ _ (Value.ref _) _) _ _ _)); (fail_if_success (with_reducible show wpAny _ _ (setItem (Value.ref _) _ _) _ _ _)); (fail_if_success (with_reducible show wpAny _ _ (compareOp CmpOp.Lt (Value.ref _) (Value.ref _)) _ _ _)); (fail_if_success (with_reducible show wpAny _ _ (call (Value.ref _) _) _ _ _)); (fail_if_success (with_reducible show wpAny _ _ (call (Value.builtin "len") [Value.ref _]) _ _ _)); (fail_if_success (with_reducible show KswEnd _ _ _ _ _ _ _ _ _ _ _ _)); (fail_if_success (with_reducible show LoopStepU _ _ _ _ _ _ _ _)); (fail_if_success (with_reducible show InvEndN _ _ _ _ _ _ _)); (fail_if_success (with_reducible show RngEnd _ _ _ _ _ _ _ _ _ _ _)); (fail_if_success (with_reducible show RngPost _ _ _ _ _ _ _ _ _ _ _ _ _)); first | (k_unfold; (try dsimp only)) | (k_end; wrow_close) | walk1 | (dsimp only; walk1) | (leave1; walk_say "STEP leave1"; try dsimp only) | fail "no step"); all_goals (repeat (k_unfold; (try dsimp only))))
    refine hret _ _ _ _ (by k_asm) (by k_asm) ?_
    refine ⟨rfl, ?_⟩
    rw [← hr9, sdL_no _ _ _ _ (by (first | lia | omega))]
end Mine
namespace Mine
theorem len_heap {prog : Program} {w : World} {A : Around} {E : Value → Shared → Prop} {s : Shared} {h₀ : Heap} {L l : Addr} {rest : List (Addr × Obj)} {vs : List Item} {e : Nat} {Q : Value → Shared → Prop}
    (N : News h₀ L s.heap ((l, heapObj vs e) :: rest)) (hlen : vs.length ≤ 8) (h : Q (.int (vs.length : Int) (s.toks + 1)) { s with toks := s.toks + 1 + 1 }) : wpAny (model prog w) A (call (.builtin "len") [.ref l]) Q E s := by
  have ho : s.heap.get? l = some (heapObj vs e) := (N _ (.head _)).1
  have hl : s.heap.IsList l (refs vs) := ⟨_, ho, rfl, e, rfl⟩
  exact kun_lenL hl (by rw [refs_size]) (by (first | lia | omega)) h
noncomputable def SuInv (vs : List Item) (p : Nat) (rest : List (Addr × Obj)) (ws : List Item) (q : Nat) : Prop :=
  ws.length = vs.length ∧ p ≤ q ∧ q < vs.length ∧ (∀ j, q < j → ws.getD j default = vs.getD j default) ∧ (∀ i, i < vs.length → i ≠ q → (ws.getD i default).k ≠ (vs.getD p default).k) ∧ suL vs.length ws q = suL vs.length vs p ∧ (∀ y ∈ ws, y.ent ∈ rest)
theorem SuInv.step {vs : List Item} {p : Nat} {rest : List (Addr × Obj)} {ws : List Item} {q c : Nat} (h : SuInv vs p rest ws q) (hc : childOf ws q = c) (h1 : q < c) (h2 : c < vs.length) (h3 : 2 * q + 1 < vs.length) : SuInv vs p rest (ws.set q (ws.getD c default)) c := by
  obtain ⟨hl9, hpq9, hq9, hs9, hx9, hr9, hm9⟩ := h
  refine ⟨by simpa using hl9, by (first | lia | omega), h2, fun j hj => ?_, fun i hi hne => ?_, ?_, fun y hy => ?_⟩
  · rw [getD_set_ne (by (first | lia | omega)), hs9 j (by (first | lia | omega))]
  · by_cases hiq : i = q
    · subst hiq
      rw [getD_set_eq (by (first | lia | omega))]
      exact hx9 _ h2 (by (first | lia | omega))
    · rw [getD_set_ne (Ne.symm hiq)]
      exact hx9 i hi hiq
  · rw [← hr9, ← hl9, suL_go ws q (by (first | lia | omega)), hc]
  · rcases List.mem_or_eq_of_mem_set hy with h | rfl
    · exact hm9 y h
    · exact hm9 _ (getD_mem (by (first | lia | omega)))
theorem two_q {q : Nat} : 2 * (2 * (q : Int) + 1) + 1 = 2 * ((2 * q + 1 : Nat) : Int) + 1 := by (first | lia | omega)
theorem two_q2 {q : Nat} : 2 * (2 * (q : Int) + 1 + 1) + 1 = 2 * ((2 * q + 2 : Nat) : Int) + 1 := by (first | lia | omega)
theorem one_q {q : Nat} : 2 * (q : Int) + 1 = ((2 * q + 1 : Nat) : Int) := by (first | lia | omega)
theorem one_q2 {q : Nat} : 2 * (q : Int) + 1 + 1 = ((2 * q + 2 : Nat) : Int) := by (first | lia | omega)
theorem siftup_c (w : World) (l : Addr) (vs : List Item) (e : Nat) (rest : List (Addr × Obj)) (p : Nat) (t1 : Tok) (hp : p < vs.length) (hlen : vs.length ≤ 8) (hH : HeapIn l vs rest) (hd : ∀ i j, i < vs.length → j < vs.length → i ≠ j → (vs.getD i default).k ≠ (vs.getD j default).k) :
    Ctr w 3 24 152 [.ref l, .int p t1] ((l, heapObj vs e) :: rest) (fun r n' => r = .none ∧ n' = (l, heapObj (siftup vs p) e) :: rest) := by
  (unfold Ctr; k_fill; intro mean mg mb dp un gd cn cs a ccd cl outer A₀ base h₀ L m s Q E B F X N T hk hdp hu hret; refine wpAny_call ?_; k_dflt ktr_enter; (show (let e9 : Env := _; let A9 : Around := Around.deeper _ e9; wpAny _ A9 (execs _ e9) _ _ _)); intro e9 A9)
  ((try dsimp only); (try k_fold); repeat' ((fail_if_success (with_reducible show wpAny _ _ (exec (PySem.Stmt.While _ _ _ _) _) _ _ _)); (fail_if_success (with_reducible show wpAny _ _ (exec (PySem.Stmt.For _ _ _ _ _) _) _ _ _)); (fail_if_success (with_reducible show wpAny _ _ (eval (PySem.Expr.ListComp _ _ _ _) _) _ _ _)); (fail_if_success (with_reducible show wpAny _ _ (subscriptTail _ _ (Value.ref _) _) _ _ _)); (fail_if_success (with_reducible show wpAny _ _ (setItem (Value.ref _) _ _) _ _ _)); (fail_if_success (with_reducible show wpAny _ _ (compareOp CmpOp.Lt (Value.ref _) (Value.ref _)) _ _ _)); (fail_if_success (with_reducible show wpAny _ _ (call (Value.ref _) _) _ _ _)); (fail_if_success (with_reducible show wpAny _ _ (call (Value.builtin "len") [Value.ref _]) _ _ _)); (fail_if_success (with_reducible show KswEnd _ _ _ _ _ _ _ _ _ _ _ _)); (fail_if_success (with_reducible show LoopStepU _ _ _ _ _ _ _ _)); (fail_if_success (with_reducible show InvEndN _ _ _ _ _ _ _)); (fail_if_success (with_reducible show RngEnd _ _ _ _ _ _ _ _ _ _ _)); (fail_if_success (with_reducible show RngPost _ _ _ _ _ _ _ _ _ _ _ _ _)); first | (k_unfold; (try dsimp only)) | (k_end; wrow_close) | walk1 | (dsimp only; walk1) | (leave1; walk_say "STEP leave1"; try dsimp only) | fail "no step"); all_goals (repeat (k_unfold; (try dsimp only))))
  refine len_heap (by k_asm) hlen ?_
  ((try dsimp only); (try k_fold); repeat' ((fail_if_success (with_reducible show wpAny _ _ (exec (PySem.Stmt.While _ _ _ _) _) _ _ _)); (fail_if_success (with_reducible show wpAny _ _ (exec (PySem.Stmt.For _ _ _ _ _) _) _ _ _)); (fail_if_success (with_reducible show wpAny _ _ (eval (PySem.Expr.ListComp _ _ _ _) _) _ _ _)); (fail_if_success (with_reducible show wpAny _ _ (subscriptTail _ _ (Value.ref _) _) _ _ _)); (fail_if_success (with_reducible show wpAny _ _ (setItem (Value.ref _) _ _) _ _ _)); (fail_if_success (with_reducible show wpAny _ _ (compareOp CmpOp.Lt (Value.ref _) (Value.ref _)) _ _ _)); (fail_if_success (with_reducible show wpAny _ _ (call (Value.ref _) _) _ _ _)); (fail_if_success (with_reducible show wpAny _ _ (call (Value.builtin "len") [Value.ref _]) _ _ _)); (fail_if_success (with_reducible show KswEnd _ _ _ _ _ _ _ _ _ _ _ _)); (fail_if_success (with_reducible show LoopStepU _ _ _ _ _ _ _ _)); (fail_if_success (with_reducible show InvEndN _ _ _ _ _ _ _)); (fail_if_success (with_reducible show RngEnd _ _ _ _ _ _ _ _ _ _ _)); (fail_if_success (with_reducible show RngPost _ _ _ _ _ _ _ _ _ _ _ _ _)); first | (k_unfold; (try dsimp only)) | (k_end; wrow_close) | walk1 | (dsimp only; walk1) | (leave1; walk_say "STEP leave1"; try dsimp only) | fail "no step"); all_goals (repeat (k_unfold; (try dsimp only))))
  refine heap_get (by k_asm) hp hlen ?_ (by with_unfolding_all rfl)
  ((try dsimp only); (try k_fold); repeat' ((fail_if_success (with_reducible show wpAny _ _ (exec (PySem.Stmt.While _ _ _ _) _) _ _ _)); (fail_if_success (with_reducible show wpAny _ _ (exec (PySem.Stmt.For _ _ _ _ _) _) _ _ _)); (fail_if_success (with_reducible show wpAny _ _ (eval (PySem.Expr.ListComp _ _ _ _) _) _ _ _)); (fail_if_success (with_reducible show wpAny _ _ (subscriptTail _ _ (Value.ref _) _) _ _ _)); (fail_if_success (with_reducible show wpAny _ _ (setItem (Value.ref _) _ _) _ _ _)); (fail_if_success (with_reducible show wpAny _ _ (compareOp CmpOp.Lt (Value.ref _) (Value.ref _)) _ _ _)); (fail_if_success (with_reducible show wpAny _ _ (call (Value.ref _) _) _ _ _)); (fail_if_success (with_reducible show wpAny _ _ (call (Value.builtin "len") [Value.ref _]) _ _ _)); (fail_if_success (with_reducible show KswEnd _ _ _ _ _ _ _ _ _ _ _ _)); (fail_if_success (with_reducible show LoopStepU _ _ _ _ _ _ _ _)); (fail_if_success (with_reducible show InvEndN _ _ _ _ _ _ _)); (fail_if_success (with_reducible show RngEnd _ _ _ _ _ _ _ _ _ _ _)); (fail_if_success (with_reducible show RngPost _ _ _ _ _ _ _ _ _ _ _ _ _)); first | (k_unfold; (try dsimp only)) | (k_end; wrow_close) | walk1 | (dsimp only; walk1) | (leave1; walk_say "STEP leave1"; try dsimp only) | fail "no step"); all_goals (repeat (k_unfold; (try dsimp only))))
  refine ksw_while (σ := List Item × Nat × Tok × Tok) (fun c => (l, heapObj c.1 e) :: rest) (fun c => [(Str.ofString "pos", .int (c.2.1 : Int) c.2.2.1), (Str.ofString "childpos", .int (2 * (c.2.1 : Int) + 1) c.2.2.2)]) (fun _ => True) [Str.ofString "rightpos"]
    (fun c => SuInv vs p rest c.1 c.2.1)
    (fun c => vs.length - c.2.1) (vs, p, t1, ?tok) (by k_asm) (by k_asm) trivial ?k1 ⟨rfl, Nat.le_refl _, hp, fun _ _ => rfl, fun i hi hne => hd i p hi hp hne, rfl, hH.mem⟩ ?_
  case k1 =>
    intro q hq
    rcases List.mem_cons.mp hq with rfl | hq
    · rfl
    · rw [List.mem_singleton.mp hq]; rfl
  rintro ⟨ws, q, tq, tc⟩ u h9 tk9 - hS9 F9 N9
  dsimp only at hS9 F9 N9
  obtain ⟨hl9, hpq9, hq9, hs9, hx9, hr9, hm9⟩ := id hS9
  have hw8 : ws.length ≤ 8 := hl9 ▸ hlen
  have hwq : q < ws.length := hl9 ▸ hq9
  ((try dsimp only); (try k_fold); repeat' ((fail_if_success (with_reducible show wpAny _ _ (exec (PySem.Stmt.While _ _ _ _) _) _ _ _)); (fail_if_success (with_reducible show wpAny _ _ (exec (PySem.Stmt.For _ _ _ _ _) _) _ _ _)); (fail_if_success (with_reducible show wpAny _ _ (eval (PySem.Expr.ListComp _ _ _ _) _) _ _ _)); (fail_if_success (with_reducible show wpAny _ _ (subscriptTail _ _ (Value.ref _) _) _ _ _)); (fail_if_success (with_reducible show wpAny _ _ (setItem (Value.ref _) _ _) _ _ _)); (fail_if_success (with_reducible show wpAny _ _ (compareOp CmpOp.Lt (Value.ref _) (Value.ref _)) _ _ _)); (fail_if_success (with_reducible show wpAny _ _ (call (Value.ref _) _) _ _ _)); (fail_if_success (with_reducible show wpAny _ _ (call (Value.builtin "len") [Value.ref _]) _ _ _)); (fail_if_success (with_reducible show KswEnd _ _ _ _ _ _ _ _ _ _ _ _)); (fail_if_success (with_reducible show LoopStepU _ _ _ _ _ _ _ _)); (fail_if_success (with_reducible show InvEndN _ _ _ _ _ _ _)); (fail_if_success (with_reducible show RngEnd _ _ _ _ _ _ _ _ _ _ _)); (fail_if_success (with_reducible show RngPost _ _ _ _ _ _ _ _ _ _ _ _ _)); first | (k_unfold; (try dsimp only)) | (k_end; wrow_close) | walk1 | (dsimp only; walk1) | (leave1; walk_say "STEP leave1"; try dsimp only) | fail "no step"); all_goals (repeat (k_unfold; (try dsimp only))))
  · refine heap_getI (n := 2 * q + 1) (by k_asm) one_q (by (first | lia | omega)) hw8 ?_ (by with_unfolding_all rfl)
    ((try dsimp only); (try k_fold); repeat' ((fail_if_success (with_reducible show wpAny _ _ (exec (PySem.Stmt.While _ _ _ _) _) _ _ _)); (fail_if_success (with_reducible show wpAny _ _ (exec (PySem.Stmt.For _ _ _ _ _) _) _ _ _)); (fail_if_success (with_reducible show wpAny _ _ (eval (PySem.Expr.ListComp _ _ _ _) _) _ _ _)); (fail_if_success (with_reducible show wpAny _ _ (subscriptTail _ _ (Value.ref _) _) _ _ _)); (fail_if_success (with_reducible show wpAny _ _ (setItem (Value.ref _) _ _) _ _ _)); (fail_if_success (with_reducible show wpAny _ _ (compareOp CmpOp.Lt (Value.ref _) (Value.ref _)) _ _ _)); (fail_if_success (with_reducible show wpAny _ _ (call (Value.ref _) _) _ _ _)); (fail_if_success (with_reducible show wpAny _ _ (call (Value.builtin "len") [Value.ref _]) _ _ _)); (fail_if_success (with_reducible show KswEnd _ _ _ _ _ _ _ _ _ _ _ _)); (fail_if_success (with_reducible show LoopStepU _ _ _ _ _ _ _ _)); (fail_if_success (with_reducible show InvEndN _ _ _ _ _ _ _)); (fail_if_success (with_reducible show RngEnd _ _ _ _ _ _ _ _ _ _ _)); (fail_if_success (with_reducible show RngPost _ _ _ _ _ _ _ _ _ _ _ _ _)); first | (k_unfold; (try dsimp only)) | (k_end; wrow_close) | walk1 | (dsimp only; walk1) | (leave1; walk_say "STEP leave1"; try dsimp only) | fail "no step"); all_goals (repeat (k_unfold; (try dsimp only))))
    refine heap_getI (n := 2 * q + 2) (by k_asm) one_q2 (by (first | lia | omega)) hw8 ?_ (by with_unfolding_all rfl)
    ((try dsimp only); (try k_fold); repeat' ((fail_if_success (with_reducible show wpAny _ _ (exec (PySem.Stmt.While _ _ _ _) _) _ _ _)); (fail_if_success (with_reducible show wpAny _ _ (exec (PySem.Stmt.For _ _ _ _ _) _) _ _ _)); (fail_if_success (with_reducible show wpAny _ _ (eval (PySem.Expr.ListComp _ _ _ _) _) _ _ _)); (fail_if_success (with_reducible show wpAny _ _ (subscriptTail _ _ (Value.ref _) _) _ _ _)); (fail_if_success (with_reducible show wpAny _ _ (setItem (Value.ref _) _ _) _ _ _)); (fail_if_success (with_reducible show wpAny _ _ (compareOp CmpOp.Lt (Value.ref _) (Value.ref _)) _ _ _)); (fail_if_success (with_reducible show wpAny _ _ (call (Value.ref _) _) _ _ _)); (fail_if_success (with_reducible show wpAny _ _ (call (Value.builtin "len") [Value.ref _]) _ _ _)); (fail_if_success (with_reducible show KswEnd _ _ _ _ _ _ _ _ _ _ _ _)); (fail_if_success (with_reducible show LoopStepU _ _ _ _ _ _ _ _)); (fail_if_success (with_reducible show InvEndN _ _ _ _ _ _ _)); (fail_if_success (with_reducible show RngEnd _ _ _ _ _ _ _ _ _ _ _)); (fail_if_success (with_reducible show RngPost _ _ _ _ _ _ _ _ _ _ _ _ _)); first | (k_unfold; (try dsimp only)) | (k_end; wrow_close) | walk1 | (dsimp only; walk1) | (leave1; walk_say "STEP leave1"; try dsimp only) | fail "no step"); all_goals (repeat (k_unfold; (try dsimp only))))
    refine tup_lt (by k_asm) ?mx ?my ?mk (by first | ktr_units | ((try dsimp only [A9]); ktr_units)) ?_
    case mx => exact .tail _ (hm9 _ (getD_mem (by (first | lia | omega))))
    case my => exact .tail _ (hm9 _ (getD_mem (by (first | lia | omega))))
    case mk => rw [hs9 _ (by (first | lia | omega)), hs9 _ (by (first | lia | omega))]; exact hd _ _ (by (first | lia | omega)) (by (first | lia | omega)) (by (first | lia | omega))
    cases hlt : ltI (ws.getD (2 * q + 1) default) (ws.getD (2 * q + 2) default)
    · ((try dsimp only); (try k_fold); repeat' ((fail_if_success (with_reducible show wpAny _ _ (exec (PySem.Stmt.While _ _ _ _) _) _ _ _)); (fail_if_success (with_reducible show wpAny _ _ (exec (PySem.Stmt.For _ _ _ _ _) _) _ _ _)); (fail_if_success (with_reducible show wpAny _ _ (eval (PySem.Expr.ListComp _ _ _ _) _) _ _ _)); (fail_if_success (with_reducible show wpAny _ _ (subscriptTail _ _ (Value.ref _) _) _ _ _)); (fail_if_success (with_reducible show wpAny _ _ (setItem (Value.ref _) _ _) _ _ _)); (fail_if_success (with_reducible show wpAny _ _ (compareOp CmpOp.Lt (Value.ref _) (Value.ref _)) _ _ _)); (fail_if_success (with_reducible show wpAny _ _ (call (Value.ref _) _) _ _ _)); (fail_if_success (with_reducible show wpAny _ _ (call (Value.builtin "len") [Value.ref _]) _ _ _)); (fail_if_success (with_reducible show KswEnd _ _ _ _ _ _ _ _ _ _ _ _)); (fail_if_success (with_reducible show LoopStepU _ _ _ _ _ _ _ _)); (fail_if_success (with_reducible show InvEndN _ _ _ _ _ _ _)); (fail_if_success (with_reducible show RngEnd _ _ _ _ _ _ _ _ _ _ _)); (fail_if_success (with_reducible show RngPost _ _ _ _ _ _ _ _ _ _ _ _ _)); first | (k_unfold; (try dsimp only)) | (k_end; wrow_close) | walk1 | (dsimp only; walk1) | (leave1; walk_say "STEP leave1"; try dsimp only) | fail "no step"); all_goals (repeat (k_unfold; (try dsimp only))))
      refine heap_getI (n := 2 * q + 2) (by k_asm) one_q2 (by (first | lia | omega)) hw8 ?_ (by with_unfolding_all rfl)
      ((try dsimp only); (try k_fold); repeat' ((fail_if_success (with_reducible show wpAny _ _ (exec (PySem.Stmt.While _ _ _ _) _) _ _ _)); (fail_if_success (with_reducible show wpAny _ _ (exec (PySem.Stmt.For _ _ _ _ _) _) _ _ _)); (fail_if_success (with_reducible show wpAny _ _ (eval (PySem.Expr.ListComp _ _ _ _) _) _ _ _)); (fail_if_success (with_reducible show wpAny _ _ (subscriptTail _ _ (Value.ref _) _) _ _ _)); (fail_if_success (with_reducible show wpAny _ _ (setItem (Value.ref _) _ _) _ _ _)); (fail_if_success (with_reducible show wpAny _ _ (compareOp CmpOp.Lt (Value.ref _) (Value.ref _)) _ _ _)); (fail_if_success (with_reducible show wpAny _ _ (call (Value.ref _) _) _ _ _)); (fail_if_success (with_reducible show wpAny _ _ (call (Value.builtin "len") [Value.ref _]) _ _ _)); (fail_if_success (with_reducible show KswEnd _ _ _ _ _ _ _ _ _ _ _ _)); (fail_if_success (with_reducible show LoopStepU _ _ _ _ _ _ _ _)); (fail_if_success (with_reducible show InvEndN _ _ _ _ _ _ _)); (fail_if_success (with_reducible show RngEnd _ _ _ _ _ _ _ _ _ _ _)); (fail_if_success (with_reducible show RngPost _ _ _ _ _ _ _ _ _ _ _ _ _)); first | (k_unfold; (try dsimp only)) | (k_end; wrow_close) | walk1 | (dsimp only; walk1) | (leave1; walk_say "STEP leave1"; try dsimp only) | fail "no step"); all_goals (repeat (k_unfold; (try dsimp only))))
      refine heap_set (k := q) (by k_asm) (by k_asm) hH.off hwq hw8 ?_
      intro h8 F8 N8
      ((try dsimp only); (try k_fold); repeat' ((fail_if_success (with_reducible show wpAny _ _ (exec (PySem.Stmt.While _ _ _ _) _) _ _ _)); (fail_if_success (with_reducible show wpAny _ _ (exec (PySem.Stmt.For _ _ _ _ _) _) _ _ _)); (fail_if_success (with_reducible show wpAny _ _ (eval (PySem.Expr.ListComp _ _ _ _) _) _ _ _)); (fail_if_success (with_reducible show wpAny _ _ (subscriptTail _ _ (Value.ref _) _) _ _ _)); (fail_if_success (with_reducible show wpAny _ _ (setItem (Value.ref _) _ _) _ _ _)); (fail_if_success (with_reducible show wpAny _ _ (compareOp CmpOp.Lt (Value.ref _) (Value.ref _)) _ _ _)); (fail_if_success (with_reducible show wpAny _ _ (call (Value.ref _) _) _ _ _)); (fail_if_success (with_reducible show wpAny _ _ (call (Value.builtin "len") [Value.ref _]) _ _ _)); (fail_if_success (with_reducible show KswEnd _ _ _ _ _ _ _ _ _ _ _ _)); (fail_if_success (with_reducible show LoopStepU _ _ _ _ _ _ _ _)); (fail_if_success (with_reducible show InvEndN _ _ _ _ _ _ _)); (fail_if_success (with_reducible show RngEnd _ _ _ _ _ _ _ _ _ _ _)); (fail_if_success (with_reducible show RngPost _ _ _ _ _ _ _ _ _ _ _ _ _)); first | (k_unfold; (try dsimp only)) | (k_end; wrow_close) | walk1 | (dsimp only; walk1) | (leave1; walk_say "STEP leave1"; try dsimp only) | fail "no step"); all_goals (repeat (k_unfold; (try dsimp only))))
      refine ksw_end (ws.set q (ws.getD (2 * q + 2) default), 2 * q + 2, ?toka0, ?tokb0) (by k_asm) (by k_asm) (fun _ h => h) trivial ?k1 (by intro z h2 h3; have np := h2 _ (.head _); have nc := h2 _ (.tail _ (.head _)); exact (if_neg nc).trans ((if_neg np).trans ((if_neg nc).trans ((if_neg (ne_of_not h3).1).trans ((if_neg np).trans ((if_neg nc).trans (not_in h3))))))) ?k2 ?k3
      case k1 =>
        intro z hz
        rcases List.mem_cons.mp hz with rfl | hz
        · exact int_eq one_q2
        · rw [List.mem_singleton.mp hz]; exact int_eq two_q2
      case k3 => dsimp only; (first | lia | omega)
      case k2 => exact hS9.step (c := 2 * q + 2) (by unfold childOf; rw [if_pos ⟨by (first | lia | omega), hlt⟩]) (by (first | lia | omega)) (by (first | lia | omega)) (by (first | lia | omega))
    · ((try dsimp only); (try k_fold); repeat' ((fail_if_success (with_reducible show wpAny _ _ (exec (PySem.Stmt.While _ _ _ _) _) _ _ _)); (fail_if_success (with_reducible show wpAny _ _ (exec (PySem.Stmt.For _ _ _ _ _) _) _ _ _)); (fail_if_success (with_reducible show wpAny _ _ (eval (PySem.Expr.ListComp _ _ _ _) _) _ _ _)); (fail_if_success (with_reducible show wpAny _ _ (subscriptTail _ _ (Value.ref _) _) _ _ _)); (fail_if_success (with_reducible show wpAny _ _ (setItem (Value.ref _) _ _) _ _ _)); (fail_if_success (with_reducible show wpAny _ _ (compareOp CmpOp.Lt (Value.ref _) (Value.ref _)) _ _ _)); (fail_if_success (with_reducible show wpAny _ _ (call (Value.ref _) _) _ _ _)); (fail_if_success (with_reducible show wpAny _ _ (call (Value.builtin "len") [Value.ref _]) _ _ _)); (fail_if_success (with_reducible show KswEnd _ _ _ _ _ _ _ _ _ _ _ _)); (fail_if_success (with_reducible show LoopStepU _ _ _ _ _ _ _ _)); (fail_if_success (with_reducible show InvEndN _ _ _ _ _ _ _)); (fail_if_success (with_reducible show RngEnd _ _ _ _ _ _ _ _ _ _ _)); (fail_if_success (with_reducible show RngPost _ _ _ _ _ _ _ _ _ _ _ _ _)); first | (k_unfold; (try dsimp only)) | (k_end; wrow_close) | walk1 | (dsimp only; walk1) | (leave1; walk_say "STEP leave1"; try dsimp only) | fail "no step"); all_goals (repeat (k_unfold; (try dsimp only))))
      refine heap_getI (n := 2 * q + 1) (by k_asm) one_q (by (first | lia | omega)) hw8 ?_ (by with_unfolding_all rfl)
      ((try dsimp only); (try k_fold); repeat' ((fail_if_success (with_reducible show wpAny _ _ (exec (PySem.Stmt.While _ _ _ _) _) _ _ _)); (fail_if_success (with_reducible show wpAny _ _ (exec (PySem.Stmt.For _ _ _ _ _) _) _ _ _)); (fail_if_success (with_reducible show wpAny _ _ (eval (PySem.Expr.ListComp _ _ _ _) _) _ _ _)); (fail_if_success (with_reducible show wpAny _ _ (subscriptTail _ _ (Value.ref _) _) _ _ _)); (fail_if_success (with_reducible show wpAny _ _ (setItem (Value.ref _) _ _) _ _ _)); (fail_if_success (with_reducible show wpAny _ _ (compareOp CmpOp.Lt (Value.ref _) (Value.ref _)) _ _ _)); (fail_if_success (with_reducible show wpAny _ _ (call (Value.ref _) _) _ _ _)); (fail_if_success (with_reducible show wpAny _ _ (call (Value.builtin "len") [Value.ref _]) _ _ _)); (fail_if_success (with_reducible show KswEnd _ _ _ _ _ _ _ _ _ _ _ _)); (fail_if_success (with_reducible show LoopStepU _ _ _ _ _ _ _ _)); (fail_if_success (with_reducible show InvEndN _ _ _ _ _ _ _)); (fail_if_success (with_reducible show RngEnd _ _ _ _ _ _ _ _ _ _ _)); (fail_if_success (with_reducible show RngPost _ _ _ _ _ _ _ _ _ _ _ _ _)); first | (k_unfold; (try dsimp only)) | (k_end; wrow_close) | walk1 | (dsimp only; walk1) | (leave1; walk_say "STEP leave1"; try dsimp only) | fail "no step"); all_goals (repeat (k_unfold; (try dsimp only))))
      refine heap_set (k := q) (by k_asm) (by k_asm) hH.off hwq hw8 ?_
      intro h8 F8 N8
      ((try dsimp only); (try k_fold); repeat' ((fail_if_success (with_reducible show wpAny _ _ (exec (PySem.Stmt.While _ _ _ _) _) _ _ _)); (fail_if_success (with_reducible show wpAny _ _ (exec (PySem.Stmt.For _ _ _ _ _) _) _ _ _)); (fail_if_success (with_reducible show wpAny _ _ (eval (PySem.Expr.ListComp _ _ _ _) _) _ _ _)); (fail_if_success (with_reducible show wpAny _ _ (subscriptTail _ _ (Value.ref _) _) _ _ _)); (fail_if_success (with_reducible show wpAny _ _ (setItem (Value.ref _) _ _) _ _ _)); (fail_if_success (with_reducible show wpAny _ _ (compareOp CmpOp.Lt (Value.ref _) (Value.ref _)) _ _ _)); (fail_if_success (with_reducible show wpAny _ _ (call (Value.ref _) _) _ _ _)); (fail_if_success (with_reducible show wpAny _ _ (call (Value.builtin "len") [Value.ref _]) _ _ _)); (fail_if_success (with_reducible show KswEnd _ _ _ _ _ _ _ _ _ _ _ _)); (fail_if_success (with_reducible show LoopStepU _ _ _ _ _ _ _ _)); (fail_if_success (with_reducible show InvEndN _ _ _ _ _ _ _)); (fail_if_success (with_reducible show RngEnd _ _ _ _ _ _ _ _ _ _ _)); (fail_if_success (with_reducible show RngPost _ _ _ _ _ _ _ _ _ _ _ _ _)); first | (k_unfold; (try dsimp only)) | (k_end; wrow_close) | walk1 | (dsimp only; walk1) | (leave1; walk_say "STEP leave1"; try dsimp only) | fail "no step"); all_goals (repeat (k_unfold; (try dsimp only))))
      refine ksw_end (ws.set q (ws.getD (2 * q + 1) default), 2 * q + 1, ?toka1, ?tokb1) (by k_asm) (by k_asm) (fun _ h => h) trivial ?k1 (by intro z h2 h3; have np := h2 _ (.head _); have nc := h2 _ (.tail _ (.head _)); exact (if_neg nc).trans ((if_neg np).trans ((if_neg (ne_of_not h3).1).trans ((if_neg np).trans ((if_neg nc).trans (not_in h3)))))) ?k2 ?k3
      case k1 =>
        intro z hz
        rcases List.mem_cons.mp hz with rfl | hz
        · exact int_eq one_q
        · rw [List.mem_singleton.mp hz]; exact int_eq two_q
      case k3 => dsimp only; (first | lia | omega)
      case k2 => exact hS9.step (c := 2 * q + 1) (by unfold childOf; rw [if_neg (fun h => by rw [hlt] at h; exact absurd h.2 (by simp))]) (by (first | lia | omega)) (by (first | lia | omega)) (by (first | lia | omega))
  · refine heap_getI (n := 2 * q + 1) (by k_asm) one_q (by (first | lia | omega)) hw8 ?_ (by with_unfolding_all rfl)
    ((try dsimp only); (try k_fold); repeat' ((fail_if_success (with_reducible show wpAny _ _ (exec (PySem.Stmt.While _ _ _ _) _) _ _ _)); (fail_if_success (with_reducible show wpAny _ _ (exec (PySem.Stmt.For _ _ _ _ _) _) _ _ _)); (fail_if_success (with_reducible show wpAny _ _ (eval (PySem.Expr.ListComp _ _ _ _) _) _ _ _)); (fail_if_success (with_reducible show wpAny _ _ (subscriptTail _ _ (Value.ref _) _) _ _ _)); (fail_if_success (with_reducible show wpAny _ _ (setItem (Value.ref _) _ _) _ _ _)); (fail_if_success (with_reducible show wpAny _ _ (compareOp CmpOp.Lt (Value.ref _) (Value.ref _)) _ _ _)); (fail_if_success (with_reducible show wpAny _ _ (call (Value.ref _) _) _ _ _)); (fail_if_success (with_reducible show wpAny _ _ (call (Value.builtin "len") [Value.ref _]) _ _ _)); (fail_if_success (with_reducible show KswEnd _ _ _ _ _ _ _ _ _ _ _ _)); (fail_if_success (with_reducible show LoopStepU _ _ _ _ _ _ _ _)); (fail_if_success (with_reducible show InvEndN _ _ _ _ _ _ _)); (fail_if_success (with_reducible show RngEnd _ _ _ _ _ _ _ _ _ _ _)); (fail_if_success (with_reducible show RngPost _ _ _ _ _ _ _ _ _ _ _ _ _)); first | (k_unfold; (try dsimp only)) | (k_end; wrow_close) | walk1 | (dsimp only; walk1) | (leave1; walk_say "STEP leave1"; try dsimp only) | fail "no step"); all_goals (repeat (k_unfold; (try dsimp only))))
    refine heap_set (k := q) (by k_asm) (by k_asm) hH.off hwq hw8 ?_
    intro h8 F8 N8
    ((try dsimp only); (try k_fold); repeat' ((fail_if_success (with_reducible show wpAny _ _ (exec (PySem.Stmt.While _ _ _ _) _) _ _ _)); (fail_if_success (with_reducible show wpAny _ _ (exec (PySem.Stmt.For _ _ _ _ _) _) _ _ _)); (fail_if_success (with_reducible show wpAny _ _ (eval (PySem.Expr.ListComp _ _ _ _) _) _ _ _)); (fail_if_success (with_reducible show wpAny _ _ (subscriptTail _ _ (Value.ref _) _) _ _ _)); (fail_if_success (with_reducible show wpAny _ _ (setItem (Value.ref _) _ _) _ _ _)); (fail_if_success (with_reducible show wpAny _ _ (compareOp CmpOp.Lt (Value.ref _) (Value.ref _)) _ _ _)); (fail_if_success (with_reducible show wpAny _ _ (call (Value.ref _) _) _ _ _)); (fail_if_success (with_reducible show wpAny _ _ (call (Value.builtin "len") [Value.ref _]) _ _ _)); (fail_if_success (with_reducible show KswEnd _ _ _ _ _ _ _ _ _ _ _ _)); (fail_if_success (with_reducible show LoopStepU _ _ _ _ _ _ _ _)); (fail_if_success (with_reducible show InvEndN _ _ _ _ _ _ _)); (fail_if_success (with_reducible show RngEnd _ _ _ _ _ _ _ _ _ _ _)); (fail_if_success (with_reducible show RngPost _ _ _ _ _ _ _ _ _ _ _ _ _)); first | (k_unfold; (try dsimp only)) | (k_end; wrow_close) | walk1 | (dsimp only; walk1) | (leave1; walk_say "STEP leave1"; try dsimp only) | fail "no step"); all_goals (repeat (k_unfold; (try dsimp only))))
    refine ksw_end (ws.set q (ws.getD (2 * q + 1) default), 2 * q + 1, ?toka2, ?tokb2) (by k_asm) (by k_asm) (fun _ h => h) trivial ?k1 (by intro z h2 h3; have np := h2 _ (.head _); have nc := h2 _ (.tail _ (.head _)); exact (if_neg nc).trans ((if_neg np).trans ((if_neg (ne_of_not h3).1).trans ((if_neg np).trans ((if_neg nc).trans (not_in h3)))))) ?k2 ?k3
    case k1 =>
      intro z hz
      rcases List.mem_cons.mp hz with rfl | hz
      · exact int_eq one_q
      · rw [List.mem_singleton.mp hz]; exact int_eq two_q
    case k3 => dsimp only; (first | lia | omega)
    case k2 => exact hS9.step (c := 2 * q + 1) (by unfold childOf; rw [if_neg (fun h => by (first | lia | omega))]) (by (first | lia | omega)) (by (first | lia | omega)) (by (first | lia | omega))
  · refine heap_set (k := q) (by k_asm) (by k_asm) hH.off hwq hw8 ?_
    intro h8 F8 N8
    ((try dsimp only); (try k_fold); repeat' ((fail_if_success (with_reducible show wpAny _ _ (exec (PySem.Stmt.While _ _ _ _) _) _ _ _)); (fail_if_success (with_reducible show wpAny _ _ (exec (PySem.Stmt.For _ _ _ _ _) _) _ _ _)); (fail_if_success (with_reducible show wpAny _ _ (eval (PySem.Expr.ListComp _ _ _ _) _) _ _ _)); (fail_if_success (with_reducible show wpAny _ _ (subscriptTail _ _ (Value.ref _) _) _ _ _)); (fail_if_success (with_reducible show wpAny _ _ (setItem (Value.ref _) _ _) _ _ _)); (fail_if_success (with_reducible show wpAny _ _ (compareOp CmpOp.Lt (Value.ref _) (Value.ref _)) _ _ _)); (fail_if_success (with_reducible show wpAny _ _ (call (Value.ref _) _) _ _ _)); (fail_if_success (with_reducible show wpAny _ _ (call (Value.builtin "len") [Value.ref _]) _ _ _)); (fail_if_success (with_reducible show KswEnd _ _ _ _ _ _ _ _ _ _ _ _)); (fail_if_success (with_reducible show LoopStepU _ _ _ _ _ _ _ _)); (fail_if_success (with_reducible show InvEndN _ _ _ _ _ _ _)); (fail_if_success (with_reducible show RngEnd _ _ _ _ _ _ _ _ _ _ _)); (fail_if_success (with_reducible show RngPost _ _ _ _ _ _ _ _ _ _ _ _ _)); first | (k_unfold; (try dsimp only)) | (k_end; wrow_close) | walk1 | (dsimp only; walk1) | (leave1; walk_say "STEP leave1"; try dsimp only) | fail "no step"); all_goals (repeat (k_unfold; (try dsimp only))))
    (refine' ctr_use (siftdown_c w l (ws.set q (vs.getD p default)) e rest p q _ _ (by rw [List.length_set]; (first | lia | omega)) (by rw [List.length_set]; (first | lia | omega)) ?hH ?hD) ?k1 ?k2 ?k3 ?k4 ?k5 ?kK ?kd ?ku ?_; (case k1 => k_asm); (case k2 => k_asm); (case k3 => k_asm); (case k4 => k_asm); (case k5 => k_asm); (case kK => first | exact rfl | assumption); (case kd => first | lia | ktr_room | ((try dsimp only [A9]); ktr_room)); (case ku => first | lia | ktr_units | ((try dsimp only [A9]); ktr_units)))
    case hH =>
      refine ⟨hH.off, fun y hy => ?_⟩
      rcases List.mem_or_eq_of_mem_set hy with h | rfl
      · exact hm9 y h
      · exact hH.mem _ (getD_mem hp)
    case hD =>
      intro i hi
      rw [getD_set_ne (by (first | lia | omega)), getD_set_eq (by (first | lia | omega))]
      exact hx9 i (by (first | lia | omega)) (by (first | lia | omega))
    intro r9 n9 h9 tk9 F9 N9 P9
    obtain ⟨rfl, rfl⟩ := P9
    ((try dsimp only); (try k_fold); repeat' ((fail_if_success (with_reducible show wpAny _ _ (exec (PySem.Stmt.While _ _ _ _) _) _ _ _)); (fail_if_success (with_reducible show wpAny _ _ (exec (PySem.Stmt.For _ _ _ _ _) _) _ _ _)); (fail_if_success (with_reducible show wpAny _ _ (eval (PySem.Expr.ListComp _ _ _ _) _) _ _ _)); (fail_if_success (with_reducible show wpAny _ _ (subscriptTail _ _ (Value.ref _) _) _ _ _)); (fail_if_success (with_reducible show wpAny _ _ (setItem (Value.ref _) _ _) _ _ _)); (fail_if_success (with_reducible show wpAny _ _ (compareOp CmpOp.Lt (Value.ref _) (Value.ref _)) _ _ _)); (fail_if_success (with_reducible show wpAny _ _ (call (Value.ref _) _) _ _ _)); (fail_if_success (with_reducible show wpAny _ _ (call (Value.builtin "len") [Value.ref _]) _ _ _)); (fail_if_success (with_reducible show KswEnd _ _ _ _ _ _ _ _ _ _ _ _)); (fail_if_success (with_reducible show LoopStepU _ _ _ _ _ _ _ _)); (fail_if_success (with_reducible show InvEndN _ _ _ _ _ _ _)); (fail_if_success (with_reducible show RngEnd _ _ _ _ _ _ _ _ _ _ _)); (fail_if_success (with_reducible show RngPost _ _ _ _ _ _ _ _ _ _ _ _ _)); first | (k_unfold; (try dsimp only)) | (k_end; wrow_close) | walk1 | (dsimp only; walk1) | (leave1; walk_say "STEP leave1"; try dsimp only) | fail "no step"); all_goals (repeat (k_unfold; (try dsimp only))))
    refine hret _ _ _ _ (by k_asm) (by k_asm) ?_
    refine ⟨rfl, ?_⟩
    unfold siftup
    rw [← hr9, ← hl9, suL_stop ws q (by (first | lia | omega))]
end Mine
namespace Mine
section
variable {prog : Program} {w : World} {A : Around} {E : Value → Shared → Prop} {s : Shared} {env : Env} {h₀ : Heap} {x : Str} {body : List Stmt} {Q : Flow → Shared → Prop}
noncomputable def RngEnd {σ : Type} (h₀ : Heap) (L : Addr) (x : Str) (Led : σ → List (Addr × Obj)) (ps : σ → List (Str × Value)) (stored : List Str) (m₀ : Str → Option Value) (Pn : σ → Prop) (io : Addr × Obj) (s₁ s₂ : Shared) : Prop :=
  ∃ (c : σ) (h' : Heap) (tk : Nat) (m' : Str → Option Value) (news' : List (Addr × Obj)), s₂ = { s₁ with heap := h', toks := tk } ∧ Fr h₀ L h' m' ∧ News h₀ L h' news' ∧ (∀ p ∈ Led c, p ∈ news') ∧ io ∈ news' ∧ (∀ p ∈ Led c, p.1 ≠ io.1) ∧
    (∀ p ∈ ps c, m' p.1 = some p.2) ∧ (∀ z, z ≠ x → (∀ p ∈ ps c, z ≠ p.1) → stored.contains z = false → m' z = m₀ z) ∧ Pn c
noncomputable def RngPost {σ : Type} (h₀ : Heap) (L : Addr) (x : Str) (Led : σ → List (Addr × Obj)) (ps : σ → List (Str × Value)) (stored : List Str) (m₀ : Str → Option Value) (Pn : σ → Prop) (io : Addr × Obj) (s₁ : Shared) (Q : Flow → Shared → Prop) (f : Flow) (s₂ : Shared) : Prop :=
  match f with
  | .ret v => Q (.ret v) s₂
  | .brk => Q .next s₂
  | _ => RngEnd h₀ L x Led ps stored m₀ Pn io s₁ s₂
theorem rng_end {σ : Type} {L : Addr} {Led : σ → List (Addr × Obj)} {ps : σ → List (Str × Value)} {stored : List Str} {m₀ m' : Str → Option Value} {Pn : σ → Prop} {io : Addr × Obj} {s₁ : Shared} {h' : Heap} {tk : Nat} {news' : List (Addr × Obj)} (c : σ)
    (F : Fr h₀ L h' m') (N : News h₀ L h' news') (hn : ∀ p ∈ Led c, p ∈ news') (hio : io ∈ news') (ho : ∀ p ∈ Led c, p.1 ≠ io.1) (hk : ∀ p ∈ ps c, m' p.1 = some p.2) (hr : ∀ z, z ≠ x → (∀ p ∈ ps c, z ≠ p.1) → stored.contains z = false → m' z = m₀ z) (hp : Pn c) :
    RngEnd h₀ L x Led ps stored m₀ Pn io s₁ { s₁ with heap := h', toks := tk } := ⟨c, h', tk, m', news', rfl, F, N, hn, hio, ho, hk, hr, hp⟩
theorem loop_rng {σ : Type} {I : Addr} {a c : Int} {n : Nat} {m₀ : Str → Option Value} (Led : σ → List (Addr × Obj)) (ps : σ → List (Str × Value)) (stored : List Str) (P : Nat → σ → Prop) (c₀ : σ)
    (hh : A.handled = none) (hit : IsRangeIter s.heap I a n c) (hI0 : h₀.get? I = none) (hIL : env.locals ≠ I) (hoff : ∀ p ∈ Led c₀, p.1 ≠ I)
    (F : Fr h₀ env.locals s.heap m₀) (N : News h₀ env.locals s.heap (Led c₀)) (hk : ∀ p ∈ ps c₀, m₀ p.1 = some p.2) (hp : P 0 c₀)
    (turn : ∀ (i : Nat) (b : σ) (u : Str → Option Value) (t : Tok) (h : Heap) (tk : Nat) (io : Obj), i < n → P i b → (∀ p ∈ Led b, p.1 ≠ I) →
      Fr h₀ env.locals h (fun y => if y = x then some (.int (a + i * c) t) else kstB (fun z => if stored.contains z then u z else m₀ z) (ps b) y) → News h₀ env.locals h ((I, io) :: Led b) →
      wpAny (model prog w) A (execs body env) (RngPost h₀ env.locals x Led ps stored m₀ (P (i + 1)) (I, io) { s with heap := h, toks := tk } Q) E { s with heap := h, toks := tk })
    (done : ∀ (b : σ) (u : Str → Option Value) h tk, P n b → Fr h₀ env.locals h (fun y => if y = x then u y else kstB (fun z => if stored.contains z then u z else m₀ z) (ps b) y) → News h₀ env.locals h (Led b) → Q .next { s with heap := h, toks := tk }) :
    LoopAtV prog w A h₀ env x body Q E (.ref I) s := by
  have W := Walks.range (prog := prog) (w := w) hh I a c n
  let J : Nat → (Str → Option Value) → List (Addr × Obj) → Prop := fun i m nx => ∃ b : σ, nx = Led b ∧ (∀ p ∈ ps b, m p.1 = some p.2) ∧ (∀ z, z ≠ x → (∀ p ∈ ps b, z ≠ p.1) → stored.contains z = false → m z = m₀ z) ∧ P i b
  refine ⟨I, [I], [I], n, _, _, m₀, Led c₀, J, rfl, W, ?_, ?_, ?_, ?_, F, N, ⟨c₀, rfl, hk, fun _ _ _ _ => rfl, hp⟩, ?_, ?_⟩
  · intro hm; exact hIL (List.mem_singleton.mp hm)
  · intro b hb; rw [List.mem_singleton.mp hb]; exact hI0
  · intro p hp' hm; exact hoff p hp' (List.mem_singleton.mp hm)
  · show IsRangeIter _ _ _ _ _
    simpa using hit
  · rintro i v m₁ news₁ s₁ own ⟨h, tk, rfl⟩ hi ⟨t, rfl⟩ ⟨b, rfl, h1, h2, hP⟩ hnw hown hget hall hst F₁ N₁
    obtain ⟨io, hst'⟩ : ∃ io, h.get? I = some io := ⟨_, hst⟩
    have hio := hall I (List.mem_singleton.mpr rfl) hI0 io hst'
    have ho' : ∀ p ∈ Led b, p.1 ≠ I := fun p hp' e => hnw p hp' (by rw [e]; exact List.mem_singleton.mpr rfl)
    have N₂ : News h₀ env.locals h ((I, io) :: Led b) := fun p hp' => by
      rcases List.mem_cons.mp hp' with rfl | hp'
      · exact N₁ _ (List.mem_append_left _ hio)
      · exact N₁ _ (List.mem_append_right _ hp')
    refine wpAny_mono (turn i b m₁ t h tk io hi hP ho' (kst_fr h1 h2 F₁) N₂) (fun f s₂ p => ?_) fun _ _ e => e
    have fin : RngEnd h₀ env.locals x Led ps stored m₀ (P (i + 1)) (I, io) { s with heap := h, toks := tk } s₂ → LoopStepU h₀ env.locals [I] own (J (i + 1)) { s with heap := h, toks := tk } .next s₂ := by
      rintro ⟨b', h', tk', m', news', e, F', N', hn, hio', hoff', hk', hr', hP'⟩
      refine ⟨rfl, h', tk', m', Led b', e, F', fun p hp' => ?_, fun p hp' hm => hoff' p hp' (List.mem_singleton.mp hm), ⟨b', rfl, hk', hr', hP'⟩⟩
      rcases List.mem_append.mp hp' with h3 | h3
      · have e1 : p.1 = I := List.mem_singleton.mp (hown p h3)
        have e2 := hget p h3
        rw [e1, show h.get? I = some io from hst'] at e2
        have e3 : p = (I, io) := Prod.ext e1 (Option.some.inj e2).symm
        rw [e3]
        exact N' _ hio'
      · exact N' _ (hn p h3)
    cases f with
    | ret v => exact .ret p
    | brk => exact .brk p
    | next => exact .next (fin p)
    | cont => exact .cont (fin p)
  · rintro h' tk m' news' F' N' _ ⟨b, rfl, h1, h2, hP⟩
    exact done b m' h' tk hP (kst_frOut h1 h2 F') N'
theorem news_swap {L : Addr} {h : Heap} {a b : Addr × Obj} {r : List (Addr × Obj)} (N : News h₀ L h (a :: b :: r)) : News h₀ L h (b :: a :: r) := fun p hp => by
  rcases List.mem_cons.mp hp with rfl | hp
  · exact N _ (.tail _ (.head _))
  · rcases List.mem_cons.mp hp with rfl | hp
    · exact N _ (.head _)
    · exact N _ (.tail _ (.tail _ hp))
theorem HeapIn.more {l : Addr} {vs : List Item} {rest : List (Addr × Obj)} {q : Addr × Obj} (H : HeapIn l vs rest) (hq : q.1 ≠ l) : HeapIn l vs (q :: rest) :=
  ⟨fun p hp => (List.mem_cons.mp hp).elim (fun e => e ▸ hq) (H.off p), fun x hx => .tail _ (H.mem x hx)⟩
theorem rngSize (k : Nat) : Builtin.Range.rangeSize 0 k 1 = k := by
  unfold Builtin.Range.rangeSize
  rw [if_pos (by decide)]
  split <;> (first | lia | omega)
theorem fields_rng {r : Addr} {a b c : Int} {t u v : Tok} {Q : Int × Int × Int → Shared → Prop} (hr : IsRange s.heap r a b c t u v) (h : Q (a, b, c) s) : wpAny (model prog w) A (Builtin.Range.rangeFields (.ref r)) Q E s := by
  wp_walk using wpAny_field hr rfl rfl
  exact h
theorem fits_rng (k : Nat) (hk : k ≤ 64) : (Builtin.Range.rangeFitsLong 0 && Builtin.Range.rangeFitsLong (k : Int) && Builtin.Range.rangeFitsLong 1 && Builtin.Range.rangeFitsLong (-1) && Builtin.Range.rangeFitsLong (0 - 1) && Builtin.Range.rangeFitsLong (Builtin.Range.rangeSize 0 k 1)) = true := by
  rw [rngSize k]
  simp [Builtin.Range.rangeFitsLong]; (first | lia | omega)
theorem rev_of_rng {r : Addr} {k : Nat} {t u v : Tok} {Q : Value → Shared → Prop} (hr : IsRange s.heap r 0 k 1 t u v) (hk : k ≤ 64)
    (h : Q (.ref s.heap.objs.size) { s with heap := s.heap.push { cls := .type "range_iterator", data := .fields #[rawInt ((k : Int) - 1), rawInt k, rawInt (-1)] } }) :
    wpAny (model prog w) A (runValue (.call (.builtin "range.__reversed__") ⟨[.ref r], []⟩)) Q E s := by
  have hT : s.TypeIs (.ref r) "range" := ⟨_, hr, rfl⟩
  have e : (0 : Int) + ((k : Int) - 1) * 1 = (k : Int) - 1 := by (first | lia | omega)
  refine wpAny_call_entry (self := .ref r) (rest := []) F.slot_range_reversed hT F.entry_range_reversed ?_ (F.args_range_reversed_1 _)
  show wpAny _ _ (Builtin.Range.rangeFields (.ref r) >>= _) _ _ s
  refine wpAny_bind (fields_rng hr ?_)
  dsimp only
  rw [fits_rng k hk, rngSize k, e]
  wp_walk
  exact ⟨_, rfl, h⟩
theorem rev_rng_new {r : Addr} {k : Nat} {t u v : Tok} {Q : Value → Shared → Prop} (hr : IsRange s.heap r 0 k 1 t u v) (hk : k ≤ 64)
    (h : Q (.ref s.heap.objs.size) { s with heap := s.heap.push { cls := .type "range_iterator", data := .fields #[rawInt ((k : Int) - 1), rawInt k, rawInt (-1)] } }) :
    codeAny (model prog w) A (.call (.builtin "reversed.__new__") ⟨[.type "reversed", .ref r], []⟩) (wants Q E) s := by
  have hT : s.TypeIs (.ref r) "range" := ⟨_, hr, rfl⟩
  have mine := F.sub_reversed_self
  have ok := F.newCall_reversed_1 (.ref r)
  have look := F.slot_range_reversed.lookup
  have bound := F.slot_range_reversed.bind (.ref r)
  refine codeAny_of_tree ?_
  show wpAny _ _ (callAny (.builtin "reversed.__new__") _) _ _ _
  wp_walk
  refine ⟨plainId_quiet F.plain_reversed_new _, codeAny_builtin F.entry_reversed_new ?_⟩
  rw [Around.under_plainId F.plain_reversed_new _]
  wp_walk using rev_of_rng hr hk
  exact h
theorem sub_rngit_reversed : isSubtype (.type "range_iterator") (.type "reversed") = pure false := by rw [isSubtype_type]; kernel_rfl
theorem call_reversed_rng {r : Addr} {k : Nat} {t u v : Tok} {Q : Value → Shared → Prop} (hr : IsRange s.heap r 0 k 1 t u v) (hk : k ≤ 64)
    (h : Q (.ref s.heap.objs.size) { s with heap := s.heap.push { cls := .type "range_iterator", data := .fields #[rawInt ((k : Int) - 1), rawInt k, rawInt (-1)] } }) : wpAny (model prog w) A (call (.type "reversed") [.ref r]) Q E s :=
  callType_other (U := "range_iterator") (by decide +kernel) F.create_reversed ⟨_, _, F.mro_reversed⟩ F.made_reversed sub_rngit_reversed (F.typeCall_reversed_1 _)
    (rev_rng_new (Q := fun o s₁ => s₁.TypeIs o "range_iterator" ∧ Q o s₁) hr hk ⟨⟨_, Heap.get?_push_size _ rfl, rfl⟩, h⟩) fun _ _ q => q
end
end Mine
namespace Mine
theorem heapreplace_c (w : World) (l : Addr) (vs : List Item) (e : Nat) (rest : List (Addr × Obj)) (x : Item) (hp : 0 < vs.length) (hlen : vs.length ≤ 8) (hH : HeapIn l vs rest) (hx : x.ent ∈ rest)
    (hd : ∀ i j, i < vs.length → j < vs.length → i ≠ j → ((vs.set 0 x).getD i default).k ≠ ((vs.set 0 x).getD j default).k) :
    Ctr w 4 32 131 [.ref l, .ref x.addr] ((l, heapObj vs e) :: rest) (fun r n' => r = .ref (vs.getD 0 default).addr ∧ n' = (l, heapObj (siftup (vs.set 0 x) 0) e) :: rest) := by
  (unfold Ctr; k_fill; intro mean mg mb dp un gd cn cs a ccd cl outer A₀ base h₀ L m s Q E B F X N T hk hdp hu hret; refine wpAny_call ?_; k_dflt ktr_enter; (show (let e9 : Env := _; let A9 : Around := Around.deeper _ e9; wpAny _ A9 (execs _ e9) _ _ _)); intro e9 A9)
  ((try dsimp only); (try k_fold); repeat' ((fail_if_success (with_reducible show wpAny _ _ (exec (PySem.Stmt.While _ _ _ _) _) _ _ _)); (fail_if_success (with_reducible show wpAny _ _ (exec (PySem.Stmt.For _ _ _ _ _) _) _ _ _)); (fail_if_success (with_reducible show wpAny _ _ (eval (PySem.Expr.ListComp _ _ _ _) _) _ _ _)); (fail_if_success (with_reducible show wpAny _ _ (subscriptTail _ _ (Value.ref _) _) _ _ _)); (fail_if_success (with_reducible show wpAny _ _ (setItem (Value.ref _) _ _) _ _ _)); (fail_if_success (with_reducible show wpAny _ _ (compareOp CmpOp.Lt (Value.ref _) (Value.ref _)) _ _ _)); (fail_if_success (with_reducible show wpAny _ _ (call (Value.ref _) _) _ _ _)); (fail_if_success (with_reducible show wpAny _ _ (call (Value.builtin "len") [Value.ref _]) _ _ _)); (fail_if_success (with_reducible show KswEnd _ _ _ _ _ _ _ _ _ _ _ _)); (fail_if_success (with_reducible show LoopStepU _ _ _ _ _ _ _ _)); (fail_if_success (with_reducible show InvEndN _ _ _ _ _ _ _)); (fail_if_success (with_reducible show RngEnd _ _ _ _ _ _ _ _ _ _ _)); (fail_if_success (with_reducible show RngPost _ _ _ _ _ _ _ _ _ _ _ _ _)); first | (k_unfold; (try dsimp only)) | (k_end; wrow_close) | walk1 | (dsimp only; walk1) | (leave1; walk_say "STEP leave1"; try dsimp only) | fail "no step"); all_goals (repeat (k_unfold; (try dsimp only))))
  refine heap_getI (n := 0) (by k_asm) rfl (by (first | lia | omega)) hlen ?_ (by with_unfolding_all rfl)
  ((try dsimp only); (try k_fold); repeat' ((fail_if_success (with_reducible show wpAny _ _ (exec (PySem.Stmt.While _ _ _ _) _) _ _ _)); (fail_if_success (with_reducible show wpAny _ _ (exec (PySem.Stmt.For _ _ _ _ _) _) _ _ _)); (fail_if_success (with_reducible show wpAny _ _ (eval (PySem.Expr.ListComp _ _ _ _) _) _ _ _)); (fail_if_success (with_reducible show wpAny _ _ (subscriptTail _ _ (Value.ref _) _) _ _ _)); (fail_if_success (with_reducible show wpAny _ _ (setItem (Value.ref _) _ _) _ _ _)); (fail_if_success (with_reducible show wpAny _ _ (compareOp CmpOp.Lt (Value.ref _) (Value.ref _)) _ _ _)); (fail_if_success (with_reducible show wpAny _ _ (call (Value.ref _) _) _ _ _)); (fail_if_success (with_reducible show wpAny _ _ (call (Value.builtin "len") [Value.ref _]) _ _ _)); (fail_if_success (with_reducible show KswEnd _ _ _ _ _ _ _ _ _ _ _ _)); (fail_if_success (with_reducible show LoopStepU _ _ _ _ _ _ _ _)); (fail_if_success (with_reducible show InvEndN _ _ _ _ _ _ _)); (fail_if_success (with_reducible show RngEnd _ _ _ _ _ _ _ _ _ _ _)); (fail_if_success (with_reducible show RngPost _ _ _ _ _ _ _ _ _ _ _ _ _)); first | (k_unfold; (try dsimp only)) | (k_end; wrow_close) | walk1 | (dsimp only; walk1) | (leave1; walk_say "STEP leave1"; try dsimp only) | fail "no step"); all_goals (repeat (k_unfold; (try dsimp only))))
  refine heap_set (k := 0) (by k_asm) (by k_asm) hH.off (by (first | lia | omega)) (by (first | lia | omega)) ?_
  intro h8 F8 N8
  ((try dsimp only); (try k_fold); repeat' ((fail_if_success (with_reducible show wpAny _ _ (exec (PySem.Stmt.While _ _ _ _) _) _ _ _)); (fail_if_success (with_reducible show wpAny _ _ (exec (PySem.Stmt.For _ _ _ _ _) _) _ _ _)); (fail_if_success (with_reducible show wpAny _ _ (eval (PySem.Expr.ListComp _ _ _ _) _) _ _ _)); (fail_if_success (with_reducible show wpAny _ _ (subscriptTail _ _ (Value.ref _) _) _ _ _)); (fail_if_success (with_reducible show wpAny _ _ (setItem (Value.ref _) _ _) _ _ _)); (fail_if_success (with_reducible show wpAny _ _ (compareOp CmpOp.Lt (Value.ref _) (Value.ref _)) _ _ _)); (fail_if_success (with_reducible show wpAny _ _ (call (Value.ref _) _) _ _ _)); (fail_if_success (with_reducible show wpAny _ _ (call (Value.builtin "len") [Value.ref _]) _ _ _)); (fail_if_success (with_reducible show KswEnd _ _ _ _ _ _ _ _ _ _ _ _)); (fail_if_success (with_reducible show LoopStepU _ _ _ _ _ _ _ _)); (fail_if_success (with_reducible show InvEndN _ _ _ _ _ _ _)); (fail_if_success (with_reducible show RngEnd _ _ _ _ _ _ _ _ _ _ _)); (fail_if_success (with_reducible show RngPost _ _ _ _ _ _ _ _ _ _ _ _ _)); first | (k_unfold; (try dsimp only)) | (k_end; wrow_close) | walk1 | (dsimp only; walk1) | (leave1; walk_say "STEP leave1"; try dsimp only) | fail "no step"); all_goals (repeat (k_unfold; (try dsimp only))))
  (refine' ctr_use (siftup_c w l (vs.set 0 x) e rest 0 _ (by rw [List.length_set]; (first | lia | omega)) (by rw [List.length_set]; (first | lia | omega)) ?hH (by rw [List.length_set]; exact hd)) ?k1 ?k2 ?k3 ?k4 ?k5 ?kK ?kd ?ku ?_; (case k1 => k_asm); (case k2 => k_asm); (case k3 => k_asm); (case k4 => k_asm); (case k5 => k_asm); (case kK => first | exact rfl | assumption); (case kd => first | lia | ktr_room | ((try dsimp only [A9]); ktr_room)); (case ku => first | lia | ktr_units | ((try dsimp only [A9]); ktr_units)))
  case hH =>
    refine ⟨hH.off, fun y hy => ?_⟩
    rcases List.mem_or_eq_of_mem_set hy with h | rfl
    · exact hH.mem y h
    · exact hx
  intro r9 n9 h9 tk9 F9 N9 P9
  obtain ⟨rfl, rfl⟩ := P9
  ((try dsimp only); (try k_fold); repeat' ((fail_if_success (with_reducible show wpAny _ _ (exec (PySem.Stmt.While _ _ _ _) _) _ _ _)); (fail_if_success (with_reducible show wpAny _ _ (exec (PySem.Stmt.For _ _ _ _ _) _) _ _ _)); (fail_if_success (with_reducible show wpAny _ _ (eval (PySem.Expr.ListComp _ _ _ _) _) _ _ _)); (fail_if_success (with_reducible show wpAny _ _ (subscriptTail _ _ (Value.ref _) _) _ _ _)); (fail_if_success (with_reducible show wpAny _ _ (setItem (Value.ref _) _ _) _ _ _)); (fail_if_success (with_reducible show wpAny _ _ (compareOp CmpOp.Lt (Value.ref _) (Value.ref _)) _ _ _)); (fail_if_success (with_reducible show wpAny _ _ (call (Value.ref _) _) _ _ _)); (fail_if_success (with_reducible show wpAny _ _ (call (Value.builtin "len") [Value.ref _]) _ _ _)); (fail_if_success (with_reducible show KswEnd _ _ _ _ _ _ _ _ _ _ _ _)); (fail_if_success (with_reducible show LoopStepU _ _ _ _ _ _ _ _)); (fail_if_success (with_reducible show InvEndN _ _ _ _ _ _ _)); (fail_if_success (with_reducible show RngEnd _ _ _ _ _ _ _ _ _ _ _)); (fail_if_success (with_reducible show RngPost _ _ _ _ _ _ _ _ _ _ _ _ _)); first | (k_unfold; (try dsimp only)) | (k_end; wrow_close) | walk1 | (dsimp only; walk1) | (leave1; walk_say "STEP leave1"; try dsimp only) | fail "no step"); all_goals (repeat (k_unfold; (try dsimp only))))
  refine hret _ _ _ _ (by k_asm) (by k_asm) ?_
  exact ⟨rfl, rfl⟩
theorem heapify_c (w : World) (l : Addr) (vs : List Item) (e : Nat) (rest : List (Addr × Obj)) (hlen : vs.length ≤ 8) (hH : HeapIn l vs rest)
    (hd : ∀ i j, i < vs.length → j < vs.length → i ≠ j → (vs.getD i default).k ≠ (vs.getD j default).k) (hs : ∀ i, i < vs.length / 2 → siftup vs i = vs) :
    Ctr w 4 32 138 [.ref l] ((l, heapObj vs e) :: rest) (fun r n' => r = .none ∧ n' = (l, heapObj vs e) :: rest) := by
  (unfold Ctr; k_fill; intro mean mg mb dp un gd cn cs a ccd cl outer A₀ base h₀ L m s Q E B F X N T hk hdp hu hret; refine wpAny_call ?_; k_dflt ktr_enter; (show (let e9 : Env := _; let A9 : Around := Around.deeper _ e9; wpAny _ A9 (execs _ e9) _ _ _)); intro e9 A9)
  ((try dsimp only); (try k_fold); repeat' ((fail_if_success (with_reducible show wpAny _ _ (exec (PySem.Stmt.While _ _ _ _) _) _ _ _)); (fail_if_success (with_reducible show wpAny _ _ (exec (PySem.Stmt.For _ _ _ _ _) _) _ _ _)); (fail_if_success (with_reducible show wpAny _ _ (eval (PySem.Expr.ListComp _ _ _ _) _) _ _ _)); (fail_if_success (with_reducible show wpAny _ _ (subscriptTail _ _ (Value.ref _) _) _ _ _)); (fail_if_success (with_reducible show wpAny _ _ (setItem (Value.ref _) _ _) _ _ _)); (fail_if_success (with_reducible show wpAny _ _ (compareOp CmpOp.Lt (Value.ref _) (Value.ref _)) _ _ _)); (fail_if_success (with_reducible show wpAny _ _ (call (Value.ref _) _) _ _ _)); (fail_if_success (with_reducible show wpAny _ _ (call (Value.builtin "len") [Value.ref _]) _ _ _)); (fail_if_success (with_reducible show KswEnd _ _ _ _ _ _ _ _ _ _ _ _)); (fail_if_success (with_reducible show LoopStepU _ _ _ _ _ _ _ _)); (fail_if_success (with_reducible show InvEndN _ _ _ _ _ _ _)); (fail_if_success (with_reducible show RngEnd _ _ _ _ _ _ _ _ _ _ _)); (fail_if_success (with_reducible show RngPost _ _ _ _ _ _ _ _ _ _ _ _ _)); first | (k_unfold; (try dsimp only)) | (k_end; wrow_close) | walk1 | (dsimp only; walk1) | (leave1; walk_say "STEP leave1"; try dsimp only) | fail "no step"); all_goals (repeat (k_unfold; (try dsimp only))))
  refine len_heap (by k_asm) hlen ?_
  ((try dsimp only); (try k_fold); repeat' ((fail_if_success (with_reducible show wpAny _ _ (exec (PySem.Stmt.While _ _ _ _) _) _ _ _)); (fail_if_success (with_reducible show wpAny _ _ (exec (PySem.Stmt.For _ _ _ _ _) _) _ _ _)); (fail_if_success (with_reducible show wpAny _ _ (eval (PySem.Expr.ListComp _ _ _ _) _) _ _ _)); (fail_if_success (with_reducible show wpAny _ _ (subscriptTail _ _ (Value.ref _) _) _ _ _)); (fail_if_success (with_reducible show wpAny _ _ (setItem (Value.ref _) _ _) _ _ _)); (fail_if_success (with_reducible show wpAny _ _ (compareOp CmpOp.Lt (Value.ref _) (Value.ref _)) _ _ _)); (fail_if_success (with_reducible show wpAny _ _ (call (Value.ref _) _) _ _ _)); (fail_if_success (with_reducible show wpAny _ _ (call (Value.builtin "len") [Value.ref _]) _ _ _)); (fail_if_success (with_reducible show KswEnd _ _ _ _ _ _ _ _ _ _ _ _)); (fail_if_success (with_reducible show LoopStepU _ _ _ _ _ _ _ _)); (fail_if_success (with_reducible show InvEndN _ _ _ _ _ _ _)); (fail_if_success (with_reducible show RngEnd _ _ _ _ _ _ _ _ _ _ _)); (fail_if_success (with_reducible show RngPost _ _ _ _ _ _ _ _ _ _ _ _ _)); first | (k_unfold; (try dsimp only)) | (k_end; wrow_close) | walk1 | (dsimp only; walk1) | (leave1; walk_say "STEP leave1"; try dsimp only) | fail "no step"); all_goals (repeat (k_unfold; (try dsimp only))))
  rename Fr _ _ _ _ => lF'
  refine For_invVF lF' rfl rfl ?_
  ((try dsimp only); (try k_fold); repeat' ((fail_if_success (with_reducible show wpAny _ _ (pyIter _) _ _ _)); (fail_if_success (with_reducible show wpAny _ _ (call (Value.type "reversed") _) _ _ _)); first | (k_unfold; (try dsimp only)) | (k_end; wrow_close) | walk1 | (dsimp only; walk1) | (leave1; walk_say "STEP leave1"; try dsimp only) | fail "no step"); all_goals (repeat (k_unfold; (try dsimp only))))
  rename IsRange _ _ _ _ _ _ _ _ => hR
  rename Fr _ _ _ _ => F6
  rename News _ _ _ _ => N6
  have e2 : ((vs.length : Int)).fdiv 2 = ((vs.length / 2 : Nat) : Int) := by
    rw [Int.fdiv_eq_ediv_of_nonneg _ (by (first | lia | omega))]; (first | lia | omega)
  rw [e2] at hR
  refine call_reversed_rng hR (by (first | lia | omega)) ?_
  refine wpAny_pyIter_rangeiter (Heap.get?_push_size _ rfl) ?_
  refine loop_rng (σ := Unit) (fun _ => (l, heapObj vs e) :: rest) (fun _ => [(Str.ofString "x", .ref l)]) [] (fun _ _ => True) () rfl (Heap.get?_push_size _ rfl) (next_is_new F6) ?k1 ?k2 (F6.push _)
    (fun p hp => ⟨Heap.get?_push_of_some _ (N6 p hp).1, (N6 p hp).2⟩) (by intro q hq; rw [List.mem_singleton.mp hq]; rfl) trivial ?turn ?done
  case k1 => exact Nat.ne_of_lt F6.ns.lt
  case k2 => exact fun p hp => Nat.ne_of_lt (Heap.lt_size (N6 p hp).1)
  case done =>
    intro b u h tk _ F9 N9
    ((try dsimp only); (try k_fold); repeat' ((fail_if_success (with_reducible show wpAny _ _ (exec (PySem.Stmt.While _ _ _ _) _) _ _ _)); (fail_if_success (with_reducible show wpAny _ _ (exec (PySem.Stmt.For _ _ _ _ _) _) _ _ _)); (fail_if_success (with_reducible show wpAny _ _ (eval (PySem.Expr.ListComp _ _ _ _) _) _ _ _)); (fail_if_success (with_reducible show wpAny _ _ (subscriptTail _ _ (Value.ref _) _) _ _ _)); (fail_if_success (with_reducible show wpAny _ _ (setItem (Value.ref _) _ _) _ _ _)); (fail_if_success (with_reducible show wpAny _ _ (compareOp CmpOp.Lt (Value.ref _) (Value.ref _)) _ _ _)); (fail_if_success (with_reducible show wpAny _ _ (call (Value.ref _) _) _ _ _)); (fail_if_success (with_reducible show wpAny _ _ (call (Value.builtin "len") [Value.ref _]) _ _ _)); (fail_if_success (with_reducible show KswEnd _ _ _ _ _ _ _ _ _ _ _ _)); (fail_if_success (with_reducible show LoopStepU _ _ _ _ _ _ _ _)); (fail_if_success (with_reducible show InvEndN _ _ _ _ _ _ _)); (fail_if_success (with_reducible show RngEnd _ _ _ _ _ _ _ _ _ _ _)); (fail_if_success (with_reducible show RngPost _ _ _ _ _ _ _ _ _ _ _ _ _)); first | (k_unfold; (try dsimp only)) | (k_end; wrow_close) | walk1 | (dsimp only; walk1) | (leave1; walk_say "STEP leave1"; try dsimp only) | fail "no step"); all_goals (repeat (k_unfold; (try dsimp only))))
    refine hret _ _ _ _ (by k_asm) (by k_asm) ?_
    exact ⟨rfl, rfl⟩
  case turn =>
    intro i b u t h tk io hi _ hoff F9 N9
    have e3 : (((vs.length / 2 : Nat) : Int) - 1 + (i : Int) * -1) = ((vs.length / 2 - 1 - i : Nat) : Int) := by (first | lia | omega)
    rw [e3] at F9
    replace N9 := news_swap N9
    ((try dsimp only); (try k_fold); repeat' ((fail_if_success (with_reducible show wpAny _ _ (exec (PySem.Stmt.While _ _ _ _) _) _ _ _)); (fail_if_success (with_reducible show wpAny _ _ (exec (PySem.Stmt.For _ _ _ _ _) _) _ _ _)); (fail_if_success (with_reducible show wpAny _ _ (eval (PySem.Expr.ListComp _ _ _ _) _) _ _ _)); (fail_if_success (with_reducible show wpAny _ _ (subscriptTail _ _ (Value.ref _) _) _ _ _)); (fail_if_success (with_reducible show wpAny _ _ (setItem (Value.ref _) _ _) _ _ _)); (fail_if_success (with_reducible show wpAny _ _ (compareOp CmpOp.Lt (Value.ref _) (Value.ref _)) _ _ _)); (fail_if_success (with_reducible show wpAny _ _ (call (Value.ref _) _) _ _ _)); (fail_if_success (with_reducible show wpAny _ _ (call (Value.builtin "len") [Value.ref _]) _ _ _)); (fail_if_success (with_reducible show KswEnd _ _ _ _ _ _ _ _ _ _ _ _)); (fail_if_success (with_reducible show LoopStepU _ _ _ _ _ _ _ _)); (fail_if_success (with_reducible show InvEndN _ _ _ _ _ _ _)); (fail_if_success (with_reducible show RngEnd _ _ _ _ _ _ _ _ _ _ _)); (fail_if_success (with_reducible show RngPost _ _ _ _ _ _ _ _ _ _ _ _ _)); first | (k_unfold; (try dsimp only)) | (k_end; wrow_close) | walk1 | (dsimp only; walk1) | (leave1; walk_say "STEP leave1"; try dsimp only) | fail "no step"); all_goals (repeat (k_unfold; (try dsimp only))))
    (refine' ctr_use (siftup_c w l vs e ((_, io) :: rest) (vs.length / 2 - 1 - i) _ (by (first | lia | omega)) hlen (hH.more (Ne.symm (hoff _ (.head _)))) hd) ?k1 ?k2 ?k3 ?k4 ?k5 ?kK ?kd ?ku ?_; (case k1 => k_asm); (case k2 => k_asm); (case k3 => k_asm); (case k4 => k_asm); (case k5 => k_asm); (case kK => first | exact rfl | assumption); (case kd => first | lia | ktr_room | ((try dsimp only [A9]); ktr_room)); (case ku => first | lia | ktr_units | ((try dsimp only [A9]); ktr_units)))
    intro r9 n9 h9 tk9 F9 N9 P9
    obtain ⟨rfl, rfl⟩ := P9
    rw [hs _ (by (first | lia | omega))] at N9
    ((try dsimp only); (try k_fold); repeat' ((fail_if_success (with_reducible show wpAny _ _ (exec (PySem.Stmt.While _ _ _ _) _) _ _ _)); (fail_if_success (with_reducible show wpAny _ _ (exec (PySem.Stmt.For _ _ _ _ _) _) _ _ _)); (fail_if_success (with_reducible show wpAny _ _ (eval (PySem.Expr.ListComp _ _ _ _) _) _ _ _)); (fail_if_success (with_reducible show wpAny _ _ (subscriptTail _ _ (Value.ref _) _) _ _ _)); (fail_if_success (with_reducible show wpAny _ _ (setItem (Value.ref _) _ _) _ _ _)); (fail_if_success (with_reducible show wpAny _ _ (compareOp CmpOp.Lt (Value.ref _) (Value.ref _)) _ _ _)); (fail_if_success (with_reducible show wpAny _ _ (call (Value.ref _) _) _ _ _)); (fail_if_success (with_reducible show wpAny _ _ (call (Value.builtin "len") [Value.ref _]) _ _ _)); (fail_if_success (with_reducible show KswEnd _ _ _ _ _ _ _ _ _ _ _ _)); (fail_if_success (with_reducible show LoopStepU _ _ _ _ _ _ _ _)); (fail_if_success (with_reducible show InvEndN _ _ _ _ _ _ _)); (fail_if_success (with_reducible show RngEnd _ _ _ _ _ _ _ _ _ _ _)); (fail_if_success (with_reducible show RngPost _ _ _ _ _ _ _ _ _ _ _ _ _)); first | (k_unfold; (try dsimp only)) | (k_end; wrow_close) | walk1 | (dsimp only; walk1) | (leave1; walk_say "STEP leave1"; try dsimp only) | fail "no step"); all_goals (repeat (k_unfold; (try dsimp only))))
    refine rng_end () (by k_asm) (by k_asm) ?k3 (.tail _ (.head _)) hoff (by intro q hq; rw [List.mem_singleton.mp hq]; rfl) (by intro z h1 h2 h3; simp only [List.forall_mem_cons, List.not_mem_nil, false_implies, implies_true, and_true, ne_eq] at h2; simp [kstB, h1, h2]) trivial
    case k3 =>
      intro p hp
      rcases List.mem_cons.mp hp with rfl | hp
      · exact .head _
      · exact .tail _ (.tail _ hp)
end Mine
namespace Mine
noncomputable def S (l : List Nat) : Str := ⟨l.toArray⟩
theorem S_toList (x : Str) : S x.cps.toList = x := by cases x; simp [S]
theorem S_cps (l : List Nat) : (S l).cps.toList = l := by simp [S]
theorem S_length (l : List Nat) : (S l).length = l.length := by simp [S, Str.length]
noncomputable def sub1 (c : Nat) (r : List Nat) (l : List Nat) : List Nat := l.flatMap fun y => if y = c then r else [y]
theorem sub1_append (c : Nat) (r a b : List Nat) : sub1 c r (a ++ b) = sub1 c r a ++ sub1 c r b := by simp [sub1]
theorem sub1_free (c : Nat) (r : List Nat) : ∀ l : List Nat, c ∉ l → sub1 c r l = l := by
  intro l
  induction l with
  | nil => intro _; rfl
  | cons y l ih =>
    intro h
    have h1 : ¬ y = c := fun e => h (e ▸ List.mem_cons_self ..)
    have h2 : c ∉ l := fun m => h (List.mem_cons_of_mem _ m)
    have := ih h2
    simp only [sub1, List.flatMap_cons, if_neg h1] at this ⊢
    rw [this]; rfl
theorem sub1_join (c : Nat) (r : List Nat) : ∀ parts : List Str, (∀ p ∈ parts, c ∉ p.cps.toList) → sub1 c r (Str.join ⟨#[c]⟩ parts).cps.toList = (Str.join (S r) parts).cps.toList
  | [], _ => rfl
  | [p], h => sub1_free c r _ (h p (List.mem_singleton.mpr rfl))
  | p :: q :: rest, h => by
    have ih := sub1_join c r (q :: rest) fun a ha => h a (List.mem_cons_of_mem _ ha)
    show sub1 c r (p ++ ⟨#[c]⟩ ++ Str.join ⟨#[c]⟩ (q :: rest)).cps.toList = (p ++ S r ++ Str.join (S r) (q :: rest)).cps.toList
    simp only [Str.cps_append, Array.toList_append]
    rw [sub1_append, sub1_append, ih, sub1_free c r _ (h p (List.mem_cons_self ..)), S_cps]
    simp [sub1]
theorem rep_one (x : Str) (c : Nat) (r : List Nat) : Txt.replace x ⟨#[c]⟩ (S r) = S (sub1 c r x.cps.toList) := by
  have h : (Txt.replace x ⟨#[c]⟩ (S r)).cps.toList = sub1 c r x.cps.toList := by
    rw [StrLaws.replace_one, ← sub1_join c r _ (StrLaws.split_free x c), StrLaws.join_split]
  rw [← h, S_toList]
theorem rep_none (x : Str) (c : Nat) (r : Str) (h : (Builtin.Str.occurrences x ⟨#[c]⟩ 0 x.length 1).isEmpty = true) : Txt.replace x ⟨#[c]⟩ r = x := by
  have hf := StrLaws.found_one x c
  rw [h] at hf
  have hc : c ∉ x.cps.toList := by
    intro hm
    rw [decide_eq_true hm] at hf
    cases hf
  rw [← S_toList r, rep_one, sub1_free _ _ _ hc, S_toList]
noncomputable def ap (tab : List (Nat × List Nat)) (y : Nat) : List Nat := (tab.lookup y).getD [y]
noncomputable def okT (tab : List (Nat × List Nat)) (k : Nat) : Bool := tab.all fun p => p.1 != k && !p.2.contains k && decide (p.2.length ≤ 6)
theorem ap_len (tab : List (Nat × List Nat)) (h : (tab.all fun p => decide (p.2.length ≤ 6)) = true) (y : Nat) : (ap tab y).length ≤ 6 := by
  unfold ap
  induction tab with
  | nil => simp
  | cons p tab ih =>
    rw [List.all_cons, Bool.and_eq_true] at h
    obtain ⟨a, b⟩ := p
    rw [List.lookup_cons]
    by_cases e : y == a
    · rw [e]; simpa using h.1
    · have e' : (y == a) = false := by simpa using e
      rw [e']; exact ih h.2
theorem ap_more (tab : List (Nat × List Nat)) (k : Nat) (r : List Nat) (h : okT tab k = true) (y : Nat) : sub1 k r (ap tab y) = ap (tab ++ [(k, r)]) y := by
  unfold ap
  induction tab with
  | nil =>
    by_cases e : y = k
    · subst e; simp [sub1, List.lookup]
    · have e' : (y == k) = false := by simpa using e
      simp [sub1, List.lookup, e, e']
  | cons p tab ih =>
    unfold okT at h ih
    rw [List.all_cons, Bool.and_eq_true] at h
    obtain ⟨a, b⟩ := p
    rw [List.cons_append, List.lookup_cons, List.lookup_cons]
    by_cases e : y == a
    · rw [e]
      have hb : k ∉ b := by
        have := h.1
        simp at this
        exact this.1.2
      simpa using sub1_free k r b hb
    · have e' : (y == a) = false := by simpa using e
      rw [e']; exact ih h.2
theorem sub1_flat (k : Nat) (r l : List Nat) (f : Nat → List Nat) : sub1 k r (l.flatMap f) = l.flatMap fun y => sub1 k r (f y) := by
  simp [sub1, List.flatMap_assoc]
theorem flat_len (l : List Nat) (f : Nat → List Nat) (h : ∀ y, (f y).length ≤ 6) : (l.flatMap f).length ≤ 6 * l.length := by
  induction l with
  | nil => simp
  | cons y l ih =>
    have := h y
    simp only [List.flatMap_cons, List.length_append, List.length_cons]
    (first | lia | omega)
theorem rep_tab (tab : List (Nat × List Nat)) (k : Nat) (r l : List Nat) (h : okT tab k = true) : Txt.replace (S (l.flatMap (ap tab))) ⟨#[k]⟩ (S r) = S (l.flatMap (ap (tab ++ [(k, r)]))) := by
  rw [rep_one, S_cps, sub1_flat]
  congr 2
  funext y
  exact ap_more tab k r h y
noncomputable def escT : Nat → List (Nat × List Nat)
  | 0 => [(38, [38, 97, 109, 112, 59]), (60, [38, 108, 116, 59]), (62, [38, 103, 116, 59]), (34, [38, 113, 117, 111, 116, 59]), (13, [38, 35, 49, 51, 59]), (10, [38, 35, 49, 48, 59]), (9, [38, 35, 48, 57, 59])]
  | 1 => [(38, [38, 97, 109, 112, 59]), (60, [38, 108, 116, 59]), (62, [38, 103, 116, 59])]
  | 2 => [(38, [38, 97, 109, 112, 59]), (60, [38, 108, 116, 59]), (34, [38, 113, 117, 111, 116, 59]), (9, [38, 35, 120, 57, 59]), (10, [38, 35, 120, 65, 59]), (13, [38, 35, 120, 68, 59])]
  | _ => [(38, [38, 97, 109, 112, 59]), (62, [38, 103, 116, 59]), (34, [38, 113, 117, 111, 116, 59])]
noncomputable def esc (i : Nat) (l : List Nat) : List Nat := l.flatMap (ap (escT i))
end Mine
namespace Mine
theorem gentoks_pos {α : Type} {M : Model} {A : Around} {t : Sem α} {Q : α → Shared → Prop} {E : Value → Shared → Prop} {heap : Heap} {gens : Array GenState} {drawn : Drawn} {X : Nat} {os : OsState}
    (k : ∀ tk, 0 < tk → wpAny M A t Q E ⟨heap, gens, drawn, tk, os⟩) : wpAny M A t Q E ⟨heap, gens, drawn, X + 1, os⟩ := k _ (Nat.succ_pos _)
section
variable {prog : Program} {w : World} {A : Around} {E : Value → Shared → Prop} {s : Shared} {h₀ : Heap} {L a : Addr} {m : Str → Option Value} {news : List (Addr × Obj)} {name : Str} {scope : Scope} {cd : Value} {Q : Flow → Shared → Prop}
theorem if_replace {c r x : Str} {t : Tok} {p1 p2 p3 p4 p5 p6 p7 p8 p9 p10 p11 : Pos} {k1 k2 k3 : Nat} (F : Fr h₀ L s.heap m) (N : News h₀ L s.heap news) (hv : m (Str.ofString "text") = some (.str x t)) (hk : scope.kind = .function) (hl : (envOf name scope L a cd).kindOf (Str.ofString "text") = some .local)
    (hcr : (c == r) = false) (hx : x.length ≤ 1048576) (hr : r.length ≤ 14) (hc : (Builtin.Str.occurrences x c 0 x.length 1).isEmpty = true → Txt.replace x c r = x) {pl : Sem Bool}
    (he : eval (.Call (.Attribute (.Name (Str.ofString "text") p5) (Str.ofString "replace") p6) [.Constant (.str c) k2 p7, .Constant (.str r) k3 p8] [] p9) (envOf name scope L a cd) = (do
      let ov ← eval (.Name (Str.ofString "text") p5) (envOf name scope L a cd)
      standAt p6.atName
      let (f, first) ← holding [ov] (getMethod ov (Str.ofString "replace") pl)
      callWith p9 f first (backTo p9 (starEach [.Constant (.str c) k2 p7, .Constant (.str r) k3 p8] (envOf name scope L a cd))) []))
    (h : ∀ h' tk' t', Fr h₀ L h' (fun y => if y = Str.ofString "text" then some (.str (Txt.replace x c r) t') else m y) → News h₀ L h' news → Q .next { s with heap := h', toks := tk' }) :
    wpAny (model prog w) A (exec (.If (.Compare (.Constant (.str c) k1 p1) [.In] [.Name (Str.ofString "text") p2] p3) [.Assign [.Name (Str.ofString "text") p4] (.Call (.Attribute (.Name (Str.ofString "text") p5) (Str.ofString "replace") p6) [.Constant (.str c) k2 p7, .Constant (.str r) k3 p8] [] p9) p10] [] p11) (envOf name scope L a cd)) Q E s := by
  refine wpAny_If (wpAny_isTrue_Compare1 (Calls.Constant_str (ld F hv (in_str ?_) hk hl)))
  refine wpAny_truthy_bool ?_
  cases ho : (Builtin.Str.occurrences x c 0 x.length 1).isEmpty with
  | true =>
    show wpAny _ _ (execs [] _) _ _ _
    refine wpAny_execs_nil ?_
    have em : (fun y => if y = Str.ofString "text" then some (Value.str (Txt.replace x c r) t) else m y) = m := by
      funext y
      rw [hc ho]
      by_cases hy : y = Str.ofString "text"
      · rw [if_pos hy, hy, hv]
      · rw [if_neg hy]
    exact h s.heap (s.toks + 1) t (by rw [em]; exact F) N
  | false =>
    show wpAny _ _ (execs [_] _) _ _ _
    refine wpAny_execs_cons (wpAny_Assign_Name (MethodCall_ (ld F hv (GM.replace ?_) hk hl) he))
    refine callWith_method1 (args_cons (Calls.Constant_str (args_cons (Calls.Constant_str (args_nil ?_)))))
    refine SC.replaceW (by show @Ne Nat (s.toks + 1) 0; (first | lia | omega)) (by show @Ne Nat (s.toks + 1 + 1) 0; (first | lia | omega)) (by show @Ne Nat (s.toks + 1) (s.toks + 1 + 1); (first | lia | omega)) hcr hx hr ?_
    intro t' k
    refine stN (s := { s with toks := k }) F N ?_ hk hl
    intro h' F' N'
    exact wpAny_execs_nil (h h' (k + 1) t' F' N')
theorem if_esc {l rr : List Nat} {tab : List (Nat × List Nat)} {k : Nat} {c r : Str} {t : Tok} {p1 p2 p3 p4 p5 p6 p7 p8 p9 p10 p11 : Pos} {k1 k2 k3 : Nat} (hl1 : l.length ≤ 1000) (hcl : c = ⟨#[k]⟩) (hrl : r = S rr) (hok : okT tab k = true) (hr6 : rr.length ≤ 6) (hcr : (c == r) = false)
    (F : Fr h₀ L s.heap m) (N : News h₀ L s.heap news) (hv : m (Str.ofString "text") = some (.str (S (l.flatMap (ap tab))) t)) (hk : scope.kind = .function) (hl : (envOf name scope L a cd).kindOf (Str.ofString "text") = some .local) {pl : Sem Bool}
    (he : eval (.Call (.Attribute (.Name (Str.ofString "text") p5) (Str.ofString "replace") p6) [.Constant (.str c) k2 p7, .Constant (.str r) k3 p8] [] p9) (envOf name scope L a cd) = (do
      let ov ← eval (.Name (Str.ofString "text") p5) (envOf name scope L a cd)
      standAt p6.atName
      let (f, first) ← holding [ov] (getMethod ov (Str.ofString "replace") pl)
      callWith p9 f first (backTo p9 (starEach [.Constant (.str c) k2 p7, .Constant (.str r) k3 p8] (envOf name scope L a cd))) []))
    (h : ∀ h' tk' t', Fr h₀ L h' (fun y => if y = Str.ofString "text" then some (.str (S (l.flatMap (ap (tab ++ [(k, rr)])))) t') else m y) → News h₀ L h' news → Q .next { s with heap := h', toks := tk' }) :
    wpAny (model prog w) A (exec (.If (.Compare (.Constant (.str c) k1 p1) [.In] [.Name (Str.ofString "text") p2] p3) [.Assign [.Name (Str.ofString "text") p4] (.Call (.Attribute (.Name (Str.ofString "text") p5) (Str.ofString "replace") p6) [.Constant (.str c) k2 p7, .Constant (.str r) k3 p8] [] p9) p10] [] p11) (envOf name scope L a cd)) Q E s := by
  have h6 : (tab.all fun p => decide (p.2.length ≤ 6)) = true := by
    unfold okT at hok
    rw [List.all_eq_true] at hok ⊢
    intro p hp
    have := hok p hp
    simp only [Bool.and_eq_true] at this
    exact this.2
  refine if_replace F N hv hk hl hcr ?_ (by rw [hrl, S_length]; (first | lia | omega)) (fun ho => by subst hcl; exact rep_none _ _ _ ho) he ?_
  · rw [S_length]
    have := flat_len l (ap tab) (ap_len tab h6)
    (first | lia | omega)
  · subst hcl hrl
    rw [rep_tab tab k rr l hok]
    exact h
end
theorem flat_nil (l : List Nat) : l.flatMap (ap []) = l := by
  have : ap [] = fun y => [y] := rfl
  rw [this]; simp
-- GENERATED by genesc.py
theorem esc_attrib (w : World) (l : List Nat) (t : Tok) (news : List (Addr × Obj)) (hx : l.length ≤ 1000) : Ctr w 4 64 35 [.str (S l) t] news (fun r n' => n' = news ∧ ∃ t', r = .str (S (esc 0 l)) t') := by
  rw [show S l = S (l.flatMap (ap [])) by rw [flat_nil]]
  (unfold Ctr; k_fill; intro mean mg mb dp un gd cn cs a ccd cl outer A₀ base h₀ L m s Q E B F X N T hk hdp hu hret; refine wpAny_call ?_; k_dflt ktr_enter; (show (let e9 : Env := _; let A9 : Around := Around.deeper _ e9; wpAny _ A9 (execs _ e9) _ _ _)); intro e9 A9)
  ((try dsimp only); (try k_fold); repeat' ((fail_if_success (with_reducible show wpAny _ _ (exec (PySem.Stmt.If _ _ _ _) _) _ _ _)); first | (k_unfold; (try dsimp only)) | (k_end; wrow_close) | walk1 | (dsimp only; walk1) | (leave1; walk_say "STEP leave1"; try dsimp only) | fail "no step"); all_goals (repeat (k_unfold; (try dsimp only))))
  refine if_esc (k := 38) (rr := [38, 97, 109, 112, 59]) (tab := []) hx (by decide +kernel) (by decide +kernel) (by decide) (by decide) (by decide +kernel) (by k_asm) (by k_asm) (by rfl) (by rfl) (by rfl) (by rfl) ?_
  intro h8 tk8 t8 F8 N8
  ((try dsimp only); (try k_fold); repeat' ((fail_if_success (with_reducible show wpAny _ _ (exec (PySem.Stmt.If _ _ _ _) _) _ _ _)); first | (k_unfold; (try dsimp only)) | (k_end; wrow_close) | walk1 | (dsimp only; walk1) | (leave1; walk_say "STEP leave1"; try dsimp only) | fail "no step"); all_goals (repeat (k_unfold; (try dsimp only))))
  refine if_esc (k := 60) (rr := [38, 108, 116, 59]) (tab := [(38, [38, 97, 109, 112, 59])]) hx (by decide +kernel) (by decide +kernel) (by decide) (by decide) (by decide +kernel) (by k_asm) (by k_asm) (by rfl) (by rfl) (by rfl) (by rfl) ?_
  intro h8 tk8 t8 F8 N8
  ((try dsimp only); (try k_fold); repeat' ((fail_if_success (with_reducible show wpAny _ _ (exec (PySem.Stmt.If _ _ _ _) _) _ _ _)); first | (k_unfold; (try dsimp only)) | (k_end; wrow_close) | walk1 | (dsimp only; walk1) | (leave1; walk_say "STEP leave1"; try dsimp only) | fail "no step"); all_goals (repeat (k_unfold; (try dsimp only))))
  refine if_esc (k := 62) (rr := [38, 103, 116, 59]) (tab := [(38, [38, 97, 109, 112, 59]), (60, [38, 108, 116, 59])]) hx (by decide +kernel) (by decide +kernel) (by decide) (by decide) (by decide +kernel) (by k_asm) (by k_asm) (by rfl) (by rfl) (by rfl) (by rfl) ?_
  intro h8 tk8 t8 F8 N8
  ((try dsimp only); (try k_fold); repeat' ((fail_if_success (with_reducible show wpAny _ _ (exec (PySem.Stmt.If _ _ _ _) _) _ _ _)); first | (k_unfold; (try dsimp only)) | (k_end; wrow_close) | walk1 | (dsimp only; walk1) | (leave1; walk_say "STEP leave1"; try dsimp only) | fail "no step"); all_goals (repeat (k_unfold; (try dsimp only))))
  refine if_esc (k := 34) (rr := [38, 113, 117, 111, 116, 59]) (tab := [(38, [38, 97, 109, 112, 59]), (60, [38, 108, 116, 59]), (62, [38, 103, 116, 59])]) hx (by decide +kernel) (by decide +kernel) (by decide) (by decide) (by decide +kernel) (by k_asm) (by k_asm) (by rfl) (by rfl) (by rfl) (by rfl) ?_
  intro h8 tk8 t8 F8 N8
  ((try dsimp only); (try k_fold); repeat' ((fail_if_success (with_reducible show wpAny _ _ (exec (PySem.Stmt.If _ _ _ _) _) _ _ _)); first | (k_unfold; (try dsimp only)) | (k_end; wrow_close) | walk1 | (dsimp only; walk1) | (leave1; walk_say "STEP leave1"; try dsimp only) | fail "no step"); all_goals (repeat (k_unfold; (try dsimp only))))
  refine if_esc (k := 13) (rr := [38, 35, 49, 51, 59]) (tab := [(38, [38, 97, 109, 112, 59]), (60, [38, 108, 116, 59]), (62, [38, 103, 116, 59]), (34, [38, 113, 117, 111, 116, 59])]) hx (by decide +kernel) (by decide +kernel) (by decide) (by decide) (by decide +kernel) (by k_asm) (by k_asm) (by rfl) (by rfl) (by rfl) (by rfl) ?_
  intro h8 tk8 t8 F8 N8
  ((try dsimp only); (try k_fold); repeat' ((fail_if_success (with_reducible show wpAny _ _ (exec (PySem.Stmt.If _ _ _ _) _) _ _ _)); first | (k_unfold; (try dsimp only)) | (k_end; wrow_close) | walk1 | (dsimp only; walk1) | (leave1; walk_say "STEP leave1"; try dsimp only) | fail "no step"); all_goals (repeat (k_unfold; (try dsimp only))))
  refine if_esc (k := 10) (rr := [38, 35, 49, 48, 59]) (tab := [(38, [38, 97, 109, 112, 59]), (60, [38, 108, 116, 59]), (62, [38, 103, 116, 59]), (34, [38, 113, 117, 111, 116, 59]), (13, [38, 35, 49, 51, 59])]) hx (by decide +kernel) (by decide +kernel) (by decide) (by decide) (by decide +kernel) (by k_asm) (by k_asm) (by rfl) (by rfl) (by rfl) (by rfl) ?_
  intro h8 tk8 t8 F8 N8
  ((try dsimp only); (try k_fold); repeat' ((fail_if_success (with_reducible show wpAny _ _ (exec (PySem.Stmt.If _ _ _ _) _) _ _ _)); first | (k_unfold; (try dsimp only)) | (k_end; wrow_close) | walk1 | (dsimp only; walk1) | (leave1; walk_say "STEP leave1"; try dsimp only) | fail "no step"); all_goals (repeat (k_unfold; (try dsimp only))))
  refine if_esc (k := 9) (rr := [38, 35, 48, 57, 59]) (tab := [(38, [38, 97, 109, 112, 59]), (60, [38, 108, 116, 59]), (62, [38, 103, 116, 59]), (34, [38, 113, 117, 111, 116, 59]), (13, [38, 35, 49, 51, 59]), (10, [38, 35, 49, 48, 59])]) hx (by decide +kernel) (by decide +kernel) (by decide) (by decide) (by decide +kernel) (by k_asm) (by k_asm) (by rfl) (by rfl) (by rfl) (by rfl) ?_
  intro h8 tk8 t8 F8 N8
  ((try dsimp only); (try k_fold); repeat' ((fail_if_success (with_reducible show wpAny _ _ (exec (PySem.Stmt.While _ _ _ _) _) _ _ _)); (fail_if_success (with_reducible show wpAny _ _ (exec (PySem.Stmt.For _ _ _ _ _) _) _ _ _)); (fail_if_success (with_reducible show wpAny _ _ (eval (PySem.Expr.ListComp _ _ _ _) _) _ _ _)); (fail_if_success (with_reducible show wpAny _ _ (subscriptTail _ _ (Value.ref _) _) _ _ _)); (fail_if_success (with_reducible show wpAny _ _ (setItem (Value.ref _) _ _) _ _ _)); (fail_if_success (with_reducible show wpAny _ _ (compareOp CmpOp.Lt (Value.ref _) (Value.ref _)) _ _ _)); (fail_if_success (with_reducible show wpAny _ _ (call (Value.ref _) _) _ _ _)); (fail_if_success (with_reducible show wpAny _ _ (call (Value.builtin "len") [Value.ref _]) _ _ _)); (fail_if_success (with_reducible show KswEnd _ _ _ _ _ _ _ _ _ _ _ _)); (fail_if_success (with_reducible show LoopStepU _ _ _ _ _ _ _ _)); (fail_if_success (with_reducible show InvEndN _ _ _ _ _ _ _)); (fail_if_success (with_reducible show RngEnd _ _ _ _ _ _ _ _ _ _ _)); (fail_if_success (with_reducible show RngPost _ _ _ _ _ _ _ _ _ _ _ _ _)); first | (k_unfold; (try dsimp only)) | (k_end; wrow_close) | walk1 | (dsimp only; walk1) | (leave1; walk_say "STEP leave1"; try dsimp only) | fail "no step"); all_goals (repeat (k_unfold; (try dsimp only))))
  refine hret _ _ _ _ (by k_asm) (by k_asm) ?_
  exact ⟨rfl, _, rfl⟩
theorem esc_cdata (w : World) (l : List Nat) (t : Tok) (news : List (Addr × Obj)) (hx : l.length ≤ 1000) : Ctr w 4 64 28 [.str (S l) t] news (fun r n' => n' = news ∧ ∃ t', r = .str (S (esc 1 l)) t') := by
  rw [show S l = S (l.flatMap (ap [])) by rw [flat_nil]]
  (unfold Ctr; k_fill; intro mean mg mb dp un gd cn cs a ccd cl outer A₀ base h₀ L m s Q E B F X N T hk hdp hu hret; refine wpAny_call ?_; k_dflt ktr_enter; (show (let e9 : Env := _; let A9 : Around := Around.deeper _ e9; wpAny _ A9 (execs _ e9) _ _ _)); intro e9 A9)
  ((try dsimp only); (try k_fold); repeat' ((fail_if_success (with_reducible show wpAny _ _ (exec (PySem.Stmt.If _ _ _ _) _) _ _ _)); first | (k_unfold; (try dsimp only)) | (k_end; wrow_close) | walk1 | (dsimp only; walk1) | (leave1; walk_say "STEP leave1"; try dsimp only) | fail "no step"); all_goals (repeat (k_unfold; (try dsimp only))))
  refine if_esc (k := 38) (rr := [38, 97, 109, 112, 59]) (tab := []) hx (by decide +kernel) (by decide +kernel) (by decide) (by decide) (by decide +kernel) (by k_asm) (by k_asm) (by rfl) (by rfl) (by rfl) (by rfl) ?_
  intro h8 tk8 t8 F8 N8
  ((try dsimp only); (try k_fold); repeat' ((fail_if_success (with_reducible show wpAny _ _ (exec (PySem.Stmt.If _ _ _ _) _) _ _ _)); first | (k_unfold; (try dsimp only)) | (k_end; wrow_close) | walk1 | (dsimp only; walk1) | (leave1; walk_say "STEP leave1"; try dsimp only) | fail "no step"); all_goals (repeat (k_unfold; (try dsimp only))))
  refine if_esc (k := 60) (rr := [38, 108, 116, 59]) (tab := [(38, [38, 97, 109, 112, 59])]) hx (by decide +kernel) (by decide +kernel) (by decide) (by decide) (by decide +kernel) (by k_asm) (by k_asm) (by rfl) (by rfl) (by rfl) (by rfl) ?_
  intro h8 tk8 t8 F8 N8
  ((try dsimp only); (try k_fold); repeat' ((fail_if_success (with_reducible show wpAny _ _ (exec (PySem.Stmt.If _ _ _ _) _) _ _ _)); first | (k_unfold; (try dsimp only)) | (k_end; wrow_close) | walk1 | (dsimp only; walk1) | (leave1; walk_say "STEP leave1"; try dsimp only) | fail "no step"); all_goals (repeat (k_unfold; (try dsimp only))))
  refine if_esc (k := 62) (rr := [38, 103, 116, 59]) (tab := [(38, [38, 97, 109, 112, 59]), (60, [38, 108, 116, 59])]) hx (by decide +kernel) (by decide +kernel) (by decide) (by decide) (by decide +kernel) (by k_asm) (by k_asm) (by rfl) (by rfl) (by rfl) (by rfl) ?_
  intro h8 tk8 t8 F8 N8
  ((try dsimp only); (try k_fold); repeat' ((fail_if_success (with_reducible show wpAny _ _ (exec (PySem.Stmt.While _ _ _ _) _) _ _ _)); (fail_if_success (with_reducible show wpAny _ _ (exec (PySem.Stmt.For _ _ _ _ _) _) _ _ _)); (fail_if_success (with_reducible show wpAny _ _ (eval (PySem.Expr.ListComp _ _ _ _) _) _ _ _)); (fail_if_success (with_reducible show wpAny _ _ (subscriptTail _ _ (Value.ref _) _) _ _ _)); (fail_if_success (with_reducible show wpAny _ _ (setItem (Value.ref _) _ _) _ _ _)); (fail_if_success (with_reducible show wpAny _ _ (compareOp CmpOp.Lt (Value.ref _) (Value.ref _)) _ _ _)); (fail_if_success (with_reducible show wpAny _ _ (call (Value.ref _) _) _ _ _)); (fail_if_success (with_reducible show wpAny _ _ (call (Value.builtin "len") [Value.ref _]) _ _ _)); (fail_if_success (with_reducible show KswEnd _ _ _ _ _ _ _ _ _ _ _ _)); (fail_if_success (with_reducible show LoopStepU _ _ _ _ _ _ _ _)); (fail_if_success (with_reducible show InvEndN _ _ _ _ _ _ _)); (fail_if_success (with_reducible show RngEnd _ _ _ _ _ _ _ _ _ _ _)); (fail_if_success (with_reducible show RngPost _ _ _ _ _ _ _ _ _ _ _ _ _)); first | (k_unfold; (try dsimp only)) | (k_end; wrow_close) | walk1 | (dsimp only; walk1) | (leave1; walk_say "STEP leave1"; try dsimp only) | fail "no step"); all_goals (repeat (k_unfold; (try dsimp only))))
  refine hret _ _ _ _ (by k_asm) (by k_asm) ?_
  exact ⟨rfl, _, rfl⟩
theorem esc_c14n (w : World) (l : List Nat) (t : Tok) (news : List (Addr × Obj)) (hx : l.length ≤ 1000) : Ctr w 4 64 49 [.str (S l) t] news (fun r n' => n' = news ∧ ∃ t', r = .str (S (esc 2 l)) t') := by
  rw [show S l = S (l.flatMap (ap [])) by rw [flat_nil]]
  (unfold Ctr; k_fill; intro mean mg mb dp un gd cn cs a ccd cl outer A₀ base h₀ L m s Q E B F X N T hk hdp hu hret; refine wpAny_call ?_; k_dflt ktr_enter; (show (let e9 : Env := _; let A9 : Around := Around.deeper _ e9; wpAny _ A9 (execs _ e9) _ _ _)); intro e9 A9)
  ((try dsimp only); (try k_fold); repeat' ((fail_if_success (with_reducible show wpAny _ _ (exec (PySem.Stmt.If _ _ _ _) _) _ _ _)); first | (k_unfold; (try dsimp only)) | (k_end; wrow_close) | walk1 | (dsimp only; walk1) | (leave1; walk_say "STEP leave1"; try dsimp only) | fail "no step"); all_goals (repeat (k_unfold; (try dsimp only))))
  refine if_esc (k := 38) (rr := [38, 97, 109, 112, 59]) (tab := []) hx (by decide +kernel) (by decide +kernel) (by decide) (by decide) (by decide +kernel) (by k_asm) (by k_asm) (by rfl) (by rfl) (by rfl) (by rfl) ?_
  intro h8 tk8 t8 F8 N8
  ((try dsimp only); (try k_fold); repeat' ((fail_if_success (with_reducible show wpAny _ _ (exec (PySem.Stmt.If _ _ _ _) _) _ _ _)); first | (k_unfold; (try dsimp only)) | (k_end; wrow_close) | walk1 | (dsimp only; walk1) | (leave1; walk_say "STEP leave1"; try dsimp only) | fail "no step"); all_goals (repeat (k_unfold; (try dsimp only))))
  refine if_esc (k := 60) (rr := [38, 108, 116, 59]) (tab := [(38, [38, 97, 109, 112, 59])]) hx (by decide +kernel) (by decide +kernel) (by decide) (by decide) (by decide +kernel) (by k_asm) (by k_asm) (by rfl) (by rfl) (by rfl) (by rfl) ?_
  intro h8 tk8 t8 F8 N8
  ((try dsimp only); (try k_fold); repeat' ((fail_if_success (with_reducible show wpAny _ _ (exec (PySem.Stmt.If _ _ _ _) _) _ _ _)); first | (k_unfold; (try dsimp only)) | (k_end; wrow_close) | walk1 | (dsimp only; walk1) | (leave1; walk_say "STEP leave1"; try dsimp only) | fail "no step"); all_goals (repeat (k_unfold; (try dsimp only))))
  refine if_esc (k := 34) (rr := [38, 113, 117, 111, 116, 59]) (tab := [(38, [38, 97, 109, 112, 59]), (60, [38, 108, 116, 59])]) hx (by decide +kernel) (by decide +kernel) (by decide) (by decide) (by decide +kernel) (by k_asm) (by k_asm) (by rfl) (by rfl) (by rfl) (by rfl) ?_
  intro h8 tk8 t8 F8 N8
  ((try dsimp only); (try k_fold); repeat' ((fail_if_success (with_reducible show wpAny _ _ (exec (PySem.Stmt.If _ _ _ _) _) _ _ _)); first | (k_unfold; (try dsimp only)) | (k_end; wrow_close) | walk1 | (dsimp only; walk1) | (leave1; walk_say "STEP leave1"; try dsimp only) | fail "no step"); all_goals (repeat (k_unfold; (try dsimp only))))
  refine if_esc (k := 9) (rr := [38, 35, 120, 57, 59]) (tab := [(38, [38, 97, 109, 112, 59]), (60, [38, 108, 116, 59]), (34, [38, 113, 117, 111, 116, 59])]) hx (by decide +kernel) (by decide +kernel) (by decide) (by decide) (by decide +kernel) (by k_asm) (by k_asm) (by rfl) (by rfl) (by rfl) (by rfl) ?_
  intro h8 tk8 t8 F8 N8
  ((try dsimp only); (try k_fold); repeat' ((fail_if_success (with_reducible show wpAny _ _ (exec (PySem.Stmt.If _ _ _ _) _) _ _ _)); first | (k_unfold; (try dsimp only)) | (k_end; wrow_close) | walk1 | (dsimp only; walk1) | (leave1; walk_say "STEP leave1"; try dsimp only) | fail "no step"); all_goals (repeat (k_unfold; (try dsimp only))))
  refine if_esc (k := 10) (rr := [38, 35, 120, 65, 59]) (tab := [(38, [38, 97, 109, 112, 59]), (60, [38, 108, 116, 59]), (34, [38, 113, 117, 111, 116, 59]), (9, [38, 35, 120, 57, 59])]) hx (by decide +kernel) (by decide +kernel) (by decide) (by decide) (by decide +kernel) (by k_asm) (by k_asm) (by rfl) (by rfl) (by rfl) (by rfl) ?_
  intro h8 tk8 t8 F8 N8
  ((try dsimp only); (try k_fold); repeat' ((fail_if_success (with_reducible show wpAny _ _ (exec (PySem.Stmt.If _ _ _ _) _) _ _ _)); first | (k_unfold; (try dsimp only)) | (k_end; wrow_close) | walk1 | (dsimp only; walk1) | (leave1; walk_say "STEP leave1"; try dsimp only) | fail "no step"); all_goals (repeat (k_unfold; (try dsimp only))))
  refine if_esc (k := 13) (rr := [38, 35, 120, 68, 59]) (tab := [(38, [38, 97, 109, 112, 59]), (60, [38, 108, 116, 59]), (34, [38, 113, 117, 111, 116, 59]), (9, [38, 35, 120, 57, 59]), (10, [38, 35, 120, 65, 59])]) hx (by decide +kernel) (by decide +kernel) (by decide) (by decide) (by decide +kernel) (by k_asm) (by k_asm) (by rfl) (by rfl) (by rfl) (by rfl) ?_
  intro h8 tk8 t8 F8 N8
  ((try dsimp only); (try k_fold); repeat' ((fail_if_success (with_reducible show wpAny _ _ (exec (PySem.Stmt.While _ _ _ _) _) _ _ _)); (fail_if_success (with_reducible show wpAny _ _ (exec (PySem.Stmt.For _ _ _ _ _) _) _ _ _)); (fail_if_success (with_reducible show wpAny _ _ (eval (PySem.Expr.ListComp _ _ _ _) _) _ _ _)); (fail_if_success (with_reducible show wpAny _ _ (subscriptTail _ _ (Value.ref _) _) _ _ _)); (fail_if_success (with_reducible show wpAny _ _ (setItem (Value.ref _) _ _) _ _ _)); (fail_if_success (with_reducible show wpAny _ _ (compareOp CmpOp.Lt (Value.ref _) (Value.ref _)) _ _ _)); (fail_if_success (with_reducible show wpAny _ _ (call (Value.ref _) _) _ _ _)); (fail_if_success (with_reducible show wpAny _ _ (call (Value.builtin "len") [Value.ref _]) _ _ _)); (fail_if_success (with_reducible show KswEnd _ _ _ _ _ _ _ _ _ _ _ _)); (fail_if_success (with_reducible show LoopStepU _ _ _ _ _ _ _ _)); (fail_if_success (with_reducible show InvEndN _ _ _ _ _ _ _)); (fail_if_success (with_reducible show RngEnd _ _ _ _ _ _ _ _ _ _ _)); (fail_if_success (with_reducible show RngPost _ _ _ _ _ _ _ _ _ _ _ _ _)); first | (k_unfold; (try dsimp only)) | (k_end; wrow_close) | walk1 | (dsimp only; walk1) | (leave1; walk_say "STEP leave1"; try dsimp only) | fail "no step"); all_goals (repeat (k_unfold; (try dsimp only))))
  refine hret _ _ _ _ (by k_asm) (by k_asm) ?_
  exact ⟨rfl, _, rfl⟩
theorem esc_html (w : World) (l : List Nat) (t : Tok) (news : List (Addr × Obj)) (hx : l.length ≤ 1000) : Ctr w 4 64 42 [.str (S l) t] news (fun r n' => n' = news ∧ ∃ t', r = .str (S (esc 3 l)) t') := by
  rw [show S l = S (l.flatMap (ap [])) by rw [flat_nil]]
  (unfold Ctr; k_fill; intro mean mg mb dp un gd cn cs a ccd cl outer A₀ base h₀ L m s Q E B F X N T hk hdp hu hret; refine wpAny_call ?_; k_dflt ktr_enter; (show (let e9 : Env := _; let A9 : Around := Around.deeper _ e9; wpAny _ A9 (execs _ e9) _ _ _)); intro e9 A9)
  ((try dsimp only); (try k_fold); repeat' ((fail_if_success (with_reducible show wpAny _ _ (exec (PySem.Stmt.If _ _ _ _) _) _ _ _)); first | (k_unfold; (try dsimp only)) | (k_end; wrow_close) | walk1 | (dsimp only; walk1) | (leave1; walk_say "STEP leave1"; try dsimp only) | fail "no step"); all_goals (repeat (k_unfold; (try dsimp only))))
  refine if_esc (k := 38) (rr := [38, 97, 109, 112, 59]) (tab := []) hx (by decide +kernel) (by decide +kernel) (by decide) (by decide) (by decide +kernel) (by k_asm) (by k_asm) (by rfl) (by rfl) (by rfl) (by rfl) ?_
  intro h8 tk8 t8 F8 N8
  ((try dsimp only); (try k_fold); repeat' ((fail_if_success (with_reducible show wpAny _ _ (exec (PySem.Stmt.If _ _ _ _) _) _ _ _)); first | (k_unfold; (try dsimp only)) | (k_end; wrow_close) | walk1 | (dsimp only; walk1) | (leave1; walk_say "STEP leave1"; try dsimp only) | fail "no step"); all_goals (repeat (k_unfold; (try dsimp only))))
  refine if_esc (k := 62) (rr := [38, 103, 116, 59]) (tab := [(38, [38, 97, 109, 112, 59])]) hx (by decide +kernel) (by decide +kernel) (by decide) (by decide) (by decide +kernel) (by k_asm) (by k_asm) (by rfl) (by rfl) (by rfl) (by rfl) ?_
  intro h8 tk8 t8 F8 N8
  ((try dsimp only); (try k_fold); repeat' ((fail_if_success (with_reducible show wpAny _ _ (exec (PySem.Stmt.If _ _ _ _) _) _ _ _)); first | (k_unfold; (try dsimp only)) | (k_end; wrow_close) | walk1 | (dsimp only; walk1) | (leave1; walk_say "STEP leave1"; try dsimp only) | fail "no step"); all_goals (repeat (k_unfold; (try dsimp only))))
  refine if_esc (k := 34) (rr := [38, 113, 117, 111, 116, 59]) (tab := [(38, [38, 97, 109, 112, 59]), (62, [38, 103, 116, 59])]) hx (by decide +kernel) (by decide +kernel) (by decide) (by decide) (by decide +kernel) (by k_asm) (by k_asm) (by rfl) (by rfl) (by rfl) (by rfl) ?_
  intro h8 tk8 t8 F8 N8
  ((try dsimp only); (try k_fold); repeat' ((fail_if_success (with_reducible show wpAny _ _ (exec (PySem.Stmt.While _ _ _ _) _) _ _ _)); (fail_if_success (with_reducible show wpAny _ _ (exec (PySem.Stmt.For _ _ _ _ _) _) _ _ _)); (fail_if_success (with_reducible show wpAny _ _ (eval (PySem.Expr.ListComp _ _ _ _) _) _ _ _)); (fail_if_success (with_reducible show wpAny _ _ (subscriptTail _ _ (Value.ref _) _) _ _ _)); (fail_if_success (with_reducible show wpAny _ _ (setItem (Value.ref _) _ _) _ _ _)); (fail_if_success (with_reducible show wpAny _ _ (compareOp CmpOp.Lt (Value.ref _) (Value.ref _)) _ _ _)); (fail_if_success (with_reducible show wpAny _ _ (call (Value.ref _) _) _ _ _)); (fail_if_success (with_reducible show wpAny _ _ (call (Value.builtin "len") [Value.ref _]) _ _ _)); (fail_if_success (with_reducible show KswEnd _ _ _ _ _ _ _ _ _ _ _ _)); (fail_if_success (with_reducible show LoopStepU _ _ _ _ _ _ _ _)); (fail_if_success (with_reducible show InvEndN _ _ _ _ _ _ _)); (fail_if_success (with_reducible show RngEnd _ _ _ _ _ _ _ _ _ _ _)); (fail_if_success (with_reducible show RngPost _ _ _ _ _ _ _ _ _ _ _ _ _)); first | (k_unfold; (try dsimp only)) | (k_end; wrow_close) | walk1 | (dsimp only; walk1) | (leave1; walk_say "STEP leave1"; try dsimp only) | fail "no step"); all_goals (repeat (k_unfold; (try dsimp only))))
  refine hret _ _ _ _ (by k_asm) (by k_asm) ?_
  exact ⟨rfl, _, rfl⟩
end Mine
namespace Mine
noncomputable def kindI : Nat → Int
  | 0 => 16384
  | 1 => 32768
  | 2 => 40960
  | _ => 4096
noncomputable def stI (i r : Nat) : Int := kindI i + (r : Int) * 73
theorem fmt_stI : ∀ i, i < 4 → ∀ r, r < 8 → Builtin.bitAnd (stI i r) 61440 = kindI i := by decide +kernel
theorem mode_stI : ∀ i, i < 4 → ∀ r, r < 8 → Builtin.bitAnd (stI i r) 4095 = (r : Int) * 73 := by decide +kernel
theorem rewritten_c (w : World) (i r : Nat) (hi : i < 4) (hr : r < 8) (l : List Nat) (t t2 : Tok) (news : List (Addr × Obj)) (hx : l.length ≤ 1000) : Ctr w 6 96 166 [.int (stI i r) t, .str (S l) t2] news (fun v n' => n' = news ∧ ∃ t', v = .str (S (esc i l)) t') := by
  have e := fmt_stI i hi r hr
  generalize hst : stI i r = st at e ⊢
  clear hst
  (unfold Ctr; k_fill; intro mean mg mb dp un gd cn cs a ccd cl outer A₀ base h₀ L m s Q E B F X N T hk hdp hu hret; refine wpAny_call ?_; k_dflt ktr_enter; (show (let e9 : Env := _; let A9 : Around := Around.deeper _ e9; wpAny _ A9 (execs _ e9) _ _ _)); intro e9 A9)
  ((try dsimp only); (try k_fold); repeat' ((fail_if_success (with_reducible show wpAny _ _ (exec (PySem.Stmt.While _ _ _ _) _) _ _ _)); (fail_if_success (with_reducible show wpAny _ _ (exec (PySem.Stmt.For _ _ _ _ _) _) _ _ _)); (fail_if_success (with_reducible show wpAny _ _ (eval (PySem.Expr.ListComp _ _ _ _) _) _ _ _)); (fail_if_success (with_reducible show wpAny _ _ (subscriptTail _ _ (Value.ref _) _) _ _ _)); (fail_if_success (with_reducible show wpAny _ _ (setItem (Value.ref _) _ _) _ _ _)); (fail_if_success (with_reducible show wpAny _ _ (compareOp CmpOp.Lt (Value.ref _) (Value.ref _)) _ _ _)); (fail_if_success (with_reducible show wpAny _ _ (call (Value.ref _) _) _ _ _)); (fail_if_success (with_reducible show wpAny _ _ (call (Value.builtin "len") [Value.ref _]) _ _ _)); (fail_if_success (with_reducible show KswEnd _ _ _ _ _ _ _ _ _ _ _ _)); (fail_if_success (with_reducible show LoopStepU _ _ _ _ _ _ _ _)); (fail_if_success (with_reducible show InvEndN _ _ _ _ _ _ _)); (fail_if_success (with_reducible show RngEnd _ _ _ _ _ _ _ _ _ _ _)); (fail_if_success (with_reducible show RngPost _ _ _ _ _ _ _ _ _ _ _ _ _)); first | (k_unfold; (try dsimp only)) | (k_end; wrow_close) | walk1 | (dsimp only; walk1) | (leave1; walk_say "STEP leave1"; try dsimp only) | fail "no step"); all_goals (repeat (k_unfold; (try dsimp only))))
  (refine' ctr_use (isdir _ _ _ _) ?k1 ?k2 ?k3 ?k4 ?k5 ?kK ?kd ?ku ?_; (case k1 => k_asm); (case k2 => k_asm); (case k3 => k_asm); (case k4 => k_asm); (case k5 => k_asm); (case kK => first | exact rfl | assumption); (case kd => first | lia | ktr_room | ((try dsimp only [A9]); ktr_room)); (case ku => first | lia | ktr_units | ((try dsimp only [A9]); ktr_units)))
  intro r9 n9 h9 tk9 F9 N9 P9
  obtain ⟨rfl, rfl⟩ := P9
  rw [e]
  match i, hi with
  | 0, _ =>
    rw [show (kindI 0 == 16384) = true from rfl]
    ((try dsimp only); (try k_fold); repeat' ((fail_if_success (with_reducible show wpAny _ _ (exec (PySem.Stmt.While _ _ _ _) _) _ _ _)); (fail_if_success (with_reducible show wpAny _ _ (exec (PySem.Stmt.For _ _ _ _ _) _) _ _ _)); (fail_if_success (with_reducible show wpAny _ _ (eval (PySem.Expr.ListComp _ _ _ _) _) _ _ _)); (fail_if_success (with_reducible show wpAny _ _ (subscriptTail _ _ (Value.ref _) _) _ _ _)); (fail_if_success (with_reducible show wpAny _ _ (setItem (Value.ref _) _ _) _ _ _)); (fail_if_success (with_reducible show wpAny _ _ (compareOp CmpOp.Lt (Value.ref _) (Value.ref _)) _ _ _)); (fail_if_success (with_reducible show wpAny _ _ (call (Value.ref _) _) _ _ _)); (fail_if_success (with_reducible show wpAny _ _ (call (Value.builtin "len") [Value.ref _]) _ _ _)); (fail_if_success (with_reducible show KswEnd _ _ _ _ _ _ _ _ _ _ _ _)); (fail_if_success (with_reducible show LoopStepU _ _ _ _ _ _ _ _)); (fail_if_success (with_reducible show InvEndN _ _ _ _ _ _ _)); (fail_if_success (with_reducible show RngEnd _ _ _ _ _ _ _ _ _ _ _)); (fail_if_success (with_reducible show RngPost _ _ _ _ _ _ _ _ _ _ _ _ _)); first | (k_unfold; (try dsimp only)) | (k_end; wrow_close) | walk1 | (dsimp only; walk1) | (leave1; walk_say "STEP leave1"; try dsimp only) | fail "no step"); all_goals (repeat (k_unfold; (try dsimp only))))
    (refine' ctr_use (esc_attrib _ _ _ _ hx) ?k1 ?k2 ?k3 ?k4 ?k5 ?kK ?kd ?ku ?_; (case k1 => k_asm); (case k2 => k_asm); (case k3 => k_asm); (case k4 => k_asm); (case k5 => k_asm); (case kK => first | exact rfl | assumption); (case kd => first | lia | ktr_room | ((try dsimp only [A9]); ktr_room)); (case ku => first | lia | ktr_units | ((try dsimp only [A9]); ktr_units)))
    intro r9 n9 h9 tk9 F9 N9 P9
    obtain ⟨rfl, t9, rfl⟩ := P9
    ((try dsimp only); (try k_fold); repeat' ((fail_if_success (with_reducible show wpAny _ _ (exec (PySem.Stmt.While _ _ _ _) _) _ _ _)); (fail_if_success (with_reducible show wpAny _ _ (exec (PySem.Stmt.For _ _ _ _ _) _) _ _ _)); (fail_if_success (with_reducible show wpAny _ _ (eval (PySem.Expr.ListComp _ _ _ _) _) _ _ _)); (fail_if_success (with_reducible show wpAny _ _ (subscriptTail _ _ (Value.ref _) _) _ _ _)); (fail_if_success (with_reducible show wpAny _ _ (setItem (Value.ref _) _ _) _ _ _)); (fail_if_success (with_reducible show wpAny _ _ (compareOp CmpOp.Lt (Value.ref _) (Value.ref _)) _ _ _)); (fail_if_success (with_reducible show wpAny _ _ (call (Value.ref _) _) _ _ _)); (fail_if_success (with_reducible show wpAny _ _ (call (Value.builtin "len") [Value.ref _]) _ _ _)); (fail_if_success (with_reducible show KswEnd _ _ _ _ _ _ _ _ _ _ _ _)); (fail_if_success (with_reducible show LoopStepU _ _ _ _ _ _ _ _)); (fail_if_success (with_reducible show InvEndN _ _ _ _ _ _ _)); (fail_if_success (with_reducible show RngEnd _ _ _ _ _ _ _ _ _ _ _)); (fail_if_success (with_reducible show RngPost _ _ _ _ _ _ _ _ _ _ _ _ _)); first | (k_unfold; (try dsimp only)) | (k_end; wrow_close) | walk1 | (dsimp only; walk1) | (leave1; walk_say "STEP leave1"; try dsimp only) | fail "no step"); all_goals (repeat (k_unfold; (try dsimp only))))
    refine hret _ _ _ _ (by k_asm) (by k_asm) ?_
    exact ⟨rfl, _, rfl⟩
  | 1, _ =>
    rw [show (kindI 1 == 16384) = false from rfl]
    ((try dsimp only); (try k_fold); repeat' ((fail_if_success (with_reducible show wpAny _ _ (exec (PySem.Stmt.While _ _ _ _) _) _ _ _)); (fail_if_success (with_reducible show wpAny _ _ (exec (PySem.Stmt.For _ _ _ _ _) _) _ _ _)); (fail_if_success (with_reducible show wpAny _ _ (eval (PySem.Expr.ListComp _ _ _ _) _) _ _ _)); (fail_if_success (with_reducible show wpAny _ _ (subscriptTail _ _ (Value.ref _) _) _ _ _)); (fail_if_success (with_reducible show wpAny _ _ (setItem (Value.ref _) _ _) _ _ _)); (fail_if_success (with_reducible show wpAny _ _ (compareOp CmpOp.Lt (Value.ref _) (Value.ref _)) _ _ _)); (fail_if_success (with_reducible show wpAny _ _ (call (Value.ref _) _) _ _ _)); (fail_if_success (with_reducible show wpAny _ _ (call (Value.builtin "len") [Value.ref _]) _ _ _)); (fail_if_success (with_reducible show KswEnd _ _ _ _ _ _ _ _ _ _ _ _)); (fail_if_success (with_reducible show LoopStepU _ _ _ _ _ _ _ _)); (fail_if_success (with_reducible show InvEndN _ _ _ _ _ _ _)); (fail_if_success (with_reducible show RngEnd _ _ _ _ _ _ _ _ _ _ _)); (fail_if_success (with_reducible show RngPost _ _ _ _ _ _ _ _ _ _ _ _ _)); first | (k_unfold; (try dsimp only)) | (k_end; wrow_close) | walk1 | (dsimp only; walk1) | (leave1; walk_say "STEP leave1"; try dsimp only) | fail "no step"); all_goals (repeat (k_unfold; (try dsimp only))))
    (refine' ctr_use (isreg _ _ _ _) ?k1 ?k2 ?k3 ?k4 ?k5 ?kK ?kd ?ku ?_; (case k1 => k_asm); (case k2 => k_asm); (case k3 => k_asm); (case k4 => k_asm); (case k5 => k_asm); (case kK => first | exact rfl | assumption); (case kd => first | lia | ktr_room | ((try dsimp only [A9]); ktr_room)); (case ku => first | lia | ktr_units | ((try dsimp only [A9]); ktr_units)))
    intro r9 n9 h9 tk9 F9 N9 P9
    obtain ⟨rfl, rfl⟩ := P9
    rw [e, show (kindI 1 == 32768) = true from rfl]
    ((try dsimp only); (try k_fold); repeat' ((fail_if_success (with_reducible show wpAny _ _ (exec (PySem.Stmt.While _ _ _ _) _) _ _ _)); (fail_if_success (with_reducible show wpAny _ _ (exec (PySem.Stmt.For _ _ _ _ _) _) _ _ _)); (fail_if_success (with_reducible show wpAny _ _ (eval (PySem.Expr.ListComp _ _ _ _) _) _ _ _)); (fail_if_success (with_reducible show wpAny _ _ (subscriptTail _ _ (Value.ref _) _) _ _ _)); (fail_if_success (with_reducible show wpAny _ _ (setItem (Value.ref _) _ _) _ _ _)); (fail_if_success (with_reducible show wpAny _ _ (compareOp CmpOp.Lt (Value.ref _) (Value.ref _)) _ _ _)); (fail_if_success (with_reducible show wpAny _ _ (call (Value.ref _) _) _ _ _)); (fail_if_success (with_reducible show wpAny _ _ (call (Value.builtin "len") [Value.ref _]) _ _ _)); (fail_if_success (with_reducible show KswEnd _ _ _ _ _ _ _ _ _ _ _ _)); (fail_if_success (with_reducible show LoopStepU _ _ _ _ _ _ _ _)); (fail_if_success (with_reducible show InvEndN _ _ _ _ _ _ _)); (fail_if_success (with_reducible show RngEnd _ _ _ _ _ _ _ _ _ _ _)); (fail_if_success (with_reducible show RngPost _ _ _ _ _ _ _ _ _ _ _ _ _)); first | (k_unfold; (try dsimp only)) | (k_end; wrow_close) | walk1 | (dsimp only; walk1) | (leave1; walk_say "STEP leave1"; try dsimp only) | fail "no step"); all_goals (repeat (k_unfold; (try dsimp only))))
    (refine' ctr_use (esc_cdata _ _ _ _ hx) ?k1 ?k2 ?k3 ?k4 ?k5 ?kK ?kd ?ku ?_; (case k1 => k_asm); (case k2 => k_asm); (case k3 => k_asm); (case k4 => k_asm); (case k5 => k_asm); (case kK => first | exact rfl | assumption); (case kd => first | lia | ktr_room | ((try dsimp only [A9]); ktr_room)); (case ku => first | lia | ktr_units | ((try dsimp only [A9]); ktr_units)))
    intro r9 n9 h9 tk9 F9 N9 P9
    obtain ⟨rfl, t9, rfl⟩ := P9
    ((try dsimp only); (try k_fold); repeat' ((fail_if_success (with_reducible show wpAny _ _ (exec (PySem.Stmt.While _ _ _ _) _) _ _ _)); (fail_if_success (with_reducible show wpAny _ _ (exec (PySem.Stmt.For _ _ _ _ _) _) _ _ _)); (fail_if_success (with_reducible show wpAny _ _ (eval (PySem.Expr.ListComp _ _ _ _) _) _ _ _)); (fail_if_success (with_reducible show wpAny _ _ (subscriptTail _ _ (Value.ref _) _) _ _ _)); (fail_if_success (with_reducible show wpAny _ _ (setItem (Value.ref _) _ _) _ _ _)); (fail_if_success (with_reducible show wpAny _ _ (compareOp CmpOp.Lt (Value.ref _) (Value.ref _)) _ _ _)); (fail_if_success (with_reducible show wpAny _ _ (call (Value.ref _) _) _ _ _)); (fail_if_success (with_reducible show wpAny _ _ (call (Value.builtin "len") [Value.ref _]) _ _ _)); (fail_if_success (with_reducible show KswEnd _ _ _ _ _ _ _ _ _ _ _ _)); (fail_if_success (with_reducible show LoopStepU _ _ _ _ _ _ _ _)); (fail_if_success (with_reducible show InvEndN _ _ _ _ _ _ _)); (fail_if_success (with_reducible show RngEnd _ _ _ _ _ _ _ _ _ _ _)); (fail_if_success (with_reducible show RngPost _ _ _ _ _ _ _ _ _ _ _ _ _)); first | (k_unfold; (try dsimp only)) | (k_end; wrow_close) | walk1 | (dsimp only; walk1) | (leave1; walk_say "STEP leave1"; try dsimp only) | fail "no step"); all_goals (repeat (k_unfold; (try dsimp only))))
    refine hret _ _ _ _ (by k_asm) (by k_asm) ?_
    exact ⟨rfl, _, rfl⟩
  | 2, _ =>
    rw [show (kindI 2 == 16384) = false from rfl]
    ((try dsimp only); (try k_fold); repeat' ((fail_if_success (with_reducible show wpAny _ _ (exec (PySem.Stmt.While _ _ _ _) _) _ _ _)); (fail_if_success (with_reducible show wpAny _ _ (exec (PySem.Stmt.For _ _ _ _ _) _) _ _ _)); (fail_if_success (with_reducible show wpAny _ _ (eval (PySem.Expr.ListComp _ _ _ _) _) _ _ _)); (fail_if_success (with_reducible show wpAny _ _ (subscriptTail _ _ (Value.ref _) _) _ _ _)); (fail_if_success (with_reducible show wpAny _ _ (setItem (Value.ref _) _ _) _ _ _)); (fail_if_success (with_reducible show wpAny _ _ (compareOp CmpOp.Lt (Value.ref _) (Value.ref _)) _ _ _)); (fail_if_success (with_reducible show wpAny _ _ (call (Value.ref _) _) _ _ _)); (fail_if_success (with_reducible show wpAny _ _ (call (Value.builtin "len") [Value.ref _]) _ _ _)); (fail_if_success (with_reducible show KswEnd _ _ _ _ _ _ _ _ _ _ _ _)); (fail_if_success (with_reducible show LoopStepU _ _ _ _ _ _ _ _)); (fail_if_success (with_reducible show InvEndN _ _ _ _ _ _ _)); (fail_if_success (with_reducible show RngEnd _ _ _ _ _ _ _ _ _ _ _)); (fail_if_success (with_reducible show RngPost _ _ _ _ _ _ _ _ _ _ _ _ _)); first | (k_unfold; (try dsimp only)) | (k_end; wrow_close) | walk1 | (dsimp only; walk1) | (leave1; walk_say "STEP leave1"; try dsimp only) | fail "no step"); all_goals (repeat (k_unfold; (try dsimp only))))
    (refine' ctr_use (isreg _ _ _ _) ?k1 ?k2 ?k3 ?k4 ?k5 ?kK ?kd ?ku ?_; (case k1 => k_asm); (case k2 => k_asm); (case k3 => k_asm); (case k4 => k_asm); (case k5 => k_asm); (case kK => first | exact rfl | assumption); (case kd => first | lia | ktr_room | ((try dsimp only [A9]); ktr_room)); (case ku => first | lia | ktr_units | ((try dsimp only [A9]); ktr_units)))
    intro r9 n9 h9 tk9 F9 N9 P9
    obtain ⟨rfl, rfl⟩ := P9
    rw [e, show (kindI 2 == 32768) = false from rfl]
    ((try dsimp only); (try k_fold); repeat' ((fail_if_success (with_reducible show wpAny _ _ (exec (PySem.Stmt.While _ _ _ _) _) _ _ _)); (fail_if_success (with_reducible show wpAny _ _ (exec (PySem.Stmt.For _ _ _ _ _) _) _ _ _)); (fail_if_success (with_reducible show wpAny _ _ (eval (PySem.Expr.ListComp _ _ _ _) _) _ _ _)); (fail_if_success (with_reducible show wpAny _ _ (subscriptTail _ _ (Value.ref _) _) _ _ _)); (fail_if_success (with_reducible show wpAny _ _ (setItem (Value.ref _) _ _) _ _ _)); (fail_if_success (with_reducible show wpAny _ _ (compareOp CmpOp.Lt (Value.ref _) (Value.ref _)) _ _ _)); (fail_if_success (with_reducible show wpAny _ _ (call (Value.ref _) _) _ _ _)); (fail_if_success (with_reducible show wpAny _ _ (call (Value.builtin "len") [Value.ref _]) _ _ _)); (fail_if_success (with_reducible show KswEnd _ _ _ _ _ _ _ _ _ _ _ _)); (fail_if_success (with_reducible show LoopStepU _ _ _ _ _ _ _ _)); (fail_if_success (with_reducible show InvEndN _ _ _ _ _ _ _)); (fail_if_success (with_reducible show RngEnd _ _ _ _ _ _ _ _ _ _ _)); (fail_if_success (with_reducible show RngPost _ _ _ _ _ _ _ _ _ _ _ _ _)); first | (k_unfold; (try dsimp only)) | (k_end; wrow_close) | walk1 | (dsimp only; walk1) | (leave1; walk_say "STEP leave1"; try dsimp only) | fail "no step"); all_goals (repeat (k_unfold; (try dsimp only))))
    (refine' ctr_use (islnk _ _ _ _) ?k1 ?k2 ?k3 ?k4 ?k5 ?kK ?kd ?ku ?_; (case k1 => k_asm); (case k2 => k_asm); (case k3 => k_asm); (case k4 => k_asm); (case k5 => k_asm); (case kK => first | exact rfl | assumption); (case kd => first | lia | ktr_room | ((try dsimp only [A9]); ktr_room)); (case ku => first | lia | ktr_units | ((try dsimp only [A9]); ktr_units)))
    intro r9 n9 h9 tk9 F9 N9 P9
    obtain ⟨rfl, rfl⟩ := P9
    rw [e, show (kindI 2 == 40960) = true from rfl]
    ((try dsimp only); (try k_fold); repeat' ((fail_if_success (with_reducible show wpAny _ _ (exec (PySem.Stmt.While _ _ _ _) _) _ _ _)); (fail_if_success (with_reducible show wpAny _ _ (exec (PySem.Stmt.For _ _ _ _ _) _) _ _ _)); (fail_if_success (with_reducible show wpAny _ _ (eval (PySem.Expr.ListComp _ _ _ _) _) _ _ _)); (fail_if_success (with_reducible show wpAny _ _ (subscriptTail _ _ (Value.ref _) _) _ _ _)); (fail_if_success (with_reducible show wpAny _ _ (setItem (Value.ref _) _ _) _ _ _)); (fail_if_success (with_reducible show wpAny _ _ (compareOp CmpOp.Lt (Value.ref _) (Value.ref _)) _ _ _)); (fail_if_success (with_reducible show wpAny _ _ (call (Value.ref _) _) _ _ _)); (fail_if_success (with_reducible show wpAny _ _ (call (Value.builtin "len") [Value.ref _]) _ _ _)); (fail_if_success (with_reducible show KswEnd _ _ _ _ _ _ _ _ _ _ _ _)); (fail_if_success (with_reducible show LoopStepU _ _ _ _ _ _ _ _)); (fail_if_success (with_reducible show InvEndN _ _ _ _ _ _ _)); (fail_if_success (with_reducible show RngEnd _ _ _ _ _ _ _ _ _ _ _)); (fail_if_success (with_reducible show RngPost _ _ _ _ _ _ _ _ _ _ _ _ _)); first | (k_unfold; (try dsimp only)) | (k_end; wrow_close) | walk1 | (dsimp only; walk1) | (leave1; walk_say "STEP leave1"; try dsimp only) | fail "no step"); all_goals (repeat (k_unfold; (try dsimp only))))
    (refine' ctr_use (esc_c14n _ _ _ _ hx) ?k1 ?k2 ?k3 ?k4 ?k5 ?kK ?kd ?ku ?_; (case k1 => k_asm); (case k2 => k_asm); (case k3 => k_asm); (case k4 => k_asm); (case k5 => k_asm); (case kK => first | exact rfl | assumption); (case kd => first | lia | ktr_room | ((try dsimp only [A9]); ktr_room)); (case ku => first | lia | ktr_units | ((try dsimp only [A9]); ktr_units)))
    intro r9 n9 h9 tk9 F9 N9 P9
    obtain ⟨rfl, t9, rfl⟩ := P9
    ((try dsimp only); (try k_fold); repeat' ((fail_if_success (with_reducible show wpAny _ _ (exec (PySem.Stmt.While _ _ _ _) _) _ _ _)); (fail_if_success (with_reducible show wpAny _ _ (exec (PySem.Stmt.For _ _ _ _ _) _) _ _ _)); (fail_if_success (with_reducible show wpAny _ _ (eval (PySem.Expr.ListComp _ _ _ _) _) _ _ _)); (fail_if_success (with_reducible show wpAny _ _ (subscriptTail _ _ (Value.ref _) _) _ _ _)); (fail_if_success (with_reducible show wpAny _ _ (setItem (Value.ref _) _ _) _ _ _)); (fail_if_success (with_reducible show wpAny _ _ (compareOp CmpOp.Lt (Value.ref _) (Value.ref _)) _ _ _)); (fail_if_success (with_reducible show wpAny _ _ (call (Value.ref _) _) _ _ _)); (fail_if_success (with_reducible show wpAny _ _ (call (Value.builtin "len") [Value.ref _]) _ _ _)); (fail_if_success (with_reducible show KswEnd _ _ _ _ _ _ _ _ _ _ _ _)); (fail_if_success (with_reducible show LoopStepU _ _ _ _ _ _ _ _)); (fail_if_success (with_reducible show InvEndN _ _ _ _ _ _ _)); (fail_if_success (with_reducible show RngEnd _ _ _ _ _ _ _ _ _ _ _)); (fail_if_success (with_reducible show RngPost _ _ _ _ _ _ _ _ _ _ _ _ _)); first | (k_unfold; (try dsimp only)) | (k_end; wrow_close) | walk1 | (dsimp only; walk1) | (leave1; walk_say "STEP leave1"; try dsimp only) | fail "no step"); all_goals (repeat (k_unfold; (try dsimp only))))
    refine hret _ _ _ _ (by k_asm) (by k_asm) ?_
    exact ⟨rfl, _, rfl⟩
  | 3, _ =>
    rw [show (kindI 3 == 16384) = false from rfl]
    ((try dsimp only); (try k_fold); repeat' ((fail_if_success (with_reducible show wpAny _ _ (exec (PySem.Stmt.While _ _ _ _) _) _ _ _)); (fail_if_success (with_reducible show wpAny _ _ (exec (PySem.Stmt.For _ _ _ _ _) _) _ _ _)); (fail_if_success (with_reducible show wpAny _ _ (eval (PySem.Expr.ListComp _ _ _ _) _) _ _ _)); (fail_if_success (with_reducible show wpAny _ _ (subscriptTail _ _ (Value.ref _) _) _ _ _)); (fail_if_success (with_reducible show wpAny _ _ (setItem (Value.ref _) _ _) _ _ _)); (fail_if_success (with_reducible show wpAny _ _ (compareOp CmpOp.Lt (Value.ref _) (Value.ref _)) _ _ _)); (fail_if_success (with_reducible show wpAny _ _ (call (Value.ref _) _) _ _ _)); (fail_if_success (with_reducible show wpAny _ _ (call (Value.builtin "len") [Value.ref _]) _ _ _)); (fail_if_success (with_reducible show KswEnd _ _ _ _ _ _ _ _ _ _ _ _)); (fail_if_success (with_reducible show LoopStepU _ _ _ _ _ _ _ _)); (fail_if_success (with_reducible show InvEndN _ _ _ _ _ _ _)); (fail_if_success (with_reducible show RngEnd _ _ _ _ _ _ _ _ _ _ _)); (fail_if_success (with_reducible show RngPost _ _ _ _ _ _ _ _ _ _ _ _ _)); first | (k_unfold; (try dsimp only)) | (k_end; wrow_close) | walk1 | (dsimp only; walk1) | (leave1; walk_say "STEP leave1"; try dsimp only) | fail "no step"); all_goals (repeat (k_unfold; (try dsimp only))))
    (refine' ctr_use (isreg _ _ _ _) ?k1 ?k2 ?k3 ?k4 ?k5 ?kK ?kd ?ku ?_; (case k1 => k_asm); (case k2 => k_asm); (case k3 => k_asm); (case k4 => k_asm); (case k5 => k_asm); (case kK => first | exact rfl | assumption); (case kd => first | lia | ktr_room | ((try dsimp only [A9]); ktr_room)); (case ku => first | lia | ktr_units | ((try dsimp only [A9]); ktr_units)))
    intro r9 n9 h9 tk9 F9 N9 P9
    obtain ⟨rfl, rfl⟩ := P9
    rw [e, show (kindI 3 == 32768) = false from rfl]
    ((try dsimp only); (try k_fold); repeat' ((fail_if_success (with_reducible show wpAny _ _ (exec (PySem.Stmt.While _ _ _ _) _) _ _ _)); (fail_if_success (with_reducible show wpAny _ _ (exec (PySem.Stmt.For _ _ _ _ _) _) _ _ _)); (fail_if_success (with_reducible show wpAny _ _ (eval (PySem.Expr.ListComp _ _ _ _) _) _ _ _)); (fail_if_success (with_reducible show wpAny _ _ (subscriptTail _ _ (Value.ref _) _) _ _ _)); (fail_if_success (with_reducible show wpAny _ _ (setItem (Value.ref _) _ _) _ _ _)); (fail_if_success (with_reducible show wpAny _ _ (compareOp CmpOp.Lt (Value.ref _) (Value.ref _)) _ _ _)); (fail_if_success (with_reducible show wpAny _ _ (call (Value.ref _) _) _ _ _)); (fail_if_success (with_reducible show wpAny _ _ (call (Value.builtin "len") [Value.ref _]) _ _ _)); (fail_if_success (with_reducible show KswEnd _ _ _ _ _ _ _ _ _ _ _ _)); (fail_if_success (with_reducible show LoopStepU _ _ _ _ _ _ _ _)); (fail_if_success (with_reducible show InvEndN _ _ _ _ _ _ _)); (fail_if_success (with_reducible show RngEnd _ _ _ _ _ _ _ _ _ _ _)); (fail_if_success (with_reducible show RngPost _ _ _ _ _ _ _ _ _ _ _ _ _)); first | (k_unfold; (try dsimp only)) | (k_end; wrow_close) | walk1 | (dsimp only; walk1) | (leave1; walk_say "STEP leave1"; try dsimp only) | fail "no step"); all_goals (repeat (k_unfold; (try dsimp only))))
    (refine' ctr_use (islnk _ _ _ _) ?k1 ?k2 ?k3 ?k4 ?k5 ?kK ?kd ?ku ?_; (case k1 => k_asm); (case k2 => k_asm); (case k3 => k_asm); (case k4 => k_asm); (case k5 => k_asm); (case kK => first | exact rfl | assumption); (case kd => first | lia | ktr_room | ((try dsimp only [A9]); ktr_room)); (case ku => first | lia | ktr_units | ((try dsimp only [A9]); ktr_units)))
    intro r9 n9 h9 tk9 F9 N9 P9
    obtain ⟨rfl, rfl⟩ := P9
    rw [e, show (kindI 3 == 40960) = false from rfl]
    ((try dsimp only); (try k_fold); repeat' ((fail_if_success (with_reducible show wpAny _ _ (exec (PySem.Stmt.While _ _ _ _) _) _ _ _)); (fail_if_success (with_reducible show wpAny _ _ (exec (PySem.Stmt.For _ _ _ _ _) _) _ _ _)); (fail_if_success (with_reducible show wpAny _ _ (eval (PySem.Expr.ListComp _ _ _ _) _) _ _ _)); (fail_if_success (with_reducible show wpAny _ _ (subscriptTail _ _ (Value.ref _) _) _ _ _)); (fail_if_success (with_reducible show wpAny _ _ (setItem (Value.ref _) _ _) _ _ _)); (fail_if_success (with_reducible show wpAny _ _ (compareOp CmpOp.Lt (Value.ref _) (Value.ref _)) _ _ _)); (fail_if_success (with_reducible show wpAny _ _ (call (Value.ref _) _) _ _ _)); (fail_if_success (with_reducible show wpAny _ _ (call (Value.builtin "len") [Value.ref _]) _ _ _)); (fail_if_success (with_reducible show KswEnd _ _ _ _ _ _ _ _ _ _ _ _)); (fail_if_success (with_reducible show LoopStepU _ _ _ _ _ _ _ _)); (fail_if_success (with_reducible show InvEndN _ _ _ _ _ _ _)); (fail_if_success (with_reducible show RngEnd _ _ _ _ _ _ _ _ _ _ _)); (fail_if_success (with_reducible show RngPost _ _ _ _ _ _ _ _ _ _ _ _ _)); first | (k_unfold; (try dsimp only)) | (k_end; wrow_close) | walk1 | (dsimp only; walk1) | (leave1; walk_say "STEP leave1"; try dsimp only) | fail "no step"); all_goals (repeat (k_unfold; (try dsimp only))))
    (refine' ctr_use (esc_html _ _ _ _ hx) ?k1 ?k2 ?k3 ?k4 ?k5 ?kK ?kd ?ku ?_; (case k1 => k_asm); (case k2 => k_asm); (case k3 => k_asm); (case k4 => k_asm); (case k5 => k_asm); (case kK => first | exact rfl | assumption); (case kd => first | lia | ktr_room | ((try dsimp only [A9]); ktr_room)); (case ku => first | lia | ktr_units | ((try dsimp only [A9]); ktr_units)))
    intro r9 n9 h9 tk9 F9 N9 P9
    obtain ⟨rfl, t9, rfl⟩ := P9
    ((try dsimp only); (try k_fold); repeat' ((fail_if_success (with_reducible show wpAny _ _ (exec (PySem.Stmt.While _ _ _ _) _) _ _ _)); (fail_if_success (with_reducible show wpAny _ _ (exec (PySem.Stmt.For _ _ _ _ _) _) _ _ _)); (fail_if_success (with_reducible show wpAny _ _ (eval (PySem.Expr.ListComp _ _ _ _) _) _ _ _)); (fail_if_success (with_reducible show wpAny _ _ (subscriptTail _ _ (Value.ref _) _) _ _ _)); (fail_if_success (with_reducible show wpAny _ _ (setItem (Value.ref _) _ _) _ _ _)); (fail_if_success (with_reducible show wpAny _ _ (compareOp CmpOp.Lt (Value.ref _) (Value.ref _)) _ _ _)); (fail_if_success (with_reducible show wpAny _ _ (call (Value.ref _) _) _ _ _)); (fail_if_success (with_reducible show wpAny _ _ (call (Value.builtin "len") [Value.ref _]) _ _ _)); (fail_if_success (with_reducible show KswEnd _ _ _ _ _ _ _ _ _ _ _ _)); (fail_if_success (with_reducible show LoopStepU _ _ _ _ _ _ _ _)); (fail_if_success (with_reducible show InvEndN _ _ _ _ _ _ _)); (fail_if_success (with_reducible show RngEnd _ _ _ _ _ _ _ _ _ _ _)); (fail_if_success (with_reducible show RngPost _ _ _ _ _ _ _ _ _ _ _ _ _)); first | (k_unfold; (try dsimp only)) | (k_end; wrow_close) | walk1 | (dsimp only; walk1) | (leave1; walk_say "STEP leave1"; try dsimp only) | fail "no step"); all_goals (repeat (k_unfold; (try dsimp only))))
    refine hret _ _ _ _ (by k_asm) (by k_asm) ?_
    exact ⟨rfl, _, rfl⟩
end Mine
namespace Mine
theorem moved_c (w : World) (i r : Nat) (hi : i < 4) (hr : r < 8) (t : Tok) (news : List (Addr × Obj)) : Ctr w 6 96 173 [.int (stI i r) t] news (fun v n' => n' = news ∧ ∃ t', v = .int (stI ((i + 1) % 4) r) t') := by
  have e := fmt_stI i hi r hr
  have e' := mode_stI i hi r hr
  generalize hst : stI i r = st at e e' ⊢
  clear hst
  (unfold Ctr; k_fill; intro mean mg mb dp un gd cn cs a ccd cl outer A₀ base h₀ L m s Q E B F X N T hk hdp hu hret; refine wpAny_call ?_; k_dflt ktr_enter; (show (let e9 : Env := _; let A9 : Around := Around.deeper _ e9; wpAny _ A9 (execs _ e9) _ _ _)); intro e9 A9)
  ((try dsimp only); (try k_fold); repeat' ((fail_if_success (with_reducible show wpAny _ _ (exec (PySem.Stmt.While _ _ _ _) _) _ _ _)); (fail_if_success (with_reducible show wpAny _ _ (exec (PySem.Stmt.For _ _ _ _ _) _) _ _ _)); (fail_if_success (with_reducible show wpAny _ _ (eval (PySem.Expr.ListComp _ _ _ _) _) _ _ _)); (fail_if_success (with_reducible show wpAny _ _ (subscriptTail _ _ (Value.ref _) _) _ _ _)); (fail_if_success (with_reducible show wpAny _ _ (setItem (Value.ref _) _ _) _ _ _)); (fail_if_success (with_reducible show wpAny _ _ (compareOp CmpOp.Lt (Value.ref _) (Value.ref _)) _ _ _)); (fail_if_success (with_reducible show wpAny _ _ (call (Value.ref _) _) _ _ _)); (fail_if_success (with_reducible show wpAny _ _ (call (Value.builtin "len") [Value.ref _]) _ _ _)); (fail_if_success (with_reducible show KswEnd _ _ _ _ _ _ _ _ _ _ _ _)); (fail_if_success (with_reducible show LoopStepU _ _ _ _ _ _ _ _)); (fail_if_success (with_reducible show InvEndN _ _ _ _ _ _ _)); (fail_if_success (with_reducible show RngEnd _ _ _ _ _ _ _ _ _ _ _)); (fail_if_success (with_reducible show RngPost _ _ _ _ _ _ _ _ _ _ _ _ _)); first | (k_unfold; (try dsimp only)) | (k_end; wrow_close) | walk1 | (dsimp only; walk1) | (leave1; walk_say "STEP leave1"; try dsimp only) | fail "no step"); all_goals (repeat (k_unfold; (try dsimp only))))
  (refine' ctr_use (sifmt _ _ _ _) ?k1 ?k2 ?k3 ?k4 ?k5 ?kK ?kd ?ku ?_; (case k1 => k_asm); (case k2 => k_asm); (case k3 => k_asm); (case k4 => k_asm); (case k5 => k_asm); (case kK => first | exact rfl | assumption); (case kd => first | lia | ktr_room | ((try dsimp only [A9]); ktr_room)); (case ku => first | lia | ktr_units | ((try dsimp only [A9]); ktr_units)))
  intro r9 n9 h9 tk9 F9 N9 P9
  obtain ⟨rfl, t9, rfl⟩ := P9
  rw [e]
  match i, hi with
  | 0, _ =>
    rw [show kindI 0 = 16384 from rfl]
    ((try dsimp only); (try k_fold); repeat' ((fail_if_success (with_reducible show wpAny _ _ (call (Value.ref _) _) _ _ _)); first | (k_unfold; (try dsimp only)) | (k_end; wrow_close) | walk1 | (dsimp only; walk1) | (leave1; walk_say "STEP leave1"; try dsimp only) | fail "no step"); all_goals (repeat (k_unfold; (try dsimp only))))
    (refine' ctr_use (simode _ _ _ _) ?k1 ?k2 ?k3 ?k4 ?k5 ?kK ?kd ?ku ?_; (case k1 => k_asm); (case k2 => k_asm); (case k3 => k_asm); (case k4 => k_asm); (case k5 => k_asm); (case kK => first | exact rfl | assumption); (case kd => first | lia | ktr_room | ((try dsimp only [A9]); ktr_room)); (case ku => first | lia | ktr_units | ((try dsimp only [A9]); ktr_units)))
    intro r9 n9 h9 tk9 F9 N9 P9
    obtain ⟨rfl, t9, rfl⟩ := P9
    rw [e']
    ((try dsimp only); (try k_fold); repeat' ((fail_if_success (with_reducible show wpAny _ _ (exec (PySem.Stmt.While _ _ _ _) _) _ _ _)); (fail_if_success (with_reducible show wpAny _ _ (exec (PySem.Stmt.For _ _ _ _ _) _) _ _ _)); (fail_if_success (with_reducible show wpAny _ _ (eval (PySem.Expr.ListComp _ _ _ _) _) _ _ _)); (fail_if_success (with_reducible show wpAny _ _ (subscriptTail _ _ (Value.ref _) _) _ _ _)); (fail_if_success (with_reducible show wpAny _ _ (setItem (Value.ref _) _ _) _ _ _)); (fail_if_success (with_reducible show wpAny _ _ (compareOp CmpOp.Lt (Value.ref _) (Value.ref _)) _ _ _)); (fail_if_success (with_reducible show wpAny _ _ (call (Value.ref _) _) _ _ _)); (fail_if_success (with_reducible show wpAny _ _ (call (Value.builtin "len") [Value.ref _]) _ _ _)); (fail_if_success (with_reducible show KswEnd _ _ _ _ _ _ _ _ _ _ _ _)); (fail_if_success (with_reducible show LoopStepU _ _ _ _ _ _ _ _)); (fail_if_success (with_reducible show InvEndN _ _ _ _ _ _ _)); (fail_if_success (with_reducible show RngEnd _ _ _ _ _ _ _ _ _ _ _)); (fail_if_success (with_reducible show RngPost _ _ _ _ _ _ _ _ _ _ _ _ _)); first | (k_unfold; (try dsimp only)) | (k_end; wrow_close) | walk1 | (dsimp only; walk1) | (leave1; walk_say "STEP leave1"; try dsimp only) | fail "no step"); all_goals (repeat (k_unfold; (try dsimp only))))
    refine hret _ _ _ _ (by k_asm) (cb_drop (news := news) (by k_asm) (fun p hp => .tail _ hp)) ?_
    exact ⟨rfl, _, rfl⟩
  | 1, _ =>
    rw [show kindI 1 = 32768 from rfl]
    ((try dsimp only); (try k_fold); repeat' ((fail_if_success (with_reducible show wpAny _ _ (call (Value.ref _) _) _ _ _)); first | (k_unfold; (try dsimp only)) | (k_end; wrow_close) | walk1 | (dsimp only; walk1) | (leave1; walk_say "STEP leave1"; try dsimp only) | fail "no step"); all_goals (repeat (k_unfold; (try dsimp only))))
    (refine' ctr_use (simode _ _ _ _) ?k1 ?k2 ?k3 ?k4 ?k5 ?kK ?kd ?ku ?_; (case k1 => k_asm); (case k2 => k_asm); (case k3 => k_asm); (case k4 => k_asm); (case k5 => k_asm); (case kK => first | exact rfl | assumption); (case kd => first | lia | ktr_room | ((try dsimp only [A9]); ktr_room)); (case ku => first | lia | ktr_units | ((try dsimp only [A9]); ktr_units)))
    intro r9 n9 h9 tk9 F9 N9 P9
    obtain ⟨rfl, t9, rfl⟩ := P9
    rw [e']
    ((try dsimp only); (try k_fold); repeat' ((fail_if_success (with_reducible show wpAny _ _ (exec (PySem.Stmt.While _ _ _ _) _) _ _ _)); (fail_if_success (with_reducible show wpAny _ _ (exec (PySem.Stmt.For _ _ _ _ _) _) _ _ _)); (fail_if_success (with_reducible show wpAny _ _ (eval (PySem.Expr.ListComp _ _ _ _) _) _ _ _)); (fail_if_success (with_reducible show wpAny _ _ (subscriptTail _ _ (Value.ref _) _) _ _ _)); (fail_if_success (with_reducible show wpAny _ _ (setItem (Value.ref _) _ _) _ _ _)); (fail_if_success (with_reducible show wpAny _ _ (compareOp CmpOp.Lt (Value.ref _) (Value.ref _)) _ _ _)); (fail_if_success (with_reducible show wpAny _ _ (call (Value.ref _) _) _ _ _)); (fail_if_success (with_reducible show wpAny _ _ (call (Value.builtin "len") [Value.ref _]) _ _ _)); (fail_if_success (with_reducible show KswEnd _ _ _ _ _ _ _ _ _ _ _ _)); (fail_if_success (with_reducible show LoopStepU _ _ _ _ _ _ _ _)); (fail_if_success (with_reducible show InvEndN _ _ _ _ _ _ _)); (fail_if_success (with_reducible show RngEnd _ _ _ _ _ _ _ _ _ _ _)); (fail_if_success (with_reducible show RngPost _ _ _ _ _ _ _ _ _ _ _ _ _)); first | (k_unfold; (try dsimp only)) | (k_end; wrow_close) | walk1 | (dsimp only; walk1) | (leave1; walk_say "STEP leave1"; try dsimp only) | fail "no step"); all_goals (repeat (k_unfold; (try dsimp only))))
    refine hret _ _ _ _ (by k_asm) (cb_drop (news := news) (by k_asm) (fun p hp => .tail _ hp)) ?_
    exact ⟨rfl, _, rfl⟩
  | 2, _ =>
    rw [show kindI 2 = 40960 from rfl]
    ((try dsimp only); (try k_fold); repeat' ((fail_if_success (with_reducible show wpAny _ _ (call (Value.ref _) _) _ _ _)); first | (k_unfold; (try dsimp only)) | (k_end; wrow_close) | walk1 | (dsimp only; walk1) | (leave1; walk_say "STEP leave1"; try dsimp only) | fail "no step"); all_goals (repeat (k_unfold; (try dsimp only))))
    (refine' ctr_use (simode _ _ _ _) ?k1 ?k2 ?k3 ?k4 ?k5 ?kK ?kd ?ku ?_; (case k1 => k_asm); (case k2 => k_asm); (case k3 => k_asm); (case k4 => k_asm); (case k5 => k_asm); (case kK => first | exact rfl | assumption); (case kd => first | lia | ktr_room | ((try dsimp only [A9]); ktr_room)); (case ku => first | lia | ktr_units | ((try dsimp only [A9]); ktr_units)))
    intro r9 n9 h9 tk9 F9 N9 P9
    obtain ⟨rfl, t9, rfl⟩ := P9
    rw [e']
    ((try dsimp only); (try k_fold); repeat' ((fail_if_success (with_reducible show wpAny _ _ (exec (PySem.Stmt.While _ _ _ _) _) _ _ _)); (fail_if_success (with_reducible show wpAny _ _ (exec (PySem.Stmt.For _ _ _ _ _) _) _ _ _)); (fail_if_success (with_reducible show wpAny _ _ (eval (PySem.Expr.ListComp _ _ _ _) _) _ _ _)); (fail_if_success (with_reducible show wpAny _ _ (subscriptTail _ _ (Value.ref _) _) _ _ _)); (fail_if_success (with_reducible show wpAny _ _ (setItem (Value.ref _) _ _) _ _ _)); (fail_if_success (with_reducible show wpAny _ _ (compareOp CmpOp.Lt (Value.ref _) (Value.ref _)) _ _ _)); (fail_if_success (with_reducible show wpAny _ _ (call (Value.ref _) _) _ _ _)); (fail_if_success (with_reducible show wpAny _ _ (call (Value.builtin "len") [Value.ref _]) _ _ _)); (fail_if_success (with_reducible show KswEnd _ _ _ _ _ _ _ _ _ _ _ _)); (fail_if_success (with_reducible show LoopStepU _ _ _ _ _ _ _ _)); (fail_if_success (with_reducible show InvEndN _ _ _ _ _ _ _)); (fail_if_success (with_reducible show RngEnd _ _ _ _ _ _ _ _ _ _ _)); (fail_if_success (with_reducible show RngPost _ _ _ _ _ _ _ _ _ _ _ _ _)); first | (k_unfold; (try dsimp only)) | (k_end; wrow_close) | walk1 | (dsimp only; walk1) | (leave1; walk_say "STEP leave1"; try dsimp only) | fail "no step"); all_goals (repeat (k_unfold; (try dsimp only))))
    refine hret _ _ _ _ (by k_asm) (cb_drop (news := news) (by k_asm) (fun p hp => .tail _ hp)) ?_
    exact ⟨rfl, _, rfl⟩
  | 3, _ =>
    rw [show kindI 3 = 4096 from rfl]
    ((try dsimp only); (try k_fold); repeat' ((fail_if_success (with_reducible show wpAny _ _ (call (Value.ref _) _) _ _ _)); first | (k_unfold; (try dsimp only)) | (k_end; wrow_close) | walk1 | (dsimp only; walk1) | (leave1; walk_say "STEP leave1"; try dsimp only) | fail "no step"); all_goals (repeat (k_unfold; (try dsimp only))))
    (refine' ctr_use (simode _ _ _ _) ?k1 ?k2 ?k3 ?k4 ?k5 ?kK ?kd ?ku ?_; (case k1 => k_asm); (case k2 => k_asm); (case k3 => k_asm); (case k4 => k_asm); (case k5 => k_asm); (case kK => first | exact rfl | assumption); (case kd => first | lia | ktr_room | ((try dsimp only [A9]); ktr_room)); (case ku => first | lia | ktr_units | ((try dsimp only [A9]); ktr_units)))
    intro r9 n9 h9 tk9 F9 N9 P9
    obtain ⟨rfl, t9, rfl⟩ := P9
    rw [e']
    ((try dsimp only); (try k_fold); repeat' ((fail_if_success (with_reducible show wpAny _ _ (exec (PySem.Stmt.While _ _ _ _) _) _ _ _)); (fail_if_success (with_reducible show wpAny _ _ (exec (PySem.Stmt.For _ _ _ _ _) _) _ _ _)); (fail_if_success (with_reducible show wpAny _ _ (eval (PySem.Expr.ListComp _ _ _ _) _) _ _ _)); (fail_if_success (with_reducible show wpAny _ _ (subscriptTail _ _ (Value.ref _) _) _ _ _)); (fail_if_success (with_reducible show wpAny _ _ (setItem (Value.ref _) _ _) _ _ _)); (fail_if_success (with_reducible show wpAny _ _ (compareOp CmpOp.Lt (Value.ref _) (Value.ref _)) _ _ _)); (fail_if_success (with_reducible show wpAny _ _ (call (Value.ref _) _) _ _ _)); (fail_if_success (with_reducible show wpAny _ _ (call (Value.builtin "len") [Value.ref _]) _ _ _)); (fail_if_success (with_reducible show KswEnd _ _ _ _ _ _ _ _ _ _ _ _)); (fail_if_success (with_reducible show LoopStepU _ _ _ _ _ _ _ _)); (fail_if_success (with_reducible show InvEndN _ _ _ _ _ _ _)); (fail_if_success (with_reducible show RngEnd _ _ _ _ _ _ _ _ _ _ _)); (fail_if_success (with_reducible show RngPost _ _ _ _ _ _ _ _ _ _ _ _ _)); first | (k_unfold; (try dsimp only)) | (k_end; wrow_close) | walk1 | (dsimp only; walk1) | (leave1; walk_say "STEP leave1"; try dsimp only) | fail "no step"); all_goals (repeat (k_unfold; (try dsimp only))))
    refine hret _ _ _ _ (by k_asm) (cb_drop (news := news) (by k_asm) (fun p hp => .tail _ hp)) ?_
    exact ⟨rfl, _, rfl⟩
end Mine
namespace Mine
theorem places_c (w : World) (x : Int) (t : Tok) (news : List (Addr × Obj)) : Ctr w 2 16 159 [.int x t] news (fun v n' => ∃ D t1 t2, v = .ref D ∧ n' = (D, W.listOf #[.int (x.fmod 6) t1, .int ((x.fdiv 5).fmod 6) t2] 0) :: news ∧ ∀ p ∈ news, p.1 < D) := by
  (unfold Ctr; k_fill; intro mean mg mb dp un gd cn cs a ccd cl outer A₀ base h₀ L m s Q E B F X N T hk hdp hu hret; refine wpAny_call ?_; k_dflt ktr_enter; (show (let e9 : Env := _; let A9 : Around := Around.deeper _ e9; wpAny _ A9 (execs _ e9) _ _ _)); intro e9 A9)
  ((try dsimp only); (try k_fold); repeat' ((fail_if_success (with_reducible show wpAny _ _ (exec (PySem.Stmt.While _ _ _ _) _) _ _ _)); (fail_if_success (with_reducible show wpAny _ _ (exec (PySem.Stmt.For _ _ _ _ _) _) _ _ _)); (fail_if_success (with_reducible show wpAny _ _ (eval (PySem.Expr.ListComp _ _ _ _) _) _ _ _)); (fail_if_success (with_reducible show wpAny _ _ (subscriptTail _ _ (Value.ref _) _) _ _ _)); (fail_if_success (with_reducible show wpAny _ _ (setItem (Value.ref _) _ _) _ _ _)); (fail_if_success (with_reducible show wpAny _ _ (compareOp CmpOp.Lt (Value.ref _) (Value.ref _)) _ _ _)); (fail_if_success (with_reducible show wpAny _ _ (call (Value.ref _) _) _ _ _)); (fail_if_success (with_reducible show wpAny _ _ (call (Value.builtin "len") [Value.ref _]) _ _ _)); (fail_if_success (with_reducible show KswEnd _ _ _ _ _ _ _ _ _ _ _ _)); (fail_if_success (with_reducible show LoopStepU _ _ _ _ _ _ _ _)); (fail_if_success (with_reducible show InvEndN _ _ _ _ _ _ _)); (fail_if_success (with_reducible show RngEnd _ _ _ _ _ _ _ _ _ _ _)); (fail_if_success (with_reducible show RngPost _ _ _ _ _ _ _ _ _ _ _ _ _)); first | (k_unfold; (try dsimp only)) | (k_end; wrow_close) | walk1 | (dsimp only; walk1) | (leave1; walk_say "STEP leave1"; try dsimp only) | fail "no step"); all_goals (repeat (k_unfold; (try dsimp only))))
  refine hret _ _ _ _ (by k_asm) (by k_asm) ?_
  refine ⟨_, _, _, rfl, rfl, ?_⟩
  assumption
end Mine
namespace Mine
section
variable {prog : Program} {w : World} {A : Around} {E : Value → Shared → Prop} {s : Shared} {h₀ : Heap} {L l : Addr} {m : Str → Option Value} {news : List (Addr × Obj)} {its : Array Value} {e : Nat}
theorem led_list (N : News h₀ L s.heap news) (hm : (l, W.listOf its e) ∈ news) : s.heap.IsList l its := ⟨_, (N _ hm).1, rfl, e, rfl⟩
theorem led_len {Q : Value → Shared → Prop} (N : News h₀ L s.heap news) (hm : (l, W.listOf its e) ∈ news) (hlen : its.size ≤ 64) (h : Q (.int (its.size : Int) (s.toks + 1)) { s with toks := s.toks + 1 + 1 }) : wpAny (model prog w) A (call (.builtin "len") [.ref l]) Q E s :=
  kun_lenL (led_list N hm) rfl (by (first | lia | omega)) h
theorem led_item {value slice : PySem.Expr} {k : Int} {n : Nat} {u : Tok} {v : Value} {Q : Value → Shared → Prop} (N : News h₀ L s.heap news) (hm : (l, W.listOf its e) ∈ news) (hkn : k = (n : Int)) (hlen : its.size ≤ 64) (hv : its[n]? = some v) (h : Q v s)
    (hs : subscripted slice false (.ref l) (.int k u) = operate [.ref l, .int k u] (getItem (.ref l) (.int k u))) :
    wpAny (model prog w) A (subscriptTail value slice (.ref l) (.int k u)) Q E s := by
  subst hkn
  have hlt : n < its.size := by
    rcases Nat.lt_or_ge n its.size with q | q
    · exact q
    · rw [Array.getElem?_eq_none q] at hv; cases hv
  have hl := led_list N hm
  exact tail_any hl.typeIs slot_list_getitem.lookup (wpAny_getItem_list hl (by (first | lia | omega)) (by (first | lia | omega)) (by simpa using hv) h) hs
end
noncomputable def pA (x : Int) : Nat := (x.fmod 6).toNat
noncomputable def pB (x : Int) : Nat := ((x.fdiv 5).fmod 6).toNat
noncomputable def kd (x : Int) : Nat := ((x.fdiv 3).fmod 4).toNat
noncomputable def rt (x : Int) : Nat := (x.fmod 8).toNat
noncomputable def sign (p : Nat) : Nat := [38, 60, 62, 34, 9, 97].getD p 97
noncomputable def t0 (x : Int) : List Nat := [sign (pA x), sign (pB x)]
theorem fmod_nat (x : Int) (b : Nat) (hb : 0 < b) : x.fmod b = ((x.fmod b).toNat : Int) ∧ (x.fmod b).toNat < b := by
  have h := Int.fmod_eq_emod_of_nonneg x (show (0 : Int) ≤ b by (first | lia | omega))
  have h1 := Int.emod_nonneg x (show (b : Int) ≠ 0 by (first | lia | omega))
  have h2 := Int.emod_lt_of_pos x (show (0 : Int) < b by (first | lia | omega))
  rw [h]
  (first | lia | omega)
theorem pA_spec (x : Int) : x.fmod 6 = (pA x : Int) ∧ pA x < 6 := fmod_nat x 6 (by decide)
theorem pB_spec (x : Int) : (x.fdiv 5).fmod 6 = (pB x : Int) ∧ pB x < 6 := fmod_nat _ 6 (by decide)
theorem kd_spec (x : Int) : (x.fdiv 3).fmod 4 = (kd x : Int) ∧ kd x < 4 := fmod_nat _ 4 (by decide)
theorem rt_spec (x : Int) : x.fmod 8 = (rt x : Int) ∧ rt x < 8 := fmod_nat _ 8 (by decide)
theorem sign_item : ∀ p, p < 6 → Txt.item (Str.ofString "&<>\"\ta") ((p : Nat) : Int) = S [sign p] := by decide +kernel
end Mine
namespace Mine
theorem small_n (n : Nat) (h : n ≤ 64) : Builtin.Range.small 0 n 1 = true := by
  unfold Builtin.Range.small
  rw [rngSize n]
  simp [Builtin.Range.rangeFitsLong]
  (first | lia | omega)
section
variable {prog : Program} {w : World} {A : Around} {E : Value → Shared → Prop} {s : Shared} {env : Env} {h₀ : Heap} {x : Str} {body : List Stmt} {Q : Flow → Shared → Prop}
theorem for_range {σ : Type} {n : Nat} {t : Tok} {m₀ : Str → Option Value} (Led : σ → List (Addr × Obj)) (ps : σ → List (Str × Value)) (stored : List Str) (P : Nat → σ → Prop) (c₀ : σ)
    (hn : n ≤ 64) (hh : A.handled = none) (F : Fr h₀ env.locals s.heap m₀) (N : News h₀ env.locals s.heap (Led c₀)) (hk : ∀ p ∈ ps c₀, m₀ p.1 = some p.2) (hp : P 0 c₀)
    (turn : ∀ (I : Addr) (i : Nat) (b : σ) (u : Str → Option Value) (t : Tok) (h : Heap) (tk : Nat) (io : Obj), i < n → P i b → (∀ p ∈ Led b, p.1 ≠ I) →
      Fr h₀ env.locals h (fun y => if y = x then some (.int (i : Int) t) else kstB (fun z => if stored.contains z then u z else m₀ z) (ps b) y) → News h₀ env.locals h ((I, io) :: Led b) →
      wpAny (model prog w) A (execs body env) (RngPost h₀ env.locals x Led ps stored m₀ (P (i + 1)) (I, io) { s with heap := h, toks := tk } Q) E { s with heap := h, toks := tk })
    (done : ∀ (b : σ) (u : Str → Option Value) h tk, P n b → Fr h₀ env.locals h (fun y => if y = x then u y else kstB (fun z => if stored.contains z then u z else m₀ z) (ps b) y) → News h₀ env.locals h (Led b) → Q .next { s with heap := h, toks := tk }) :
    wpAny (model prog w) A (call (.type "range") [.int (n : Int) t]) (fun xv s₁ => wpAny (model prog w) A (pyIter xv) (fun it s₂ => LoopAtV prog w A h₀ env x body Q E it s₂) E s₁) E s := by
  refine range1_rows F N ?_
  intro h' tk t₁ u₁ v₁ hR F' N' _
  refine wpAny_pyIter_range hR (small_n n hn) ?_
  rw [rngSize n]
  refine loop_rng (a := 0) (c := 1) (n := n) Led ps stored P c₀ hh (Heap.get?_push_size _ rfl) (next_is_new F') (Nat.ne_of_lt F'.ns.lt) (fun p hp => Nat.ne_of_lt (Heap.lt_size (N' p hp).1)) (F'.push _)
    (fun p hp => ⟨Heap.get?_push_of_some _ (N' p hp).1, (N' p hp).2⟩) hk hp ?_ ?_
  · intro i b u t h tk io hi hP hoff F₁ N₁
    have e : (0 : Int) + (i : Int) * 1 = (i : Int) := by (first | lia | omega)
    rw [e] at F₁
    exact turn _ i b u t h tk io hi hP hoff F₁ N₁
  · intro b u h tk hP F₁ N₁
    exact done b u h tk hP F₁ N₁
end
end Mine
namespace Mine
theorem S_append (a b : List Nat) : S a ++ S b = S (a ++ b) := by
  apply Str.ext'
  simp [S, Str.cps_append]
theorem sjoin_S (ls : List (List Nat)) : Str.join (Str.ofString "") (ls.map S) = S ls.flatten := by
  induction ls with
  | nil => rfl
  | cons a r ih =>
    cases r with
    | nil => simp [Str.join, List.flatten]
    | cons b r =>
      show S a ++ Str.ofString "" ++ Str.join (Str.ofString "") ((b :: r).map S) = _
      rw [ih, show Str.ofString "" = S [] from rfl, S_append, S_append, List.append_nil]
      rfl
theorem join_S (ls : List (List Nat)) : Txt.join (Str.ofString "") (ls.map S) = S ls.flatten := by
  rw [eq_of_beq (join_plain_closes _ _), sjoin_S]
theorem strs_S : ∀ (vs : List Value) (ls : List (List Nat)) (ts : List Tok), vs = List.zipWith (fun l t => Value.str (S l) t) ls ts → ls.length = ts.length → StrsAre vs (ls.map S)
  | _, [], [], rfl, _ => .nil
  | _, l :: ls, t :: ts, rfl, h => .cons _ _ (strs_S _ ls ts rfl (by simpa using h))
  | _, [], _ :: _, _, h => by simp at h
  | _, _ :: _, [], _, h => by simp at h
theorem kinds_at (a b c d : Tok) : ∀ i, i < 4 → ∃ t, (#[Value.int 16384 a, .int 32768 b, .int 40960 c, .int 4096 d])[i]? = some (.int (kindI i) t)
  | 0, _ => ⟨a, rfl⟩
  | 1, _ => ⟨b, rfl⟩
  | 2, _ => ⟨c, rfl⟩
  | 3, _ => ⟨d, rfl⟩
section
variable {prog : Program} {w : World} {A : Around} {E : Value → Shared → Prop} {s : Shared} {h₀ : Heap} {L l : Addr} {m : Str → Option Value} {news : List (Addr × Obj)} {its : Array Value} {e : Nat}
theorem led_itemI {value slice : PySem.Expr} {k val : Int} {n : Nat} {u : Tok} {Q : Value → Shared → Prop} (N : News h₀ L s.heap news) (hm : (l, W.listOf its e) ∈ news) (hkn : k = (n : Int)) (hlen : its.size ≤ 64) (hv : ∃ t, its[n]? = some (.int val t)) (h : ∀ t, Q (.int val t) s)
    (hs : subscripted slice false (.ref l) (.int k u) = operate [.ref l, .int k u] (getItem (.ref l) (.int k u))) :
    wpAny (model prog w) A (subscriptTail value slice (.ref l) (.int k u)) Q E s := by
  obtain ⟨t, ht⟩ := hv
  exact led_item N hm hkn hlen ht (h t) hs
end
theorem refs_push (vs : List Item) (x : Item) : (refs vs).push (.ref x.addr) = refs (vs ++ [x]) := by
  apply Array.toList_inj.mp
  simp [refs]
theorem mul73 (a : Int) : IntMulOk a 73 := IntMulOk.of_right (by decide)
end Mine
namespace Mine
noncomputable def kap (x : Item) : Int := x.len * 8 + x.k
noncomputable def okK (x : Item) : Prop := 0 ≤ x.k ∧ x.k < 8
theorem ltI_kap {x y : Item} (hx : okK x) (hy : okK y) : ltI x y = decide (kap x < kap y) := by
  unfold ltI kap
  obtain ⟨a, b⟩ := hx
  obtain ⟨c, d⟩ := hy
  by_cases h : x.len < y.len
  · have : x.len * 8 + x.k < y.len * 8 + y.k := by (first | lia | omega)
    simp [h, this]
  · by_cases h' : x.len = y.len
    · have : (x.len * 8 + x.k < y.len * 8 + y.k) ↔ x.k < y.k := by (first | lia | omega)
      simp [h', this]
    · have : ¬ (x.len * 8 + x.k < y.len * 8 + y.k) := by (first | lia | omega)
      simp [h, h', this]
noncomputable def HeapOrd (vs : List Item) : Prop := ∀ i, 0 < i → i < vs.length → kap (vs.getD ((i - 1) / 2) default) ≤ kap (vs.getD i default)
theorem ord2 {a b : Item} : HeapOrd [a, b] ↔ kap a ≤ kap b := by
  constructor
  · intro h; exact h 1 (by decide) (by simp)
  · intro h i h0 h1
    have h1' : i < 2 := h1
    obtain rfl : i = 1 := by (first | lia | omega)
    exact h
theorem ord3 {a b c : Item} : HeapOrd [a, b, c] ↔ kap a ≤ kap b ∧ kap a ≤ kap c := by
  constructor
  · intro h; exact ⟨h 1 (by decide) (by simp), h 2 (by decide) (by simp)⟩
  · rintro ⟨h, h'⟩ i h0 h1
    have h1' : i < 3 := h1
    obtain rfl | rfl : i = 1 ∨ i = 2 := by (first | lia | omega)
    · exact h
    · exact h'
theorem ord4 {a b c d : Item} : HeapOrd [a, b, c, d] ↔ kap a ≤ kap b ∧ kap a ≤ kap c ∧ kap b ≤ kap d := by
  constructor
  · intro h; exact ⟨h 1 (by decide) (by simp), h 2 (by decide) (by simp), h 3 (by decide) (by simp)⟩
  · rintro ⟨h, h', h''⟩ i h0 h1
    have h1' : i < 4 := h1
    obtain rfl | rfl | rfl : i = 1 ∨ i = 2 ∨ i = 3 := by (first | lia | omega)
    · exact h
    · exact h'
    · exact h''
theorem ord5 {a b c d e : Item} : HeapOrd [a, b, c, d, e] ↔ kap a ≤ kap b ∧ kap a ≤ kap c ∧ kap b ≤ kap d ∧ kap b ≤ kap e := by
  constructor
  · intro h; exact ⟨h 1 (by decide) (by simp), h 2 (by decide) (by simp), h 3 (by decide) (by simp), h 4 (by decide) (by simp)⟩
  · rintro ⟨h, h', h'', h3⟩ i h0 h1
    have h1' : i < 5 := h1
    obtain rfl | rfl | rfl | rfl : i = 1 ∨ i = 2 ∨ i = 3 ∨ i = 4 := by (first | lia | omega)
    · exact h
    · exact h'
    · exact h''
    · exact h3
theorem su_step {vs : List Item} {f p q : Nat} (h : Nat.blt (2 * p + 1) vs.length = true) (hc : childOf vs p = q) : suL (f + 1) vs p = suL f (vs.set p (vs.getD q default)) q := hc ▸ if_pos (Nat.lt_of_succ_le (Nat.le_of_ble_eq_true h))
theorem su_stop {vs : List Item} {f p : Nat} (h : Nat.ble vs.length (2 * p + 1) = true) : suL (f + 1) vs p = (vs, p) := if_neg (Nat.not_lt_of_le (Nat.le_of_ble_eq_true h))
theorem ch_r {vs : List Item} {p : Nat} (h : Nat.blt (2 * p + 2) vs.length = true) (hl : ltI (vs.getD (2 * p + 1) default) (vs.getD (2 * p + 2) default) = false) : childOf vs p = 2 * p + 2 := if_pos ⟨Nat.lt_of_succ_le (Nat.le_of_ble_eq_true h), hl⟩
theorem ch_l {vs : List Item} {p : Nat} (hl : ltI (vs.getD (2 * p + 1) default) (vs.getD (2 * p + 2) default) = true) : childOf vs p = 2 * p + 1 := if_neg fun q => Bool.noConfusion (hl.symm.trans q.2)
theorem ch_o {vs : List Item} {p : Nat} (h : Nat.ble vs.length (2 * p + 2) = true) : childOf vs p = 2 * p + 1 := if_neg fun q => Nat.not_lt_of_le (Nat.le_of_ble_eq_true h) q.1
theorem su_of {vs ws : List Item} {n p q : Nat} (h : suL n vs p = (ws, q)) (hn : vs.length = n) : siftup vs p = siftdown (ws.set q (vs.getD p default)) p q := by
  subst hn; unfold siftup; rw [h]
theorem su2 (x b : Item) : siftup [x, b] 0 = if ltI x b then [x, b] else [b, x] :=
  have s1 : suL 2 [x, b] 0 = suL 1 [b, b] 1 := su_step rfl (ch_o rfl)
  (su_of (s1.trans (su_stop rfl)) rfl).trans rfl
theorem su3 (x b c : Item) : siftup [x, b, c] 0 = if ltI b c then (if ltI x b then [x, b, c] else [b, x, c]) else (if ltI x c then [x, b, c] else [c, b, x]) := by
  cases h : ltI b c
  · have s1 : suL 3 [x, b, c] 0 = suL 2 [c, b, c] 2 := su_step rfl (ch_r rfl h)
    exact (su_of (s1.trans (su_stop rfl)) rfl).trans rfl
  · have s1 : suL 3 [x, b, c] 0 = suL 2 [b, b, c] 1 := su_step rfl (ch_l h)
    exact (su_of (s1.trans (su_stop rfl)) rfl).trans rfl
theorem su4 (x b c d : Item) : siftup [x, b, c, d] 0 = if ltI b c then (if ltI x d then (if ltI x b then [x, b, c, d] else [b, x, c, d]) else [b, d, c, x]) else (if ltI x c then [x, b, c, d] else [c, b, x, d]) := by
  cases h : ltI b c
  · have s1 : suL 4 [x, b, c, d] 0 = suL 3 [c, b, c, d] 2 := su_step rfl (ch_r rfl h)
    exact (su_of (s1.trans (su_stop rfl)) rfl).trans rfl
  · have s1 : suL 4 [x, b, c, d] 0 = suL 3 [b, b, c, d] 1 := su_step rfl (ch_l h)
    have s2 : suL 3 [b, b, c, d] 1 = suL 2 [b, d, c, d] 3 := su_step rfl (ch_o rfl)
    exact (su_of (s1.trans (s2.trans (su_stop rfl))) rfl).trans rfl
theorem su5 (x b c d e : Item) : siftup [x, b, c, d, e] 0 = if ltI b c then (if ltI d e then (if ltI x d then (if ltI x b then [x, b, c, d, e] else [b, x, c, d, e]) else [b, d, c, x, e])
    else (if ltI x e then (if ltI x b then [x, b, c, d, e] else [b, x, c, d, e]) else [b, e, c, d, x])) else (if ltI x c then [x, b, c, d, e] else [c, b, x, d, e]) := by
  cases h : ltI b c
  · have s1 : suL 5 [x, b, c, d, e] 0 = suL 4 [c, b, c, d, e] 2 := su_step rfl (ch_r rfl h)
    exact (su_of (s1.trans (su_stop rfl)) rfl).trans rfl
  · have s1 : suL 5 [x, b, c, d, e] 0 = suL 4 [b, b, c, d, e] 1 := su_step rfl (ch_l h)
    cases h2 : ltI d e
    · have s2 : suL 4 [b, b, c, d, e] 1 = suL 3 [b, e, c, d, e] 4 := su_step rfl (ch_r rfl h2)
      exact (su_of (s1.trans (s2.trans (su_stop rfl))) rfl).trans rfl
    · have s2 : suL 4 [b, b, c, d, e] 1 = suL 3 [b, d, c, d, e] 3 := su_step rfl (ch_l h2)
      exact (su_of (s1.trans (s2.trans (su_stop rfl))) rfl).trans rfl
theorem su5l (a b c d e : Item) (h : ltI d e = true) (h2 : ltI b d = true) : siftup [a, b, c, d, e] 1 = [a, b, c, d, e] :=
  have s1 : suL 5 [a, b, c, d, e] 1 = suL 4 [a, d, c, d, e] 3 := su_step rfl (ch_l h)
  (su_of (s1.trans (su_stop rfl)) rfl).trans (if_pos h2)
theorem su4l (a b c d : Item) (h2 : ltI b d = true) : siftup [a, b, c, d] 1 = [a, b, c, d] :=
  have s1 : suL 4 [a, b, c, d] 1 = suL 3 [a, d, c, d] 3 := su_step rfl (ch_o rfl)
  (su_of (s1.trans (su_stop rfl)) rfl).trans (if_pos h2)
theorem pm3 {α : Type} (x b c : α) (r : List α) : (c :: b :: x :: r).Perm (x :: b :: c :: r) := (List.Perm.cons c (.swap x b r)).trans ((List.Perm.swap x c (b :: r)).trans (.cons x (.swap b c r)))
theorem pm4 {α : Type} (x b c d : α) (r : List α) : (b :: d :: c :: x :: r).Perm (x :: b :: c :: d :: r) := (List.Perm.cons b (pm3 x c d r)).trans (.swap x b (c :: d :: r))
theorem pm5 {α : Type} (x b c d e : α) (r : List α) : (b :: e :: c :: d :: x :: r).Perm (x :: b :: c :: d :: e :: r) :=
  (List.Perm.cons b (List.Perm.cons e ((List.Perm.cons c (.swap x d r)).trans (.swap x c (d :: r))))).trans ((List.Perm.cons b (.swap x e (c :: d :: r))).trans ((List.Perm.swap x b (e :: c :: d :: r)).trans (.cons x (.cons b ((List.Perm.swap c e (d :: r)).trans (.cons c (.swap d e r)))))))
theorem ltI_t {x y : Item} (hx : okK x) (hy : okK y) (h : ltI x y = true) : kap x ≤ kap y := Int.le_of_lt (of_decide_eq_true ((ltI_kap hx hy).symm.trans h))
theorem ltI_f {x y : Item} (hx : okK x) (hy : okK y) (h : ltI x y = false) : kap y ≤ kap x := Int.not_lt.mp (of_decide_eq_false ((ltI_kap hx hy).symm.trans h))
noncomputable def HP (r l : List Item) : Prop := HeapOrd l ∧ l.Perm r
theorem hp_ite {r l m : List Item} {x y : Item} (hx : okK x) (hy : okK y) (t : kap x ≤ kap y → HP r l) (f : kap y ≤ kap x → HP r m) : HP r (if ltI x y then l else m) := by
  cases h : ltI x y
  · exact f (ltI_f hx hy h)
  · exact t (ltI_t hx hy h)
theorem hp_eq {r l m : List Item} (e : l = m) (h : HP r m) : HP r l := e ▸ h
theorem hp5 {a b c d e x : Item} (o : kap a ≤ kap b ∧ kap a ≤ kap c ∧ kap b ≤ kap d ∧ kap b ≤ kap e) (kx : okK x) (kb : okK b) (kc : okK c) (kd : okK d) (ke : okK e) : HP [x, b, c, d, e] (siftup [x, b, c, d, e] 0) :=
  hp_eq (su5 ..) (hp_ite kb kc
    (fun bc => hp_ite kd ke
      (fun de => hp_ite kx kd
        (fun xd => hp_ite kx kb
          (fun xb => ⟨ord5.mpr ⟨xb, Int.le_trans xb bc, o.2.2⟩, .refl _⟩)
          (fun bx => ⟨ord5.mpr ⟨bx, bc, xd, Int.le_trans xd de⟩, .swap _ _ _⟩))
        (fun dx => ⟨ord5.mpr ⟨o.2.2.1, bc, dx, de⟩, pm4 _ _ _ _ _⟩))
      (fun ed => hp_ite kx ke
        (fun xe => hp_ite kx kb
          (fun xb => ⟨ord5.mpr ⟨xb, Int.le_trans xb bc, o.2.2⟩, .refl _⟩)
          (fun bx => ⟨ord5.mpr ⟨bx, bc, Int.le_trans xe ed, xe⟩, .swap _ _ _⟩))
        (fun ex => ⟨ord5.mpr ⟨o.2.2.2, bc, ed, ex⟩, pm5 _ _ _ _ _ _⟩)))
    (fun cb => hp_ite kx kc
      (fun xc => ⟨ord5.mpr ⟨Int.le_trans xc cb, xc, o.2.2⟩, .refl _⟩)
      (fun cx => ⟨ord5.mpr ⟨cb, cx, o.2.2⟩, pm3 _ _ _ _⟩)))
theorem hp4 {a b c d x : Item} (o : kap a ≤ kap b ∧ kap a ≤ kap c ∧ kap b ≤ kap d) (kx : okK x) (kb : okK b) (kc : okK c) (kd : okK d) : HP [x, b, c, d] (siftup [x, b, c, d] 0) :=
  hp_eq (su4 ..) (hp_ite kb kc
    (fun bc => hp_ite kx kd
      (fun xd => hp_ite kx kb
        (fun xb => ⟨ord4.mpr ⟨xb, Int.le_trans xb bc, o.2.2⟩, .refl _⟩)
        (fun bx => ⟨ord4.mpr ⟨bx, bc, xd⟩, .swap _ _ _⟩))
      (fun dx => ⟨ord4.mpr ⟨o.2.2, bc, dx⟩, pm4 _ _ _ _ _⟩))
    (fun cb => hp_ite kx kc
      (fun xc => ⟨ord4.mpr ⟨Int.le_trans xc cb, xc, o.2.2⟩, .refl _⟩)
      (fun cx => ⟨ord4.mpr ⟨cb, cx, o.2.2⟩, pm3 _ _ _ _⟩)))
theorem hp3 {b c x : Item} (kx : okK x) (kb : okK b) (kc : okK c) : HP [x, b, c] (siftup [x, b, c] 0) :=
  hp_eq (su3 ..) (hp_ite kb kc
    (fun bc => hp_ite kx kb
      (fun xb => ⟨ord3.mpr ⟨xb, Int.le_trans xb bc⟩, .refl _⟩)
      (fun bx => ⟨ord3.mpr ⟨bx, bc⟩, .swap _ _ _⟩))
    (fun cb => hp_ite kx kc
      (fun xc => ⟨ord3.mpr ⟨Int.le_trans xc cb, xc⟩, .refl _⟩)
      (fun cx => ⟨ord3.mpr ⟨cb, cx⟩, pm3 _ _ _ _⟩)))
theorem hp2 {b x : Item} (kx : okK x) (kb : okK b) : HP [x, b] (siftup [x, b] 0) :=
  hp_eq (su2 ..) (hp_ite kx kb (fun xb => ⟨ord2.mpr xb, .refl _⟩) (fun bx => ⟨ord2.mpr bx, .swap _ _ _⟩))
theorem heap_step : ∀ (vs : List Item) (x : Item) (_ : 2 ≤ vs.length) (_ : vs.length ≤ 5) (_ : HeapOrd vs) (_ : ∀ y ∈ vs, okK y) (_ : okK x),
    HeapOrd (siftup (vs.set 0 x) 0) ∧ (siftup (vs.set 0 x) 0).Perm (vs.set 0 x)
  | [], _, hn, _, _, _, _ => absurd hn (by decide)
  | [_], _, hn, _, _, _, _ => absurd (Nat.le_of_succ_le_succ hn) (by decide)
  | [_, _], _, _, _, _, hk, kx => hp2 kx (hk _ (.tail _ (.head _)))
  | [_, _, _], _, _, _, _, hk, kx => hp3 kx (hk _ (.tail _ (.head _))) (hk _ (.tail _ (.tail _ (.head _))))
  | [_, _, _, _], _, _, _, hO, hk, kx => hp4 (ord4.mp hO) kx (hk _ (.tail _ (.head _))) (hk _ (.tail _ (.tail _ (.head _)))) (hk _ (.tail _ (.tail _ (.tail _ (.head _)))))
  | [_, _, _, _, _], _, _, _, hO, hk, kx => hp5 (ord5.mp hO) kx (hk _ (.tail _ (.head _))) (hk _ (.tail _ (.tail _ (.head _)))) (hk _ (.tail _ (.tail _ (.tail _ (.head _))))) (hk _ (.tail _ (.tail _ (.tail _ (.tail _ (.head _))))))
  | _ :: _ :: _ :: _ :: _ :: _ :: _, _, _, h5, _, _, _ => absurd h5 (Nat.not_le_of_lt (Nat.le_add_left 6 _))
theorem top_least (vs : List Item) (hO : HeapOrd vs) : ∀ i, i < vs.length → kap (vs.getD 0 default) ≤ kap (vs.getD i default) := by
  intro i
  induction i using Nat.strongRecOn with
  | ind i ih =>
    intro h
    rcases Nat.eq_zero_or_pos i with rfl | h0
    · exact Int.le_refl _
    · have h1 := hO i h0 h
      have h2 := ih ((i - 1) / 2) (by (first | lia | omega)) (by (first | lia | omega))
      (first | lia | omega)
theorem first_ord (vs : List Item) (h : ∀ (k : Nat) (x : Item), vs[k]? = some x → x.len = 2 ∧ x.k = (k : Int)) : HeapOrd vs := by
  intro i h0 h1
  have hq : (i - 1) / 2 < vs.length := by (first | lia | omega)
  have a := h ((i - 1) / 2) (vs.getD ((i - 1) / 2) default) (by simp [List.getD_eq_getElem?_getD, hq])
  have b := h i (vs.getD i default) (by simp [List.getD_eq_getElem?_getD, h1])
  unfold kap
  rw [a.1, a.2, b.1, b.2]
  (first | lia | omega)
theorem upto0 {P : Nat → Prop} {n k : Nat} (hn : n = k) (hk : k / 2 = 0) (i : Nat) (hi : i < n / 2) : P i := absurd (hk ▸ hn ▸ hi) (Nat.not_lt_zero _)
theorem upto1 {P : Nat → Prop} {n k : Nat} (hn : n = k) (hk : k / 2 = 1) (h0 : P 0) (i : Nat) (hi : i < n / 2) : P i :=
  have h : i < 1 := hk ▸ hn ▸ hi
  (Nat.lt_one_iff.mp h) ▸ h0
theorem upto2 {P : Nat → Prop} {n k : Nat} (hn : n = k) (hk : k / 2 = 2) (h0 : P 0) (h1 : P 1) (i : Nat) (hi : i < n / 2) : P i := by
  have h : i < 2 := hk ▸ hn ▸ hi
  match i, h with
  | 0, _ => exact h0
  | 1, _ => exact h1
theorem id_su : ∀ (vs : List Item) (_ : vs.length ≤ 5) (_ : ∀ (i j : Nat) (x y : Item), vs[i]? = some x → vs[j]? = some y → i < j → ltI x y = true) (i : Nat) (_ : i < vs.length / 2), siftup vs i = vs
  | [], _, _ => upto0 (k := 0) rfl rfl
  | [_], _, _ => upto0 (k := 1) rfl rfl
  | [_, _], _, lt => upto1 (k := 2) rfl rfl ((su2 ..).trans (if_pos (lt 0 1 _ _ rfl rfl (by decide))))
  | [_, _, _], _, lt => upto1 (k := 3) rfl rfl ((su3 ..).trans ((if_pos (lt 1 2 _ _ rfl rfl (by decide))).trans (if_pos (lt 0 1 _ _ rfl rfl (by decide)))))
  | [_, _, _, _], _, lt => upto2 (k := 4) rfl rfl ((su4 ..).trans ((if_pos (lt 1 2 _ _ rfl rfl (by decide))).trans ((if_pos (lt 0 3 _ _ rfl rfl (by decide))).trans (if_pos (lt 0 1 _ _ rfl rfl (by decide))))))
    (su4l _ _ _ _ (lt 1 3 _ _ rfl rfl (by decide)))
  | [_, _, _, _, _], _, lt => upto2 (k := 5) rfl rfl ((su5 ..).trans ((if_pos (lt 1 2 _ _ rfl rfl (by decide))).trans ((if_pos (lt 3 4 _ _ rfl rfl (by decide))).trans ((if_pos (lt 0 3 _ _ rfl rfl (by decide))).trans (if_pos (lt 0 1 _ _ rfl rfl (by decide)))))))
    (su5l _ _ _ _ _ (lt 3 4 _ _ rfl rfl (by decide)) (lt 1 3 _ _ rfl rfl (by decide)))
  | _ :: _ :: _ :: _ :: _ :: _ :: _, h5, _ => absurd h5 (Nat.not_le_of_lt (Nat.le_add_left 6 _))
theorem first_id (vs : List Item) (h5 : vs.length ≤ 5) (h : ∀ (k : Nat) (x : Item), vs[k]? = some x → x.len = 2 ∧ x.k = (k : Int)) : ∀ i, i < vs.length / 2 → siftup vs i = vs := by
  refine id_su vs h5 fun i j x y hx hy hij => ?_
  obtain ⟨a, b⟩ := h i x hx
  obtain ⟨c, d⟩ := h j y hy
  unfold ltI
  rw [a, b, c, d, decide_eq_true (Int.ofNat_lt.mpr hij)]
  rfl
end Mine
namespace Mine
noncomputable def amp : List Nat := [97, 109, 112, 59]
noncomputable def amps : Nat → List Nat
  | 0 => []
  | n + 1 => amp ++ amps n
noncomputable def spell (p w : Nat) : List Nat :=
  ([[[97, 109, 112, 59], [97, 109, 112, 59], [97, 109, 112, 59], [97, 109, 112, 59]],
    [[108, 116, 59], [108, 116, 59], [108, 116, 59], []],
    [[103, 116, 59], [103, 116, 59], [], [103, 116, 59]],
    [[113, 117, 111, 116, 59], [], [113, 117, 111, 116, 59], [113, 117, 111, 116, 59]],
    [[35, 48, 57, 59], [], [35, 120, 57, 59], []],
    [[], [], [], []]].getD p []).getD w []
noncomputable def spelledP (p : Nat) : List Nat → List Nat
  | [] => [sign p]
  | w :: ws => if spell p w = [] then spelledP p ws else 38 :: (amps ws.length ++ spell p w)
theorem amps_snoc (n : Nat) : amps n ++ amp = amps (n + 1) := by
  induction n with
  | zero => rfl
  | succ n ih => rw [amps, List.append_assoc, ih]; rfl
theorem esc_append (i : Nat) (a b : List Nat) : esc i (a ++ b) = esc i a ++ esc i b := by simp [esc]
theorem esc_amp : ∀ i, i < 4 → esc i amp = amp := by decide
theorem esc_and : ∀ i, i < 4 → esc i [38] = 38 :: amp := by decide
theorem esc_spell : ∀ p, p < 6 → ∀ w, w < 4 → ∀ i, i < 4 → esc i (spell p w) = spell p w := by decide
theorem esc_sign : ∀ p, p < 6 → ∀ i, i < 4 → esc i [sign p] = if spell p i = [] then [sign p] else 38 :: spell p i := by decide
theorem esc_amps (i : Nat) (hi : i < 4) (n : Nat) : esc i (amps n) = amps n := by
  induction n with
  | zero => rfl
  | succ n ih => rw [amps, esc_append, ih, esc_amp i hi]
theorem spelled_snoc (p i : Nat) (hp : p < 6) (hi : i < 4) : ∀ ws : List Nat, (∀ w ∈ ws, w < 4) → esc i (spelledP p ws) = spelledP p (ws ++ [i]) := by
  intro ws
  induction ws with
  | nil =>
    intro _
    show esc i [sign p] = if spell p i = [] then [sign p] else 38 :: ([] ++ spell p i)
    rw [esc_sign p hp i hi]; rfl
  | cons w ws ih =>
    intro h
    have hw := h w (List.mem_cons_self ..)
    have ih' := ih fun v hv => h v (List.mem_cons_of_mem _ hv)
    show esc i (if spell p w = [] then spelledP p ws else 38 :: (amps ws.length ++ spell p w)) = if spell p w = [] then spelledP p (ws ++ [i]) else 38 :: (amps (ws ++ [i]).length ++ spell p w)
    by_cases e : spell p w = []
    · rw [if_pos e, if_pos e, ih']
    · rw [if_neg e, if_neg e, show (38 :: (amps ws.length ++ spell p w)) = [38] ++ (amps ws.length ++ spell p w) from rfl, esc_append, esc_append, esc_and i hi, esc_amps i hi, esc_spell p hp w hw i hi, List.length_append]
      show 38 :: amp ++ (amps ws.length ++ spell p w) = 38 :: (amps (ws.length + 1) ++ spell p w)
      rw [amps]; simp
theorem spell_len : ∀ p, p < 6 → ∀ w, w < 4 → (spell p w).length ≤ 5 := by decide
theorem amps_len (n : Nat) : (amps n).length = 4 * n := by
  induction n with
  | zero => rfl
  | succ n ih => rw [amps, List.length_append, ih]; show 4 + 4 * n = _; (first | lia | omega)
theorem spelled_len (p : Nat) (hp : p < 6) : ∀ ws : List Nat, (∀ w ∈ ws, w < 4) → (spelledP p ws).length ≤ 6 + 4 * ws.length := by
  intro ws
  induction ws with
  | nil => intro _; show 1 ≤ _; (first | lia | omega)
  | cons w ws ih =>
    intro h
    have ih' := ih fun v hv => h v (List.mem_cons_of_mem _ hv)
    have := spell_len p hp w (h w (List.mem_cons_self ..))
    unfold spelledP
    split
    · simp only [List.length_cons]; (first | lia | omega)
    · simp only [List.length_cons, List.length_append, amps_len]; (first | lia | omega)
noncomputable def writers (x : Int) (j : Nat) : List Nat := (List.range j).map fun i => (kd x + i) % 4
noncomputable def textAt (x : Int) (j : Nat) : List Nat := spelledP (pA x) (writers x j) ++ spelledP (pB x) (writers x j)
theorem writers_lt (x : Int) (j : Nat) : ∀ w ∈ writers x j, w < 4 := by
  intro w hw
  obtain ⟨i, _, rfl⟩ := List.mem_map.mp hw
  exact Nat.mod_lt _ (by decide)
theorem writers_succ (x : Int) (j : Nat) : writers x (j + 1) = writers x j ++ [(kd x + j) % 4] := by
  simp [writers, List.range_succ]
theorem text_zero (x : Int) : textAt x 0 = t0 x := rfl
theorem text_succ (x : Int) (j : Nat) : esc ((kd x + j) % 4) (textAt x j) = textAt x (j + 1) := by
  have h4 : (kd x + j) % 4 < 4 := Nat.mod_lt _ (by decide)
  unfold textAt
  rw [esc_append, writers_succ, spelled_snoc _ _ (pA_spec x).2 h4 _ (writers_lt x j), spelled_snoc _ _ (pB_spec x).2 h4 _ (writers_lt x j)]
theorem text_len (x : Int) (j : Nat) : (textAt x j).length ≤ 12 + 8 * j := by
  have a := spelled_len (pA x) (pA_spec x).2 (writers x j) (writers_lt x j)
  have b := spelled_len (pB x) (pB_spec x).2 (writers x j) (writers_lt x j)
  have c : (writers x j).length = j := by simp [writers]
  rw [c] at a b
  unfold textAt
  rw [List.length_append]
  (first | lia | omega)
theorem esc_grow (i : Nat) (l : List Nat) (hi : i < 4) : l.length ≤ (esc i l).length := by
  have h1 : ∀ y, 1 ≤ (ap (escT i) y).length := by
    intro y
    unfold ap
    have : ∀ t : List (Nat × List Nat), (t.all fun p => decide (1 ≤ p.2.length)) = true → 1 ≤ ((t.lookup y).getD [y]).length := by
      intro t
      induction t with
      | nil => intro _; simp
      | cons p t ih =>
        intro h
        rw [List.all_cons, Bool.and_eq_true] at h
        obtain ⟨a, b⟩ := p
        rw [List.lookup_cons]
        by_cases e : y == a
        · rw [e]; simpa using h.1
        · have e' : (y == a) = false := by simpa using e
          rw [e']; exact ih h.2
    exact this _ (by
      match i, hi with
      | 0, _ => decide
      | 1, _ => decide
      | 2, _ => decide
      | 3, _ => decide)
  unfold esc
  induction l with
  | nil => simp
  | cons y l ih =>
    have := h1 y
    simp only [List.flatMap_cons, List.length_append, List.length_cons]
    (first | lia | omega)
theorem text_mono (x : Int) (j : Nat) : (textAt x j).length ≤ (textAt x (j + 1)).length := by
  rw [← text_succ]
  exact esc_grow _ _ (Nat.mod_lt _ (by decide))
end Mine
namespace Mine
noncomputable def cnt (a : List (Nat × Nat)) (k : Nat) : Nat := a.countP fun p => p.1 == k
theorem cnt_snoc (a : List (Nat × Nat)) (k j q : Nat) : cnt (a ++ [(k, j)]) q = cnt a q + if k = q then 1 else 0 := by
  unfold cnt
  rw [List.countP_append]
  by_cases h : k = q <;> simp [h]
noncomputable def Greedy (f : Nat → Nat → Nat) (n : Nat) (picks : List (Nat × Nat)) : Prop :=
  ∀ a k j b, picks = a ++ (k, j) :: b → k < n ∧ j = cnt a k ∧ ∀ q, q < n → f k j * 8 + k ≤ f q (cnt a q) * 8 + q
theorem Greedy.nil (f : Nat → Nat → Nat) (n : Nat) : Greedy f n [] := by
  intro a k j b h
  cases a <;> cases h
theorem Greedy.snoc {f : Nat → Nat → Nat} {n : Nat} {picks : List (Nat × Nat)} {k : Nat} (h : Greedy f n picks) (hk : k < n) (hm : ∀ q, q < n → f k (cnt picks k) * 8 + k ≤ f q (cnt picks q) * 8 + q) : Greedy f n (picks ++ [(k, cnt picks k)]) := by
  intro a k' j' b e
  rcases List.eq_nil_or_concat b with rfl | ⟨b', z, rfl⟩
  · have e' : picks ++ [(k, cnt picks k)] = a ++ [(k', j')] := e
    obtain ⟨rfl, e2⟩ := List.append_inj' e' rfl
    cases e2
    exact ⟨hk, rfl, hm⟩
  · have e' : picks ++ [(k, cnt picks k)] = (a ++ (k', j') :: b') ++ [z] := by rw [e]; simp
    obtain ⟨rfl, e2⟩ := List.append_inj' e' rfl
    exact h a k' j' b' rfl
theorem Greedy.pre {f : Nat → Nat → Nat} {n : Nat} {a b : List (Nat × Nat)} (h : Greedy f n (a ++ b)) : Greedy f n a := by
  intro a' k j b' e
  exact h a' k j (b' ++ b) (by rw [e]; simp)
theorem snoc_ind {α : Type} {P : List α → Prop} (h0 : P []) (h1 : ∀ a z, P a → P (a ++ [z])) : ∀ a, P a := by
  intro a
  have h : ∀ b : List α, P b.reverse := by
    intro b
    induction b with
    | nil => exact h0
    | cons z b ih => rw [List.reverse_cons]; exact h1 _ _ ih
  have := h a.reverse
  rwa [List.reverse_reverse] at this
theorem greedy_mem {f : Nat → Nat → Nat} {n : Nat} : ∀ (a : List (Nat × Nat)), Greedy f n a → ∀ k j, (k, j) ∈ a ↔ j < cnt a k := by
  refine snoc_ind ?_ ?_
  · intro _ k j; simp [cnt]
  · intro a z ih h k j
    obtain ⟨kz, jz⟩ := z
    obtain ⟨_, hj, _⟩ := h a kz jz [] rfl
    have ih' := ih h.pre k j
    rw [List.mem_append, ih', cnt_snoc, List.mem_singleton]
    by_cases e : kz = k
    · subst e
      rw [if_pos rfl]
      constructor
      · rintro (q | q)
        · (first | lia | omega)
        · cases q; (first | lia | omega)
      · intro q
        by_cases e2 : j < cnt a kz
        · exact .inl e2
        · right
          rw [hj]
          have : j = cnt a kz := by (first | lia | omega)
          rw [this]
    · rw [if_neg e]
      constructor
      · rintro (q | q)
        · (first | lia | omega)
        · cases q; exact absurd rfl e
      · intro q; exact .inl (by (first | lia | omega))
theorem cnt_le (a : List (Nat × Nat)) (k : Nat) : cnt a k ≤ a.length := List.countP_le_length
noncomputable def rk (f : Nat → Nat → Nat) (p : Nat × Nat) : Nat := (f p.1 p.2 * 8 + p.1) * 64 + p.2
theorem merge_take (f : Nat → Nat → Nat) (n : Nat) (hn : n ≤ 8) (hf : ∀ k j, f k j ≤ f k (j + 1)) (picks S : List (Nat × Nat)) (hT : picks.length ≤ 64) (hG : Greedy f n picks)
    (hS : S.Pairwise fun p q => rk f p < rk f q) (hmem : ∀ k j, (k, j) ∈ S ↔ k < n ∧ j < picks.length) : ∀ i, i ≤ picks.length → S.take i = picks.take i := by
  have mono : ∀ k j d, f k j ≤ f k (j + d) := by
    intro k j d
    induction d with
    | zero => exact Nat.le_refl _
    | succ d ih => exact Nat.le_trans ih (hf k (j + d))
  intro i
  induction i with
  | zero => intro _; simp
  | succ i ih =>
    intro hi
    have e0 := ih (by (first | lia | omega))
    obtain ⟨⟨k, j⟩, hkj⟩ : ∃ p, picks[i]? = some p := ⟨picks[i], by simp⟩
    have ep : picks = picks.take i ++ (k, j) :: picks.drop (i + 1) := by
      have hlt : i < picks.length := by (first | lia | omega)
      have : picks[i] = (k, j) := by simpa [hlt] using hkj
      rw [← this, ← List.drop_eq_getElem_cons hlt, List.take_append_drop]
    obtain ⟨hk, hj, hmin⟩ := hG _ _ _ _ ep
    have hG' : Greedy f n (picks.take i) := Greedy.pre (b := picks.drop i) (by rw [List.take_append_drop]; exact hG)
    have hlen : (picks.take i).length = i := by simp; (first | lia | omega)
    have hjl : j < picks.length := by
      have := cnt_le (picks.take i) k
      (first | lia | omega)
    have hnot : (k, j) ∉ picks.take i := by rw [greedy_mem _ hG']; (first | lia | omega)
    have hin : (k, j) ∈ S := (hmem k j).mpr ⟨hk, hjl⟩
    -- it lies behind the first i
    have hin' : (k, j) ∈ S.drop i := by
      rw [← List.take_append_drop i S] at hin
      rcases List.mem_append.mp hin with h | h
      · rw [e0] at h; exact absurd h hnot
      · exact h
    obtain ⟨⟨k', j'⟩, r, hr⟩ : ∃ p r, S.drop i = p :: r := by
      cases h : S.drop i with
      | nil => rw [h] at hin'; cases hin'
      | cons p r => exact ⟨p, r, rfl⟩
    have hS' : (S.drop i).Pairwise fun p q => rk f p < rk f q := hS.sublist (List.drop_sublist _ _)
    rw [hr] at hS' hin'
    have hle : rk f (k', j') ≤ rk f (k, j) := by
      rcases List.mem_cons.mp hin' with h | h
      · rw [h]; exact Nat.le_refl _
      · exact Nat.le_of_lt ((List.pairwise_cons.mp hS').1 _ h)
    have hin2 : (k', j') ∈ S := List.mem_of_mem_drop (i := i) (by rw [hr]; exact List.mem_cons_self ..)
    obtain ⟨hk', hjl'⟩ := (hmem k' j').mp hin2
    have hnot2 : (k', j') ∉ picks.take i := by
      intro h
      rw [← e0] at h
      have hd : (S.take i ++ S.drop i).Pairwise fun p q => rk f p < rk f q := by rw [List.take_append_drop]; exact hS
      have := (List.pairwise_append.mp hd).2.2 _ h (k', j') (by rw [hr]; exact List.mem_cons_self ..)
      exact absurd this (Nat.lt_irrefl _)
    rw [greedy_mem _ hG'] at hnot2
    have h1 := hmin k' hk'
    have h2 := mono k' (cnt (picks.take i) k') (j' - cnt (picks.take i) k')
    rw [show cnt (picks.take i) k' + (j' - cnt (picks.take i) k') = j' by (first | lia | omega)] at h2
    have he : k' = k ∧ j' = j := by
      unfold rk at hle
      dsimp only at hle
      have h3 : f k j * 8 + k ≤ f k' j' * 8 + k' := by (first | lia | omega)
      have h4 : f k' j' * 8 + k' ≤ f k j * 8 + k := by (first | lia | omega)
      have h5 : k' = k := by (first | lia | omega)
      subst h5
      refine ⟨rfl, ?_⟩
      (first | lia | omega)
    obtain ⟨rfl, rfl⟩ := he
    have hSi : S[i]? = some (k', j') := by
      rw [← List.head?_drop, hr]; rfl
    rw [List.take_add_one, List.take_add_one, e0, hSi, hkj]
end Mine
namespace Mine
noncomputable def kev {α : Type} (lt : Nat → Nat → Bool) : KasT α → α
  | .ret a => a
  | .ask i j k => kev lt (k (lt i j))
theorem kev_bind {α β : Type} (lt : Nat → Nat → Bool) (f : α → KasT β) : ∀ t : KasT α, kev lt (t.bind f) = kev lt (f (kev lt t))
  | .ret _ => rfl
  | .ask i j k => kev_bind lt f (k (lt i j))
section
variable (key : Nat → Nat)
noncomputable def ltK (i j : Nat) : Bool := decide (key i < key j)
noncomputable def at' (p : Array Nat) (i : Nat) : Nat := key (p.getD i 0)
noncomputable def SortTo (p : Array Nat) (k : Nat) : Prop := ∀ i j, i < j → j < k → at' key p i < at' key p j
theorem place_spec (p : Array Nat) (k : Nat) (hs : SortTo key p k) (hd : ∀ i, i < k → at' key p i ≠ at' key p k) : ∀ f l r, r - l ≤ f → l ≤ r → r ≤ k → (∀ i, i < l → at' key p i < at' key p k) → (∀ i, r ≤ i → i < k → at' key p k < at' key p i) →
    kev (ltK key) (kas_place p k f l r) ≤ k ∧ (∀ i, i < kev (ltK key) (kas_place p k f l r) → at' key p i < at' key p k) ∧ (∀ i, kev (ltK key) (kas_place p k f l r) ≤ i → i < k → at' key p k < at' key p i) := by
  intro f
  induction f with
  | zero =>
    intro l r h1 h2 h3 h4 h5
    obtain rfl : l = r := by (first | lia | omega)
    exact ⟨h3, h4, h5⟩
  | succ f ih =>
    intro l r h1 h2 h3 h4 h5
    unfold kas_place
    by_cases hlr : l ≥ r
    · rw [if_pos hlr]
      obtain rfl : l = r := by (first | lia | omega)
      exact ⟨h3, h4, h5⟩
    · rw [if_neg hlr]
      show kev (ltK key) (if ltK key (p.getD k 0) (p.getD ((l + r) / 2) 0) = true then kas_place p k f l ((l + r) / 2) else kas_place p k f ((l + r) / 2 + 1) r) ≤ k ∧ _
      have hm : (l + r) / 2 < k := by (first | lia | omega)
      by_cases hc : at' key p k < at' key p ((l + r) / 2)
      · have e : ltK key (p.getD k 0) (p.getD ((l + r) / 2) 0) = true := decide_eq_true hc
        simp only [kev, e, if_true]
        refine ih l ((l + r) / 2) (by (first | lia | omega)) (by (first | lia | omega)) (by (first | lia | omega)) h4 fun i hi hk => ?_
        rcases Nat.lt_or_ge ((l + r) / 2) i with q | q
        · exact Nat.lt_trans hc (hs _ _ q hk)
        · have : i = (l + r) / 2 := by (first | lia | omega)
          rw [this]; exact hc
      · have e : ltK key (p.getD k 0) (p.getD ((l + r) / 2) 0) = false := decide_eq_false hc
        have hd' := hd _ hm
        have hlt : at' key p ((l + r) / 2) < at' key p k := by (first | lia | omega)
        simp only [kev, e, Bool.false_eq_true, if_false]
        refine ih ((l + r) / 2 + 1) r (by (first | lia | omega)) (by (first | lia | omega)) h3 (fun i hi => ?_) h5
        rcases Nat.lt_or_ge i ((l + r) / 2) with q | q
        · exact Nat.lt_trans (hs _ _ q hm) hlt
        · have : i = (l + r) / 2 := by (first | lia | omega)
          rw [this]; exact hlt
theorem at_bubble (p : Array Nat) (src d : Nat) (hs : src < p.size) (hd : d ≤ src) (k : Nat) : at' key (bubble p src d) k = if k = src - d then at' key p src else if src - d < k ∧ k ≤ src then at' key p (k - 1) else at' key p k := by
  have e := getElem?_bubble hs d hd k
  have g : ∀ (q : Array Nat) (i : Nat), at' key q i = key (q[i]?.getD 0) := by
    intro q i
    unfold at'
    simp [Array.getD_eq_getD_getElem?]
  simp only [g]
  rw [e]
  split
  · rfl
  · split <;> rfl
noncomputable def sg (l k j : Nat) : Nat := if j = l then k else if l < j ∧ j ≤ k then j - 1 else j
theorem sg_lt {l k j n : Nat} (hk : k < n) (hj : j < n) : sg l k j < n := by
  unfold sg
  split
  · exact hk
  · split
    · exact Nat.lt_of_le_of_lt (Nat.sub_le _ _) hj
    · exact hj
noncomputable def gs (l k j : Nat) : Nat := if j = k then l else if l ≤ j ∧ j < k then j + 1 else j
theorem gs_sg {l k i : Nat} (h : l ≤ k) : gs l k (sg l k i) = i := by
  unfold sg
  by_cases n : i = l
  · rw [if_pos n]; exact (if_pos rfl).trans n.symm
  · rw [if_neg n]
    by_cases c : l < i ∧ i ≤ k
    · rw [if_pos c]
      have p : 0 < i := Nat.lt_of_le_of_lt (Nat.zero_le _) c.1
      have q : i - 1 < k := Nat.lt_of_lt_of_le (Nat.sub_lt p Nat.one_pos) c.2
      exact (if_neg (Nat.ne_of_lt q)).trans ((if_pos ⟨Nat.le_sub_one_of_lt c.1, q⟩).trans (Nat.sub_add_cancel p))
    · rw [if_neg c]
      exact (if_neg fun (e : i = k) => c ⟨Nat.lt_of_le_of_ne (e.symm ▸ h) (Ne.symm n), Nat.le_of_eq e⟩).trans (if_neg fun q => c ⟨Nat.lt_of_le_of_ne q.1 (Ne.symm n), Nat.le_of_lt q.2⟩)
theorem sg_inj {l k i j : Nat} (h : l ≤ k) (hne : i ≠ j) : sg l k i ≠ sg l k j := fun e => hne ((gs_sg h).symm.trans ((congrArg _ e).trans (gs_sg h)))
theorem bin_spec (n : Nat) : ∀ f (p : Array Nat) (k : Nat), p.size = n → k + f = n → SortTo key p k → (∀ i j, i < n → j < n → i ≠ j → at' key p i ≠ at' key p j) →
    (kev (ltK key) (kas_bin f p k)).Perm p ∧ SortTo key (kev (ltK key) (kas_bin f p k)) n := by
  intro f
  induction f with
  | zero =>
    intro p k hp hk hs hd
    obtain rfl : k = n := by (first | lia | omega)
    exact ⟨.refl _, hs⟩
  | succ f ih =>
    intro p k hp hk hs hd
    have hkn : k < n := by (first | lia | omega)
    obtain ⟨q1, q2, q3⟩ := place_spec key p k hs (fun i hi => hd i k (by (first | lia | omega)) hkn (by (first | lia | omega))) k 0 k (by (first | lia | omega)) (by (first | lia | omega)) (Nat.le_refl _) (fun i hi => by (first | lia | omega)) (fun i h1 h2 => by (first | lia | omega))
    unfold kas_bin
    rw [kev_bind]
    generalize kev (ltK key) (kas_place p k k 0 k) = l at q1 q2 q3 ⊢
    have hb := at_bubble key p k (k - l) (by (first | lia | omega)) (by (first | lia | omega))
    have hkl : k - (k - l) = l := by (first | lia | omega)
    rw [hkl] at hb
    have hs' : SortTo key (bubble p k (k - l)) (k + 1) := by
      intro i j hij hj
      rw [hb, hb]
      by_cases c1 : i = l
      · rw [if_pos c1, if_neg (by (first | lia | omega)), if_pos (by (first | lia | omega))]
        exact q3 _ (by (first | lia | omega)) (by (first | lia | omega))
      · rw [if_neg c1]
        by_cases c2 : l < i ∧ i ≤ k
        · rw [if_pos c2, if_neg (by (first | lia | omega)), if_pos (by (first | lia | omega))]
          exact hs _ _ (by (first | lia | omega)) (by (first | lia | omega))
        · rw [if_neg c2]
          by_cases c3 : j = l
          · rw [if_pos c3]; exact q2 i (by (first | lia | omega))
          · rw [if_neg c3]
            by_cases c4 : l < j ∧ j ≤ k
            · rw [if_pos c4]; exact hs _ _ (by (first | lia | omega)) (by (first | lia | omega))
            · rw [if_neg c4]; exact hs _ _ hij (by (first | lia | omega))
    have hb' : ∀ j, at' key (bubble p k (k - l)) j = at' key p (sg l k j) := fun j => by
      rw [hb]; unfold sg
      split
      · rfl
      · split <;> rfl
    have hd' : ∀ i j, i < n → j < n → i ≠ j → at' key (bubble p k (k - l)) i ≠ at' key (bubble p k (k - l)) j := by
      intro i j hi hj hne
      rw [hb', hb']
      exact hd _ _ (sg_lt hkn hi) (sg_lt hkn hj) (sg_inj q1 hne)
    obtain ⟨r1, r2⟩ := ih (bubble p k (k - l)) (k + 1) (by rw [bubble_size]; exact hp) (by (first | lia | omega)) hs' hd'
    exact ⟨r1.trans (bubble_perm _ _ _), r2⟩
theorem asc_spec (p : Array Nat) (n : Nat) (hd : ∀ i j, i < n → j < n → i ≠ j → at' key p i ≠ at' key p j) : ∀ f m, 1 ≤ m → m + f = n → SortTo key p m → m ≤ kev (ltK key) (kas_asc p f m) ∧ kev (ltK key) (kas_asc p f m) ≤ n ∧ SortTo key p (kev (ltK key) (kas_asc p f m)) := by
  intro f
  induction f with
  | zero =>
    intro m h1 h2 h3
    exact ⟨Nat.le_refl _, by show m ≤ n; (first | lia | omega), h3⟩
  | succ f ih =>
    intro m h1 h2 h3
    unfold kas_asc
    by_cases hc : at' key p m < at' key p (m - 1)
    · have e : ltK key (p.getD m 0) (p.getD (m - 1) 0) = true := decide_eq_true hc
      simp only [kev, e, if_true]
      exact ⟨Nat.le_refl _, by (first | lia | omega), h3⟩
    · have e : ltK key (p.getD m 0) (p.getD (m - 1) 0) = false := decide_eq_false hc
      simp only [kev, e, Bool.false_eq_true, if_false]
      have hd' := hd (m - 1) m (by (first | lia | omega)) (by (first | lia | omega)) (by (first | lia | omega))
      obtain ⟨a, b, c⟩ := ih (m + 1) (by (first | lia | omega)) (by (first | lia | omega)) (fun i j hij hj => by
        rcases Nat.lt_or_ge j m with q | q
        · exact h3 i j hij q
        · obtain rfl : j = m := by (first | lia | omega)
          rcases Nat.lt_or_ge i (j - 1) with q' | q'
          · exact Nat.lt_trans (h3 i (j - 1) q' (by (first | lia | omega))) (by (first | lia | omega))
          · have : i = j - 1 := by (first | lia | omega)
            rw [this]; (first | lia | omega))
      exact ⟨by (first | lia | omega), b, c⟩
end
end Mine
namespace Mine
noncomputable def kevIn {α : Type} (lt : Nat → Nat → Bool) (n : Nat) : KasT α → Prop
  | .ret _ => True
  | .ask i j k => i < n ∧ j < n ∧ kevIn lt n (k (lt i j))
theorem kevIn_bind {α β : Type} (lt : Nat → Nat → Bool) (n : Nat) (f : α → KasT β) : ∀ t : KasT α, kevIn lt n t → kevIn lt n (f (kev lt t)) → kevIn lt n (t.bind f)
  | .ret _, _, h => h
  | .ask i j k, h1, h2 => ⟨h1.1, h1.2.1, kevIn_bind lt n f (k (lt i j)) h1.2.2 h2⟩
noncomputable def InB (n : Nat) (p : Array Nat) : Prop := ∀ x ∈ p, x < n
theorem InB.at {n : Nat} {p : Array Nat} (h : InB n p) (h0 : 0 < n) (i : Nat) : p.getD i 0 < n := by
  rw [Array.getD_eq_getD_getElem?]
  cases e : p[i]? with
  | none => exact h0
  | some x => exact h x (Array.mem_of_getElem? e)
theorem InB.perm {n : Nat} {p q : Array Nat} (h : InB n p) (hp : q.Perm p) : InB n q := fun x hx => h x ((Array.Perm.mem_iff hp).mp hx)
section
variable (key : Nat → Nat)
theorem place_in (n : Nat) (h0 : 0 < n) (p : Array Nat) (hp : InB n p) (k : Nat) : ∀ f l r, kevIn (ltK key) n (kas_place p k f l r) := by
  intro f
  induction f with
  | zero => intro l r; trivial
  | succ f ih =>
    intro l r
    unfold kas_place
    by_cases hlr : l ≥ r
    · rw [if_pos hlr]; trivial
    · rw [if_neg hlr]
      refine ⟨hp.at h0 _, hp.at h0 _, ?_⟩
      dsimp only
      split
      · exact ih _ _
      · exact ih _ _
theorem asc_in (n : Nat) (h0 : 0 < n) (p : Array Nat) (hp : InB n p) : ∀ f m, kevIn (ltK key) n (kas_asc p f m) := by
  intro f
  induction f with
  | zero => intro m; trivial
  | succ f ih =>
    intro m
    unfold kas_asc
    refine ⟨hp.at h0 _, hp.at h0 _, ?_⟩
    dsimp only
    split
    · trivial
    · exact ih _
theorem bin_in (n : Nat) (h0 : 0 < n) : ∀ f (p : Array Nat) (k : Nat), InB n p → kevIn (ltK key) n (kas_bin f p k) := by
  intro f
  induction f with
  | zero => intro p k _; trivial
  | succ f ih =>
    intro p k hp
    unfold kas_bin
    refine kevIn_bind _ _ _ _ (place_in key n h0 p hp k _ _ _) ?_
    exact ih _ _ (hp.perm (bubble_perm _ _ _))
theorem sort_spec (n : Nat) (h2 : 2 ≤ n) (hd : ∀ i j, i < n → j < n → i ≠ j → key i ≠ key j) (h01 : key 0 < key 1) :
    ((kev (ltK key) (kas_sort n)).Perm (List.range n).toArray ∧ SortTo key (kev (ltK key) (kas_sort n)) n) ∧ kevIn (ltK key) n (kas_sort n) := by
  have ha : ∀ i, i < n → at' key (List.range n).toArray i = key i := by
    intro i hi
    unfold at'
    simp [Array.getD_eq_getD_getElem?, hi]
  have hd' : ∀ i j, i < n → j < n → i ≠ j → at' key (List.range n).toArray i ≠ at' key (List.range n).toArray j := by
    intro i j hi hj hne
    rw [ha i hi, ha j hj]
    exact hd i j hi hj hne
  have h1 : SortTo key (List.range n).toArray 1 := fun i j hij hj => by (first | lia | omega)
  unfold kas_sort kas_count
  have h0 : 0 < n := by (first | lia | omega)
  have hB : InB n (List.range n).toArray := by intro x hx; simpa using hx
  -- the first run has two at least
  have hrun : 2 ≤ kev (ltK key) (kas_asc (List.range n).toArray (n - 1) 1) ∧ kev (ltK key) (kas_asc (List.range n).toArray (n - 1) 1) ≤ n ∧ SortTo key (List.range n).toArray (kev (ltK key) (kas_asc (List.range n).toArray (n - 1) 1)) := by
    obtain ⟨m, hm⟩ : ∃ m, n - 1 = m + 1 := ⟨n - 2, by (first | lia | omega)⟩
    rw [hm]
    unfold kas_asc
    have e : ltK key ((List.range n).toArray.getD 1 0) ((List.range n).toArray.getD (1 - 1) 0) = false := by
      refine decide_eq_false ?_
      have a1 := ha 1 (by (first | lia | omega))
      have a0 := ha 0 (by (first | lia | omega))
      unfold at' at a0 a1
      show ¬ key ((List.range n).toArray.getD 1 0) < key ((List.range n).toArray.getD 0 0)
      rw [a0, a1]
      (first | lia | omega)
    simp only [kev, e, Bool.false_eq_true, if_false]
    exact asc_spec key _ n hd' m (1 + 1) (by (first | lia | omega)) (by (first | lia | omega)) (fun i j hij hj => by
      obtain ⟨rfl, rfl⟩ : i = 0 ∧ j = 1 := by (first | lia | omega)
      rw [ha 0 (by (first | lia | omega)), ha 1 (by (first | lia | omega))]; exact h01)
  obtain ⟨r1, r2, r3⟩ := hrun
  have key1 : ∀ m, 2 ≤ m → m ≤ n → SortTo key (List.range n).toArray m → kev (ltK key) (if (m == n) = true then KasT.ret (m, (List.range n).toArray) else if m > 1 then KasT.ask ((List.range n).toArray.getD 0 0) ((List.range n).toArray.getD (m - 1) 0) fun c => if c = true then KasT.ret (m, (List.range n).toArray) else kas_descPart m n (kas_rev (List.range n).toArray 0 m)
        else kas_descPart m n (List.range n).toArray) = (m, (List.range n).toArray) ∧ kevIn (ltK key) n (if (m == n) = true then KasT.ret (m, (List.range n).toArray) else if m > 1 then KasT.ask ((List.range n).toArray.getD 0 0) ((List.range n).toArray.getD (m - 1) 0) fun c => if c = true then KasT.ret (m, (List.range n).toArray) else kas_descPart m n (kas_rev (List.range n).toArray 0 m)
        else kas_descPart m n (List.range n).toArray) := by
    intro m r1 r2 r3
    by_cases e : (m == n) = true
    · rw [if_pos e]; exact ⟨rfl, trivial⟩
    · rw [if_neg e, if_pos (by (first | lia | omega))]
      have e2 : ltK key ((List.range n).toArray.getD 0 0) ((List.range n).toArray.getD (m - 1) 0) = true := decide_eq_true (r3 0 (m - 1) (by (first | lia | omega)) (by (first | lia | omega)))
      refine ⟨by simp only [kev, e2, if_true], hB.at h0 _, hB.at h0 _, ?_⟩
      rw [e2]; dsimp only; rw [if_pos rfl]; trivial
  have k1 := key1 _ r1 r2 r3
  constructor
  · rw [kev_bind, kev_bind, k1.1]
    dsimp only
    generalize kev (ltK key) (kas_asc (List.range n).toArray (n - 1) 1) = m at r1 r2 r3 ⊢
    by_cases c : m < n
    · rw [if_pos c]
      have hmx : max m 1 = m := by (first | lia | omega)
      rw [hmx]
      exact bin_spec key n (n - m) _ m (by simp) (by (first | lia | omega)) r3 hd'
    · rw [if_neg c]
      obtain rfl : m = n := by (first | lia | omega)
      exact ⟨.refl _, r3⟩
  · refine kevIn_bind _ _ _ _ (kevIn_bind _ _ _ _ (asc_in key n h0 _ hB _ _) k1.2) ?_
    rw [kev_bind, k1.1]
    dsimp only
    split
    · exact bin_in key n h0 _ _ _ hB
    · trivial
end
end Mine
namespace Mine
noncomputable def fLen (ds : List Int) (k j : Nat) : Nat := (textAt (ds.getD k 0) j).length
noncomputable def isAt (ds : List Int) (picks : List (Nat × Nat)) (k : Nat) (x : Item) : Prop :=
  x.k = (k : Int) ∧ x.len = (fLen ds k (cnt picks k) : Int) ∧ x.text = S (textAt (ds.getD k 0) (cnt picks k)) ∧ x.state = stI ((kd (ds.getD k 0) + cnt picks k) % 4) (rt (ds.getD k 0))
structure HInv (ds : List Int) (its : List Item) (picks : List (Nat × Nat)) : Prop where
  len : its.length = ds.length
  ord : HeapOrd its
  rep : ∀ x ∈ its, ∃ k, k < ds.length ∧ isAt ds picks k x
  all : ∀ k, k < ds.length → ∃ x ∈ its, x.k = (k : Int)
  dis : (its.map Item.k).Nodup
  grd : Greedy (fLen ds) ds.length picks
theorem dis_ne {vs : List Item} (h : (vs.map Item.k).Nodup) : ∀ i j, i < vs.length → j < vs.length → i ≠ j → (vs.getD i default).k ≠ (vs.getD j default).k := by
  intro i j hi hj hne e
  have hi' : i < (vs.map Item.k).length := by simpa using hi
  have hj' : j < (vs.map Item.k).length := by simpa using hj
  rw [List.nodup_iff_pairwise_ne, List.pairwise_iff_getElem] at h
  have e' : (vs.map Item.k)[i] = (vs.map Item.k)[j] := by simpa [List.getD_eq_getElem?_getD, hi, hj] using e
  rcases Nat.lt_or_gt_of_ne hne with q | q
  · exact h i j hi' hj' q e'
  · exact h j i hj' hi' q e'.symm
theorem HInv.okK {ds : List Int} {its : List Item} {picks : List (Nat × Nat)} (H : HInv ds its picks) (h5 : ds.length ≤ 5) : ∀ x ∈ its, okK x := by
  intro x hx
  obtain ⟨k, hk, e, _⟩ := H.rep x hx
  unfold Mine.okK
  rw [e]
  (first | lia | omega)
theorem HInv.first {ds : List Int} {its : List Item} (hl : its.length = ds.length) (h : ∀ (k : Nat) (x : Item), its[k]? = some x → x.len = 2 ∧ x.k = (k : Int) ∧ x.text = S (t0 (ds.getD k 0)) ∧ x.state = stI (kd (ds.getD k 0)) (rt (ds.getD k 0))) : HInv ds its [] where
  len := hl
  ord := first_ord its fun k x hx => ⟨(h k x hx).1, (h k x hx).2.1⟩
  rep := by
    intro x hx
    obtain ⟨k, hk, rfl⟩ := List.mem_iff_getElem.mp hx
    obtain ⟨a, b, c, d⟩ := h k its[k] (by simp)
    refine ⟨k, by (first | lia | omega), b, by rw [a]; rfl, by rw [c]; rfl, ?_⟩
    rw [d]
    show _ = stI ((kd _ + 0) % 4) _
    rw [Nat.add_zero, Nat.mod_eq_of_lt (kd_spec _).2]
  all := by
    intro k hk
    exact ⟨its[k]'(by (first | lia | omega)), List.getElem_mem _, (h k _ (by simp)).2.1⟩
  dis := by
    rw [List.nodup_iff_pairwise_ne, List.pairwise_iff_getElem]
    intro i j hi hj hij
    simp only [List.length_map] at hi hj
    have a := (h i its[i] (by simp)).2.1
    have b := (h j its[j] (by simp)).2.1
    simp only [List.getElem_map]
    rw [a, b]
    (first | lia | omega)
  grd := Greedy.nil _ _
theorem HInv.top {ds : List Int} {its : List Item} {picks : List (Nat × Nat)} (H : HInv ds its picks) (h2 : 2 ≤ ds.length) : ∃ k, k < ds.length ∧ isAt ds picks k (its.getD 0 default) ∧ ∀ q, q < ds.length → fLen ds k (cnt picks k) * 8 + k ≤ fLen ds q (cnt picks q) * 8 + q := by
  have h0 : 0 < its.length := by have := H.len; (first | lia | omega)
  obtain ⟨k, hk, hx⟩ := H.rep _ (getD_mem h0)
  refine ⟨k, hk, hx, fun q hq => ?_⟩
  obtain ⟨y, hy, ey⟩ := H.all q hq
  obtain ⟨q', hq', hy'⟩ := H.rep y hy
  have : q' = q := by have := hy'.1; (first | lia | omega)
  subst this
  obtain ⟨i, hi, rfl⟩ := List.mem_iff_getElem.mp hy
  have ht := top_least its H.ord i hi
  have e : its.getD i default = its[i] := by simp [List.getD_eq_getElem?_getD, hi]
  rw [e] at ht
  unfold kap at ht
  rw [hx.1, hx.2.1, hy'.1, hy'.2.1] at ht
  (first | lia | omega)
theorem HInv.step {ds : List Int} {its : List Item} {picks : List (Nat × Nat)} (H : HInv ds its picks) (h2 : 2 ≤ ds.length) (h5 : ds.length ≤ 5) {k : Nat} (hk : k < ds.length) (hx : isAt ds picks k (its.getD 0 default))
    (hmin : ∀ q, q < ds.length → fLen ds k (cnt picks k) * 8 + k ≤ fLen ds q (cnt picks q) * 8 + q) {y : Item} (hy : isAt ds (picks ++ [(k, cnt picks k)]) k y) :
    HInv ds (siftup (its.set 0 y) 0) (picks ++ [(k, cnt picks k)]) := by
  obtain ⟨a, r, rfl⟩ : ∃ a r, its = a :: r := by
    cases its with
    | nil => have := H.len; simp at this; (first | lia | omega)
    | cons a r => exact ⟨a, r, rfl⟩
  have hx' : isAt ds picks k a := hx
  have hl := H.len
  have ky : Mine.okK y := by unfold Mine.okK; rw [hy.1]; (first | lia | omega)
  obtain ⟨o1, o2⟩ := heap_step (a :: r) y (by (first | lia | omega)) (by (first | lia | omega)) H.ord (H.okK h5) ky
  have hd := H.dis
  rw [List.map_cons, List.nodup_cons] at hd
  have hset : (a :: r).set 0 y = y :: r := rfl
  rw [hset] at o1 o2 ⊢
  have hky : y.k = a.k := hy.1.trans hx'.1.symm
  have hne : ∀ x ∈ r, x.k ≠ (k : Int) := by
    intro x hxr e
    exact hd.1 (by rw [show a.k = x.k from hx'.1.trans e.symm]; exact List.mem_map_of_mem hxr)
  refine ⟨?_, o1, ?_, ?_, ?_, Greedy.snoc H.grd hk hmin⟩
  · rw [o2.length_eq]; simpa using hl
  · intro x hxm
    rcases List.mem_cons.mp (o2.mem_iff.mp hxm) with rfl | hxr
    · exact ⟨k, hk, hy⟩
    · obtain ⟨q, hq, hq'⟩ := H.rep x (List.mem_cons_of_mem _ hxr)
      have hqk : k ≠ q := by
        intro e
        exact hne x hxr (by rw [hq'.1, e])
      refine ⟨q, hq, ?_⟩
      unfold isAt at hq' ⊢
      rw [cnt_snoc, if_neg hqk, Nat.add_zero]
      exact hq'
  · intro q hq
    obtain ⟨x, hxm, e⟩ := H.all q hq
    rcases List.mem_cons.mp hxm with rfl | hxr
    · exact ⟨y, o2.mem_iff.mpr (List.mem_cons_self ..), hky.trans e⟩
    · exact ⟨x, o2.mem_iff.mpr (List.mem_cons_of_mem _ hxr), e⟩
  · have := (o2.map Item.k).nodup_iff.mpr (by
      rw [List.map_cons, List.nodup_cons, hky]
      exact hd)
    exact this
end Mine
namespace Mine
section
variable {prog : Program} {w : World} {A : Around} {E : Value → Shared → Prop} {s : Shared}
theorem step_tup {it t : Addr} {i : Nat} {items : Array Value} {Q : Value → Shared → Prop} (hh : A.handled = none) (hit : s.heap.IsTupleIter it t i) (ht : s.heap.IsTuple t items)
    (yes : ∀ x h', items[i]? = some x → h'.IsTupleIter it t (i + 1) → Heap.SameBut it s.heap h' → Q x { s with heap := h' })
    (no : items[i]? = none → ∀ h' e, Heap.ExtBut it s.heap h' → (∃ o, h'.get? e = some o ∧ o.cls = .type "StopIteration") → E (.ref e) { s with heap := h' }) :
    wpAny (model prog w) A (Builtin.SmallTypes.nextOf (.ref it)) Q E s := by
  have hT := hit.typeIs
  obtain ⟨⟨_, _, _, _⟩, hi, rfl, rfl⟩ := hit
  obtain ⟨⟨_, _, _, _⟩, h2, rfl, nt, rfl⟩ := ht
  have hh1 : A.in1.handled = none := hh
  unfold Builtin.SmallTypes.nextOf
  refine wpAny_bind (wpAny_callSpecial?_slot (name := Str.ofString "__next__") hT F.slot_tuple_iterator_next (wpAny_call_entry F.slot_tuple_iterator_next hT F.entry_tuple_iterator_next ?_ (F.args_tuple_iterator_next_1 _)))
  cases hx : items[i]? with
  | some x =>
    wp_walk using wpAny_field hi rfl rfl, wpAny_seqItems h2 rfl, wpAny_setField hi rfl (by simp)
    rw [Int.toNat_natCast, hx]
    wp_walk using wpAny_setField hi rfl (by simp)
    exact ⟨x, rfl, wpAny_pure (yes x _ hx ⟨_, Heap.get?_update_self _ hi rfl, rfl, rfl⟩ (Heap.SameBut.update ..))⟩
  | none =>
    wp_walk using wpAny_field hi rfl rfl, wpAny_seqItems h2 rfl, wpAny_setField hi rfl (by simp)
    rw [Int.toNat_natCast, hx]
    wp_walk using wpAny_setField hi rfl (by simp)
    unfold raiseNew
    wp_walk
    exact no hx _ _ (((Heap.SameBut.update ..).extBut.push _).push _) ⟨_, Heap.get?_push_size _ rfl, rfl⟩
theorem draws_tup (hh : A.handled = none) (it t : Addr) (hne : t ≠ it) (items : Array Value) :
    Draws prog w A it [it, t] items.size (fun i v => items[i]? = some v) (fun i h => h.IsTupleIter it t i ∧ h.IsTuple t items) where
  live := fun _ _ st => st.1.imp fun _ r => r.1
  frame := fun _ _ _ ⟨⟨o, ho, r⟩, ⟨u, hu, q⟩⟩ keep => ⟨⟨o, keep _ (.head _) _ ho, r⟩, ⟨u, keep _ (.tail _ (.head _)) _ hu, q⟩⟩
  item := fun i s _ _ lt st got => step_tup hh st.1 st.2 (fun x h' e a b => got x h' s.toks e ⟨a, st.2.extBut b.extBut hne⟩ b) fun e => absurd (e ▸ Array.getElem?_eq_getElem lt) (by simp)
  done := fun _ _ _ st out => step_tup hh st.1 st.2 (fun _ _ e => absurd ((Array.getElem?_eq_none (Nat.le_refl _)).symm.trans e) (by simp)) fun _ => out
end
theorem enum_of_tup (t : Addr) (items : Array Value) : Meets (Builtin.«enumerate.__new__» ⟨[.type "enumerate", .ref t], []⟩) fun _ R s => s.heap.IsTuple t items ∧
    ∀ h', IsEnum h' (s.heap.objs.size + 1) s.heap.objs.size 0 .none → h'.IsTupleIter s.heap.objs.size t 0 → (∀ b o, s.heap.get? b = some o → h'.get? b = some o) →
      R (.ok (.ret (.ref (s.heap.objs.size + 1)))) { s with heap := h' } :=
  .of_wp fun prog w A R s h => by
    obtain ⟨ht, h⟩ := h
    have mine := sub_enumerate
    have fin := h ((s.heap.push { cls := .type "tuple_iterator", data := .fields #[.ref t, .int 0 0] }).push { cls := .type "enumerate", data := .fields #[.none, .bool false, .ref s.heap.objs.size, rawInt 0, .none, .none] })
      ((congrArg _ (Heap.size_push ..).symm).trans (Heap.get?_push_size _ rfl)) ⟨_, Heap.get?_push_of_some _ (Heap.get?_push_size _ rfl), rfl, rfl⟩ fun b o e => Heap.get?_push_of_some _ (Heap.get?_push_of_some _ e)
    rw [← Heap.size_push s.heap { cls := .type "tuple_iterator", data := .fields #[.ref t, .int 0 0] }] at fin
    wp_walk
    refine wpAny_stack_any fun st => wpAny_pure ?_
    generalize (PySem.Builtin.SmallTypes.calledThroughType.match_1 _ _ _ _) = c
    cases c
    all_goals
      wp_walk using wpAny_pyIter_tuple ht
      exact ⟨_, rfl, fin⟩
section
variable {prog : Program} {w : World} {A : Around} {E : Value → Shared → Prop} {s : Shared}
theorem call_enum_tup {t : Addr} {items : Array Value} {Q : Value → Shared → Prop} (ht : s.heap.IsTuple t items)
    (h : ∀ h', IsEnum h' (s.heap.objs.size + 1) s.heap.objs.size 0 .none → h'.IsTupleIter s.heap.objs.size t 0 → (∀ b o, s.heap.get? b = some o → h'.get? b = some o) → Q (.ref (s.heap.objs.size + 1)) { s with heap := h' }) :
    wpAny (model prog w) A (call (.type "enumerate") [.ref t]) Q E s :=
  callType_new F.called_enumerate (by decide) (F.typeCall_enumerate_1 _) (F.newCall_enumerate_1 _) (fun _ => F.args_object_init_2 _ _) F.entry_enumerate_new (enum_of_tup t items) ⟨ht, fun h' a b c => ⟨⟨_, a, rfl⟩, h h' a b c⟩⟩
end
end Mine
namespace Mine
section
variable {prog : Program} {w : World} {A : Around} {E : Value → Shared → Prop} {s : Shared} {env : Env} {h₀ : Heap} {x : Str} {px : Pos} {body : List Stmt} {Q : Flow → Shared → Prop}
noncomputable def RngEndT {σ : Type} (h₀ : Heap) (L : Addr) (Led : σ → List (Addr × Obj)) (stored : List Str) (m₀ : Str → Option Value) (Pn : σ → Prop) (io : Addr × Obj) (s₁ s₂ : Shared) : Prop :=
  ∃ (c : σ) (h' : Heap) (tk : Nat) (m' : Str → Option Value) (news' : List (Addr × Obj)), s₂ = { s₁ with heap := h', toks := tk } ∧ Fr h₀ L h' m' ∧ News h₀ L h' news' ∧ (∀ p ∈ Led c, p ∈ news') ∧ io ∈ news' ∧ (∀ p ∈ Led c, p.1 ≠ io.1) ∧
    (∀ z, stored.contains z = false → m' z = m₀ z) ∧ Pn c
noncomputable def RngPostT {σ : Type} (h₀ : Heap) (L : Addr) (Led : σ → List (Addr × Obj)) (stored : List Str) (m₀ : Str → Option Value) (Pn : σ → Prop) (io : Addr × Obj) (s₁ : Shared) (f : Flow) (s₂ : Shared) : Prop :=
  f = .next ∧ RngEndT h₀ L Led stored m₀ Pn io s₁ s₂
theorem rng_endT {σ : Type} {L : Addr} {Led : σ → List (Addr × Obj)} {stored : List Str} {m₀ m' : Str → Option Value} {Pn : σ → Prop} {io : Addr × Obj} {s₁ : Shared} {h' : Heap} {tk : Nat} {news' : List (Addr × Obj)} (c : σ)
    (F : Fr h₀ L h' m') (N : News h₀ L h' news') (hn : ∀ p ∈ Led c, p ∈ news') (hio : io ∈ news') (ho : ∀ p ∈ Led c, p.1 ≠ io.1) (hr : ∀ z, stored.contains z = false → m' z = m₀ z) (hp : Pn c) :
    RngPostT h₀ L Led stored m₀ Pn io s₁ .next { s₁ with heap := h', toks := tk } := ⟨rfl, c, h', tk, m', news', rfl, F, N, hn, hio, ho, hr, hp⟩
theorem loop_rngT {σ : Type} {I : Addr} {a c : Int} {n : Nat} {m₀ : Str → Option Value} (Led : σ → List (Addr × Obj)) (stored : List Str) (P : Nat → σ → Prop) (c₀ : σ)
    (hh : A.handled = none) (hit : IsRangeIter s.heap I a n c) (hI0 : h₀.get? I = none) (hIL : env.locals ≠ I) (hoff : ∀ p ∈ Led c₀, p.1 ≠ I)
    (F : Fr h₀ env.locals s.heap m₀) (N : News h₀ env.locals s.heap (Led c₀)) (hp : P 0 c₀)
    (turn : ∀ (i : Nat) (b : σ) (u : Str → Option Value) (t : Tok) (s₁ : Shared) (io : Obj), i < n → P i b → (∀ p ∈ Led b, p.1 ≠ I) →
      Fr h₀ env.locals s₁.heap (fun y => if stored.contains y then u y else m₀ y) → News h₀ env.locals s₁.heap ((I, io) :: Led b) →
      wpAny (model prog w) A (assign (.Name x px) env (.int (a + i * c) t)) (fun _ s₃ => wpAny (model prog w) A (execs body env) (RngPostT h₀ env.locals Led stored m₀ (P (i + 1)) (I, io) s₁) E s₃) E s₁)
    (done : ∀ (b : σ) (u : Str → Option Value) h tk, P n b → Fr h₀ env.locals h (fun y => if stored.contains y then u y else m₀ y) → News h₀ env.locals h (Led b) → Q .next { s with heap := h, toks := tk }) :
    LoopAtT prog w A h₀ env (.Name x px) body Q E (.ref I) s := by
  have W := Walks.range (prog := prog) (w := w) hh I a c n
  let J : Nat → (Str → Option Value) → List (Addr × Obj) → Prop := fun i m nx => ∃ b : σ, nx = Led b ∧ (∀ z, stored.contains z = false → m z = m₀ z) ∧ P i b
  have frE : ∀ {h : Heap} {m : Str → Option Value}, (∀ z, stored.contains z = false → m z = m₀ z) → Fr h₀ env.locals h m → Fr h₀ env.locals h (fun y => if stored.contains y then m y else m₀ y) := by
    intro h m hz F
    have e : (fun y => if stored.contains y then m y else m₀ y) = m := by
      funext y
      by_cases hy : stored.contains y = true
      · rw [if_pos hy]
      · rw [if_neg hy]; exact (hz y (by simpa using hy)).symm
    rw [e]; exact F
  refine ⟨I, [I], [I], n, _, _, m₀, Led c₀, J, rfl, W, ?_, ?_, ?_, ?_, F, N, ?_, ⟨c₀, rfl, fun _ _ => rfl, hp⟩, ?_, ?_⟩
  · intro hm; exact hIL (List.mem_singleton.mp hm)
  · intro b hb; rw [List.mem_singleton.mp hb]; exact hI0
  · intro p hp' hm; exact hoff p hp' (List.mem_singleton.mp hm)
  · show IsRangeIter _ _ _ _ _
    simpa using hit
  · intro i s' v Q' _ hQ
    exact wpAny_pure hQ
  · rintro i v m₁ news₁ s₁ own hi ⟨t, rfl⟩ ⟨b, rfl, h2, hP⟩ hnw hown hget hall hst F₁ N₁
    obtain ⟨io, hst'⟩ : ∃ io, s₁.heap.get? I = some io := ⟨_, hst⟩
    have hio := hall I (List.mem_singleton.mpr rfl) hI0 io hst'
    have ho' : ∀ p ∈ Led b, p.1 ≠ I := fun p hp' e => hnw p hp' (by rw [e]; exact List.mem_singleton.mpr rfl)
    have N₂ : News h₀ env.locals s₁.heap ((I, io) :: Led b) := fun p hp' => by
      rcases List.mem_cons.mp hp' with rfl | hp'
      · exact N₁ _ (List.mem_append_left _ hio)
      · exact N₁ _ (List.mem_append_right _ hp')
    refine wpAny_mono (turn i b m₁ t s₁ io hi hP ho' (frE h2 F₁) N₂) (fun _ s₃ q => wpAny_mono q (fun f s₂ p => ?_) fun _ _ e => e) fun _ _ e => e
    obtain ⟨rfl, b', h', tk', m', news', e, F', N', hn, hio', hoff', hr', hP'⟩ := p
    refine ⟨rfl, h', tk', m', Led b', e, F', fun p hp' => ?_, fun p hp' hm => hoff' p hp' (List.mem_singleton.mp hm), ⟨b', rfl, hr', hP'⟩⟩
    rcases List.mem_append.mp hp' with h3 | h3
    · have e1 : p.1 = I := List.mem_singleton.mp (hown p h3)
      have e2 := hget p h3
      rw [e1, show s₁.heap.get? I = some io from hst'] at e2
      have e3 : p = (I, io) := Prod.ext e1 (Option.some.inj e2).symm
      rw [e3]
      exact N' _ hio'
    · exact N' _ (hn p h3)
  · rintro h' tk m' news' F' N' _ ⟨b, rfl, h2, hP⟩
    exact done b m' h' tk hP (frE h2 F') N'
theorem for_rangeT {σ : Type} {n : Nat} {t : Tok} {m₀ : Str → Option Value} (Led : σ → List (Addr × Obj)) (stored : List Str) (P : Nat → σ → Prop) (c₀ : σ)
    (hn : n ≤ 64) (hh : A.handled = none) (F : Fr h₀ env.locals s.heap m₀) (N : News h₀ env.locals s.heap (Led c₀)) (hp : P 0 c₀)
    (turn : ∀ (I : Addr) (i : Nat) (b : σ) (u : Str → Option Value) (t : Tok) (s₁ : Shared) (io : Obj), i < n → P i b → (∀ p ∈ Led b, p.1 ≠ I) →
      Fr h₀ env.locals s₁.heap (fun y => if stored.contains y then u y else m₀ y) → News h₀ env.locals s₁.heap ((I, io) :: Led b) →
      wpAny (model prog w) A (assign (.Name x px) env (.int (i : Int) t)) (fun _ s₃ => wpAny (model prog w) A (execs body env) (RngPostT h₀ env.locals Led stored m₀ (P (i + 1)) (I, io) s₁) E s₃) E s₁)
    (done : ∀ (b : σ) (u : Str → Option Value) h tk, P n b → Fr h₀ env.locals h (fun y => if stored.contains y then u y else m₀ y) → News h₀ env.locals h (Led b) → Q .next { s with heap := h, toks := tk }) :
    wpAny (model prog w) A (call (.type "range") [.int (n : Int) t]) (fun xv s₁ => wpAny (model prog w) A (pyIter xv) (fun it s₂ => LoopAtT prog w A h₀ env (.Name x px) body Q E it s₂) E s₁) E s := by
  refine range1_rows F N ?_
  intro h' tk t₁ u₁ v₁ hR F' N' _
  refine wpAny_pyIter_range hR (small_n n hn) ?_
  rw [rngSize n]
  refine loop_rngT (a := 0) (c := 1) (n := n) Led stored P c₀ hh (Heap.get?_push_size _ rfl) (next_is_new F') (Nat.ne_of_lt F'.ns.lt) (fun p hp => Nat.ne_of_lt (Heap.lt_size (N' p hp).1)) (F'.push _)
    (fun p hp => ⟨Heap.get?_push_of_some _ (N' p hp).1, (N' p hp).2⟩) hp ?_ ?_
  · intro i b u t s₁ io hi hP hoff F₁ N₁
    have e : (0 : Int) + (i : Int) * 1 = (i : Int) := by (first | lia | omega)
    rw [e]
    exact turn _ i b u t s₁ io hi hP hoff F₁ N₁
  · intro b u h tk hP F₁ N₁
    exact done b u h tk hP F₁ N₁
end
end Mine
namespace Mine
section
variable {prog : Program} {w : World} {A : Around} {E : Value → Shared → Prop} {s : Shared} {env : Env} {h₀ : Heap} {target : PySem.Expr} {body orelse : List Stmt} {Q : Flow → Shared → Prop}
noncomputable def ElsPost {σ : Type} (h₀ : Heap) (L : Addr) (Led : σ → List (Addr × Obj)) (stored : List Str) (m₀ : Str → Option Value) (Pn : σ → Prop) (io : Addr × Obj) (s₁ : Shared) (Q : Flow → Shared → Prop) (f : Flow) (s₂ : Shared) : Prop :=
  match f with
  | .ret v => Q (.ret v) s₂
  | .brk => Q .next s₂
  | _ => RngEndT h₀ L Led stored m₀ Pn io s₁ s₂
theorem fr_stored {h : Heap} {L : Addr} {m m₀ : Str → Option Value} {stored : List Str} (hz : ∀ z, stored.contains z = false → m z = m₀ z) (F : Fr h₀ L h m) : Fr h₀ L h (fun y => if stored.contains y then m y else m₀ y) := by
  have e : (fun y => if stored.contains y then m y else m₀ y) = m := by
    funext y
    by_cases hy : stored.contains y = true
    · rw [if_pos hy]
    · rw [if_neg hy]; exact (hz y (by simpa using hy)).symm
  rw [e]; exact F
noncomputable abbrev TInv {σ : Type} (s : Shared) (h₀ : Heap) (L I t : Addr) (items : Array Value) (Led : σ → List (Addr × Obj)) (stored : List Str) (m₀ : Str → Option Value) (P : Nat → σ → Prop) (k : Nat) (s' : Shared) : Prop :=
  ∃ (h' : Heap) (tk : Nat) (m' : Str → Option Value) (i : Nat) (b : σ), s' = { s with heap := h', toks := tk } ∧ (h'.IsTupleIter I t i ∧ h'.IsTuple t items) ∧ Fr h₀ L h' m' ∧ News h₀ L h' (Led b) ∧ (∀ p ∈ Led b, p.1 ≠ I) ∧ (∀ z, stored.contains z = false → m' z = m₀ z) ∧ P i b ∧ i ≤ items.size ∧ k = items.size + 1 - i
theorem forelse_tup {σ : Type} {t : Addr} {lo : Obj} {items : Array Value} {nn : Nat} {m₀ : Str → Option Value} (Led : σ → List (Addr × Obj)) (stored : List Str) (P : Nat → σ → Prop) (c₀ : σ) (hh : A.handled = none)
    (hg : h₀.get? t = some lo) (hc : lo.cls = .type "tuple") (hd : lo.data = .seq items nn) (F : Fr h₀ env.locals s.heap m₀) (N : News h₀ env.locals s.heap (Led c₀)) (hp : P 0 c₀)
    (turn : ∀ (I : Addr) (i : Nat) (b : σ) (u : Str → Option Value) (v : Value) (h : Heap) (tk : Nat) (io : Obj), items[i]? = some v → P i b → (∀ p ∈ Led b, p.1 ≠ I) → (∀ p ∈ Led c₀, p.1 < I) →
      Fr h₀ env.locals h (fun y => if stored.contains y then u y else m₀ y) → News h₀ env.locals h ((I, io) :: Led b) →
      wpAny (model prog w) A (assign target env v) (fun _ s₃ => wpAny (model prog w) A (execs body env) (ElsPost h₀ env.locals Led stored m₀ (P (i + 1)) (I, io) { s with heap := h, toks := tk } Q) E s₃) E { s with heap := h, toks := tk })
    (done : ∀ (b : σ) (u : Str → Option Value) h tk, P items.size b → Fr h₀ env.locals h (fun y => if stored.contains y then u y else m₀ y) → News h₀ env.locals h (Led b) → wpAny (model prog w) A (execs orelse env) Q E { s with heap := h, toks := tk })
    (hE : PassesOwn (model prog w) A env E) :
    wpAny (model prog w) A (pyIter (.ref t)) (fun it s₂ => codeAny (model prog w) A (.forLoop target it body orelse env) (fun r s' => match r with | .ok f => Q f s' | .error e => cameBackBy (model prog w) A env E e s') s₂) E s := by
  have hl : s.heap.IsTuple t items := ⟨lo, F.keep _ _ hg, hc, nn, hd⟩
  have hlt : t < s.heap.objs.size := Heap.lt_size (F.keep _ _ hg)
  have hne : t ≠ s.heap.objs.size := Nat.ne_of_lt hlt
  refine wpAny_pyIter_tuple hl ?_
  have W := Walks.tuple (prog := prog) (w := w) hh s.heap.objs.size t hne items
  have hI0 : h₀.get? s.heap.objs.size = none := next_is_new F
  have hIL : env.locals ≠ s.heap.objs.size := Nat.ne_of_lt F.ns.lt
  have hlI : ∀ p ∈ Led c₀, p.1 < s.heap.objs.size := fun p hp => Heap.lt_size (N p hp).1
  refine codeAny_forLoop_any (TInv s h₀ env.locals s.heap.objs.size t items Led stored m₀ P)
    ?_ (items.size + 1) ⟨_, s.toks, m₀, 0, c₀, rfl, ⟨⟨_, Heap.get?_push_size _ rfl, rfl, rfl⟩, hl.push _⟩, F.push _, fun p hp => ⟨Heap.get?_push_of_some _ (N p hp).1, (N p hp).2⟩, fun p hp => Nat.ne_of_lt (hlI p hp), fun _ _ => rfl, hp, Nat.zero_le _, rfl⟩
  rintro k s' ⟨h', tk, m', i, b, rfl, hst', F', N', hoff, hz, hP, hi, rfl⟩
  have old : ∀ b o, h₀.get? b = some o → b ∉ [s.heap.objs.size] := fun b o e hb => by rw [List.mem_singleton.mp hb, hI0] at e; cases e
  have next : ∀ h₁ : Heap, (∀ b o, b ∉ [s.heap.objs.size] → h'.get? b = some o → h₁.get? b = some o) → Fr h₀ env.locals h₁ m' ∧ News h₀ env.locals h₁ (Led b) := fun h₁ hk₁ =>
    ⟨⟨F'.ns.at' fun o e => hk₁ _ o (by simpa using hIL) e, fun b o e => hk₁ b o (old b o e) (F'.keep b o e), F'.above⟩, fun p hp => ⟨hk₁ _ _ (by simpa using hoff p hp) (N' p hp).1, (N' p hp).2⟩⟩
  by_cases hlt' : i < items.size
  · refine W.item i _ _ _ hlt' hst' fun v h₁ tk₁ hPv hst₁ hk₁ => ?_
    obtain ⟨F₁, N₁⟩ := next h₁ hk₁
    refine letGo_tupleiter hst₁.1 ?_
    obtain ⟨io, hio, _⟩ := id hst₁.1
    have N₂ : News h₀ env.locals h₁ ((s.heap.objs.size, io) :: Led b) := fun p hp => by
      rcases List.mem_cons.mp hp with rfl | hp
      · exact ⟨hio, Ne.symm hIL, hI0⟩
      · exact N₁ p hp
    refine wpAny_mono (turn _ i b m' v h₁ tk₁ io hPv hP hoff hlI (fr_stored hz F₁) N₂) (fun _ s₂ h₂ => wpAny_mono (wpAny_passesOwn hE h₂) (fun f s₃ h₃ => ?_) fun _ _ e => e) hE
    have fin : RngEndT h₀ env.locals Led stored m₀ (P (i + 1)) (s.heap.objs.size, io) { s with heap := h₁, toks := tk₁ } s₃ → ∃ m, m < items.size + 1 - i ∧ TInv s h₀ env.locals s.heap.objs.size t items Led stored m₀ P m s₃ := by
      rintro ⟨c, h4, tk4, m4, news4, rfl, F4, N4, hn4, hio4, ho4, hr4, hP4⟩
      have hit4 : h4.get? s.heap.objs.size = some io := (N4 _ hio4).1
      refine ⟨items.size + 1 - (i + 1), by (first | lia | omega), h4, tk4, m4, i + 1, c, rfl, ⟨?_, ⟨lo, F4.keep _ _ hg, hc, nn, hd⟩⟩, F4, fun p hp => N4 p (hn4 p hp), fun p hp => ho4 p hp, hr4, hP4, hlt', rfl⟩
      obtain ⟨o5, q5, r5⟩ := hst₁.1
      rw [hio] at q5
      cases q5
      exact ⟨_, hit4, r5⟩
    cases f with
    | ret v => exact h₃
    | brk => exact h₃
    | next => exact fin h₃
    | cont => exact fin h₃
  · have hin : i = items.size := by (first | lia | omega)
    subst hin
    refine W.done _ _ _ hst' fun h₁ tk₁ hk₁ => ?_
    obtain ⟨F₁, N₁⟩ := next h₁ hk₁
    exact wpAny_passesOwn hE (done b m' h₁ tk₁ hP (fr_stored hz F₁) N₁)
noncomputable def EnumPost {σ : Type} (h₀ : Heap) (L : Addr) (Led : σ → List (Addr × Obj)) (stored : List Str) (m₀ : Str → Option Value) (Pn : σ → Prop) (eo io : Addr × Obj) (s₁ : Shared) (f : Flow) (s₂ : Shared) : Prop :=
  f = .next ∧ ∃ (c : σ) (h' : Heap) (tk : Nat) (m' : Str → Option Value) (news' : List (Addr × Obj)), s₂ = { s₁ with heap := h', toks := tk } ∧ Fr h₀ L h' m' ∧ News h₀ L h' news' ∧ (∀ p ∈ Led c, p ∈ news') ∧ eo ∈ news' ∧ io ∈ news' ∧ (∀ p ∈ Led c, p.1 ≠ eo.1 ∧ p.1 ≠ io.1) ∧
    (∀ z, stored.contains z = false → m' z = m₀ z) ∧ Pn c
theorem enum_end {σ : Type} {L : Addr} {Led : σ → List (Addr × Obj)} {stored : List Str} {m₀ m' : Str → Option Value} {Pn : σ → Prop} {eo io : Addr × Obj} {s₁ : Shared} {h' : Heap} {tk : Nat} {news' : List (Addr × Obj)} (c : σ)
    (F : Fr h₀ L h' m') (N : News h₀ L h' news') (hn : ∀ p ∈ Led c, p ∈ news') (heo : eo ∈ news') (hio : io ∈ news') (ho : ∀ p ∈ Led c, p.1 ≠ eo.1 ∧ p.1 ≠ io.1) (hr : ∀ z, stored.contains z = false → m' z = m₀ z) (hp : Pn c) :
    EnumPost h₀ L Led stored m₀ Pn eo io s₁ .next { s₁ with heap := h', toks := tk } := ⟨rfl, c, h', tk, m', news', rfl, F, N, hn, heo, hio, ho, hr, hp⟩
theorem for_enum_tup {σ : Type} {elts : List PySem.Expr} {kk : Nat} {tpos : Pos} {t : Addr} {lo : Obj} {items : Array Value} {nn : Nat} {m₀ : Str → Option Value} (Led : σ → List (Addr × Obj)) (stored : List Str) (P : Nat → σ → Prop) (c₀ : σ) (hh : A.handled = none)
    (hg : h₀.get? t = some lo) (hc : lo.cls = .type "tuple") (hd : lo.data = .seq items nn) (F : Fr h₀ env.locals s.heap m₀) (N : News h₀ env.locals s.heap (Led c₀)) (hp : P 0 c₀)
    (turn : ∀ (e it : Addr) (oe oi : Obj) (i : Nat) (b : σ) (u : Str → Option Value) (T : Addr) (ut : Tok) (x : Value) (h : Heap) (tk : Nat), items[i]? = some x → h.IsTuple T #[.int (i : Int) ut, x] → P i b → (∀ p ∈ Led b, p.1 ≠ e ∧ p.1 ≠ it) →
      Fr h₀ env.locals h (fun y => if stored.contains y then u y else m₀ y) → News h₀ env.locals h ((e, oe) :: (it, oi) :: Led b) →
      wpAny (model prog w) A (assign (.Tuple elts kk tpos) env (.ref T)) (fun _ s₃ => wpAny (model prog w) A (execs body env) (EnumPost h₀ env.locals Led stored m₀ (P (i + 1)) (e, oe) (it, oi) { s with heap := h, toks := tk }) E s₃) E { s with heap := h, toks := tk })
    (done : ∀ (b : σ) (u : Str → Option Value) h tk, P items.size b → Fr h₀ env.locals h (fun y => if stored.contains y then u y else m₀ y) → News h₀ env.locals h (Led b) → Q .next { s with heap := h, toks := tk }) :
    wpAny (model prog w) A (call (.type "enumerate") [.ref t]) (fun x s₁ => wpAny (model prog w) A (pyIter x) (fun it s₂ => TurnsAt prog w A h₀ env (.Tuple elts kk tpos) body Q E it s₂) E s₁) E s := by
  have hl : s.heap.IsTuple t items := ⟨lo, F.keep _ _ hg, hc, nn, hd⟩
  have hlt : @LT.lt Nat _ t s.heap.objs.size := Heap.lt_size (F.keep _ _ hg)
  refine call_enum_tup hl fun h1 he1 hi1 hk1 => ?_
  refine wpAny_pyIter_enum he1 ?_
  have hno : ∀ a, s.heap.objs.size ≤ a → h₀.get? a = none := fun a ha => by
    cases q : h₀.get? a with
    | none => rfl
    | some o => exact absurd (Heap.lt_size (F.keep a o q)) (Nat.not_lt.mpr ha)
  have hI0 : h₀.get? s.heap.objs.size = none := hno _ (Nat.le_refl _)
  have hE0 : h₀.get? (s.heap.objs.size + 1) = none := hno _ (Nat.le_succ _)
  have hlI : ∀ p ∈ Led c₀, p.1 < s.heap.objs.size := fun p hp => Heap.lt_size (N p hp).1
  have hLt : @LT.lt Nat _ env.locals s.heap.objs.size := F.ns.lt
  have inWr : ∀ b : Addr, b ∈ [s.heap.objs.size + 1, s.heap.objs.size] → b = s.heap.objs.size + 1 ∨ b = s.heap.objs.size := fun b hb => by
    rcases List.mem_cons.mp hb with q | hb
    · exact .inl q
    · exact .inr (List.mem_singleton.mp hb)
  have hef : s.heap.objs.size + 1 ∉ [s.heap.objs.size, t] := fun h => by
    rcases List.mem_cons.mp h with q | h
    · exact Nat.succ_ne_self _ q
    · exact Nat.ne_of_gt (Nat.lt_succ_of_lt hlt) (List.mem_singleton.mp h)
  let J : Nat → (Str → Option Value) → List (Addr × Obj) → Prop := fun i m nx => ∃ b : σ, nx = Led b ∧ (∀ z, stored.contains z = false → m z = m₀ z) ∧ P i b
  refine ⟨s.heap.objs.size + 1, _, _, items.size, _, _, _, m₀, Led c₀, J, rfl, KTurns.ofWalksU (WalksT.enumerateD (draws_tup (prog := prog) (w := w) (A := A.in1) hh s.heap.objs.size t (Nat.ne_of_lt hlt) items) (s.heap.objs.size + 1) (Nat.succ_ne_self _) hef (.head _)).toU, ?_, ?_, ?_,
    ⟨⟨_, he1⟩, hi1, ⟨lo, hk1 _ _ (F.keep _ _ hg), hc, nn, hd⟩⟩, F.keeps hk1, N.grown hk1, ⟨c₀, rfl, fun _ _ => rfl, hp⟩, ?_, ?_⟩
  · intro hm
    rcases List.mem_cons.mp hm with q | hm
    · exact absurd (Nat.lt_succ_of_lt hLt) (by rw [q]; exact Nat.lt_irrefl _)
    · rcases List.mem_cons.mp hm with q | hm
      · exact absurd hLt (by rw [q]; exact Nat.lt_irrefl _)
      · exact absurd (Heap.lt_size hg) (Nat.not_lt.mpr ((List.mem_singleton.mp hm) ▸ F.above))
  · intro b hb
    rcases inWr b hb with rfl | rfl
    · exact hE0
    · exact hI0
  · intro p hp hb
    rcases inWr _ hb with q | q
    · exact absurd (Nat.lt_succ_of_lt (hlI p hp)) (by rw [q]; exact Nat.lt_irrefl _)
    · exact absurd (hlI p hp) (by rw [q]; exact Nat.lt_irrefl _)
  · rintro i v m₁ news₁ h₁ tk₁ own hi ⟨T, vals, rfl, ⟨ut, x, hx, rfl⟩, hT⟩ ⟨b, rfl, hz, hP⟩ hnw hown hget hall ⟨⟨oldv, hen⟩, ⟨oi, hoi, ri⟩, _⟩ F₁ N₁
    obtain ⟨oe, hoe⟩ : ∃ oe, h₁.get? (s.heap.objs.size + 1) = some oe := ⟨_, hen⟩
    have m1 := hall _ (.head _) hE0 oe hoe
    have m2 := hall _ (.tail _ (.head _)) hI0 oi hoi
    have hoff : ∀ p ∈ Led b, p.1 ≠ s.heap.objs.size + 1 ∧ p.1 ≠ s.heap.objs.size := fun p hp => ⟨fun q => hnw p hp (by rw [q]; exact .head _), fun q => hnw p hp (by rw [q]; exact .tail _ (.head _))⟩
    have N₃ : News h₀ env.locals h₁ ((s.heap.objs.size + 1, oe) :: (s.heap.objs.size, oi) :: Led b) := fun p hp => by
      rcases List.mem_cons.mp hp with rfl | hp
      · exact N₁ _ (List.mem_append_left _ m1)
      · rcases List.mem_cons.mp hp with rfl | hp
        · exact N₁ _ (List.mem_append_left _ m2)
        · exact N₁ _ (List.mem_append_right _ hp)
    refine wpAny_mono (turn _ _ oe oi i b m₁ T ut x h₁ tk₁ hx hT hP hoff (fr_stored hz F₁) N₃) (fun _ s₂ h₂' => wpAny_mono h₂' (fun f s₃ h₃ => ?_) fun _ _ e => e) fun _ _ e => e
    obtain ⟨rfl, c, h4, tk4, m4, news4, rfl, F4, N4, hn4, heo4, hio4, ho4, hr4, hP4⟩ := h₃
    refine .next ⟨rfl, h4, tk4, m4, Led c, rfl, F4, fun p hp => ?_, fun p hp hb => ?_, ⟨c, rfl, hr4, hP4⟩⟩
    · rcases List.mem_append.mp hp with hp | hp
      · have e2 := hget p hp
        obtain ⟨pa, po⟩ := p
        rcases List.mem_cons.mp (hown _ hp) with q | q
        · have q' : pa = s.heap.objs.size + 1 := q
          subst q'
          have : oe = po := Option.some.inj (hoe.symm.trans e2)
          subst this
          exact N4 _ heo4
        · rcases List.mem_cons.mp q with q | q
          · have q' : pa = s.heap.objs.size := q
            subst q'
            have : oi = po := Option.some.inj (hoi.symm.trans e2)
            subst this
            exact N4 _ hio4
          · have q' : pa = t := List.mem_singleton.mp q
            have n0 : h₀.get? pa = none := (N₁ _ (List.mem_append_left _ hp)).2.2
            rw [q', hg] at n0
            cases n0
      · exact N4 p (hn4 p hp)
    · rcases inWr _ hb with q | q
      · exact (ho4 p hp).1 q
      · exact (ho4 p hp).2 q
  · rintro h' tk m' news' F' N' _ ⟨b, rfl, h2, hP⟩
    exact done b m' h' tk hP (fr_stored h2 F') N'
end
end Mine
namespace Mine
noncomputable def three (r : Nat) : List Nat := ([[45, 45, 45], [45, 45, 120], [45, 119, 45], [45, 119, 120], [114, 45, 45], [114, 45, 120], [114, 119, 45], [114, 119, 120]].getD r [])
noncomputable def lstg (i r : Nat) : List Nat := [100, 45, 108, 112].getD i 0 :: (three r ++ (three r ++ three r))
noncomputable def ftab : List (Addr × List (Addr × Nat × Tok × Nat × Tok)) := [(92, [(85, 40960, 250, 108, 299), (86, 49152, 252, 115, 300), (87, 32768, 246, 45, 301), (88, 24576, 244, 98, 302), (89, 16384, 240, 100, 303), (90, 8192, 242, 99, 304), (91, 4096, 248, 112, 305)]),
  (94, [(93, 256, 281, 114, 306)]),
  (96, [(95, 128, 283, 119, 307)]),
  (100, [(97, 2112, 308, 115, 309), (98, 2048, 275, 83, 310), (99, 64, 285, 120, 311)]),
  (102, [(101, 32, 287, 114, 312)]),
  (104, [(103, 16, 289, 119, 313)]),
  (108, [(105, 1032, 314, 115, 315), (106, 1024, 277, 83, 316), (107, 8, 291, 120, 317)]),
  (110, [(109, 4, 293, 114, 318)]),
  (112, [(111, 2, 295, 119, 319)]),
  (116, [(113, 513, 320, 116, 321), (114, 512, 279, 84, 322), (115, 1, 297, 120, 323)])]
noncomputable def entObj (e : Addr × Nat × Tok × Nat × Tok) : Obj := { cls := .type "tuple", data := .seq #[.int (e.2.1 : Int) e.2.2.1, .str (S [e.2.2.2.1]) e.2.2.2.2] }
noncomputable def rowVals (r : Addr × List (Addr × Nat × Tok × Nat × Tok)) : List Value := r.2.map fun e => Value.ref e.1
noncomputable def rowObj (r : Addr × List (Addr × Nat × Tok × Nat × Tok)) : Obj := { cls := .type "tuple", data := .seq (rowVals r).toArray }
noncomputable def topVals : List Value := ftab.map fun r => Value.ref r.1
theorem top_is (P : Params) : (hd.heap_39 P).lookup 117 = some { cls := .type "tuple", data := .seq topVals.toArray } := by kernel_rfl
theorem row_is (P : Params) : ∀ r ∈ ftab, (hd.heap_39 P).lookup r.1 = some (rowObj r) := by
  unfold ftab
  repeat' (first | exact List.forall_mem_nil _ | refine List.forall_mem_cons.mpr ⟨?_, ?_⟩)
  all_goals kernel_rfl
theorem ent_is (P : Params) : ∀ r ∈ ftab, ∀ e ∈ r.2, (hd.heap_39 P).lookup e.1 = some (entObj e) := by
  unfold ftab
  repeat' (first | exact List.forall_mem_nil _ | refine List.forall_mem_cons.mpr ⟨?_, ?_⟩)
  all_goals kernel_rfl
noncomputable def tst (st : Int) (idx bit : Nat) : Bool := if idx = 0 then Builtin.bitAnd st 61440 == (bit : Int) else Builtin.bitAnd st (bit : Int) == (bit : Int)
noncomputable def pickc (st : Int) (idx : Nat) (es : List (Addr × Nat × Tok × Nat × Tok)) : Nat := match es.find? fun e => tst st idx e.2.1 with
  | some e => e.2.2.2.1
  | none => if idx = 0 then 63 else 45
noncomputable def outP (st : Int) : List Nat := ftab.zipIdx.map fun p => pickc st p.2 p.1.2
theorem out_is : ∀ i, i < 4 → ∀ r, r < 8 → outP (stI i r) = lstg i r := by decide +kernel
theorem out_take (st : Int) (idx : Nat) (r : Addr × List (Addr × Nat × Tok × Nat × Tok)) (h : ftab[idx]? = some r) : (outP st).take (idx + 1) = (outP st).take idx ++ [pickc st idx r.2] := by
  rw [List.take_add_one]
  congr 1
  unfold outP
  rw [List.getElem?_map, List.getElem?_zipIdx, h]
  simp
theorem find_hit {α : Type} (p : α → Bool) : ∀ (l : List α) (q : Nat) (x : α), l[q]? = some x → (l.take q).find? p = none → p x = true → l.find? p = some x
  | [], _, _, h, _, _ => by simp at h
  | a :: l, 0, x, h, _, hx => by
    obtain rfl : a = x := by simpa using h
    rw [List.find?_cons, hx]
  | a :: l, q + 1, x, h, hn, hx => by
    rw [List.take_succ_cons, List.find?_cons] at hn
    rw [List.find?_cons]
    cases ha : p a with
    | true => rw [ha] at hn; simp at hn
    | false => rw [ha] at hn; exact find_hit p l q x (by simpa using h) hn hx
theorem find_miss {α : Type} (p : α → Bool) (l : List α) (q : Nat) (x : α) (h : l[q]? = some x) (hn : (l.take q).find? p = none) (hx : p x = false) : (l.take (q + 1)).find? p = none := by
  rw [List.take_add_one, h, List.find?_append, hn]
  simp [hx]
noncomputable def pvals (cs : List (Nat × Tok)) : List Value := cs.map fun c => Value.str (S [c.1]) c.2
theorem pvals_push (cs : List (Nat × Tok)) (c : Nat) (t : Tok) : (pvals cs).toArray.push (.str (S [c]) t) = (pvals (cs ++ [(c, t)])).toArray := by
  apply Array.toList_inj.mp
  simp [pvals]
theorem pvals_strs : ∀ cs : List (Nat × Tok), StrsAre (pvals cs) ((cs.map fun c => [c.1]).map S)
  | [] => .nil
  | _ :: cs => .cons _ _ (pvals_strs cs)
theorem flat_one (cs : List (Nat × Tok)) : (cs.map fun c => [c.1]).flatten = cs.map Prod.fst := by
  induction cs with
  | nil => rfl
  | cons c cs ih => simp only [List.map_cons, List.flatten_cons, ih]; rfl
theorem fm_take {st : Int} {idx : Nat} {row : Addr × List (Addr × Nat × Tok × Nat × Tok)} {cs : List (Nat × Tok)} {c : Nat} {t : Tok} (hrow : ftab[idx]? = some row) (hP : cs.map Prod.fst = (outP st).take idx) (hc : pickc st idx row.2 = c) : (cs ++ [(c, t)]).map Prod.fst = (outP st).take (idx + 1) := by
  rw [out_take st idx row hrow, ← hP, List.map_append, hc]
  rfl
theorem pick_hit {st : Int} {idx q : Nat} {es : List (Addr × Nat × Tok × Nat × Tok)} {e : Addr × Nat × Tok × Nat × Tok} (h : es[q]? = some e) (hn : (es.take q).find? (fun e => tst st idx e.2.1) = none) (ht : tst st idx e.2.1 = true) : pickc st idx es = e.2.2.2.1 := by
  unfold pickc
  rw [find_hit _ _ q _ h hn ht]
theorem pick_none {st : Int} {idx : Nat} {es : List (Addr × Nat × Tok × Nat × Tok)} (hn : es.find? (fun e => tst st idx e.2.1) = none) : pickc st idx es = if idx = 0 then 63 else 45 := by
  unfold pickc
  rw [hn]
end Mine
namespace Mine
structure FSt where
  cs : List (Nat × Tok)
  ep : Nat
theorem filemode_c (w : World) (i r : Nat) (hi : i < 4) (hr : r < 8) (t : Tok) (news : List (Addr × Obj)) : Ctr w 6 96 124 [.int (stI i r) t] news (fun v n' => n' = news ∧ ∃ t', v = .str (S (lstg i r)) t') := by
  have hout := out_is i hi r hr
  generalize hst : stI i r = st at hout ⊢
  (unfold Ctr; k_fill; intro mean mg mb dp un gd cn cs a ccd cl outer A₀ base h₀ L m s Q E B F X N T hk hdp hu hret; refine wpAny_call ?_; k_dflt ktr_enter; (show (let e9 : Env := _; let A9 : Around := Around.deeper _ e9; wpAny _ A9 (execs _ e9) _ _ _)); intro e9 A9)
  ((try dsimp only); (try k_fold); repeat' ((fail_if_success (with_reducible show wpAny _ _ (newList _) _ _ _)); first | (k_unfold; (try dsimp only)) | (k_end; wrow_close) | walk1 | (dsimp only; walk1) | (leave1; walk_say "STEP leave1"; try dsimp only) | fail "no step"); all_goals (repeat (k_unfold; (try dsimp only))))
  refine newList_K (by k_asm) (by k_asm) ?_
  intro pl h6 F6 N6 hlt6
  have hoff0 : ∀ p ∈ news, p.1 ≠ pl := fun p hp => Nat.ne_of_lt (hlt6 p hp)
  ((try dsimp only); (try k_fold); repeat' ((fail_if_success (with_reducible show wpAny _ _ (exec (PySem.Stmt.While _ _ _ _) _) _ _ _)); (fail_if_success (with_reducible show wpAny _ _ (exec (PySem.Stmt.For _ _ _ _ _) _) _ _ _)); (fail_if_success (with_reducible show wpAny _ _ (eval (PySem.Expr.ListComp _ _ _ _) _) _ _ _)); (fail_if_success (with_reducible show wpAny _ _ (subscriptTail _ _ (Value.ref _) _) _ _ _)); (fail_if_success (with_reducible show wpAny _ _ (setItem (Value.ref _) _ _) _ _ _)); (fail_if_success (with_reducible show wpAny _ _ (compareOp CmpOp.Lt (Value.ref _) (Value.ref _)) _ _ _)); (fail_if_success (with_reducible show wpAny _ _ (call (Value.ref _) _) _ _ _)); (fail_if_success (with_reducible show wpAny _ _ (call (Value.builtin "len") [Value.ref _]) _ _ _)); (fail_if_success (with_reducible show KswEnd _ _ _ _ _ _ _ _ _ _ _ _)); (fail_if_success (with_reducible show LoopStepU _ _ _ _ _ _ _ _)); (fail_if_success (with_reducible show InvEndN _ _ _ _ _ _ _)); (fail_if_success (with_reducible show RngEnd _ _ _ _ _ _ _ _ _ _ _)); (fail_if_success (with_reducible show RngPostT _ _ _ _ _ _ _ _ _ _)); (fail_if_success (with_reducible show ElsPost _ _ _ _ _ _ _ _ _ _ _)); (fail_if_success (with_reducible show EnumPost _ _ _ _ _ _ _ _ _ _ _)); (fail_if_success (with_reducible show LCg.CompEnd _ _ _ _ _ _ _ _ _ _ _ _ _ _)); first | (k_unfold; (try dsimp only)) | (k_end; wrow_close) | walk1 | (dsimp only; walk1) | (leave1; walk_say "STEP leave1"; try dsimp only) | fail "no step"); all_goals (repeat (k_unfold; (try dsimp only))))
  rename Frag.In _ _ => XI
  rename Fr _ _ _ _ => lF'
  refine For_turns lF' ?_ (by intro _; rfl)
  ((try dsimp only); (try k_fold); repeat' ((fail_if_success (with_reducible show wpAny _ _ (call (Value.type "enumerate") _) _ _ _)); first | (k_unfold; (try dsimp only)) | (k_end; wrow_close) | walk1 | (dsimp only; walk1) | (leave1; walk_say "STEP leave1"; try dsimp only) | fail "no step"); all_goals (repeat (k_unfold; (try dsimp only))))
  rename Fr _ _ _ _ => F7
  rename News _ _ _ _ => N7
  refine for_enum_tup (σ := FSt) (items := topVals.toArray) (nn := 0) (fun c => (pl, W.listOf (pvals c.cs).toArray c.ep) :: news) [Str.ofString "index", Str.ofString "table", Str.ofString "bit", Str.ofString "char"]
    (fun q c => c.cs.map Prod.fst = (outP st).take q) ⟨[], 0⟩ rfl (XI _ _ (top_is _)) rfl rfl F7 N7 rfl ?_ ?_
  · rintro e it oe oi idx ⟨cs9, ep9⟩ u T9 ut x9 h9 tk9 hx9 hT9 hP9 hoff F9 N9
    dsimp only at hP9 hoff F9 N9
    obtain ⟨row, hrow, rfl⟩ : ∃ row, ftab[idx]? = some row ∧ Value.ref row.1 = x9 := by
      rw [List.getElem?_toArray] at hx9
      unfold topVals at hx9
      rw [List.getElem?_map] at hx9
      cases hq : ftab[idx]? with
      | none => rw [hq] at hx9; cases hx9
      | some row => rw [hq] at hx9; exact ⟨row, rfl, Option.some.inj hx9⟩
    have hrm : row ∈ ftab := List.mem_of_getElem? hrow
    have hcl : cs9.length ≤ 10 := by
      have := congrArg List.length hP9
      rw [List.length_map, List.length_take] at this
      have : (outP st).length = 10 := by simp [outP, ftab]
      (first | lia | omega)
    have hpe : pl ≠ e := (hoff _ (.head _)).1
    have hpi : pl ≠ it := (hoff _ (.head _)).2
    refine unpackN_ F9 N9 hT9 rfl rfl rfl ?_
    intro h8 F8 N8
    ((try dsimp only); (try k_fold); repeat' ((fail_if_success (with_reducible show wpAny _ _ (exec (PySem.Stmt.While _ _ _ _) _) _ _ _)); (fail_if_success (with_reducible show wpAny _ _ (exec (PySem.Stmt.For _ _ _ _ _) _) _ _ _)); (fail_if_success (with_reducible show wpAny _ _ (eval (PySem.Expr.ListComp _ _ _ _) _) _ _ _)); (fail_if_success (with_reducible show wpAny _ _ (subscriptTail _ _ (Value.ref _) _) _ _ _)); (fail_if_success (with_reducible show wpAny _ _ (setItem (Value.ref _) _ _) _ _ _)); (fail_if_success (with_reducible show wpAny _ _ (compareOp CmpOp.Lt (Value.ref _) (Value.ref _)) _ _ _)); (fail_if_success (with_reducible show wpAny _ _ (call (Value.ref _) _) _ _ _)); (fail_if_success (with_reducible show wpAny _ _ (call (Value.builtin "len") [Value.ref _]) _ _ _)); (fail_if_success (with_reducible show KswEnd _ _ _ _ _ _ _ _ _ _ _ _)); (fail_if_success (with_reducible show LoopStepU _ _ _ _ _ _ _ _)); (fail_if_success (with_reducible show InvEndN _ _ _ _ _ _ _)); (fail_if_success (with_reducible show RngEnd _ _ _ _ _ _ _ _ _ _ _)); (fail_if_success (with_reducible show RngPostT _ _ _ _ _ _ _ _ _ _)); (fail_if_success (with_reducible show ElsPost _ _ _ _ _ _ _ _ _ _ _)); (fail_if_success (with_reducible show EnumPost _ _ _ _ _ _ _ _ _ _ _)); (fail_if_success (with_reducible show LCg.CompEnd _ _ _ _ _ _ _ _ _ _ _ _ _ _)); first | (k_unfold; (try dsimp only)) | (k_end; wrow_close) | walk1 | (dsimp only; walk1) | (leave1; walk_say "STEP leave1"; try dsimp only) | fail "no step"); all_goals (repeat (k_unfold; (try dsimp only))))
    refine wpAny_For ?_ (by intro _; rfl)
    ((try dsimp only); (try k_fold); repeat' ((fail_if_success (with_reducible show wpAny _ _ (pyIter _) _ _ _)); first | (k_unfold; (try dsimp only)) | (k_end; wrow_close) | walk1 | (dsimp only; walk1) | (leave1; walk_say "STEP leave1"; try dsimp only) | fail "no step"); all_goals (repeat (k_unfold; (try dsimp only))))
    rename Fr _ _ _ _ => F7b
    rename News _ _ _ _ => N7b
    refine forelse_tup (σ := Unit) (items := (rowVals row).toArray) (nn := 0) (fun _ => (e, oe) :: (it, oi) :: (pl, W.listOf (pvals cs9).toArray ep9) :: news) [Str.ofString "bit", Str.ofString "char"]
      (fun q _ => (row.2.take q).find? (fun e => tst st idx e.2.1) = none) () rfl (XI _ _ (row_is _ row hrm)) rfl rfl F7b N7b rfl ?_ ?_ (by passes_own)
    · rintro I q b u2 v h7 tk7 io hv hPq hoffI hltI F7c N7c
      (try dsimp only at hPq hoffI F7c N7c)
      obtain ⟨en, hen, rfl⟩ : ∃ en, row.2[q]? = some en ∧ Value.ref en.1 = v := by
        rw [List.getElem?_toArray] at hv
        unfold rowVals at hv
        rw [List.getElem?_map] at hv
        cases hq : row.2[q]? with
        | none => rw [hq] at hv; cases hv
        | some en => rw [hq] at hv; exact ⟨en, rfl, Option.some.inj hv⟩
      have hem := ent_is w.params row hrm en (List.mem_of_getElem? hen)
      obtain ⟨ea, bit, bt, ch, ct⟩ := en
      refine unpackN_ (items := #[.int (bit : Int) bt, .str (S [ch]) ct]) F7c N7c ⟨_, F7c.keep _ _ (XI _ _ hem), rfl, 0, rfl⟩ rfl rfl rfl ?_
      intro h6b F6b N6b
      ((try dsimp only); (try k_fold); repeat' ((fail_if_success (with_reducible show wpAny _ _ (compareOp _ _ _) _ _ _)); first | (k_unfold; (try dsimp only)) | (k_end; wrow_close) | walk1 | (dsimp only; walk1) | (leave1; walk_say "STEP leave1"; try dsimp only) | fail "no step"); all_goals (repeat (k_unfold; (try dsimp only))))
      have hIp : I ≠ pl := Ne.symm (hoffI _ (.tail _ (.tail _ (.head _))))
      refine P.eq_int ?_
      by_cases h0 : idx = 0
      · rw [show ((idx : Int) == 0) = true by simp [h0]]
        ((try dsimp only); (try k_fold); repeat' ((fail_if_success (with_reducible show wpAny _ _ (exec (PySem.Stmt.While _ _ _ _) _) _ _ _)); (fail_if_success (with_reducible show wpAny _ _ (exec (PySem.Stmt.For _ _ _ _ _) _) _ _ _)); (fail_if_success (with_reducible show wpAny _ _ (eval (PySem.Expr.ListComp _ _ _ _) _) _ _ _)); (fail_if_success (with_reducible show wpAny _ _ (subscriptTail _ _ (Value.ref _) _) _ _ _)); (fail_if_success (with_reducible show wpAny _ _ (setItem (Value.ref _) _ _) _ _ _)); (fail_if_success (with_reducible show wpAny _ _ (compareOp CmpOp.Lt (Value.ref _) (Value.ref _)) _ _ _)); (fail_if_success (with_reducible show wpAny _ _ (call (Value.ref _) _) _ _ _)); (fail_if_success (with_reducible show wpAny _ _ (call (Value.builtin "len") [Value.ref _]) _ _ _)); (fail_if_success (with_reducible show KswEnd _ _ _ _ _ _ _ _ _ _ _ _)); (fail_if_success (with_reducible show LoopStepU _ _ _ _ _ _ _ _)); (fail_if_success (with_reducible show InvEndN _ _ _ _ _ _ _)); (fail_if_success (with_reducible show RngEnd _ _ _ _ _ _ _ _ _ _ _)); (fail_if_success (with_reducible show RngPostT _ _ _ _ _ _ _ _ _ _)); (fail_if_success (with_reducible show ElsPost _ _ _ _ _ _ _ _ _ _ _)); (fail_if_success (with_reducible show EnumPost _ _ _ _ _ _ _ _ _ _ _)); (fail_if_success (with_reducible show LCg.CompEnd _ _ _ _ _ _ _ _ _ _ _ _ _ _)); first | (k_unfold; (try dsimp only)) | (k_end; wrow_close) | walk1 | (dsimp only; walk1) | (leave1; walk_say "STEP leave1"; try dsimp only) | fail "no step"); all_goals (repeat (k_unfold; (try dsimp only))))
        (refine' ctr_use (sifmt _ _ _ _) ?k1 ?k2 ?k3 ?k4 ?k5 ?kK ?kd ?ku ?_; (case k1 => k_asm); (case k2 => k_asm); (case k3 => k_asm); (case k4 => k_asm); (case k5 => k_asm); (case kK => first | exact rfl | assumption); (case kd => first | lia | ktr_room | ((try dsimp only [A9]); ktr_room)); (case ku => first | lia | ktr_units | ((try dsimp only [A9]); ktr_units)))
        intro r9 n9 h9 tk9 F9 N9 P9
        obtain ⟨rfl, t9, rfl⟩ := P9
        ((try dsimp only); (try k_fold); repeat' ((fail_if_success (with_reducible show wpAny _ _ (compareOp _ _ _) _ _ _)); first | (k_unfold; (try dsimp only)) | (k_end; wrow_close) | walk1 | (dsimp only; walk1) | (leave1; walk_say "STEP leave1"; try dsimp only) | fail "no step"); all_goals (repeat (k_unfold; (try dsimp only))))
        refine P.eq_int ?_
        have htt : tst st idx bit = (Builtin.bitAnd st 61440 == (bit : Int)) := by unfold tst; rw [if_pos h0]
        rw [← htt]
        cases htst : tst st idx bit with
        | true =>
          ((try dsimp only); (try k_fold); repeat' ((fail_if_success (with_reducible show wpAny _ _ (call (Value.builtin "list.append") _) _ _ _)); first | (k_unfold; (try dsimp only)) | (k_end; wrow_close) | walk1 | (dsimp only; walk1) | (leave1; walk_say "STEP leave1"; try dsimp only) | fail "no step"); all_goals (repeat (k_unfold; (try dsimp only))))
          refine append_K (D := pl) (by k_asm) (by k_asm) (.tail hIp (.tail (Ne.symm hpe) (.tail (Ne.symm hpi) (.head hoff0)))) ?_ ?sz
          case sz => rw [List.size_toArray, show (pvals cs9).length = cs9.length by simp [pvals], sizeLine_eq]; (first | lia | omega)
          intro h4 F4 N4
          ((try dsimp only); (try k_fold); repeat' ((fail_if_success (with_reducible show wpAny _ _ (exec (PySem.Stmt.While _ _ _ _) _) _ _ _)); (fail_if_success (with_reducible show wpAny _ _ (exec (PySem.Stmt.For _ _ _ _ _) _) _ _ _)); (fail_if_success (with_reducible show wpAny _ _ (eval (PySem.Expr.ListComp _ _ _ _) _) _ _ _)); (fail_if_success (with_reducible show wpAny _ _ (subscriptTail _ _ (Value.ref _) _) _ _ _)); (fail_if_success (with_reducible show wpAny _ _ (setItem (Value.ref _) _ _) _ _ _)); (fail_if_success (with_reducible show wpAny _ _ (compareOp CmpOp.Lt (Value.ref _) (Value.ref _)) _ _ _)); (fail_if_success (with_reducible show wpAny _ _ (call (Value.ref _) _) _ _ _)); (fail_if_success (with_reducible show wpAny _ _ (call (Value.builtin "len") [Value.ref _]) _ _ _)); (fail_if_success (with_reducible show KswEnd _ _ _ _ _ _ _ _ _ _ _ _)); (fail_if_success (with_reducible show LoopStepU _ _ _ _ _ _ _ _)); (fail_if_success (with_reducible show InvEndN _ _ _ _ _ _ _)); (fail_if_success (with_reducible show RngEnd _ _ _ _ _ _ _ _ _ _ _)); (fail_if_success (with_reducible show RngPostT _ _ _ _ _ _ _ _ _ _)); (fail_if_success (with_reducible show ElsPost _ _ _ _ _ _ _ _ _ _ _)); (fail_if_success (with_reducible show EnumPost _ _ _ _ _ _ _ _ _ _ _)); (fail_if_success (with_reducible show LCg.CompEnd _ _ _ _ _ _ _ _ _ _ _ _ _ _)); first | (k_unfold; (try dsimp only)) | (k_end; wrow_close) | walk1 | (dsimp only; walk1) | (leave1; walk_say "STEP leave1"; try dsimp only) | fail "no step"); all_goals (repeat (k_unfold; (try dsimp only))))
          ((try dsimp only); (repeat (k_unfold; (try dsimp only))))
          unfold ElsPost
          dsimp only
          ((try dsimp only); (try k_fold); repeat' ((fail_if_success (with_reducible show wpAny _ _ (exec (PySem.Stmt.While _ _ _ _) _) _ _ _)); (fail_if_success (with_reducible show wpAny _ _ (exec (PySem.Stmt.For _ _ _ _ _) _) _ _ _)); (fail_if_success (with_reducible show wpAny _ _ (eval (PySem.Expr.ListComp _ _ _ _) _) _ _ _)); (fail_if_success (with_reducible show wpAny _ _ (subscriptTail _ _ (Value.ref _) _) _ _ _)); (fail_if_success (with_reducible show wpAny _ _ (setItem (Value.ref _) _ _) _ _ _)); (fail_if_success (with_reducible show wpAny _ _ (compareOp CmpOp.Lt (Value.ref _) (Value.ref _)) _ _ _)); (fail_if_success (with_reducible show wpAny _ _ (call (Value.ref _) _) _ _ _)); (fail_if_success (with_reducible show wpAny _ _ (call (Value.builtin "len") [Value.ref _]) _ _ _)); (fail_if_success (with_reducible show KswEnd _ _ _ _ _ _ _ _ _ _ _ _)); (fail_if_success (with_reducible show LoopStepU _ _ _ _ _ _ _ _)); (fail_if_success (with_reducible show InvEndN _ _ _ _ _ _ _)); (fail_if_success (with_reducible show RngEnd _ _ _ _ _ _ _ _ _ _ _)); (fail_if_success (with_reducible show RngPostT _ _ _ _ _ _ _ _ _ _)); (fail_if_success (with_reducible show ElsPost _ _ _ _ _ _ _ _ _ _ _)); (fail_if_success (with_reducible show EnumPost _ _ _ _ _ _ _ _ _ _ _)); (fail_if_success (with_reducible show LCg.CompEnd _ _ _ _ _ _ _ _ _ _ _ _ _ _)); first | (k_unfold; (try dsimp only)) | (k_end; wrow_close) | walk1 | (dsimp only; walk1) | (leave1; walk_say "STEP leave1"; try dsimp only) | fail "no step"); all_goals (repeat (k_unfold; (try dsimp only))))
          rw [pvals_push] at N4
          refine enum_end ⟨cs9 ++ [(ch, ct)], ep9 + 1⟩ (by k_asm) N4 ?hn (.tail _ (.head _)) (.tail _ (.tail _ (.head _))) ?ho ?hr ?hp
          case hn =>
            intro p hp
            rcases List.mem_cons.mp hp with rfl | hp
            · exact .tail _ (.tail _ (.tail _ (.head _)))
            · exact .tail _ (.tail _ (.tail _ (.tail _ (hp))))
          case ho =>
            intro p hp
            rcases List.mem_cons.mp hp with rfl | hp
            · exact ⟨hpe, hpi⟩
            · exact hoff p (.tail _ hp)
          case hr =>
            intro z h3
            obtain ⟨n1, h4⟩ := ne_of_not h3
            obtain ⟨n2, h5⟩ := ne_of_not h4
            obtain ⟨n3, h6⟩ := ne_of_not h5
            obtain ⟨n4, _⟩ := ne_of_not h6
            exact (if_neg n4).trans ((if_neg n3).trans ((not_in h5).trans ((if_neg n2).trans ((if_neg n1).trans (not_in h3)))))
          case hp => exact fm_take hrow hP9 (pick_hit (e := (ea, bit, bt, ch, ct)) hen hPq htst)
        | false =>
          ((try dsimp only); (try k_fold); repeat' ((fail_if_success (with_reducible show wpAny _ _ (exec (PySem.Stmt.While _ _ _ _) _) _ _ _)); (fail_if_success (with_reducible show wpAny _ _ (exec (PySem.Stmt.For _ _ _ _ _) _) _ _ _)); (fail_if_success (with_reducible show wpAny _ _ (eval (PySem.Expr.ListComp _ _ _ _) _) _ _ _)); (fail_if_success (with_reducible show wpAny _ _ (subscriptTail _ _ (Value.ref _) _) _ _ _)); (fail_if_success (with_reducible show wpAny _ _ (setItem (Value.ref _) _ _) _ _ _)); (fail_if_success (with_reducible show wpAny _ _ (compareOp CmpOp.Lt (Value.ref _) (Value.ref _)) _ _ _)); (fail_if_success (with_reducible show wpAny _ _ (call (Value.ref _) _) _ _ _)); (fail_if_success (with_reducible show wpAny _ _ (call (Value.builtin "len") [Value.ref _]) _ _ _)); (fail_if_success (with_reducible show KswEnd _ _ _ _ _ _ _ _ _ _ _ _)); (fail_if_success (with_reducible show LoopStepU _ _ _ _ _ _ _ _)); (fail_if_success (with_reducible show InvEndN _ _ _ _ _ _ _)); (fail_if_success (with_reducible show RngEnd _ _ _ _ _ _ _ _ _ _ _)); (fail_if_success (with_reducible show RngPostT _ _ _ _ _ _ _ _ _ _)); (fail_if_success (with_reducible show ElsPost _ _ _ _ _ _ _ _ _ _ _)); (fail_if_success (with_reducible show EnumPost _ _ _ _ _ _ _ _ _ _ _)); (fail_if_success (with_reducible show LCg.CompEnd _ _ _ _ _ _ _ _ _ _ _ _ _ _)); first | (k_unfold; (try dsimp only)) | (k_end; wrow_close) | walk1 | (dsimp only; walk1) | (leave1; walk_say "STEP leave1"; try dsimp only) | fail "no step"); all_goals (repeat (k_unfold; (try dsimp only))))
          exact ⟨(), _, _, _, _, rfl, (by k_asm), (by k_asm), fun p hp => .tail _ hp, .head _, hoffI, fun z h3 => (if_neg (ne_of_not (ne_of_not h3).2).1).trans ((if_neg (ne_of_not h3).1).trans (not_in h3)), find_miss _ _ _ _ hen hPq htst⟩
      · rw [show ((idx : Int) == 0) = false by simp; (first | lia | omega)]
        ((try dsimp only); (try k_fold); repeat' ((fail_if_success (with_reducible show wpAny _ _ (compareOp _ _ _) _ _ _)); first | (k_unfold; (try dsimp only)) | (k_end; wrow_close) | walk1 | (dsimp only; walk1) | (leave1; walk_say "STEP leave1"; try dsimp only) | fail "no step"); all_goals (repeat (k_unfold; (try dsimp only))))
        refine P.eq_int ?_
        have htt : tst st idx bit = (Builtin.bitAnd st (bit : Int) == (bit : Int)) := by unfold tst; rw [if_neg h0]
        rw [← htt]
        cases htst : tst st idx bit with
        | true =>
          ((try dsimp only); (try k_fold); repeat' ((fail_if_success (with_reducible show wpAny _ _ (call (Value.builtin "list.append") _) _ _ _)); first | (k_unfold; (try dsimp only)) | (k_end; wrow_close) | walk1 | (dsimp only; walk1) | (leave1; walk_say "STEP leave1"; try dsimp only) | fail "no step"); all_goals (repeat (k_unfold; (try dsimp only))))
          refine append_K (D := pl) (by k_asm) (by k_asm) (.tail hIp (.tail (Ne.symm hpe) (.tail (Ne.symm hpi) (.head hoff0)))) ?_ ?sz
          case sz => rw [List.size_toArray, show (pvals cs9).length = cs9.length by simp [pvals], sizeLine_eq]; (first | lia | omega)
          intro h4 F4 N4
          ((try dsimp only); (try k_fold); repeat' ((fail_if_success (with_reducible show wpAny _ _ (exec (PySem.Stmt.While _ _ _ _) _) _ _ _)); (fail_if_success (with_reducible show wpAny _ _ (exec (PySem.Stmt.For _ _ _ _ _) _) _ _ _)); (fail_if_success (with_reducible show wpAny _ _ (eval (PySem.Expr.ListComp _ _ _ _) _) _ _ _)); (fail_if_success (with_reducible show wpAny _ _ (subscriptTail _ _ (Value.ref _) _) _ _ _)); (fail_if_success (with_reducible show wpAny _ _ (setItem (Value.ref _) _ _) _ _ _)); (fail_if_success (with_reducible show wpAny _ _ (compareOp CmpOp.Lt (Value.ref _) (Value.ref _)) _ _ _)); (fail_if_success (with_reducible show wpAny _ _ (call (Value.ref _) _) _ _ _)); (fail_if_success (with_reducible show wpAny _ _ (call (Value.builtin "len") [Value.ref _]) _ _ _)); (fail_if_success (with_reducible show KswEnd _ _ _ _ _ _ _ _ _ _ _ _)); (fail_if_success (with_reducible show LoopStepU _ _ _ _ _ _ _ _)); (fail_if_success (with_reducible show InvEndN _ _ _ _ _ _ _)); (fail_if_success (with_reducible show RngEnd _ _ _ _ _ _ _ _ _ _ _)); (fail_if_success (with_reducible show RngPostT _ _ _ _ _ _ _ _ _ _)); (fail_if_success (with_reducible show ElsPost _ _ _ _ _ _ _ _ _ _ _)); (fail_if_success (with_reducible show EnumPost _ _ _ _ _ _ _ _ _ _ _)); (fail_if_success (with_reducible show LCg.CompEnd _ _ _ _ _ _ _ _ _ _ _ _ _ _)); first | (k_unfold; (try dsimp only)) | (k_end; wrow_close) | walk1 | (dsimp only; walk1) | (leave1; walk_say "STEP leave1"; try dsimp only) | fail "no step"); all_goals (repeat (k_unfold; (try dsimp only))))
          ((try dsimp only); (repeat (k_unfold; (try dsimp only))))
          unfold ElsPost
          dsimp only
          ((try dsimp only); (try k_fold); repeat' ((fail_if_success (with_reducible show wpAny _ _ (exec (PySem.Stmt.While _ _ _ _) _) _ _ _)); (fail_if_success (with_reducible show wpAny _ _ (exec (PySem.Stmt.For _ _ _ _ _) _) _ _ _)); (fail_if_success (with_reducible show wpAny _ _ (eval (PySem.Expr.ListComp _ _ _ _) _) _ _ _)); (fail_if_success (with_reducible show wpAny _ _ (subscriptTail _ _ (Value.ref _) _) _ _ _)); (fail_if_success (with_reducible show wpAny _ _ (setItem (Value.ref _) _ _) _ _ _)); (fail_if_success (with_reducible show wpAny _ _ (compareOp CmpOp.Lt (Value.ref _) (Value.ref _)) _ _ _)); (fail_if_success (with_reducible show wpAny _ _ (call (Value.ref _) _) _ _ _)); (fail_if_success (with_reducible show wpAny _ _ (call (Value.builtin "len") [Value.ref _]) _ _ _)); (fail_if_success (with_reducible show KswEnd _ _ _ _ _ _ _ _ _ _ _ _)); (fail_if_success (with_reducible show LoopStepU _ _ _ _ _ _ _ _)); (fail_if_success (with_reducible show InvEndN _ _ _ _ _ _ _)); (fail_if_success (with_reducible show RngEnd _ _ _ _ _ _ _ _ _ _ _)); (fail_if_success (with_reducible show RngPostT _ _ _ _ _ _ _ _ _ _)); (fail_if_success (with_reducible show ElsPost _ _ _ _ _ _ _ _ _ _ _)); (fail_if_success (with_reducible show EnumPost _ _ _ _ _ _ _ _ _ _ _)); (fail_if_success (with_reducible show LCg.CompEnd _ _ _ _ _ _ _ _ _ _ _ _ _ _)); first | (k_unfold; (try dsimp only)) | (k_end; wrow_close) | walk1 | (dsimp only; walk1) | (leave1; walk_say "STEP leave1"; try dsimp only) | fail "no step"); all_goals (repeat (k_unfold; (try dsimp only))))
          rw [pvals_push] at N4
          refine enum_end ⟨cs9 ++ [(ch, ct)], ep9 + 1⟩ (by k_asm) N4 ?hn (.tail _ (.head _)) (.tail _ (.tail _ (.head _))) ?ho ?hr ?hp
          case hn =>
            intro p hp
            rcases List.mem_cons.mp hp with rfl | hp
            · exact .tail _ (.tail _ (.tail _ (.head _)))
            · exact .tail _ (.tail _ (.tail _ (.tail _ (hp))))
          case ho =>
            intro p hp
            rcases List.mem_cons.mp hp with rfl | hp
            · exact ⟨hpe, hpi⟩
            · exact hoff p (.tail _ hp)
          case hr =>
            intro z h3
            obtain ⟨n1, h4⟩ := ne_of_not h3
            obtain ⟨n2, h5⟩ := ne_of_not h4
            obtain ⟨n3, h6⟩ := ne_of_not h5
            obtain ⟨n4, _⟩ := ne_of_not h6
            exact (if_neg n4).trans ((if_neg n3).trans ((not_in h5).trans ((if_neg n2).trans ((if_neg n1).trans (not_in h3)))))
          case hp => exact fm_take hrow hP9 (pick_hit (e := (ea, bit, bt, ch, ct)) hen hPq htst)
        | false =>
          ((try dsimp only); (try k_fold); repeat' ((fail_if_success (with_reducible show wpAny _ _ (exec (PySem.Stmt.While _ _ _ _) _) _ _ _)); (fail_if_success (with_reducible show wpAny _ _ (exec (PySem.Stmt.For _ _ _ _ _) _) _ _ _)); (fail_if_success (with_reducible show wpAny _ _ (eval (PySem.Expr.ListComp _ _ _ _) _) _ _ _)); (fail_if_success (with_reducible show wpAny _ _ (subscriptTail _ _ (Value.ref _) _) _ _ _)); (fail_if_success (with_reducible show wpAny _ _ (setItem (Value.ref _) _ _) _ _ _)); (fail_if_success (with_reducible show wpAny _ _ (compareOp CmpOp.Lt (Value.ref _) (Value.ref _)) _ _ _)); (fail_if_success (with_reducible show wpAny _ _ (call (Value.ref _) _) _ _ _)); (fail_if_success (with_reducible show wpAny _ _ (call (Value.builtin "len") [Value.ref _]) _ _ _)); (fail_if_success (with_reducible show KswEnd _ _ _ _ _ _ _ _ _ _ _ _)); (fail_if_success (with_reducible show LoopStepU _ _ _ _ _ _ _ _)); (fail_if_success (with_reducible show InvEndN _ _ _ _ _ _ _)); (fail_if_success (with_reducible show RngEnd _ _ _ _ _ _ _ _ _ _ _)); (fail_if_success (with_reducible show RngPostT _ _ _ _ _ _ _ _ _ _)); (fail_if_success (with_reducible show ElsPost _ _ _ _ _ _ _ _ _ _ _)); (fail_if_success (with_reducible show EnumPost _ _ _ _ _ _ _ _ _ _ _)); (fail_if_success (with_reducible show LCg.CompEnd _ _ _ _ _ _ _ _ _ _ _ _ _ _)); first | (k_unfold; (try dsimp only)) | (k_end; wrow_close) | walk1 | (dsimp only; walk1) | (leave1; walk_say "STEP leave1"; try dsimp only) | fail "no step"); all_goals (repeat (k_unfold; (try dsimp only))))
          exact ⟨(), _, _, _, _, rfl, (by k_asm), (by k_asm), fun p hp => .tail _ hp, .head _, hoffI, fun z h3 => (if_neg (ne_of_not (ne_of_not h3).2).1).trans ((if_neg (ne_of_not h3).1).trans (not_in h3)), find_miss _ _ _ _ hen hPq htst⟩
    · intro b u2 h7 tk7 hPq F7c N7c
      (try dsimp only at hPq F7c N7c)
      have hnone : row.2.find? (fun e => tst st idx e.2.1) = none := by
        have e : (rowVals row).toArray.size = row.2.length := by simp [rowVals]
        rw [e, List.take_length] at hPq
        exact hPq
      ((try dsimp only); (try k_fold); repeat' ((fail_if_success (with_reducible show wpAny _ _ (compareOp _ _ _) _ _ _)); first | (k_unfold; (try dsimp only)) | (k_end; wrow_close) | walk1 | (dsimp only; walk1) | (leave1; walk_say "STEP leave1"; try dsimp only) | fail "no step"); all_goals (repeat (k_unfold; (try dsimp only))))
      refine P.eq_int ?_
      by_cases h0 : idx = 0
      · rw [show ((idx : Int) == 0) = true by simp [h0]]
        ((try dsimp only); (try k_fold); repeat' ((fail_if_success (with_reducible show wpAny _ _ (call (Value.builtin "list.append") _) _ _ _)); first | (k_unfold; (try dsimp only)) | (k_end; wrow_close) | walk1 | (dsimp only; walk1) | (leave1; walk_say "STEP leave1"; try dsimp only) | fail "no step"); all_goals (repeat (k_unfold; (try dsimp only))))
        refine append_K (D := pl) (by k_asm) (by k_asm) (.tail (Ne.symm hpe) (.tail (Ne.symm hpi) (.head hoff0))) ?_ ?sz
        case sz => rw [List.size_toArray, show (pvals cs9).length = cs9.length by simp [pvals], sizeLine_eq]; (first | lia | omega)
        intro h4 F4 N4
        ((try dsimp only); (try k_fold); repeat' ((fail_if_success (with_reducible show wpAny _ _ (exec (PySem.Stmt.While _ _ _ _) _) _ _ _)); (fail_if_success (with_reducible show wpAny _ _ (exec (PySem.Stmt.For _ _ _ _ _) _) _ _ _)); (fail_if_success (with_reducible show wpAny _ _ (eval (PySem.Expr.ListComp _ _ _ _) _) _ _ _)); (fail_if_success (with_reducible show wpAny _ _ (subscriptTail _ _ (Value.ref _) _) _ _ _)); (fail_if_success (with_reducible show wpAny _ _ (setItem (Value.ref _) _ _) _ _ _)); (fail_if_success (with_reducible show wpAny _ _ (compareOp CmpOp.Lt (Value.ref _) (Value.ref _)) _ _ _)); (fail_if_success (with_reducible show wpAny _ _ (call (Value.ref _) _) _ _ _)); (fail_if_success (with_reducible show wpAny _ _ (call (Value.builtin "len") [Value.ref _]) _ _ _)); (fail_if_success (with_reducible show KswEnd _ _ _ _ _ _ _ _ _ _ _ _)); (fail_if_success (with_reducible show LoopStepU _ _ _ _ _ _ _ _)); (fail_if_success (with_reducible show InvEndN _ _ _ _ _ _ _)); (fail_if_success (with_reducible show RngEnd _ _ _ _ _ _ _ _ _ _ _)); (fail_if_success (with_reducible show RngPostT _ _ _ _ _ _ _ _ _ _)); (fail_if_success (with_reducible show ElsPost _ _ _ _ _ _ _ _ _ _ _)); (fail_if_success (with_reducible show EnumPost _ _ _ _ _ _ _ _ _ _ _)); (fail_if_success (with_reducible show LCg.CompEnd _ _ _ _ _ _ _ _ _ _ _ _ _ _)); first | (k_unfold; (try dsimp only)) | (k_end; wrow_close) | walk1 | (dsimp only; walk1) | (leave1; walk_say "STEP leave1"; try dsimp only) | fail "no step"); all_goals (repeat (k_unfold; (try dsimp only))))
        obtain ⟨tq, N4⟩ : ∃ tq, News _ _ h4 (_ :: _ :: (pl, W.listOf ((pvals cs9).toArray.push (.str (S [63]) tq)) (ep9 + 1)) :: news) := ⟨_, N4⟩
        rw [pvals_push] at N4
        refine enum_end ⟨cs9 ++ [(63, tq)], ep9 + 1⟩ (by k_asm) N4 ?hn (.head _) (.tail _ (.head _)) ?ho ?hr ?hp
        case hn =>
          intro p hp
          rcases List.mem_cons.mp hp with rfl | hp
          · exact .tail _ (.tail _ (.head _))
          · exact .tail _ (.tail _ (.tail _ (hp)))
        case ho =>
          intro p hp
          rcases List.mem_cons.mp hp with rfl | hp
          · exact ⟨hpe, hpi⟩
          · exact hoff p (.tail _ hp)
        case hr =>
          intro z h3
          obtain ⟨n1, h4⟩ := ne_of_not h3
          obtain ⟨n2, h5⟩ := ne_of_not h4
          obtain ⟨n3, h6⟩ := ne_of_not h5
          obtain ⟨n4, _⟩ := ne_of_not h6
          exact (not_in h5).trans ((if_neg n2).trans ((if_neg n1).trans (not_in h3)))
        case hp => exact fm_take hrow hP9 ((pick_none hnone).trans (if_pos h0))
      · rw [show ((idx : Int) == 0) = false by simp; (first | lia | omega)]
        ((try dsimp only); (try k_fold); repeat' ((fail_if_success (with_reducible show wpAny _ _ (call (Value.builtin "list.append") _) _ _ _)); first | (k_unfold; (try dsimp only)) | (k_end; wrow_close) | walk1 | (dsimp only; walk1) | (leave1; walk_say "STEP leave1"; try dsimp only) | fail "no step"); all_goals (repeat (k_unfold; (try dsimp only))))
        refine append_K (D := pl) (by k_asm) (by k_asm) (.tail (Ne.symm hpe) (.tail (Ne.symm hpi) (.head hoff0))) ?_ ?sz
        case sz => rw [List.size_toArray, show (pvals cs9).length = cs9.length by simp [pvals], sizeLine_eq]; (first | lia | omega)
        intro h4 F4 N4
        ((try dsimp only); (try k_fold); repeat' ((fail_if_success (with_reducible show wpAny _ _ (exec (PySem.Stmt.While _ _ _ _) _) _ _ _)); (fail_if_success (with_reducible show wpAny _ _ (exec (PySem.Stmt.For _ _ _ _ _) _) _ _ _)); (fail_if_success (with_reducible show wpAny _ _ (eval (PySem.Expr.ListComp _ _ _ _) _) _ _ _)); (fail_if_success (with_reducible show wpAny _ _ (subscriptTail _ _ (Value.ref _) _) _ _ _)); (fail_if_success (with_reducible show wpAny _ _ (setItem (Value.ref _) _ _) _ _ _)); (fail_if_success (with_reducible show wpAny _ _ (compareOp CmpOp.Lt (Value.ref _) (Value.ref _)) _ _ _)); (fail_if_success (with_reducible show wpAny _ _ (call (Value.ref _) _) _ _ _)); (fail_if_success (with_reducible show wpAny _ _ (call (Value.builtin "len") [Value.ref _]) _ _ _)); (fail_if_success (with_reducible show KswEnd _ _ _ _ _ _ _ _ _ _ _ _)); (fail_if_success (with_reducible show LoopStepU _ _ _ _ _ _ _ _)); (fail_if_success (with_reducible show InvEndN _ _ _ _ _ _ _)); (fail_if_success (with_reducible show RngEnd _ _ _ _ _ _ _ _ _ _ _)); (fail_if_success (with_reducible show RngPostT _ _ _ _ _ _ _ _ _ _)); (fail_if_success (with_reducible show ElsPost _ _ _ _ _ _ _ _ _ _ _)); (fail_if_success (with_reducible show EnumPost _ _ _ _ _ _ _ _ _ _ _)); (fail_if_success (with_reducible show LCg.CompEnd _ _ _ _ _ _ _ _ _ _ _ _ _ _)); first | (k_unfold; (try dsimp only)) | (k_end; wrow_close) | walk1 | (dsimp only; walk1) | (leave1; walk_say "STEP leave1"; try dsimp only) | fail "no step"); all_goals (repeat (k_unfold; (try dsimp only))))
        obtain ⟨tq, N4⟩ : ∃ tq, News _ _ h4 (_ :: _ :: (pl, W.listOf ((pvals cs9).toArray.push (.str (S [45]) tq)) (ep9 + 1)) :: news) := ⟨_, N4⟩
        rw [pvals_push] at N4
        refine enum_end ⟨cs9 ++ [(45, tq)], ep9 + 1⟩ (by k_asm) N4 ?hn (.head _) (.tail _ (.head _)) ?ho ?hr ?hp
        case hn =>
          intro p hp
          rcases List.mem_cons.mp hp with rfl | hp
          · exact .tail _ (.tail _ (.head _))
          · exact .tail _ (.tail _ (.tail _ (hp)))
        case ho =>
          intro p hp
          rcases List.mem_cons.mp hp with rfl | hp
          · exact ⟨hpe, hpi⟩
          · exact hoff p (.tail _ hp)
        case hr =>
          intro z h3
          obtain ⟨n1, h4⟩ := ne_of_not h3
          obtain ⟨n2, h5⟩ := ne_of_not h4
          obtain ⟨n3, h6⟩ := ne_of_not h5
          obtain ⟨n4, _⟩ := ne_of_not h6
          exact (not_in h5).trans ((if_neg n2).trans ((if_neg n1).trans (not_in h3)))
        case hp => exact fm_take hrow hP9 ((pick_none hnone).trans (if_neg h0))
  · rintro ⟨cs9, ep9⟩ u h9 tk9 hP9 F9 N9
    dsimp only at hP9 F9 N9
    have hl10 : (outP st).length = 10 := by simp [outP, ftab]
    have hcs : cs9.map Prod.fst = lstg i r := by
      rw [hP9, ← hout]
      exact List.take_of_length_le (by rw [hl10]; decide)
    have hcl : cs9.length = 10 := by
      have := congrArg List.length hcs
      rw [← hout, hl10, List.length_map] at this
      exact this
    ((try dsimp only); (try k_fold); repeat' ((fail_if_success (with_reducible show wpAny _ _ (call (Value.builtin "str.join") _) _ _ _)); first | (k_unfold; (try dsimp only)) | (k_end; wrow_close) | walk1 | (dsimp only; walk1) | (leave1; walk_say "STEP leave1"; try dsimp only) | fail "no step"); all_goals (repeat (k_unfold; (try dsimp only))))
    refine join_listW (led_list N9 (.head _)) (pvals_strs cs9) (by decide) ?sz ?_
    case sz =>
      have hs : ∀ l : List (Nat × Tok), (((l.map fun c => [c.1]).map S).map fun z => z.length).sum = l.length := by
        intro l
        induction l with
        | nil => rfl
        | cons c l ih => simp only [List.map_cons, List.sum_cons, List.length_cons, ih, S_length, List.length_nil]; (first | lia | omega)
      rw [hs cs9, List.length_map, List.length_map]
      (first | lia | omega)
    intro t8 k8
    rw [join_S, flat_one, hcs]
    ((try dsimp only); (try k_fold); repeat' ((fail_if_success (with_reducible show wpAny _ _ (exec (PySem.Stmt.While _ _ _ _) _) _ _ _)); (fail_if_success (with_reducible show wpAny _ _ (exec (PySem.Stmt.For _ _ _ _ _) _) _ _ _)); (fail_if_success (with_reducible show wpAny _ _ (eval (PySem.Expr.ListComp _ _ _ _) _) _ _ _)); (fail_if_success (with_reducible show wpAny _ _ (subscriptTail _ _ (Value.ref _) _) _ _ _)); (fail_if_success (with_reducible show wpAny _ _ (setItem (Value.ref _) _ _) _ _ _)); (fail_if_success (with_reducible show wpAny _ _ (compareOp CmpOp.Lt (Value.ref _) (Value.ref _)) _ _ _)); (fail_if_success (with_reducible show wpAny _ _ (call (Value.ref _) _) _ _ _)); (fail_if_success (with_reducible show wpAny _ _ (call (Value.builtin "len") [Value.ref _]) _ _ _)); (fail_if_success (with_reducible show KswEnd _ _ _ _ _ _ _ _ _ _ _ _)); (fail_if_success (with_reducible show LoopStepU _ _ _ _ _ _ _ _)); (fail_if_success (with_reducible show InvEndN _ _ _ _ _ _ _)); (fail_if_success (with_reducible show RngEnd _ _ _ _ _ _ _ _ _ _ _)); (fail_if_success (with_reducible show RngPostT _ _ _ _ _ _ _ _ _ _)); (fail_if_success (with_reducible show ElsPost _ _ _ _ _ _ _ _ _ _ _)); (fail_if_success (with_reducible show EnumPost _ _ _ _ _ _ _ _ _ _ _)); (fail_if_success (with_reducible show LCg.CompEnd _ _ _ _ _ _ _ _ _ _ _ _ _ _)); first | (k_unfold; (try dsimp only)) | (k_end; wrow_close) | walk1 | (dsimp only; walk1) | (leave1; walk_say "STEP leave1"; try dsimp only) | fail "no step"); all_goals (repeat (k_unfold; (try dsimp only))))
    refine hret _ news _ _ (by k_asm) (cb_drop (by k_asm) fun p hp => ?_) ⟨rfl, _, rfl⟩
    exact .tail _ hp
end Mine
namespace Mine
structure NIt where
  addr : Addr
  k : Int
  text : Str
  lst : Str
  t1 : Tok
  t2 : Tok
  t3 : Tok
deriving Inhabited
noncomputable def NIt.obj (x : NIt) : Obj := { cls := .type "tuple", data := .seq #[.int x.k x.t1, .str x.text x.t2, .str x.lst x.t3] }
noncomputable def NIt.ent (x : NIt) : Addr × Obj := (x.addr, x.obj)
noncomputable def nrefs (vs : List NIt) : Array Value := (vs.map fun x => Value.ref x.addr).toArray
theorem nrefs_push (vs : List NIt) (x : NIt) : (nrefs vs).push (.ref x.addr) = nrefs (vs ++ [x]) := by
  apply Array.toList_inj.mp
  simp [nrefs]
theorem nrefs_size (vs : List NIt) : (nrefs vs).size = vs.length := by simp [nrefs]
noncomputable def isNoted (ds : List Int) (p : Nat × Nat) (y : NIt) : Prop := y.k = (p.1 : Int) ∧ y.text = S (textAt (ds.getD p.1 0) p.2) ∧ y.lst = S (lstg ((kd (ds.getD p.1 0) + p.2) % 4) (rt (ds.getD p.1 0)))
noncomputable def Noted (ds : List Int) (picks : List (Nat × Nat)) (ns : List NIt) : Prop := ns.length = picks.length ∧ ∀ (i : Nat) (p : Nat × Nat) (y : NIt), picks[i]? = some p → ns[i]? = some y → isNoted ds p y
theorem Noted.nil (ds : List Int) : Noted ds [] [] := ⟨rfl, fun i p y h => by simp at h⟩
theorem Noted.snoc {ds : List Int} {picks : List (Nat × Nat)} {ns : List NIt} {p : Nat × Nat} {y : NIt} (h : Noted ds picks ns) (hy : isNoted ds p y) : Noted ds (picks ++ [p]) (ns ++ [y]) := by
  refine ⟨by simp [h.1], fun i q z hq hz => ?_⟩
  by_cases hi : i < picks.length
  · rw [List.getElem?_append_left hi] at hq
    rw [List.getElem?_append_left (by rw [h.1]; exact hi)] at hz
    exact h.2 i q z hq hz
  · rw [List.getElem?_append_right (by (first | lia | omega))] at hq
    rw [List.getElem?_append_right (by rw [h.1]; (first | lia | omega)), h.1] at hz
    cases hk : i - picks.length with
    | zero =>
      rw [hk] at hq hz
      cases hq; cases hz
      exact hy
    | succ n => rw [hk] at hq; cases hq
structure TSt where
  its : List Item
  picks : List (Nat × Nat)
  ns : List NIt
  re : Nat
noncomputable def ledT (l R : Addr) (ep : Nat) (news : List (Addr × Obj)) (c : TSt) : List (Addr × Obj) := (l, heapObj c.its ep) :: (R, W.listOf (nrefs c.ns) c.re) :: (c.its.map Item.ent ++ (c.ns.map NIt.ent ++ news))
theorem mem_item {x : Item} {l : List (Addr × Obj)} (h : x.ent ∈ l) : (x.addr, ({ cls := .type "tuple", data := .seq #[.int x.len x.t1, .int x.k x.t2, .str x.text x.t3, .int x.state x.t4] } : Obj)) ∈ l := h
theorem news_rot {h₀ : Heap} {L : Addr} {h : Heap} {a b c : Addr × Obj} {r : List (Addr × Obj)} (N : News h₀ L h (a :: b :: c :: r)) : News h₀ L h (c :: a :: b :: r) := fun p hp => by
  rcases List.mem_cons.mp hp with rfl | hp
  · exact N _ (.tail _ (.tail _ (.head _)))
  · rcases List.mem_cons.mp hp with rfl | hp
    · exact N _ (.head _)
    · rcases List.mem_cons.mp hp with rfl | hp
      · exact N _ (.tail _ (.head _))
      · exact N _ (.tail _ (.tail _ (.tail _ hp)))
theorem set_k {its : List Item} {y : Item} (h0 : 0 < its.length) (h : y.k = (its.getD 0 default).k) : (its.set 0 y).map Item.k = its.map Item.k := by
  cases its with
  | nil => simp at h0
  | cons a r => simp only [List.set_cons_zero, List.map_cons]; rw [h]; rfl
end Mine
namespace Mine
noncomputable def isFirst (ds : List Int) (k : Nat) (x : Item) : Prop := x.len = 2 ∧ x.k = (k : Int) ∧ x.text = S (t0 (ds.getD k 0)) ∧ x.state = stI (kd (ds.getD k 0)) (rt (ds.getD k 0))
noncomputable abbrev TInvR (ds : List Int) (l R : Addr) (news : List (Addr × Obj)) (i : Nat) (c : TSt) : Prop := HInv ds c.its c.picks ∧ c.picks.length = i ∧ Noted ds c.picks c.ns ∧ (∀ p ∈ c.its.map Item.ent ++ (c.ns.map NIt.ent ++ news), p.1 ≠ l ∧ p.1 ≠ R)
theorem run_c (w : World) (ds : List Int) (dvs : List Value) (hI : IntsAre dvs ds) (dl : Addr) (de : Nat) (news : List (Addr × Obj)) (hm : (dl, W.listOf dvs.toArray de) ∈ news) (h2 : 2 ≤ ds.length) (h5 : ds.length ≤ 5) (t : Tok) :
    Ctr w 10 200 178 [.ref dl, .int (2 + ds.length) t] news
      (fun v n' => ∃ R re ns picks, v = .ref R ∧ n' = (R, W.listOf (nrefs ns) re) :: (ns.map NIt.ent ++ news) ∧ Noted ds picks ns ∧ Greedy (fLen ds) ds.length picks ∧ picks.length = 2 + ds.length ∧ ∀ p ∈ ns.map NIt.ent ++ news, p.1 ≠ R) := by
  have hlen := hI.length
  have hsz : dvs.toArray.size ≤ 64 := by rw [List.size_toArray]; (first | lia | omega)
  (unfold Ctr; k_fill; intro mean mg mb dp un gd cn cs a ccd cl outer A₀ base h₀ L m s Q E B F X N T hk hdp hu hret; refine wpAny_call ?_; k_dflt ktr_enter; (show (let e9 : Env := _; let A9 : Around := Around.deeper _ e9; wpAny _ A9 (execs _ e9) _ _ _)); intro e9 A9)
  ((try dsimp only); (try k_fold); repeat' ((fail_if_success (with_reducible show wpAny _ _ (newList _) _ _ _)); first | (k_unfold; (try dsimp only)) | (k_end; wrow_close) | walk1 | (dsimp only; walk1) | (leave1; walk_say "STEP leave1"; try dsimp only) | fail "no step"); all_goals (repeat (k_unfold; (try dsimp only))))
  refine newList_K (by k_asm) (by k_asm) ?_
  intro l6 h6 F6 N6 hlt6
  ((try dsimp only); (try k_fold); repeat' ((fail_if_success (with_reducible show wpAny _ _ (exec (PySem.Stmt.While _ _ _ _) _) _ _ _)); (fail_if_success (with_reducible show wpAny _ _ (exec (PySem.Stmt.For _ _ _ _ _) _) _ _ _)); (fail_if_success (with_reducible show wpAny _ _ (eval (PySem.Expr.ListComp _ _ _ _) _) _ _ _)); (fail_if_success (with_reducible show wpAny _ _ (subscriptTail _ _ (Value.ref _) _) _ _ _)); (fail_if_success (with_reducible show wpAny _ _ (setItem (Value.ref _) _ _) _ _ _)); (fail_if_success (with_reducible show wpAny _ _ (compareOp CmpOp.Lt (Value.ref _) (Value.ref _)) _ _ _)); (fail_if_success (with_reducible show wpAny _ _ (call (Value.ref _) _) _ _ _)); (fail_if_success (with_reducible show wpAny _ _ (call (Value.builtin "len") [Value.ref _]) _ _ _)); (fail_if_success (with_reducible show KswEnd _ _ _ _ _ _ _ _ _ _ _ _)); (fail_if_success (with_reducible show LoopStepU _ _ _ _ _ _ _ _)); (fail_if_success (with_reducible show InvEndN _ _ _ _ _ _ _)); (fail_if_success (with_reducible show RngEnd _ _ _ _ _ _ _ _ _ _ _)); (fail_if_success (with_reducible show RngPost _ _ _ _ _ _ _ _ _ _ _ _ _)); first | (k_unfold; (try dsimp only)) | (k_end; wrow_close) | walk1 | (dsimp only; walk1) | (leave1; walk_say "STEP leave1"; try dsimp only) | fail "no step"); all_goals (repeat (k_unfold; (try dsimp only))))
  rename Fr _ _ _ _ => lF'
  refine For_invVF lF' rfl rfl ?_
  ((try dsimp only); (try k_fold); repeat' ((fail_if_success (with_reducible show wpAny _ _ (call (Value.builtin "len") _) _ _ _)); (fail_if_success (with_reducible show wpAny _ _ (call (Value.type "range") _) _ _ _)); first | (k_unfold; (try dsimp only)) | (k_end; wrow_close) | walk1 | (dsimp only; walk1) | (leave1; walk_say "STEP leave1"; try dsimp only) | fail "no step"); all_goals (repeat (k_unfold; (try dsimp only))))
  refine led_len (by k_asm) (.tail _ hm) hsz ?_
  ((try dsimp only); (try k_fold); repeat' ((fail_if_success (with_reducible show wpAny _ _ (call (Value.builtin "len") _) _ _ _)); (fail_if_success (with_reducible show wpAny _ _ (call (Value.type "range") _) _ _ _)); first | (k_unfold; (try dsimp only)) | (k_end; wrow_close) | walk1 | (dsimp only; walk1) | (leave1; walk_say "STEP leave1"; try dsimp only) | fail "no step"); all_goals (repeat (k_unfold; (try dsimp only))))
  rename Fr _ _ _ _ => F6
  rename News _ _ _ _ => N6
  rw [show (dvs.toArray.size : Int) = ((ds.length : Nat) : Int) by simp; (first | lia | omega)]
  refine for_range (σ := List Item × Nat) (fun c => (l6, heapObj c.1 c.2) :: (c.1.map Item.ent ++ news)) (fun _ => []) [Str.ofString "text", Str.ofString "state"]
    (fun i c => c.1.length = i ∧ (∀ k x, c.1[k]? = some x → isFirst ds k x) ∧ (∀ p ∈ c.1.map Item.ent ++ news, p.1 ≠ l6)) ([], 0) (by (first | lia | omega)) rfl F6 N6 (fun _ h => nomatch h) ⟨rfl, fun k x h => by simp at h, fun p hp => Nat.ne_of_lt (hlt6 p (by simpa using hp))⟩ ?_ ?_
  · rintro I i ⟨its, ep⟩ u t' h9 tk9 io hi ⟨hl9, hf9, ho9⟩ hoff F9 N9
    dsimp only at hl9 hf9 ho9 hoff F9 N9
    (revert F9; show (let m9 : Str → Option Value := _; Fr _ _ _ m9 → _); intro m9 F9)
    (revert N9; show (let n9 : List (Addr × Obj) := _; News _ _ _ ((I, io) :: n9) → _); intro n9 N9)
    obtain ⟨x, hx⟩ : ∃ x, ds.getD i 0 = x := ⟨_, rfl⟩
    obtain ⟨dt, hdv⟩ := hI.get i x (by rw [← hx]; simp [hi])
    have hdv' : dvs.toArray[i]? = some (.int x dt) := by rw [List.getElem?_toArray]; exact hdv
    ((try dsimp only); (try k_fold); repeat' ((fail_if_success (with_reducible show wpAny _ _ (eval (PySem.Expr.ListComp _ _ _ _) _) _ _ _)); first | (k_unfold; (try dsimp only)) | (k_end; wrow_close) | walk1 | (dsimp only; walk1) | (leave1; walk_say "STEP leave1"; try dsimp only) | fail "no step"); all_goals (repeat (k_unfold; (try dsimp only))))
    k_dflt (refine LCg.ListComp_U (F₀ := by k_asm) (by rfl) (by decide) (by rfl) (by decide) (by rfl) ?_)
    ((try dsimp only); (try k_fold); repeat' ((fail_if_success (with_reducible show wpAny _ _ (subscriptTail _ _ (Value.ref _) _) _ _ _)); (fail_if_success (with_reducible show wpAny _ _ (call (Value.ref _) _) _ _ _)); first | (k_unfold; (try dsimp only)) | (k_end; wrow_close) | walk1 | (dsimp only; walk1) | (leave1; walk_say "STEP leave1"; try dsimp only) | fail "no step"); all_goals (repeat (k_unfold; (try dsimp only))))
    refine led_item (n := i) (by k_asm) (.tail _ (.tail _ (List.mem_append_right _ hm))) rfl hsz hdv' ?_ (by with_unfolding_all rfl)
    ((try dsimp only); (try k_fold); repeat' ((fail_if_success (with_reducible show wpAny _ _ (subscriptTail _ _ (Value.ref _) _) _ _ _)); (fail_if_success (with_reducible show wpAny _ _ (call (Value.ref _) _) _ _ _)); first | (k_unfold; (try dsimp only)) | (k_end; wrow_close) | walk1 | (dsimp only; walk1) | (leave1; walk_say "STEP leave1"; try dsimp only) | fail "no step"); all_goals (repeat (k_unfold; (try dsimp only))))
    (refine' ctr_use (places_c _ _ _ _) ?k1 ?k2 ?k3 ?k4 ?k5 ?kK ?kd ?ku ?_; (case k1 => k_asm); (case k2 => k_asm); (case k3 => k_asm); (case k4 => k_asm); (case k5 => k_asm); (case kK => first | exact rfl | assumption); (case kd => first | lia | ktr_room | ((try dsimp only [A9]); ktr_room)); (case ku => first | lia | ktr_units | ((try dsimp only [A9]); ktr_units)))
    intro r9 n9 h9 tk9 F9 N9 P9
    obtain ⟨D9, t1, t2, rfl, rfl, hlt9⟩ := P9
    rw [(pA_spec _).1, (pB_spec _).1] at N9
    refine LCg.CompSrc.ledger rfl (by k_asm) (by k_asm) (.head _) (by show 2 ≤ sizeLine; decide) ?_
    intro g
    refine LCg.CompRest.succ (k := 1) ?_
    intro v1 I1 oI1 C1 oC1 E1 m1 h1 tk1 Ee1 hP1 hC1 hx1 F1 N1 off1 ne1
    obtain rfl : v1 = Value.int (pA x : Int) t1 := (Option.some.inj hP1).symm
    have hp1 := (pA_spec x).2
    ((try dsimp only); (try k_fold); repeat' ((fail_if_success (with_reducible show wpAny _ _ (subscriptTail _ _ (Value.str _ _) _) _ _ _)); first | (k_unfold; (try dsimp only)) | (k_end; wrow_close) | walk1 | (dsimp only; walk1) | (leave1; walk_say "STEP leave1"; try dsimp only) | fail "no step"); all_goals (repeat (k_unfold; (try dsimp only))))
    refine item_str (fitsSsize_of (N := 100) (by (first | lia | omega)) (by (first | lia | omega)) (by decide)) (by rw [show (Str.ofString "&<>\"\ta").length = 6 by decide]; (first | lia | omega)) (by rw [show (Str.ofString "&<>\"\ta").length = 6 by decide]; (first | lia | omega)) ?_
    intro _
    rw [sign_item _ hp1]
    refine LCg.CompEnd.intro F1 N1 _ (fun _ h => h) off1 (.inr ⟨_, .head _, rfl, _, rfl⟩) ?_
    refine LCg.CompRest.succ (k := 0) ?_
    intro v2 I2 oI2 C2 oC2 E2 m2 h2 tk2 Ee2 hP2 hC2 hx2 F2 N2 off2 ne2
    obtain rfl : v2 = Value.int (pB x : Int) t2 := (Option.some.inj hP2).symm
    have hp2 := (pB_spec x).2
    ((try dsimp only); (try k_fold); repeat' ((fail_if_success (with_reducible show wpAny _ _ (subscriptTail _ _ (Value.str _ _) _) _ _ _)); first | (k_unfold; (try dsimp only)) | (k_end; wrow_close) | walk1 | (dsimp only; walk1) | (leave1; walk_say "STEP leave1"; try dsimp only) | fail "no step"); all_goals (repeat (k_unfold; (try dsimp only))))
    refine item_str (fitsSsize_of (N := 100) (by (first | lia | omega)) (by (first | lia | omega)) (by decide)) (by rw [show (Str.ofString "&<>\"\ta").length = 6 by decide]; (first | lia | omega)) (by rw [show (Str.ofString "&<>\"\ta").length = 6 by decide]; (first | lia | omega)) ?_
    intro _
    rw [sign_item _ hp2]
    refine LCg.CompEnd.intro F2 N2 _ (fun _ h => h) off2 (.inr ⟨_, .head _, rfl, _, rfl⟩) ?_
    refine LCg.CompRest.zero ?_
    intro G8 h8 tk8 F8 N8 off8
    ((try dsimp only); (try k_fold); repeat' ((fail_if_success (with_reducible show wpAny _ _ (call (Value.builtin "str.join") _) _ _ _)); first | (k_unfold; (try dsimp only)) | (k_end; wrow_close) | walk1 | (dsimp only; walk1) | (leave1; walk_say "STEP leave1"; try dsimp only) | fail "no step"); all_goals (repeat (k_unfold; (try dsimp only))))
    refine join_listW (led_list N8 (.head _)) (.cons _ _ (.cons _ _ .nil)) (by decide) (by simp [S_length]) ?_
    intro t8 k8
    rw [show Txt.join (Str.ofString "") [S [sign (pA x)], S [sign (pB x)]] = S (t0 x) from join_S [[sign (pA x)], [sign (pB x)]]]
    ((try dsimp only); (try k_fold); repeat' ((fail_if_success (with_reducible show wpAny _ _ (newList _) _ _ _)); (fail_if_success (with_reducible show wpAny _ _ (subscriptTail _ _ (Value.ref _) _) _ _ _)); first | (k_unfold; (try dsimp only)) | (k_end; wrow_close) | walk1 | (dsimp only; walk1) | (leave1; walk_say "STEP leave1"; try dsimp only) | fail "no step"); all_goals (repeat (k_unfold; (try dsimp only))))
    refine newList_K (by k_asm) (by k_asm) ?_
    intro K7 h7 F7 N7 hlt7
    ((try dsimp only); (try k_fold); repeat' ((fail_if_success (with_reducible show wpAny _ _ (newList _) _ _ _)); (fail_if_success (with_reducible show wpAny _ _ (subscriptTail _ _ (Value.ref _) _) _ _ _)); first | (k_unfold; (try dsimp only)) | (k_end; wrow_close) | walk1 | (dsimp only; walk1) | (leave1; walk_say "STEP leave1"; try dsimp only) | fail "no step"); all_goals (repeat (k_unfold; (try dsimp only))))
    refine led_item (n := i) (by k_asm) (.tail _ (.tail _ (.tail _ (.tail _ (.tail _ (List.mem_append_right _ hm)))))) rfl hsz hdv' ?_ (by with_unfolding_all rfl)
    ((try dsimp only); (try k_fold); repeat' ((fail_if_success (with_reducible show wpAny _ _ (newList _) _ _ _)); (fail_if_success (with_reducible show wpAny _ _ (subscriptTail _ _ (Value.ref _) _) _ _ _)); first | (k_unfold; (try dsimp only)) | (k_end; wrow_close) | walk1 | (dsimp only; walk1) | (leave1; walk_say "STEP leave1"; try dsimp only) | fail "no step"); all_goals (repeat (k_unfold; (try dsimp only))))
    refine led_itemI (n := kd x) (val := kindI (kd x)) (by k_asm) (.head _) (kd_spec x).1 (by show 4 ≤ 64; decide) (kinds_at _ _ _ _ _ (kd_spec x).2) ?_ (by with_unfolding_all rfl)
    intro tq
    ((try dsimp only); (try k_fold); repeat' ((fail_if_success (with_reducible show wpAny _ _ (newList _) _ _ _)); (fail_if_success (with_reducible show wpAny _ _ (subscriptTail _ _ (Value.ref _) _) _ _ _)); first | (k_unfold; (try dsimp only)) | (k_end; wrow_close) | walk1 | (dsimp only; walk1) | (leave1; walk_say "STEP leave1"; try dsimp only) | fail "no step"); all_goals (repeat (k_unfold; (try dsimp only))))
    refine led_item (n := i) (by k_asm) (.tail _ (.tail _ (.tail _ (.tail _ (.tail _ (List.mem_append_right _ hm)))))) rfl hsz hdv' ?_ (by with_unfolding_all rfl)
    ((try dsimp only); (try k_fold); repeat' ((fail_if_success (with_reducible show wpAny _ _ (binaryOp Operator.Mult _ _) _ _ _)); first | (k_unfold; (try dsimp only)) | (k_end; wrow_close) | walk1 | (dsimp only; walk1) | (leave1; walk_say "STEP leave1"; try dsimp only) | fail "no step"); all_goals (repeat (k_unfold; (try dsimp only))))
    refine mul_int ?_ (mul73 _)
    rw [(rt_spec x).1]
    ((try dsimp only); (try k_fold); repeat' ((fail_if_success (with_reducible show wpAny _ _ (newTuple _) _ _ _)); (fail_if_success (with_reducible show wpAny _ _ (call (Value.builtin "len") _) _ _ _)); first | (k_unfold; (try dsimp only)) | (k_end; wrow_close) | walk1 | (dsimp only; walk1) | (leave1; walk_say "STEP leave1"; try dsimp only) | fail "no step"); all_goals (repeat (k_unfold; (try dsimp only))))
    refine len_str (by rw [S_length, show (t0 x).length = 2 from rfl]; decide) ?_
    rw [S_length, show (t0 x).length = 2 from rfl]
    ((try dsimp only); (try k_fold); repeat' ((fail_if_success (with_reducible show wpAny _ _ (newTuple _) _ _ _)); first | (k_unfold; (try dsimp only)) | (k_end; wrow_close) | walk1 | (dsimp only; walk1) | (leave1; walk_say "STEP leave1"; try dsimp only) | fail "no step"); all_goals (repeat (k_unfold; (try dsimp only))))
    refine kup_newTuple (by k_asm) (by k_asm) ?_ (by show 4 ≤ sizeLine; decide)
    intro X6 h5' F5 N5 hltX
    ((try dsimp only); (try k_fold); repeat' ((fail_if_success (with_reducible show wpAny _ _ (call (Value.builtin "list.append") _) _ _ _)); first | (k_unfold; (try dsimp only)) | (k_end; wrow_close) | walk1 | (dsimp only; walk1) | (leave1; walk_say "STEP leave1"; try dsimp only) | fail "no step"); all_goals (repeat (k_unfold; (try dsimp only))))
    have q1 : X6 ≠ l6 := Nat.ne_of_gt (hltX _ (.tail _ (.tail _ (.tail _ (.tail _ (.head _))))))
    have q2 : K7 ≠ l6 := Nat.ne_of_gt (hlt7 _ (.tail _ (.tail _ (.tail _ (.head _)))))
    have q3 : G8 ≠ l6 := Ne.symm off8.2.2.1
    have q4 : D9 ≠ l6 := Nat.ne_of_gt (hlt9 _ (.tail _ (.head _)))
    have q5 : I ≠ l6 := Ne.symm (hoff _ (.head _))
    refine append_K (D := l6) (by k_asm) (by k_asm) (.tail q1 (.tail q2 (.tail q3 (.tail q4 (.tail q5 (.head ho9)))))) ?_ ?sz
    case sz => rw [refs_size]; rw [sizeLine_eq]; (first | lia | omega)
    intro h4 F4 N4
    ((try dsimp only); (try k_fold); repeat' ((fail_if_success (with_reducible show wpAny _ _ (exec (PySem.Stmt.While _ _ _ _) _) _ _ _)); (fail_if_success (with_reducible show wpAny _ _ (exec (PySem.Stmt.For _ _ _ _ _) _) _ _ _)); (fail_if_success (with_reducible show wpAny _ _ (eval (PySem.Expr.ListComp _ _ _ _) _) _ _ _)); (fail_if_success (with_reducible show wpAny _ _ (subscriptTail _ _ (Value.ref _) _) _ _ _)); (fail_if_success (with_reducible show wpAny _ _ (setItem (Value.ref _) _ _) _ _ _)); (fail_if_success (with_reducible show wpAny _ _ (compareOp CmpOp.Lt (Value.ref _) (Value.ref _)) _ _ _)); (fail_if_success (with_reducible show wpAny _ _ (call (Value.ref _) _) _ _ _)); (fail_if_success (with_reducible show wpAny _ _ (call (Value.builtin "len") [Value.ref _]) _ _ _)); (fail_if_success (with_reducible show KswEnd _ _ _ _ _ _ _ _ _ _ _ _)); (fail_if_success (with_reducible show LoopStepU _ _ _ _ _ _ _ _)); (fail_if_success (with_reducible show InvEndN _ _ _ _ _ _ _)); (fail_if_success (with_reducible show RngEnd _ _ _ _ _ _ _ _ _ _ _)); (fail_if_success (with_reducible show RngPost _ _ _ _ _ _ _ _ _ _ _ _ _)); first | (k_unfold; (try dsimp only)) | (k_end; wrow_close) | walk1 | (dsimp only; walk1) | (leave1; walk_say "STEP leave1"; try dsimp only) | fail "no step"); all_goals (repeat (k_unfold; (try dsimp only))))
    obtain ⟨y, ⟨hya, hyf⟩, N4⟩ : ∃ y : Item, (y.addr = X6 ∧ isFirst ds i y) ∧ News _ _ h4 (y.ent :: _ :: _ :: _ :: (I, io) :: (l6, heapObj (its ++ [y]) (ep + 1)) :: (its.map Item.ent ++ news)) :=
      ⟨⟨X6, 2, (i : Int), S (t0 x), stI (kd x) (rt x), _, _, _, _⟩, ⟨rfl, rfl, rfl, by rw [hx], by rw [hx]⟩, by unfold heapObj; rw [← refs_push]; exact N4⟩
    refine rng_end (its ++ [y], ep + 1) (by k_asm) N4 ?hn (.tail _ (.tail _ (.tail _ (.tail _ (.head _))))) ?ho (fun _ h => nomatch h) ?hr ?hP
    case hn =>
      intro p hp
      rcases List.mem_cons.mp hp with rfl | hp
      · exact .tail _ (.tail _ (.tail _ (.tail _ (.tail _ (.head _)))))
      · rw [List.map_append, List.append_assoc] at hp
        rcases List.mem_append.mp hp with hp | hp
        · exact .tail _ (.tail _ (.tail _ (.tail _ (.tail _ (.tail _ (List.mem_append_left _ hp))))))
        · rcases List.mem_append.mp hp with hp | hp
          · rw [List.mem_singleton.mp hp]; exact .head _
          · exact .tail _ (.tail _ (.tail _ (.tail _ (.tail _ (.tail _ (List.mem_append_right _ hp))))))
    case ho =>
      intro p hp
      rcases List.mem_cons.mp hp with rfl | hp
      · exact Ne.symm q5
      · rw [List.map_append, List.append_assoc] at hp
        rcases List.mem_append.mp hp with hp | hp
        · exact hoff _ (.tail _ (List.mem_append_left _ hp))
        · rcases List.mem_append.mp hp with hp | hp
          · rw [List.mem_singleton.mp hp]; show y.addr ≠ I; rw [hya]; exact Nat.ne_of_gt (hltX _ (.tail _ (.tail _ (.tail _ (.head _)))))
          · exact hoff _ (.tail _ (List.mem_append_right _ hp))
    case hr => exact fun z h1 _ h3 => (if_neg (ne_of_not (ne_of_not h3).2).1).trans ((if_neg (ne_of_not h3).1).trans ((if_neg h1).trans (not_in h3)))
    case hP =>
      refine ⟨by simp [hl9], fun k y' hy => ?_, fun p hp => ?_⟩
      · by_cases hk : k < its.length
        · exact hf9 k y' (by rw [List.getElem?_append_left hk] at hy; exact hy)
        · rw [List.getElem?_append_right (by (first | lia | omega))] at hy
          obtain ⟨e1, e2⟩ : k - its.length = 0 ∧ y' = _ := by
            cases hq : k - its.length with
            | zero => rw [hq] at hy; exact ⟨rfl, (Option.some.inj hy).symm⟩
            | succ n => rw [hq] at hy; cases hy
          obtain rfl : k = i := by (first | lia | omega)
          subst e2
          exact hyf
      · rw [List.map_append, List.append_assoc] at hp
        rcases List.mem_append.mp hp with hp | hp
        · exact ho9 p (List.mem_append_left _ hp)
        · rcases List.mem_append.mp hp with hp | hp
          · rw [List.mem_singleton.mp hp]; show y.addr ≠ l6; rw [hya]; exact q1
          · exact ho9 p (List.mem_append_right _ hp)
  · rintro ⟨its, ep⟩ u h9 tk9 ⟨hl9, hf9, ho9⟩ F9 N9
    dsimp only at hl9 hf9 ho9 F9 N9
    have H0 : HInv ds its [] := HInv.first hl9 hf9
    ((try dsimp only); (try k_fold); repeat' ((fail_if_success (with_reducible show wpAny _ _ (exec (PySem.Stmt.While _ _ _ _) _) _ _ _)); (fail_if_success (with_reducible show wpAny _ _ (exec (PySem.Stmt.For _ _ _ _ _) _) _ _ _)); (fail_if_success (with_reducible show wpAny _ _ (eval (PySem.Expr.ListComp _ _ _ _) _) _ _ _)); (fail_if_success (with_reducible show wpAny _ _ (subscriptTail _ _ (Value.ref _) _) _ _ _)); (fail_if_success (with_reducible show wpAny _ _ (setItem (Value.ref _) _ _) _ _ _)); (fail_if_success (with_reducible show wpAny _ _ (compareOp CmpOp.Lt (Value.ref _) (Value.ref _)) _ _ _)); (fail_if_success (with_reducible show wpAny _ _ (call (Value.ref _) _) _ _ _)); (fail_if_success (with_reducible show wpAny _ _ (call (Value.builtin "len") [Value.ref _]) _ _ _)); (fail_if_success (with_reducible show KswEnd _ _ _ _ _ _ _ _ _ _ _ _)); (fail_if_success (with_reducible show LoopStepU _ _ _ _ _ _ _ _)); (fail_if_success (with_reducible show InvEndN _ _ _ _ _ _ _)); (fail_if_success (with_reducible show RngEnd _ _ _ _ _ _ _ _ _ _ _)); (fail_if_success (with_reducible show RngPost _ _ _ _ _ _ _ _ _ _ _ _ _)); first | (k_unfold; (try dsimp only)) | (k_end; wrow_close) | walk1 | (dsimp only; walk1) | (leave1; walk_say "STEP leave1"; try dsimp only) | fail "no step"); all_goals (repeat (k_unfold; (try dsimp only))))
    (refine' ctr_use (heapify_c w l6 its ep (its.map Item.ent ++ news) (by (first | lia | omega)) ⟨ho9, fun x hx => List.mem_append_left _ (List.mem_map_of_mem hx)⟩ (dis_ne H0.dis) (first_id its (by (first | lia | omega)) fun k x hx => ⟨(hf9 k x hx).1, (hf9 k x hx).2.1⟩)) ?k1 ?k2 ?k3 ?k4 ?k5 ?kK ?kd ?ku ?_; (case k1 => k_asm); (case k2 => k_asm); (case k3 => k_asm); (case k4 => k_asm); (case k5 => k_asm); (case kK => first | exact rfl | assumption); (case kd => first | lia | ktr_room | ((try dsimp only [A9]); ktr_room)); (case ku => first | lia | ktr_units | ((try dsimp only [A9]); ktr_units)))
    intro r9 n9 h9 tk9 F9 N9 P9
    obtain ⟨rfl, rfl⟩ := P9
    ((try dsimp only); (try k_fold); repeat' ((fail_if_success (with_reducible show wpAny _ _ (newList _) _ _ _)); first | (k_unfold; (try dsimp only)) | (k_end; wrow_close) | walk1 | (dsimp only; walk1) | (leave1; walk_say "STEP leave1"; try dsimp only) | fail "no step"); all_goals (repeat (k_unfold; (try dsimp only))))
    refine newList_K (by k_asm) (by k_asm) ?_
    intro R6 h6b F6b N6b hltR
    ((try dsimp only); (try k_fold); repeat' ((fail_if_success (with_reducible show wpAny _ _ (exec (PySem.Stmt.While _ _ _ _) _) _ _ _)); (fail_if_success (with_reducible show wpAny _ _ (exec (PySem.Stmt.For _ _ _ _ _) _) _ _ _)); (fail_if_success (with_reducible show wpAny _ _ (eval (PySem.Expr.ListComp _ _ _ _) _) _ _ _)); (fail_if_success (with_reducible show wpAny _ _ (subscriptTail _ _ (Value.ref _) _) _ _ _)); (fail_if_success (with_reducible show wpAny _ _ (setItem (Value.ref _) _ _) _ _ _)); (fail_if_success (with_reducible show wpAny _ _ (compareOp CmpOp.Lt (Value.ref _) (Value.ref _)) _ _ _)); (fail_if_success (with_reducible show wpAny _ _ (call (Value.ref _) _) _ _ _)); (fail_if_success (with_reducible show wpAny _ _ (call (Value.builtin "len") [Value.ref _]) _ _ _)); (fail_if_success (with_reducible show KswEnd _ _ _ _ _ _ _ _ _ _ _ _)); (fail_if_success (with_reducible show LoopStepU _ _ _ _ _ _ _ _)); (fail_if_success (with_reducible show InvEndN _ _ _ _ _ _ _)); (fail_if_success (with_reducible show RngEnd _ _ _ _ _ _ _ _ _ _ _)); (fail_if_success (with_reducible show RngPost _ _ _ _ _ _ _ _ _ _ _ _ _)); first | (k_unfold; (try dsimp only)) | (k_end; wrow_close) | walk1 | (dsimp only; walk1) | (leave1; walk_say "STEP leave1"; try dsimp only) | fail "no step"); all_goals (repeat (k_unfold; (try dsimp only))))
    rename Fr _ _ _ _ => lF'
    refine For_invVF lF' rfl rfl ?_
    ((try dsimp only); (try k_fold); repeat' ((fail_if_success (with_reducible show wpAny _ _ (call (Value.builtin "len") _) _ _ _)); (fail_if_success (with_reducible show wpAny _ _ (call (Value.type "range") _) _ _ _)); first | (k_unfold; (try dsimp only)) | (k_end; wrow_close) | walk1 | (dsimp only; walk1) | (leave1; walk_say "STEP leave1"; try dsimp only) | fail "no step"); all_goals (repeat (k_unfold; (try dsimp only))))
    rename Fr _ _ _ _ => F7b
    rename News _ _ _ _ => N7b
    have hTl : (2 + (ds.length : Int)) = ((2 + ds.length : Nat) : Int) := by (first | lia | omega)
    rw [hTl]
    have hlR : l6 ≠ R6 := Nat.ne_of_lt (hltR _ (.head _))
    refine for_range (σ := TSt) (ledT l6 R6 ep news) (fun _ => []) [Str.ofString "size", Str.ofString "k", Str.ofString "text", Str.ofString "state", Str.ofString "after"]
      (TInvR ds l6 R6 news) ⟨its, [], [], 0⟩ (by (first | lia | omega)) rfl F7b ?k0 (fun _ h => nomatch h) ⟨H0, rfl, Noted.nil ds, ?k1⟩ ?_ ?_
    case k0 => exact news_swap N7b
    case k1 => exact fun p hp => ⟨ho9 p hp, Nat.ne_of_lt (hltR p (.tail _ hp))⟩
    · rintro I i ⟨its2, picks, ns, re⟩ u t' h9 tk9 io hi ⟨H, hpl, hN, hof⟩ hoff F9 N9
      dsimp only [ledT] at H hpl hN hof hoff F9 N9
      (revert F9; show (let m8 : Str → Option Value := _; Fr _ _ _ m8 → _); intro m8 F9)
      obtain ⟨k, hk', hx, hmin⟩ := H.top h2
      have h0l : 0 < its2.length := by have := H.len; (first | lia | omega)
      have hxm := getD_mem h0l
      obtain ⟨⟨xa, xl, xk, xt, xs, y1, y2, y3, y4⟩, hxe⟩ : ∃ x, its2.getD 0 default = x := ⟨_, rfl⟩
      have hx' := hx
      rw [hxe] at hx hxm
      obtain ⟨e1, e2, e3, e4⟩ := hx
      dsimp only at e1 e2 e3 e4
      subst e1 e2 e3 e4
      have hxl : (xa, ({ cls := .type "tuple", data := .seq #[.int (fLen ds k (cnt picks k) : Int) y1, .int (k : Int) y2, .str (S (textAt (ds.getD k 0) (cnt picks k))) y3, .int (stI ((kd (ds.getD k 0) + cnt picks k) % 4) (rt (ds.getD k 0))) y4] } : Obj)) ∈ its2.map Item.ent ++ (ns.map NIt.ent ++ news) := List.mem_append_left _ (List.mem_map_of_mem (f := Item.ent) hxm)
      obtain ⟨tx, htx⟩ : ∃ tx, textAt (ds.getD k 0) (cnt picks k) = tx := ⟨_, rfl⟩
      obtain ⟨ki, hki⟩ : ∃ ki, (kd (ds.getD k 0) + cnt picks k) % 4 = ki := ⟨_, rfl⟩
      obtain ⟨ri, hri⟩ : ∃ ri, rt (ds.getD k 0) = ri := ⟨_, rfl⟩
      have hki4 : ki < 4 := by rw [← hki]; exact Nat.mod_lt _ (by decide)
      have hri8 : ri < 8 := by rw [← hri]; exact (rt_spec _).2
      rw [htx, hki, hri] at hxl
      replace N9 := news_swap N9
      (revert N9; show (let n7 : List (Addr × Obj) := _; News _ _ _ ((l6, heapObj its2 ep) :: (I, io) :: n7) → _); intro n7 N9)
      ((try dsimp only); (try k_fold); repeat' ((fail_if_success (with_reducible show wpAny _ _ (exec (PySem.Stmt.While _ _ _ _) _) _ _ _)); (fail_if_success (with_reducible show wpAny _ _ (exec (PySem.Stmt.For _ _ _ _ _) _) _ _ _)); (fail_if_success (with_reducible show wpAny _ _ (eval (PySem.Expr.ListComp _ _ _ _) _) _ _ _)); (fail_if_success (with_reducible show wpAny _ _ (subscriptTail _ _ (Value.ref _) _) _ _ _)); (fail_if_success (with_reducible show wpAny _ _ (setItem (Value.ref _) _ _) _ _ _)); (fail_if_success (with_reducible show wpAny _ _ (compareOp CmpOp.Lt (Value.ref _) (Value.ref _)) _ _ _)); (fail_if_success (with_reducible show wpAny _ _ (call (Value.ref _) _) _ _ _)); (fail_if_success (with_reducible show wpAny _ _ (call (Value.builtin "len") [Value.ref _]) _ _ _)); (fail_if_success (with_reducible show KswEnd _ _ _ _ _ _ _ _ _ _ _ _)); (fail_if_success (with_reducible show LoopStepU _ _ _ _ _ _ _ _)); (fail_if_success (with_reducible show InvEndN _ _ _ _ _ _ _)); (fail_if_success (with_reducible show RngEnd _ _ _ _ _ _ _ _ _ _ _)); (fail_if_success (with_reducible show RngPost _ _ _ _ _ _ _ _ _ _ _ _ _)); first | (k_unfold; (try dsimp only)) | (k_end; wrow_close) | walk1 | (dsimp only; walk1) | (leave1; walk_say "STEP leave1"; try dsimp only) | fail "no step"); all_goals (repeat (k_unfold; (try dsimp only))))
      refine heap_getI (n := 0) (by k_asm) rfl h0l (by have := H.len; (first | lia | omega)) ?_ (by with_unfolding_all rfl)
      rw [hxe]
      ((try dsimp only); (try k_fold); repeat' ((fail_if_success (with_reducible show wpAny _ _ (assign (PySem.Expr.Tuple _ _ _) _ _) _ _ _)); first | (k_unfold; (try dsimp only)) | (k_end; wrow_close) | walk1 | (dsimp only; walk1) | (leave1; walk_say "STEP leave1"; try dsimp only) | fail "no step"); all_goals (repeat (k_unfold; (try dsimp only))))
      rename Fr _ _ _ _ => F8a
      rename News _ _ _ _ => N8a
      refine unpackN_ F8a N8a ⟨_, (N8a _ (.tail _ (.tail _ (.tail _ hxl)))).1, rfl, 0, rfl⟩ rfl rfl rfl ?_
      intro h8 F8 N8
      ((try dsimp only); (try k_fold); repeat' ((fail_if_success (with_reducible show wpAny _ _ (exec (PySem.Stmt.While _ _ _ _) _) _ _ _)); (fail_if_success (with_reducible show wpAny _ _ (exec (PySem.Stmt.For _ _ _ _ _) _) _ _ _)); (fail_if_success (with_reducible show wpAny _ _ (eval (PySem.Expr.ListComp _ _ _ _) _) _ _ _)); (fail_if_success (with_reducible show wpAny _ _ (subscriptTail _ _ (Value.ref _) _) _ _ _)); (fail_if_success (with_reducible show wpAny _ _ (setItem (Value.ref _) _ _) _ _ _)); (fail_if_success (with_reducible show wpAny _ _ (compareOp CmpOp.Lt (Value.ref _) (Value.ref _)) _ _ _)); (fail_if_success (with_reducible show wpAny _ _ (call (Value.ref _) _) _ _ _)); (fail_if_success (with_reducible show wpAny _ _ (call (Value.builtin "len") [Value.ref _]) _ _ _)); (fail_if_success (with_reducible show KswEnd _ _ _ _ _ _ _ _ _ _ _ _)); (fail_if_success (with_reducible show LoopStepU _ _ _ _ _ _ _ _)); (fail_if_success (with_reducible show InvEndN _ _ _ _ _ _ _)); (fail_if_success (with_reducible show RngEnd _ _ _ _ _ _ _ _ _ _ _)); (fail_if_success (with_reducible show RngPost _ _ _ _ _ _ _ _ _ _ _ _ _)); first | (k_unfold; (try dsimp only)) | (k_end; wrow_close) | walk1 | (dsimp only; walk1) | (leave1; walk_say "STEP leave1"; try dsimp only) | fail "no step"); all_goals (repeat (k_unfold; (try dsimp only))))
      (refine' ctr_use (filemode_c _ _ _ hki4 hri8 _ _) ?k1 ?k2 ?k3 ?k4 ?k5 ?kK ?kd ?ku ?_; (case k1 => k_asm); (case k2 => k_asm); (case k3 => k_asm); (case k4 => k_asm); (case k5 => k_asm); (case kK => first | exact rfl | assumption); (case kd => first | lia | ktr_room | ((try dsimp only [A9]); ktr_room)); (case ku => first | lia | ktr_units | ((try dsimp only [A9]); ktr_units)))
      intro r9 n9 h9 tk9 F9 N9 P9
      obtain ⟨rfl, t9, rfl⟩ := P9
      ((try dsimp only); (try k_fold); repeat' ((fail_if_success (with_reducible show wpAny _ _ (newTuple _) _ _ _)); first | (k_unfold; (try dsimp only)) | (k_end; wrow_close) | walk1 | (dsimp only; walk1) | (leave1; walk_say "STEP leave1"; try dsimp only) | fail "no step"); all_goals (repeat (k_unfold; (try dsimp only))))
      refine kup_newTuple (by k_asm) (by k_asm) ?_ (by show 3 ≤ sizeLine; decide)
      intro Y6 h5' F5 N5 hltY
      ((try dsimp only); (try k_fold); repeat' ((fail_if_success (with_reducible show wpAny _ _ (call (Value.builtin "list.append") _) _ _ _)); first | (k_unfold; (try dsimp only)) | (k_end; wrow_close) | walk1 | (dsimp only; walk1) | (leave1; walk_say "STEP leave1"; try dsimp only) | fail "no step"); all_goals (repeat (k_unfold; (try dsimp only))))
      have q1 : Y6 ≠ R6 := Nat.ne_of_gt (hltY _ (.tail _ (.tail _ (.head _))))
      have q2 : I ≠ R6 := Ne.symm (hoff _ (.tail _ (.head _)))
      have q3 : I ≠ l6 := Ne.symm (hoff _ (.head _))
      have q4 : Y6 ≠ l6 := Nat.ne_of_gt (hltY _ (.head _))
      have q5 : Y6 ≠ I := Nat.ne_of_gt (hltY _ (.tail _ (.head _)))
      have hcn : cnt picks k ≤ i := hpl ▸ cnt_le picks k
      refine append_K (D := R6) (by k_asm) (by k_asm) (.tail q1 (.tail hlR (.tail q2 (.head fun p hp => (hof p hp).2)))) ?_ ?sz
      case sz => rw [nrefs_size, hN.1]; rw [sizeLine_eq]; (first | lia | omega)
      intro h4 F4 N4
      ((try dsimp only); (try k_fold); repeat' ((fail_if_success (with_reducible show wpAny _ _ (exec (PySem.Stmt.While _ _ _ _) _) _ _ _)); (fail_if_success (with_reducible show wpAny _ _ (exec (PySem.Stmt.For _ _ _ _ _) _) _ _ _)); (fail_if_success (with_reducible show wpAny _ _ (eval (PySem.Expr.ListComp _ _ _ _) _) _ _ _)); (fail_if_success (with_reducible show wpAny _ _ (subscriptTail _ _ (Value.ref _) _) _ _ _)); (fail_if_success (with_reducible show wpAny _ _ (setItem (Value.ref _) _ _) _ _ _)); (fail_if_success (with_reducible show wpAny _ _ (compareOp CmpOp.Lt (Value.ref _) (Value.ref _)) _ _ _)); (fail_if_success (with_reducible show wpAny _ _ (call (Value.ref _) _) _ _ _)); (fail_if_success (with_reducible show wpAny _ _ (call (Value.builtin "len") [Value.ref _]) _ _ _)); (fail_if_success (with_reducible show KswEnd _ _ _ _ _ _ _ _ _ _ _ _)); (fail_if_success (with_reducible show LoopStepU _ _ _ _ _ _ _ _)); (fail_if_success (with_reducible show InvEndN _ _ _ _ _ _ _)); (fail_if_success (with_reducible show RngEnd _ _ _ _ _ _ _ _ _ _ _)); (fail_if_success (with_reducible show RngPost _ _ _ _ _ _ _ _ _ _ _ _ _)); first | (k_unfold; (try dsimp only)) | (k_end; wrow_close) | walk1 | (dsimp only; walk1) | (leave1; walk_say "STEP leave1"; try dsimp only) | fail "no step"); all_goals (repeat (k_unfold; (try dsimp only))))
      have hxlen : tx.length ≤ 1000 := by
        have := text_len (ds.getD k 0) (cnt picks k)
        rw [htx] at this
        (first | lia | omega)
      (refine' ctr_use (rewritten_c _ _ _ hki4 hri8 _ _ _ _ hxlen) ?k1 ?k2 ?k3 ?k4 ?k5 ?kK ?kd ?ku ?_; (case k1 => k_asm); (case k2 => k_asm); (case k3 => k_asm); (case k4 => k_asm); (case k5 => k_asm); (case kK => first | exact rfl | assumption); (case kd => first | lia | ktr_room | ((try dsimp only [A9]); ktr_room)); (case ku => first | lia | ktr_units | ((try dsimp only [A9]); ktr_units)))
      intro r9 n9 h9 tk9 F9 N9 P9
      obtain ⟨rfl, t9b, rfl⟩ := P9
      have htx2 : esc ki tx = textAt (ds.getD k 0) (cnt picks k + 1) := by rw [← hki, ← htx]; exact text_succ _ _
      rw [htx2]
      ((try dsimp only); (try k_fold); repeat' ((fail_if_success (with_reducible show wpAny _ _ (call (Value.builtin "len") _) _ _ _)); first | (k_unfold; (try dsimp only)) | (k_end; wrow_close) | walk1 | (dsimp only; walk1) | (leave1; walk_say "STEP leave1"; try dsimp only) | fail "no step"); all_goals (repeat (k_unfold; (try dsimp only))))
      refine len_str ?sz2 ?_
      case sz2 => rw [S_length]; have := text_len (ds.getD k 0) (cnt picks k + 1); (first | lia | omega)
      rw [S_length]
      ((try dsimp only); (try k_fold); repeat' ((fail_if_success (with_reducible show wpAny _ _ (exec (PySem.Stmt.While _ _ _ _) _) _ _ _)); (fail_if_success (with_reducible show wpAny _ _ (exec (PySem.Stmt.For _ _ _ _ _) _) _ _ _)); (fail_if_success (with_reducible show wpAny _ _ (eval (PySem.Expr.ListComp _ _ _ _) _) _ _ _)); (fail_if_success (with_reducible show wpAny _ _ (subscriptTail _ _ (Value.ref _) _) _ _ _)); (fail_if_success (with_reducible show wpAny _ _ (setItem (Value.ref _) _ _) _ _ _)); (fail_if_success (with_reducible show wpAny _ _ (compareOp CmpOp.Lt (Value.ref _) (Value.ref _)) _ _ _)); (fail_if_success (with_reducible show wpAny _ _ (call (Value.ref _) _) _ _ _)); (fail_if_success (with_reducible show wpAny _ _ (call (Value.builtin "len") [Value.ref _]) _ _ _)); (fail_if_success (with_reducible show KswEnd _ _ _ _ _ _ _ _ _ _ _ _)); (fail_if_success (with_reducible show LoopStepU _ _ _ _ _ _ _ _)); (fail_if_success (with_reducible show InvEndN _ _ _ _ _ _ _)); (fail_if_success (with_reducible show RngEnd _ _ _ _ _ _ _ _ _ _ _)); (fail_if_success (with_reducible show RngPost _ _ _ _ _ _ _ _ _ _ _ _ _)); first | (k_unfold; (try dsimp only)) | (k_end; wrow_close) | walk1 | (dsimp only; walk1) | (leave1; walk_say "STEP leave1"; try dsimp only) | fail "no step"); all_goals (repeat (k_unfold; (try dsimp only))))
      (refine' ctr_use (moved_c _ _ _ hki4 hri8 _ _) ?k1 ?k2 ?k3 ?k4 ?k5 ?kK ?kd ?ku ?_; (case k1 => k_asm); (case k2 => k_asm); (case k3 => k_asm); (case k4 => k_asm); (case k5 => k_asm); (case kK => first | exact rfl | assumption); (case kd => first | lia | ktr_room | ((try dsimp only [A9]); ktr_room)); (case ku => first | lia | ktr_units | ((try dsimp only [A9]); ktr_units)))
      intro r9 n9 h9 tk9 F9 N9 P9
      obtain ⟨rfl, t9c, rfl⟩ := P9
      ((try dsimp only); (try k_fold); repeat' ((fail_if_success (with_reducible show wpAny _ _ (newTuple _) _ _ _)); first | (k_unfold; (try dsimp only)) | (k_end; wrow_close) | walk1 | (dsimp only; walk1) | (leave1; walk_say "STEP leave1"; try dsimp only) | fail "no step"); all_goals (repeat (k_unfold; (try dsimp only))))
      refine kup_newTuple (by k_asm) (by k_asm) ?_ (by show 4 ≤ sizeLine; decide)
      intro Z6 h3' F3 N3 hltZ
      replace N3 := news_rot N3
      have em : ∀ a b : Nat, ((a + b) % 4 + 1) % 4 = (a + (b + 1)) % 4 := by intro a b; (first | lia | omega)
      obtain ⟨y, z, ⟨hya, hyk, hyat, hza, hzat⟩, N3⟩ : ∃ (y : Item) (z : NIt), (y.addr = Z6 ∧ y.k = (its2.getD 0 default).k ∧ isAt ds (picks ++ [(k, cnt picks k)]) k y ∧ z.addr = Y6 ∧ isNoted ds (k, cnt picks k) z) ∧ News _ _ h3' ((l6, heapObj its2 ep) :: y.ent :: z.ent :: (I, io) :: (R6, W.listOf (nrefs (ns ++ [z])) (re + 1)) :: (its2.map Item.ent ++ (ns.map NIt.ent ++ news))) := by
        refine ⟨⟨Z6, ((textAt (ds.getD k 0) (cnt picks k + 1)).length : Int), (k : Int), S (textAt (ds.getD k 0) (cnt picks k + 1)), stI ((ki + 1) % 4) ri, _, _, _, _⟩, ⟨Y6, (k : Int), S tx, S (lstg ki ri), _, _, _⟩, ⟨rfl, by rw [hxe], ?_, rfl, rfl, by rw [htx], by rw [hki, hri]⟩, by rw [← nrefs_push]; exact N3⟩
        unfold isAt fLen
        rw [cnt_snoc, if_pos rfl]
        exact ⟨rfl, rfl, rfl, by rw [← hki, ← hri, em]⟩
      have z1 : Z6 ≠ l6 := Nat.ne_of_gt (hltZ _ (.tail _ (.head _)))
      have z2 : Z6 ≠ R6 := Nat.ne_of_gt (hltZ _ (.tail _ (.tail _ (.tail _ (.head _)))))
      have z3 : Z6 ≠ I := Nat.ne_of_gt (hltZ _ (.tail _ (.tail _ (.head _))))
      rw [← hya]
      have H' := HInv.step H h2 h5 hk' hx' hmin hyat
      have hset := set_k h0l hyk
      have hl2 := H.len
      ((try dsimp only); (try k_fold); repeat' ((fail_if_success (with_reducible show wpAny _ _ (exec (PySem.Stmt.While _ _ _ _) _) _ _ _)); (fail_if_success (with_reducible show wpAny _ _ (exec (PySem.Stmt.For _ _ _ _ _) _) _ _ _)); (fail_if_success (with_reducible show wpAny _ _ (eval (PySem.Expr.ListComp _ _ _ _) _) _ _ _)); (fail_if_success (with_reducible show wpAny _ _ (subscriptTail _ _ (Value.ref _) _) _ _ _)); (fail_if_success (with_reducible show wpAny _ _ (setItem (Value.ref _) _ _) _ _ _)); (fail_if_success (with_reducible show wpAny _ _ (compareOp CmpOp.Lt (Value.ref _) (Value.ref _)) _ _ _)); (fail_if_success (with_reducible show wpAny _ _ (call (Value.ref _) _) _ _ _)); (fail_if_success (with_reducible show wpAny _ _ (call (Value.builtin "len") [Value.ref _]) _ _ _)); (fail_if_success (with_reducible show KswEnd _ _ _ _ _ _ _ _ _ _ _ _)); (fail_if_success (with_reducible show LoopStepU _ _ _ _ _ _ _ _)); (fail_if_success (with_reducible show InvEndN _ _ _ _ _ _ _)); (fail_if_success (with_reducible show RngEnd _ _ _ _ _ _ _ _ _ _ _)); (fail_if_success (with_reducible show RngPost _ _ _ _ _ _ _ _ _ _ _ _ _)); first | (k_unfold; (try dsimp only)) | (k_end; wrow_close) | walk1 | (dsimp only; walk1) | (leave1; walk_say "STEP leave1"; try dsimp only) | fail "no step"); all_goals (repeat (k_unfold; (try dsimp only))))
      (refine' ctr_use (heapreplace_c w l6 its2 ep (y.ent :: z.ent :: (I, io) :: (R6, W.listOf (nrefs (ns ++ [z])) (re + 1)) :: (its2.map Item.ent ++ (ns.map NIt.ent ++ news))) y h0l (by (first | lia | omega)) ?hH (.head _) ?hD) ?k1 ?k2 ?k3 ?k4 ?k5 ?kK ?kd ?ku ?_; (case k1 => k_asm); (case k2 => k_asm); (case k3 => k_asm); (case k4 => k_asm); (case k5 => k_asm); (case kK => first | exact rfl | assumption); (case kd => first | lia | ktr_room | ((try dsimp only [A9]); ktr_room)); (case ku => first | lia | ktr_units | ((try dsimp only [A9]); ktr_units)))
      case hD =>
        have := dis_ne (vs := its2.set 0 y) (by rw [hset]; exact H.dis)
        rwa [List.length_set] at this
      case hH =>
        refine ⟨fun p hp => ?_, fun x hx => .tail _ (.tail _ (.tail _ (.tail _ (List.mem_append_left _ (List.mem_map_of_mem hx)))))⟩
        rcases List.mem_cons.mp hp with rfl | hp
        · show y.addr ≠ l6; rw [hya]; exact z1
        · rcases List.mem_cons.mp hp with rfl | hp
          · show z.addr ≠ l6; rw [hza]; exact q4
          · rcases List.mem_cons.mp hp with rfl | hp
            · exact q3
            · rcases List.mem_cons.mp hp with rfl | hp
              · exact Ne.symm hlR
              · exact (hof p hp).1
      intro r9 n9 h9 tk9 F9 N9 P9
      obtain ⟨rfl, rfl⟩ := P9
      ((try dsimp only); (try k_fold); repeat' ((fail_if_success (with_reducible show wpAny _ _ (exec (PySem.Stmt.While _ _ _ _) _) _ _ _)); (fail_if_success (with_reducible show wpAny _ _ (exec (PySem.Stmt.For _ _ _ _ _) _) _ _ _)); (fail_if_success (with_reducible show wpAny _ _ (eval (PySem.Expr.ListComp _ _ _ _) _) _ _ _)); (fail_if_success (with_reducible show wpAny _ _ (subscriptTail _ _ (Value.ref _) _) _ _ _)); (fail_if_success (with_reducible show wpAny _ _ (setItem (Value.ref _) _ _) _ _ _)); (fail_if_success (with_reducible show wpAny _ _ (compareOp CmpOp.Lt (Value.ref _) (Value.ref _)) _ _ _)); (fail_if_success (with_reducible show wpAny _ _ (call (Value.ref _) _) _ _ _)); (fail_if_success (with_reducible show wpAny _ _ (call (Value.builtin "len") [Value.ref _]) _ _ _)); (fail_if_success (with_reducible show KswEnd _ _ _ _ _ _ _ _ _ _ _ _)); (fail_if_success (with_reducible show LoopStepU _ _ _ _ _ _ _ _)); (fail_if_success (with_reducible show InvEndN _ _ _ _ _ _ _)); (fail_if_success (with_reducible show RngEnd _ _ _ _ _ _ _ _ _ _ _)); (fail_if_success (with_reducible show RngPost _ _ _ _ _ _ _ _ _ _ _ _ _)); first | (k_unfold; (try dsimp only)) | (k_end; wrow_close) | walk1 | (dsimp only; walk1) | (leave1; walk_say "STEP leave1"; try dsimp only) | fail "no step"); all_goals (repeat (k_unfold; (try dsimp only))))
      have hpm : ∀ x ∈ siftup (its2.set 0 y) 0, x = y ∨ x ∈ its2 := by
        intro x hx
        have ky : Mine.okK y := by unfold Mine.okK; rw [hyat.1]; (first | lia | omega)
        have := ((heap_step its2 y (by (first | lia | omega)) (by (first | lia | omega)) H.ord (H.okK h5) ky).2.mem_iff).mp hx
        rcases List.mem_or_eq_of_mem_set this with h | h
        · exact .inr h
        · exact .inl h
      have hall : ∀ p ∈ (siftup (its2.set 0 y) 0).map Item.ent ++ ((ns ++ [z]).map NIt.ent ++ news), p = y.ent ∨ p = z.ent ∨ p ∈ its2.map Item.ent ++ (ns.map NIt.ent ++ news) := by
        intro p hp
        rcases List.mem_append.mp hp with hp | hp
        · obtain ⟨x, hx, rfl⟩ := List.mem_map.mp hp
          rcases hpm x hx with rfl | h
          · exact .inl rfl
          · exact .inr (.inr (List.mem_append_left _ (List.mem_map_of_mem h)))
        · rw [List.map_append, List.append_assoc] at hp
          rcases List.mem_append.mp hp with hp | hp
          · exact .inr (.inr (List.mem_append_right _ (List.mem_append_left _ hp)))
          · rcases List.mem_append.mp hp with hp | hp
            · exact .inr (.inl (List.mem_singleton.mp hp))
            · exact .inr (.inr (List.mem_append_right _ (List.mem_append_right _ hp)))
      refine rng_end ⟨siftup (its2.set 0 y) 0, picks ++ [(k, cnt picks k)], ns ++ [z], re + 1⟩ (by k_asm) (by k_asm) ?hn (.tail _ (.tail _ (.tail _ (.head _)))) ?ho (fun _ h => nomatch h) (by intro z h1 _ h3; obtain ⟨n1, k1⟩ := ne_of_not h3; obtain ⟨n2, k2⟩ := ne_of_not k1; obtain ⟨n3, k3⟩ := ne_of_not k2; obtain ⟨n4, k4⟩ := ne_of_not k3; exact (if_neg (ne_of_not k4).1).trans ((if_neg n4).trans ((if_neg n3).trans ((if_neg n2).trans ((if_neg n1).trans ((if_neg h1).trans (not_in h3))))))) ?hP
      case hn =>
        intro p hp
        rcases List.mem_cons.mp hp with rfl | hp
        · exact .head _
        · rcases List.mem_cons.mp hp with rfl | hp
          · exact .tail _ (.tail _ (.tail _ (.tail _ (.head _))))
          · rcases hall p hp with rfl | rfl | h
            · exact .tail _ (.head _)
            · exact .tail _ (.tail _ (.head _))
            · exact .tail _ (.tail _ (.tail _ (.tail _ (.tail _ h))))
      case ho =>
        intro p hp
        rcases List.mem_cons.mp hp with rfl | hp
        · exact Ne.symm q3
        · rcases List.mem_cons.mp hp with rfl | hp
          · exact Ne.symm q2
          · rcases hall p hp with rfl | rfl | h
            · show y.addr ≠ I; rw [hya]; exact z3
            · show z.addr ≠ I; rw [hza]; exact q5
            · exact hoff p (.tail _ (.tail _ h))
      case hP =>
        refine ⟨H', by simp [hpl], hN.snoc hzat, fun p hp => ?_⟩
        rcases hall p hp with rfl | rfl | h
        · show y.addr ≠ l6 ∧ y.addr ≠ R6; rw [hya]; exact ⟨z1, z2⟩
        · show z.addr ≠ l6 ∧ z.addr ≠ R6; rw [hza]; exact ⟨q4, q1⟩
        · exact hof p h
    · rintro ⟨its2, picks, ns, re⟩ u h9 tk9 ⟨H, hpl, hN, hof⟩ F9 N9
      dsimp only [ledT] at H hpl hN hof F9 N9
      ((try dsimp only); (try k_fold); repeat' ((fail_if_success (with_reducible show wpAny _ _ (exec (PySem.Stmt.While _ _ _ _) _) _ _ _)); (fail_if_success (with_reducible show wpAny _ _ (exec (PySem.Stmt.For _ _ _ _ _) _) _ _ _)); (fail_if_success (with_reducible show wpAny _ _ (eval (PySem.Expr.ListComp _ _ _ _) _) _ _ _)); (fail_if_success (with_reducible show wpAny _ _ (subscriptTail _ _ (Value.ref _) _) _ _ _)); (fail_if_success (with_reducible show wpAny _ _ (setItem (Value.ref _) _ _) _ _ _)); (fail_if_success (with_reducible show wpAny _ _ (compareOp CmpOp.Lt (Value.ref _) (Value.ref _)) _ _ _)); (fail_if_success (with_reducible show wpAny _ _ (call (Value.ref _) _) _ _ _)); (fail_if_success (with_reducible show wpAny _ _ (call (Value.builtin "len") [Value.ref _]) _ _ _)); (fail_if_success (with_reducible show KswEnd _ _ _ _ _ _ _ _ _ _ _ _)); (fail_if_success (with_reducible show LoopStepU _ _ _ _ _ _ _ _)); (fail_if_success (with_reducible show InvEndN _ _ _ _ _ _ _)); (fail_if_success (with_reducible show RngEnd _ _ _ _ _ _ _ _ _ _ _)); (fail_if_success (with_reducible show RngPost _ _ _ _ _ _ _ _ _ _ _ _ _)); first | (k_unfold; (try dsimp only)) | (k_end; wrow_close) | walk1 | (dsimp only; walk1) | (leave1; walk_say "STEP leave1"; try dsimp only) | fail "no step"); all_goals (repeat (k_unfold; (try dsimp only))))
      refine hret _ ((R6, W.listOf (nrefs ns) re) :: (ns.map NIt.ent ++ news)) _ _ (by k_asm) (cb_drop (by k_asm) fun p hp => ?_) ⟨R6, re, ns, picks, rfl, rfl, hN, H.grd, hpl, fun p hp => (hof p (List.mem_append_right _ hp)).2⟩
      rcases List.mem_cons.mp hp with rfl | hp
      · exact .tail _ (.head _)
      · exact .tail _ (.tail _ (List.mem_append_right _ hp))
end Mine
namespace Mine
inductive Texts : List PySem.Expr → List Str → Prop
  | nil : Texts [] []
  | cons (c : Str) (k : Nat) (p : Pos) {r : List PySem.Expr} {cs : List Str} : Texts r cs → Texts (.Constant (.str c) k p :: r) (c :: cs)
inductive Rows : List PySem.Expr → List (List Str) → Prop
  | nil : Rows [] []
  | cons (p : Pos) {es r : List PySem.Expr} {cs : List Str} {rs : List (List Str)} : Texts es cs → Rows r rs → Rows (.List es p :: r) (cs :: rs)
section
variable {prog : Program} {w : World} {A : Around} {E : Value → Shared → Prop} {env : Env} {h₀ : Heap} {L : Addr} {m : Str → Option Value}
theorem star_list {es rest : List PySem.Expr} {p : Pos} : starEach (.List es p :: rest) env = (false, eval (.List es p) env) :: starEach rest env := rfl
theorem star_const {c : Str} {k : Nat} {p : Pos} {rest : List PySem.Expr} : starEach (.Constant (.str c) k p :: rest) env = (false, eval (.Constant (.str c) k p) env) :: starEach rest env := rfl
theorem spliced_texts {pos : Pos} {es : List PySem.Expr} {cs : List Str} (h : Texts es cs) : ∀ {s : Shared} {Q : List Value → Shared → Prop} (_ : ∀ vs tk, StrsAre vs cs → Q vs { s with toks := tk }),
    wpAny (model prog w) A (spliced (backTo pos (starEach es env))) Q E s := by
  induction h with
  | nil =>
    intro s Q hQ
    exact spliced_none (hQ [] s.toks .nil)
  | cons c k p _ ih =>
    intro s Q hQ
    refine spliced_more (Calls.Constant_str ?_) star_const
    refine ih ?_
    intro vs tk hv
    exact hQ _ tk (.cons _ _ hv)
theorem eval_texts {es : List PySem.Expr} {cs : List Str} {s : Shared} {news : List (Addr × Obj)} {p : Pos} (h : Texts es cs) (F : Fr h₀ L s.heap m) (N : News h₀ L s.heap news) (hl : cs.length ≤ 64) {Q : Value → Shared → Prop}
    (hQ : ∀ a (vs : List Value) h' tk, StrsAre vs cs → Fr h₀ L h' m → News h₀ L h' ((a, W.listOf vs.toArray 0) :: news) → (∀ p ∈ news, p.1 < a) → Q (.ref a) { s with heap := h', toks := tk }) :
    wpAny (model prog w) A (eval (.List es p) env) Q E s := by
  refine List_ (spliced_texts h ?_)
  intro vs tk hv
  refine newList_K (s := { s with toks := tk }) F N ?_ (by rw [hv.len_eq, sizeLine_eq]; (first | lia | omega))
  intro a h' F' N' hl
  exact hQ a vs h' tk hv F' N' hl
theorem spliced_rows {pos : Pos} {es : List PySem.Expr} {rs : List (List Str)} (h : Rows es rs) : ∀ (_ : ∀ r ∈ rs, r.length ≤ 64) {s : Shared} {news : List (Addr × Obj)} (_ : Fr h₀ L s.heap m) (_ : News h₀ L s.heap news) {Q : List Value → Shared → Prop}
    (_ : ∀ (rfs : List Value) (new : List (Addr × Obj)) h' tk, rfs.length = rs.length → (∀ (i : Nat) (r : List Str), rs[i]? = some r → ∃ (a : Addr) (vs : List Value), rfs[i]? = some (Value.ref a) ∧ StrsAre vs r ∧ (a, W.listOf vs.toArray 0) ∈ new) → Fr h₀ L h' m → News h₀ L h' (new ++ news) → Q rfs { s with heap := h', toks := tk }),
    wpAny (model prog w) A (spliced (backTo pos (starEach es env))) Q E s := by
  induction h with
  | nil =>
    intro _ s news F N Q hQ
    exact spliced_none (hQ [] [] s.heap s.toks rfl (fun _ _ h => nomatch h) F N)
  | cons p he _ ih =>
    intro hl s news F N Q hQ
    refine spliced_more (eval_texts he F N (hl _ (.head _)) ?_) star_list
    intro a vs h' tk hv F' N' _
    refine ih (fun r hr => hl r (.tail _ hr)) (s := { s with heap := h', toks := tk }) F' N' ?_
    intro rfs new h2 tk2 hlen hat F2 N2
    refine hQ (.ref a :: rfs) (new ++ [(a, W.listOf vs.toArray 0)]) h2 tk2 (by rw [List.length_cons, List.length_cons, hlen]) ?_ F2 (by rw [List.append_assoc]; exact N2)
    intro i q hq
    cases i with
    | zero =>
      cases hq
      exact ⟨a, vs, rfl, hv, List.mem_append_right _ (.head _)⟩
    | succ i =>
      obtain ⟨b, us, h1, h2, h3⟩ := hat i q hq
      exact ⟨b, us, h1, h2, List.mem_append_left _ h3⟩
theorem assign_rows {x : Str} {pos' p2 pos : Pos} {es : List PySem.Expr} {rs : List (List Str)} {s : Shared} {news : List (Addr × Obj)} (h : Rows es rs) (hl : ∀ r ∈ rs, r.length ≤ 64) (hl2 : rs.length ≤ 64) (F : Fr h₀ L s.heap m) (N : News h₀ L s.heap news) {Q : Flow → Shared → Prop}
    (hQ : ∀ T (rfs : List Value) (new : List (Addr × Obj)) h' tk, rfs.length = rs.length → (∀ (i : Nat) (r : List Str), rs[i]? = some r → ∃ (a : Addr) (vs : List Value), rfs[i]? = some (Value.ref a) ∧ StrsAre vs r ∧ (a, W.listOf vs.toArray 0) ∈ new) → Fr h₀ L h' m → News h₀ L h' ((T, W.listOf rfs.toArray 0) :: (new ++ news)) →
      wpAny (model prog w) A (storeName env x (.ref T)) (fun _ => Q .next) E { s with heap := h', toks := tk }) :
    wpAny (model prog w) A (exec (.Assign [.Name x pos'] (.List es p2) pos) env) Q E s := by
  refine wpAny_Assign_Name (List_ (spliced_rows h hl F N ?_))
  intro rfs new h' tk hlen hat F' N'
  refine newList_K (s := { s with heap := h', toks := tk }) F' N' ?_ (by rw [hlen, sizeLine_eq]; (first | lia | omega))
  intro a h2 F2 N2 _
  exact hQ a rfs new h2 tk hlen hat F2 N2
end
end Mine
namespace Mine
noncomputable def spellS : List (List Str) := (List.range 6).map fun p => (List.range 4).map fun w => S (spell p w)
theorem spellS_at : ∀ p, p < 6 → ∃ r, spellS[p]? = some r ∧ ∀ w, w < 4 → r[w]? = some (S (spell p w)) := by
  intro p hp
  refine ⟨(List.range 4).map fun w => S (spell p w), by simp [spellS, hp], fun w hw => by simp [hw]⟩
theorem mul_amp : ∀ n, n < 17 → Txt.mul (Str.ofString "amp;") ((n : Nat) : Int) = S (amps n) := by decide +kernel
theorem spell_ne : ∀ p, p < 6 → ∀ w, w < 4 → (S (spell p w) != Str.ofString "") = decide (spell p w ≠ []) := by decide +kernel
section
variable {prog : Program} {w : World} {A : Around} {E : Value → Shared → Prop} {s : Shared} {t u : Tok} {Q : Value → Shared → Prop}
theorem add_S {a b : List Nat} (hl : a.length + b.length ≤ 1000) (h : ∀ t' k, Q (.str (S (a ++ b)) t') { s with toks := k }) : wpAny (model prog w) A (binaryOp .Add (.str (S a) t) (.str (S b) u)) Q E s :=
  SBL.add (fun t' c _ => by rw [S_append]; exact h t' c) (by rw [S_length, S_length, sizeLine_eq]; (first | lia | omega))
end
theorem spelled_c (w : World) (p : Nat) (hp : p < 6) (ws : List Nat) (hws : ∀ v ∈ ws, v < 4) (wl : Addr) (wvs : List Value) (hI : IntsAre wvs (ws.map Int.ofNat)) (we : Nat) (t : Tok) (news : List (Addr × Obj)) (hm : (wl, W.listOf wvs.toArray we) ∈ news) (hlen : ws.length ≤ 16) :
    Ctr w 3 40 185 [.int (p : Int) t, .ref wl] news (fun v n' => n' = news ∧ ∃ t', v = .str (S (spelledP p ws)) t') := by
  have hwl := hI.length
  rw [List.length_map] at hwl
  (unfold Ctr; k_fill; intro mean mg mb dp un gd cn cs a ccd cl outer A₀ base h₀ L m s Q E B F X N T hk hdp hu hret; refine wpAny_call ?_; k_dflt ktr_enter; (show (let e9 : Env := _; let A9 : Around := Around.deeper _ e9; wpAny _ A9 (execs _ e9) _ _ _)); intro e9 A9)
  ((try dsimp only); (try k_fold); repeat' ((fail_if_success (with_reducible show wpAny _ _ (exec (PySem.Stmt.Assign _ _ _) _) _ _ _)); first | (k_unfold; (try dsimp only)) | (k_end; wrow_close) | walk1 | (dsimp only; walk1) | (leave1; walk_say "STEP leave1"; try dsimp only) | fail "no step"); all_goals (repeat (k_unfold; (try dsimp only))))
  rename Fr _ _ _ _ => F0
  rename News _ _ _ _ => N0
  refine assign_rows (rs := spellS) ?rw (by decide +kernel) (by decide +kernel) F0 N0 ?_
  case rw => repeat' (first | exact .nil | refine .cons _ _ _ ?_ | refine .cons _ ?_ ?_)
  intro T rfs new h7 tk7 hlr hat F7 N7
  obtain ⟨r, hr, hrw⟩ := spellS_at p hp
  obtain ⟨ra, rvs, hra, hrv, hrm⟩ := hat p r hr
  have hlr6 : rfs.length = 6 := hlr
  ((try dsimp only); (try k_fold); repeat' ((fail_if_success (with_reducible show wpAny _ _ (exec (PySem.Stmt.While _ _ _ _) _) _ _ _)); (fail_if_success (with_reducible show wpAny _ _ (exec (PySem.Stmt.For _ _ _ _ _) _) _ _ _)); (fail_if_success (with_reducible show wpAny _ _ (eval (PySem.Expr.ListComp _ _ _ _) _) _ _ _)); (fail_if_success (with_reducible show wpAny _ _ (subscriptTail _ _ (Value.ref _) _) _ _ _)); (fail_if_success (with_reducible show wpAny _ _ (setItem (Value.ref _) _ _) _ _ _)); (fail_if_success (with_reducible show wpAny _ _ (compareOp CmpOp.Lt (Value.ref _) (Value.ref _)) _ _ _)); (fail_if_success (with_reducible show wpAny _ _ (call (Value.ref _) _) _ _ _)); (fail_if_success (with_reducible show wpAny _ _ (call (Value.builtin "len") [Value.ref _]) _ _ _)); (fail_if_success (with_reducible show KswEnd _ _ _ _ _ _ _ _ _ _ _ _)); (fail_if_success (with_reducible show LoopStepU _ _ _ _ _ _ _ _)); (fail_if_success (with_reducible show InvEndN _ _ _ _ _ _ _)); (fail_if_success (with_reducible show RngEnd _ _ _ _ _ _ _ _ _ _ _)); (fail_if_success (with_reducible show RngPost _ _ _ _ _ _ _ _ _ _ _ _ _)); first | (k_unfold; (try dsimp only)) | (k_end; wrow_close) | walk1 | (dsimp only; walk1) | (leave1; walk_say "STEP leave1"; try dsimp only) | fail "no step"); all_goals (repeat (k_unfold; (try dsimp only))))
  rename Fr _ _ _ _ => lF'
  refine For_invVF lF' rfl rfl ?_
  ((try dsimp only); (try k_fold); repeat' ((fail_if_success (with_reducible show wpAny _ _ (call (Value.builtin "len") _) _ _ _)); (fail_if_success (with_reducible show wpAny _ _ (call (Value.type "range") _) _ _ _)); first | (k_unfold; (try dsimp only)) | (k_end; wrow_close) | walk1 | (dsimp only; walk1) | (leave1; walk_say "STEP leave1"; try dsimp only) | fail "no step"); all_goals (repeat (k_unfold; (try dsimp only))))
  refine led_len (by k_asm) (.tail _ (List.mem_append_right _ hm)) (by simp; (first | lia | omega)) ?_
  ((try dsimp only); (try k_fold); repeat' ((fail_if_success (with_reducible show wpAny _ _ (call (Value.builtin "len") _) _ _ _)); (fail_if_success (with_reducible show wpAny _ _ (call (Value.type "range") _) _ _ _)); first | (k_unfold; (try dsimp only)) | (k_end; wrow_close) | walk1 | (dsimp only; walk1) | (leave1; walk_say "STEP leave1"; try dsimp only) | fail "no step"); all_goals (repeat (k_unfold; (try dsimp only))))
  rename Fr _ _ _ _ => F8
  rename News _ _ _ _ => N8
  rw [show (wvs.toArray.size : Int) = ((ws.length : Nat) : Int) by simp; (first | lia | omega)]
  refine for_range (σ := Unit) (fun _ => (T, W.listOf rfs.toArray 0) :: (new ++ news)) (fun _ => []) []
    (fun i _ => spelledP p ws = spelledP p (ws.drop i)) () (by (first | lia | omega)) rfl F8 N8 (fun _ h => nomatch h) rfl ?_ ?_
  · intro I i b u t' h9 tk9 io hi hP hoff F9 N9
    dsimp only at hP hoff F9 N9
    obtain ⟨v, hv⟩ : ∃ v, ws[i] = v := ⟨_, rfl⟩
    have hv4 : v < 4 := hv ▸ hws _ (List.getElem_mem hi)
    obtain ⟨vt, hwv⟩ := hI.get i (v : Int) (by simp [hi, hv])
    have hdrop : ws.drop i = v :: ws.drop (i + 1) := by rw [← hv]; exact List.drop_eq_getElem_cons hi
    obtain ⟨ct, hct⟩ := hrv.at (hrw v hv4)
    have hrl : rvs.length ≤ 64 := by
      rw [hrv.len_eq]
      have : ∀ r ∈ spellS, r.length ≤ 64 := by decide +kernel
      exact this r (List.mem_of_getElem? hr)
    ((try dsimp only); (try k_fold); repeat' ((fail_if_success (with_reducible show wpAny _ _ (exec (PySem.Stmt.While _ _ _ _) _) _ _ _)); (fail_if_success (with_reducible show wpAny _ _ (exec (PySem.Stmt.For _ _ _ _ _) _) _ _ _)); (fail_if_success (with_reducible show wpAny _ _ (eval (PySem.Expr.ListComp _ _ _ _) _) _ _ _)); (fail_if_success (with_reducible show wpAny _ _ (subscriptTail _ _ (Value.ref _) _) _ _ _)); (fail_if_success (with_reducible show wpAny _ _ (setItem (Value.ref _) _ _) _ _ _)); (fail_if_success (with_reducible show wpAny _ _ (compareOp CmpOp.Lt (Value.ref _) (Value.ref _)) _ _ _)); (fail_if_success (with_reducible show wpAny _ _ (call (Value.ref _) _) _ _ _)); (fail_if_success (with_reducible show wpAny _ _ (call (Value.builtin "len") [Value.ref _]) _ _ _)); (fail_if_success (with_reducible show KswEnd _ _ _ _ _ _ _ _ _ _ _ _)); (fail_if_success (with_reducible show LoopStepU _ _ _ _ _ _ _ _)); (fail_if_success (with_reducible show InvEndN _ _ _ _ _ _ _)); (fail_if_success (with_reducible show RngEnd _ _ _ _ _ _ _ _ _ _ _)); (fail_if_success (with_reducible show RngPost _ _ _ _ _ _ _ _ _ _ _ _ _)); first | (k_unfold; (try dsimp only)) | (k_end; wrow_close) | walk1 | (dsimp only; walk1) | (leave1; walk_say "STEP leave1"; try dsimp only) | fail "no step"); all_goals (repeat (k_unfold; (try dsimp only))))
    refine led_item (n := p) (by k_asm) (.tail _ (.head _)) rfl (by simp; (first | lia | omega)) (by simpa using hra) ?_ (by with_unfolding_all rfl)
    ((try dsimp only); (try k_fold); repeat' ((fail_if_success (with_reducible show wpAny _ _ (exec (PySem.Stmt.While _ _ _ _) _) _ _ _)); (fail_if_success (with_reducible show wpAny _ _ (exec (PySem.Stmt.For _ _ _ _ _) _) _ _ _)); (fail_if_success (with_reducible show wpAny _ _ (eval (PySem.Expr.ListComp _ _ _ _) _) _ _ _)); (fail_if_success (with_reducible show wpAny _ _ (subscriptTail _ _ (Value.ref _) _) _ _ _)); (fail_if_success (with_reducible show wpAny _ _ (setItem (Value.ref _) _ _) _ _ _)); (fail_if_success (with_reducible show wpAny _ _ (compareOp CmpOp.Lt (Value.ref _) (Value.ref _)) _ _ _)); (fail_if_success (with_reducible show wpAny _ _ (call (Value.ref _) _) _ _ _)); (fail_if_success (with_reducible show wpAny _ _ (call (Value.builtin "len") [Value.ref _]) _ _ _)); (fail_if_success (with_reducible show KswEnd _ _ _ _ _ _ _ _ _ _ _ _)); (fail_if_success (with_reducible show LoopStepU _ _ _ _ _ _ _ _)); (fail_if_success (with_reducible show InvEndN _ _ _ _ _ _ _)); (fail_if_success (with_reducible show RngEnd _ _ _ _ _ _ _ _ _ _ _)); (fail_if_success (with_reducible show RngPost _ _ _ _ _ _ _ _ _ _ _ _ _)); first | (k_unfold; (try dsimp only)) | (k_end; wrow_close) | walk1 | (dsimp only; walk1) | (leave1; walk_say "STEP leave1"; try dsimp only) | fail "no step"); all_goals (repeat (k_unfold; (try dsimp only))))
    refine led_item (n := i) (by k_asm) (.tail _ (.tail _ (List.mem_append_right _ hm))) rfl (by simp; (first | lia | omega)) (by simpa using hwv) ?_ (by with_unfolding_all rfl)
    ((try dsimp only); (try k_fold); repeat' ((fail_if_success (with_reducible show wpAny _ _ (exec (PySem.Stmt.While _ _ _ _) _) _ _ _)); (fail_if_success (with_reducible show wpAny _ _ (exec (PySem.Stmt.For _ _ _ _ _) _) _ _ _)); (fail_if_success (with_reducible show wpAny _ _ (eval (PySem.Expr.ListComp _ _ _ _) _) _ _ _)); (fail_if_success (with_reducible show wpAny _ _ (subscriptTail _ _ (Value.ref _) _) _ _ _)); (fail_if_success (with_reducible show wpAny _ _ (setItem (Value.ref _) _ _) _ _ _)); (fail_if_success (with_reducible show wpAny _ _ (compareOp CmpOp.Lt (Value.ref _) (Value.ref _)) _ _ _)); (fail_if_success (with_reducible show wpAny _ _ (call (Value.ref _) _) _ _ _)); (fail_if_success (with_reducible show wpAny _ _ (call (Value.builtin "len") [Value.ref _]) _ _ _)); (fail_if_success (with_reducible show KswEnd _ _ _ _ _ _ _ _ _ _ _ _)); (fail_if_success (with_reducible show LoopStepU _ _ _ _ _ _ _ _)); (fail_if_success (with_reducible show InvEndN _ _ _ _ _ _ _)); (fail_if_success (with_reducible show RngEnd _ _ _ _ _ _ _ _ _ _ _)); (fail_if_success (with_reducible show RngPost _ _ _ _ _ _ _ _ _ _ _ _ _)); first | (k_unfold; (try dsimp only)) | (k_end; wrow_close) | walk1 | (dsimp only; walk1) | (leave1; walk_say "STEP leave1"; try dsimp only) | fail "no step"); all_goals (repeat (k_unfold; (try dsimp only))))
    refine led_item (n := v) (by k_asm) (.tail _ (.tail _ (List.mem_append_left _ hrm))) rfl (by simpa using hrl) (by simpa using hct) ?_ (by with_unfolding_all rfl)
    ((try dsimp only); (try k_fold); repeat' ((fail_if_success (with_reducible show wpAny _ _ (compareOp _ _ _) _ _ _)); first | (k_unfold; (try dsimp only)) | (k_end; wrow_close) | walk1 | (dsimp only; walk1) | (leave1; walk_say "STEP leave1"; try dsimp only) | fail "no step"); all_goals (repeat (k_unfold; (try dsimp only))))
    refine ne_str ?_
    rw [spell_ne p hp v hv4]
    rw [hdrop] at hP
    by_cases e : spell p v = []
    · rw [decide_eq_false (by simpa using e)]
      rw [spelledP, if_pos e] at hP
      ((try dsimp only); (try k_fold); repeat' ((fail_if_success (with_reducible show wpAny _ _ (exec (PySem.Stmt.While _ _ _ _) _) _ _ _)); (fail_if_success (with_reducible show wpAny _ _ (exec (PySem.Stmt.For _ _ _ _ _) _) _ _ _)); (fail_if_success (with_reducible show wpAny _ _ (eval (PySem.Expr.ListComp _ _ _ _) _) _ _ _)); (fail_if_success (with_reducible show wpAny _ _ (subscriptTail _ _ (Value.ref _) _) _ _ _)); (fail_if_success (with_reducible show wpAny _ _ (setItem (Value.ref _) _ _) _ _ _)); (fail_if_success (with_reducible show wpAny _ _ (compareOp CmpOp.Lt (Value.ref _) (Value.ref _)) _ _ _)); (fail_if_success (with_reducible show wpAny _ _ (call (Value.ref _) _) _ _ _)); (fail_if_success (with_reducible show wpAny _ _ (call (Value.builtin "len") [Value.ref _]) _ _ _)); (fail_if_success (with_reducible show KswEnd _ _ _ _ _ _ _ _ _ _ _ _)); (fail_if_success (with_reducible show LoopStepU _ _ _ _ _ _ _ _)); (fail_if_success (with_reducible show InvEndN _ _ _ _ _ _ _)); (fail_if_success (with_reducible show RngEnd _ _ _ _ _ _ _ _ _ _ _)); (fail_if_success (with_reducible show RngPost _ _ _ _ _ _ _ _ _ _ _ _ _)); first | (k_unfold; (try dsimp only)) | (k_end; wrow_close) | walk1 | (dsimp only; walk1) | (leave1; walk_say "STEP leave1"; try dsimp only) | fail "no step"); all_goals (repeat (k_unfold; (try dsimp only))))
      refine rng_end () (by k_asm) (by k_asm) (fun p h => .tail _ h) (.head _) hoff (fun _ h => nomatch h) (by exact fun z h1 _ h3 => if_neg h1) hP
    · rw [decide_eq_true (by simpa using e)]
      rw [spelledP, if_neg e, List.length_drop] at hP
      ((try dsimp only); (try k_fold); repeat' ((fail_if_success (with_reducible show wpAny _ _ (call (Value.builtin "len") _) _ _ _)); first | (k_unfold; (try dsimp only)) | (k_end; wrow_close) | walk1 | (dsimp only; walk1) | (leave1; walk_say "STEP leave1"; try dsimp only) | fail "no step"); all_goals (repeat (k_unfold; (try dsimp only))))
      refine led_len (by k_asm) (.tail _ (.tail _ (List.mem_append_right _ hm))) (by simp; (first | lia | omega)) ?_
      ((try dsimp only); (try k_fold); repeat' ((fail_if_success (with_reducible show wpAny _ _ (binaryOp Operator.Mult _ _) _ _ _)); first | (k_unfold; (try dsimp only)) | (k_end; wrow_close) | walk1 | (dsimp only; walk1) | (leave1; walk_say "STEP leave1"; try dsimp only) | fail "no step"); all_goals (repeat (k_unfold; (try dsimp only))))
      rw [show ((wvs.toArray.size : Int) - (i : Int) - 1) = ((ws.length - (i + 1) : Nat) : Int) by simp; (first | lia | omega)]
      refine SB.mul (mulOk_of 4 16 (by decide) (by (first | lia | omega)) (by (first | lia | omega)) (by decide) (by decide)) ?_
      intro t5 k5
      rw [mul_amp _ (by (first | lia | omega))]
      ((try dsimp only); (try k_fold); repeat' ((fail_if_success (with_reducible show wpAny _ _ (binaryOp Operator.Add _ _) _ _ _)); first | (k_unfold; (try dsimp only)) | (k_end; wrow_close) | walk1 | (dsimp only; walk1) | (leave1; walk_say "STEP leave1"; try dsimp only) | fail "no step"); all_goals (repeat (k_unfold; (try dsimp only))))
      have ha := amps_len (ws.length - (i + 1))
      have hs5 := spell_len p hp v hv4
      rw [show Str.ofString "&" = S [38] by rfl]
      refine add_S (by simp; (first | lia | omega)) ?_
      intro t6 k6
      ((try dsimp only); (try k_fold); repeat' ((fail_if_success (with_reducible show wpAny _ _ (exec (PySem.Stmt.While _ _ _ _) _) _ _ _)); (fail_if_success (with_reducible show wpAny _ _ (exec (PySem.Stmt.For _ _ _ _ _) _) _ _ _)); (fail_if_success (with_reducible show wpAny _ _ (eval (PySem.Expr.ListComp _ _ _ _) _) _ _ _)); (fail_if_success (with_reducible show wpAny _ _ (subscriptTail _ _ (Value.ref _) _) _ _ _)); (fail_if_success (with_reducible show wpAny _ _ (setItem (Value.ref _) _ _) _ _ _)); (fail_if_success (with_reducible show wpAny _ _ (compareOp CmpOp.Lt (Value.ref _) (Value.ref _)) _ _ _)); (fail_if_success (with_reducible show wpAny _ _ (call (Value.ref _) _) _ _ _)); (fail_if_success (with_reducible show wpAny _ _ (call (Value.builtin "len") [Value.ref _]) _ _ _)); (fail_if_success (with_reducible show KswEnd _ _ _ _ _ _ _ _ _ _ _ _)); (fail_if_success (with_reducible show LoopStepU _ _ _ _ _ _ _ _)); (fail_if_success (with_reducible show InvEndN _ _ _ _ _ _ _)); (fail_if_success (with_reducible show RngEnd _ _ _ _ _ _ _ _ _ _ _)); (fail_if_success (with_reducible show RngPost _ _ _ _ _ _ _ _ _ _ _ _ _)); first | (k_unfold; (try dsimp only)) | (k_end; wrow_close) | walk1 | (dsimp only; walk1) | (leave1; walk_say "STEP leave1"; try dsimp only) | fail "no step"); all_goals (repeat (k_unfold; (try dsimp only))))
      refine led_item (n := p) (by k_asm) (.tail _ (.head _)) rfl (by simp; (first | lia | omega)) (by simpa using hra) ?_ (by with_unfolding_all rfl)
      ((try dsimp only); (try k_fold); repeat' ((fail_if_success (with_reducible show wpAny _ _ (exec (PySem.Stmt.While _ _ _ _) _) _ _ _)); (fail_if_success (with_reducible show wpAny _ _ (exec (PySem.Stmt.For _ _ _ _ _) _) _ _ _)); (fail_if_success (with_reducible show wpAny _ _ (eval (PySem.Expr.ListComp _ _ _ _) _) _ _ _)); (fail_if_success (with_reducible show wpAny _ _ (subscriptTail _ _ (Value.ref _) _) _ _ _)); (fail_if_success (with_reducible show wpAny _ _ (setItem (Value.ref _) _ _) _ _ _)); (fail_if_success (with_reducible show wpAny _ _ (compareOp CmpOp.Lt (Value.ref _) (Value.ref _)) _ _ _)); (fail_if_success (with_reducible show wpAny _ _ (call (Value.ref _) _) _ _ _)); (fail_if_success (with_reducible show wpAny _ _ (call (Value.builtin "len") [Value.ref _]) _ _ _)); (fail_if_success (with_reducible show KswEnd _ _ _ _ _ _ _ _ _ _ _ _)); (fail_if_success (with_reducible show LoopStepU _ _ _ _ _ _ _ _)); (fail_if_success (with_reducible show InvEndN _ _ _ _ _ _ _)); (fail_if_success (with_reducible show RngEnd _ _ _ _ _ _ _ _ _ _ _)); (fail_if_success (with_reducible show RngPost _ _ _ _ _ _ _ _ _ _ _ _ _)); first | (k_unfold; (try dsimp only)) | (k_end; wrow_close) | walk1 | (dsimp only; walk1) | (leave1; walk_say "STEP leave1"; try dsimp only) | fail "no step"); all_goals (repeat (k_unfold; (try dsimp only))))
      refine led_item (n := i) (by k_asm) (.tail _ (.tail _ (List.mem_append_right _ hm))) rfl (by simp; (first | lia | omega)) (by simpa using hwv) ?_ (by with_unfolding_all rfl)
      ((try dsimp only); (try k_fold); repeat' ((fail_if_success (with_reducible show wpAny _ _ (exec (PySem.Stmt.While _ _ _ _) _) _ _ _)); (fail_if_success (with_reducible show wpAny _ _ (exec (PySem.Stmt.For _ _ _ _ _) _) _ _ _)); (fail_if_success (with_reducible show wpAny _ _ (eval (PySem.Expr.ListComp _ _ _ _) _) _ _ _)); (fail_if_success (with_reducible show wpAny _ _ (subscriptTail _ _ (Value.ref _) _) _ _ _)); (fail_if_success (with_reducible show wpAny _ _ (setItem (Value.ref _) _ _) _ _ _)); (fail_if_success (with_reducible show wpAny _ _ (compareOp CmpOp.Lt (Value.ref _) (Value.ref _)) _ _ _)); (fail_if_success (with_reducible show wpAny _ _ (call (Value.ref _) _) _ _ _)); (fail_if_success (with_reducible show wpAny _ _ (call (Value.builtin "len") [Value.ref _]) _ _ _)); (fail_if_success (with_reducible show KswEnd _ _ _ _ _ _ _ _ _ _ _ _)); (fail_if_success (with_reducible show LoopStepU _ _ _ _ _ _ _ _)); (fail_if_success (with_reducible show InvEndN _ _ _ _ _ _ _)); (fail_if_success (with_reducible show RngEnd _ _ _ _ _ _ _ _ _ _ _)); (fail_if_success (with_reducible show RngPost _ _ _ _ _ _ _ _ _ _ _ _ _)); first | (k_unfold; (try dsimp only)) | (k_end; wrow_close) | walk1 | (dsimp only; walk1) | (leave1; walk_say "STEP leave1"; try dsimp only) | fail "no step"); all_goals (repeat (k_unfold; (try dsimp only))))
      refine led_item (n := v) (by k_asm) (.tail _ (.tail _ (List.mem_append_left _ hrm))) rfl (by simpa using hrl) (by simpa using hct) ?_ (by with_unfolding_all rfl)
      ((try dsimp only); (try k_fold); repeat' ((fail_if_success (with_reducible show wpAny _ _ (binaryOp Operator.Add _ _) _ _ _)); first | (k_unfold; (try dsimp only)) | (k_end; wrow_close) | walk1 | (dsimp only; walk1) | (leave1; walk_say "STEP leave1"; try dsimp only) | fail "no step"); all_goals (repeat (k_unfold; (try dsimp only))))
      refine add_S (by simp; (first | lia | omega)) ?_
      intro t7 k7
      ((try dsimp only); (try k_fold); repeat' ((fail_if_success (with_reducible show wpAny _ _ (exec (PySem.Stmt.While _ _ _ _) _) _ _ _)); (fail_if_success (with_reducible show wpAny _ _ (exec (PySem.Stmt.For _ _ _ _ _) _) _ _ _)); (fail_if_success (with_reducible show wpAny _ _ (eval (PySem.Expr.ListComp _ _ _ _) _) _ _ _)); (fail_if_success (with_reducible show wpAny _ _ (subscriptTail _ _ (Value.ref _) _) _ _ _)); (fail_if_success (with_reducible show wpAny _ _ (setItem (Value.ref _) _ _) _ _ _)); (fail_if_success (with_reducible show wpAny _ _ (compareOp CmpOp.Lt (Value.ref _) (Value.ref _)) _ _ _)); (fail_if_success (with_reducible show wpAny _ _ (call (Value.ref _) _) _ _ _)); (fail_if_success (with_reducible show wpAny _ _ (call (Value.builtin "len") [Value.ref _]) _ _ _)); (fail_if_success (with_reducible show KswEnd _ _ _ _ _ _ _ _ _ _ _ _)); (fail_if_success (with_reducible show LoopStepU _ _ _ _ _ _ _ _)); (fail_if_success (with_reducible show InvEndN _ _ _ _ _ _ _)); (fail_if_success (with_reducible show RngEnd _ _ _ _ _ _ _ _ _ _ _)); (fail_if_success (with_reducible show RngPost _ _ _ _ _ _ _ _ _ _ _ _ _)); first | (k_unfold; (try dsimp only)) | (k_end; wrow_close) | walk1 | (dsimp only; walk1) | (leave1; walk_say "STEP leave1"; try dsimp only) | fail "no step"); all_goals (repeat (k_unfold; (try dsimp only))))
      k_unfold
      unfold RngPost
      dsimp only
      ((try dsimp only); (try k_fold); repeat' ((fail_if_success (with_reducible show wpAny _ _ (exec (PySem.Stmt.While _ _ _ _) _) _ _ _)); (fail_if_success (with_reducible show wpAny _ _ (exec (PySem.Stmt.For _ _ _ _ _) _) _ _ _)); (fail_if_success (with_reducible show wpAny _ _ (eval (PySem.Expr.ListComp _ _ _ _) _) _ _ _)); (fail_if_success (with_reducible show wpAny _ _ (subscriptTail _ _ (Value.ref _) _) _ _ _)); (fail_if_success (with_reducible show wpAny _ _ (setItem (Value.ref _) _ _) _ _ _)); (fail_if_success (with_reducible show wpAny _ _ (compareOp CmpOp.Lt (Value.ref _) (Value.ref _)) _ _ _)); (fail_if_success (with_reducible show wpAny _ _ (call (Value.ref _) _) _ _ _)); (fail_if_success (with_reducible show wpAny _ _ (call (Value.builtin "len") [Value.ref _]) _ _ _)); (fail_if_success (with_reducible show KswEnd _ _ _ _ _ _ _ _ _ _ _ _)); (fail_if_success (with_reducible show LoopStepU _ _ _ _ _ _ _ _)); (fail_if_success (with_reducible show InvEndN _ _ _ _ _ _ _)); (fail_if_success (with_reducible show RngEnd _ _ _ _ _ _ _ _ _ _ _)); (fail_if_success (with_reducible show RngPost _ _ _ _ _ _ _ _ _ _ _ _ _)); first | (k_unfold; (try dsimp only)) | (k_end; wrow_close) | walk1 | (dsimp only; walk1) | (leave1; walk_say "STEP leave1"; try dsimp only) | fail "no step"); all_goals (repeat (k_unfold; (try dsimp only))))
      refine hret _ news _ _ (by k_asm) (cb_drop (by k_asm) fun p hp => ?_) ⟨rfl, t7, by rw [hP, List.append_assoc]; rfl⟩
      exact .tail _ (.tail _ (List.mem_append_right _ hp))
  · intro b u h9 tk9 hP F9 N9
    dsimp only at hP F9 N9
    rw [List.drop_length] at hP
    ((try dsimp only); (try k_fold); repeat' ((fail_if_success (with_reducible show wpAny _ _ (subscriptTail _ _ (Value.str _ _) _) _ _ _)); first | (k_unfold; (try dsimp only)) | (k_end; wrow_close) | walk1 | (dsimp only; walk1) | (leave1; walk_say "STEP leave1"; try dsimp only) | fail "no step"); all_goals (repeat (k_unfold; (try dsimp only))))
    refine item_str (fitsSsize_of (N := 100) (by (first | lia | omega)) (by (first | lia | omega)) (by decide)) (by rw [show (Str.ofString "&<>\"\ta").length = 6 by decide]; (first | lia | omega)) (by rw [show (Str.ofString "&<>\"\ta").length = 6 by decide]; (first | lia | omega)) ?_
    intro _
    rw [sign_item _ hp]
    ((try dsimp only); (try k_fold); repeat' ((fail_if_success (with_reducible show wpAny _ _ (exec (PySem.Stmt.While _ _ _ _) _) _ _ _)); (fail_if_success (with_reducible show wpAny _ _ (exec (PySem.Stmt.For _ _ _ _ _) _) _ _ _)); (fail_if_success (with_reducible show wpAny _ _ (eval (PySem.Expr.ListComp _ _ _ _) _) _ _ _)); (fail_if_success (with_reducible show wpAny _ _ (subscriptTail _ _ (Value.ref _) _) _ _ _)); (fail_if_success (with_reducible show wpAny _ _ (setItem (Value.ref _) _ _) _ _ _)); (fail_if_success (with_reducible show wpAny _ _ (compareOp CmpOp.Lt (Value.ref _) (Value.ref _)) _ _ _)); (fail_if_success (with_reducible show wpAny _ _ (call (Value.ref _) _) _ _ _)); (fail_if_success (with_reducible show wpAny _ _ (call (Value.builtin "len") [Value.ref _]) _ _ _)); (fail_if_success (with_reducible show KswEnd _ _ _ _ _ _ _ _ _ _ _ _)); (fail_if_success (with_reducible show LoopStepU _ _ _ _ _ _ _ _)); (fail_if_success (with_reducible show InvEndN _ _ _ _ _ _ _)); (fail_if_success (with_reducible show RngEnd _ _ _ _ _ _ _ _ _ _ _)); (fail_if_success (with_reducible show RngPost _ _ _ _ _ _ _ _ _ _ _ _ _)); first | (k_unfold; (try dsimp only)) | (k_end; wrow_close) | walk1 | (dsimp only; walk1) | (leave1; walk_say "STEP leave1"; try dsimp only) | fail "no step"); all_goals (repeat (k_unfold; (try dsimp only))))
    refine hret _ news _ _ (by k_asm) (cb_drop (by k_asm) fun p hp => ?_) ⟨rfl, _, by rw [hP]; rfl⟩
    exact .tail _ (List.mem_append_right _ hp)
end Mine
namespace Mine
structure RIt where
  addr : Addr
  len : Nat
  k : Nat
  j : Nat
  text : Str
  lst : Str
  t1 : Tok
  t2 : Tok
  t3 : Tok
  t4 : Tok
  t5 : Tok
deriving Inhabited
noncomputable def RIt.vals (x : RIt) : Array Value := #[.int (x.len : Int) x.t1, .int (x.k : Int) x.t2, .int (x.j : Int) x.t3, .str x.text x.t4, .str x.lst x.t5]
noncomputable def RIt.obj (x : RIt) : Obj := { cls := .type "tuple", data := .seq x.vals }
noncomputable def RIt.ent (x : RIt) : Addr × Obj := (x.addr, x.obj)
noncomputable def rrefs (vs : List RIt) : List Value := vs.map fun x => Value.ref x.addr
noncomputable def RIt.key (x : RIt) : Nat := (x.len * 8 + x.k) * 64 + x.j
theorem key_lt (x y : RIt) (hx : x.k < 8 ∧ x.j < 64) (hy : y.k < 8 ∧ y.j < 64) : decide (x.key < y.key) = if (x.len : Int) == (y.len : Int) then (if (x.k : Int) == (y.k : Int) then (if (x.j : Int) == (y.j : Int) then false else decide ((x.j : Int) < (y.j : Int))) else decide ((x.k : Int) < (y.k : Int))) else decide ((x.len : Int) < (y.len : Int)) := by
  unfold RIt.key
  simp only [beq_iff_eq]
  repeat' split
  all_goals (first | (apply decide_eq_false; (first | lia | omega)) | (apply decide_eq_decide.mpr; (first | lia | omega)))
section
variable {prog : Program} {w : World} {A : Around} {E : Value → Shared → Prop} {s : Shared} {h₀ : Heap} {L : Addr} {m : Str → Option Value} {news : List (Addr × Obj)}
theorem wp_kev {α : Type} {cmp : Nat → Nat → (Bool → Shared → Prop) → Shared → Prop} {lt : Nat → Nat → Bool} {n : Nat} {G : α → Shared → Prop} {s : Shared} (hc : ∀ i j (C : Bool → Shared → Prop), i < n → j < n → C (lt i j) s → cmp i j C s) : ∀ (t : KasT α), kevIn lt n t → G (kev lt t) s → t.kasWp cmp G s
  | .ret _, _, h => h
  | .ask i j k, hin, h => hc i j _ hin.1 hin.2.1 (wp_kev hc (k (lt i j)) hin.2.2 h)
theorem row_lt {x y : RIt} {Q : Bool → Shared → Prop} (hx : s.heap.get? x.addr = some x.obj) (hy : s.heap.get? y.addr = some y.obj) (bx : x.k < 8 ∧ x.j < 64) (bY : y.k < 8 ∧ y.j < 64) (hsame : x.k = y.k → x.j = y.j → x.text = y.text ∧ x.lst = y.lst)
    (h : Q (decide (x.key < y.key)) s) : wpAny (model prog w) A (keyLt' (tuples' true) (.ref x.addr) (.ref y.addr)) Q E s := by
  rw [key_lt x y bx bY] at h
  refine kat_lt hx rfl hy rfl ?_
  show KatLex prog w A true (decide (5 < 5)) Q [(.int (x.len : Int) x.t1, .int (y.len : Int) y.t1), (.int (x.k : Int) x.t2, .int (y.k : Int) y.t2), (.int (x.j : Int) x.t3, .int (y.j : Int) y.t3), (.str x.text x.t4, .str y.text y.t4), (.str x.lst x.t5, .str y.lst y.t5)] 0 s
  refine kat_cons (wpAny_eqBool_int ?_)
  refine kat_go (fun e => ?_) fun e => ?_
  · rw [e, if_pos rfl] at h
    refine kat_yes (kat_cons (wpAny_eqBool_int ?_))
    refine kat_go (fun e2 => ?_) fun e2 => ?_
    · rw [e2, if_pos rfl] at h
      refine kat_yes (kat_cons (wpAny_eqBool_int ?_))
      refine kat_go (fun e3 => ?_) fun e3 => ?_
      · rw [e3, if_pos rfl] at h
        simp only [beq_iff_eq] at e2 e3
        obtain ⟨q1, q2⟩ := hsame (by (first | lia | omega)) (by (first | lia | omega))
        refine kat_yes (kat_cons (wpAny_eqBool_str ?_))
        rw [decide_eq_true q1]
        refine kat_yes (kat_cons (wpAny_eqBool_str ?_))
        rw [decide_eq_true q2]
        exact kat_yes (kat_nil h)
      · rw [e3, if_neg (by decide)] at h
        exact kat_no (kat_one _ _ (P.lt_int h))
    · rw [e2, if_neg (by decide)] at h
      exact kat_no (kat_one _ _ (P.lt_int h))
  · rw [e, if_neg (by decide)] at h
    exact kat_no (oneLt_int h)
theorem tups_of {h : Heap} : ∀ (rs : List RIt), (∀ x ∈ rs, h.get? x.addr = some x.obj) → KatTups h (rrefs rs) (rs.map fun x => Value.int (x.len : Int) x.t1)
  | [], _ => KatTups.nil
  | x :: rs, hx => KatTups.cons (hx x (.head _)) rfl rfl rfl (tups_of rs fun y hy => hx y (.tail _ hy))
theorem sorted_rows {rs : List RIt} {l : Addr} {le : Nat} {Q : Value → Shared → Prop} (F : Fr h₀ L s.heap m) (N : News h₀ L s.heap news) (hm : (l, W.listOf (rrefs rs).toArray le) ∈ news) (hall : ∀ x ∈ rs, x.ent ∈ news)
    (h2 : 2 ≤ rs.length) (h64 : rs.length < 64) (hb : ∀ x ∈ rs, x.k < 8 ∧ x.j < 64) (hsame : ∀ x ∈ rs, ∀ y ∈ rs, x.k = y.k → x.j = y.j → x.text = y.text ∧ x.lst = y.lst)
    (hd : ∀ i j, i < rs.length → j < rs.length → i ≠ j → (rs.getD i default).key ≠ (rs.getD j default).key) (h01 : (rs.getD 0 default).key < (rs.getD 1 default).key)
    (h : ∀ D de h' tk (p : Array Nat), p.Perm (List.range rs.length).toArray → SortTo (fun i => (rs.getD i default).key) p rs.length → Fr h₀ L h' m → News h₀ L h' ((D, W.listOf (rrefs (p.toList.map fun i => rs.getD i default)).toArray de) :: news) → (∀ q ∈ news, q.1 < D) → Q (.ref D) { s with heap := h', toks := tk }) :
    wpAny (model prog w) A (call (.builtin "sorted") [.ref l]) Q E s := by
  have hlen : (rrefs rs).length = rs.length := by simp [rrefs]
  refine kat_sorted F N (led_list N hm) (by rw [hlen]; exact h2) (by rw [hlen]; exact h64) ?_
  intro D e1 h' F' N' hlt
  have hget : ∀ x ∈ rs, h'.get? x.addr = some x.obj := fun x hx => (N' _ (.tail _ (hall x hx))).1
  refine kat_kind (tups_of rs hget) (by simpa using (show 0 < rs.length by (first | lia | omega))) (T := .type "int") ?_ (by decide) ?_
  · intro v hv
    obtain ⟨x, _, rfl⟩ := List.mem_map.mp hv
    exact .now
  rw [show (Value.type "int" != Value.type "tuple") = true by decide, hlen]
  obtain ⟨hsz, hin⟩ := sort_spec (fun i => (rs.getD i default).key) rs.length h2 hd h01
  have hval : ∀ i, i < rs.length → (rrefs rs).getD i Value.none = Value.ref (rs.getD i default).addr := by
    intro i hi
    simp [rrefs, hi]
  have hmem : ∀ i, i < rs.length → rs.getD i default ∈ rs := by
    intro i hi
    simp [hi]
  refine wp_kev (n := rs.length) (fun i j C hi hj hC => ?_) _ hin ?_
  · unfold kas_ask
    rw [hval i hi, hval j hj]
    exact row_lt (hget _ (hmem i hi)) (hget _ (hmem j hj)) (hb _ (hmem i hi)) (hb _ (hmem j hj)) (hsame _ (hmem i hi) _ (hmem j hj)) hC
  · obtain ⟨p, hp⟩ : ∃ p, kev (ltK fun i => (rs.getD i default).key) (kas_sort rs.length) = p := ⟨_, rfl⟩
    rw [hp] at hsz ⊢
    refine KasFin.intro F' N' (.head fun q hq => Nat.ne_of_lt (hlt q hq)) ?_
    intro h2' c F2 N2
    have e : (p.toList.map fun i => (rrefs rs).getD i Value.none) = rrefs (p.toList.map fun i => rs.getD i default) := by
      show _ = List.map (fun x : RIt => Value.ref x.addr) _
      rw [List.map_map]
      refine List.map_congr_left fun i hi => ?_
      have : i ∈ p := by simpa using hi
      have := (Array.Perm.mem_iff hsz.1).mp this
      exact hval i (by simpa using this)
    rw [e] at N2
    exact h D c h2' _ p hsz.1 hsz.2 F2 N2 hlt
end
end Mine
namespace Mine
open LCg in
section
variable {prog : Program} {w : World} {A : Around} {E : Value → Shared → Prop} {s : Shared} {h₀ : Heap} {L : Addr} {m : Str → Option Value} {env : Env}
theorem comp_ind {elt : PySem.Expr} {x : Str} {scope : Scope} {cl : List (Str × Addr)} {Sc : List (Addr × Obj) → Prop} {P : Nat → Value → Prop} {Fin : List Value → List (Addr × Obj) → Prop} {n : Nat} (Inv : Nat → List Value → List (Addr × Obj) → Prop)
    (step : ∀ i ys news v I oI C oC D m₂ h tk (E' : Value → Shared → Prop), i < n → Inv i ys news → P i v → NsObj oC m₂ → m₂ x = some v → Fr h₀ L h m → News h₀ L h ((I, oI) :: (C, oC) :: (D, lst ys) :: news) → Off3 I C D news → ((@Ne Nat I C) ∧ (@Ne Nat I D) ∧ (@Ne Nat C D)) →
      wpAny (model prog w) A (eval elt (compEnvC scope cl C env)) (CompEnd h₀ L m { s with heap := h, toks := tk } I oI C oC D (lst ys) Sc (fun y news' => Inv (i + 1) (ys ++ [y]) news')) E' { s with heap := h, toks := tk })
    (fin : ∀ ys news, Inv n ys news → Fin ys news) : ∀ k i ys news, k + i = n → Inv i ys news → CompRest prog w A h₀ L m env elt x scope cl s Sc P Fin k i ys news := by
  intro k
  induction k with
  | zero =>
    intro i ys news hk hi
    have : i = n := by (first | lia | omega)
    subst this
    exact CompRest.zero (fin ys news hi)
  | succ k ih =>
    intro i ys news hk hi
    refine CompRest.succ ?_
    intro v I oI C oC D m₂ h tk E' hP hC hx F N off ne
    refine wpAny_mono (step i ys news v I oI C oC D m₂ h tk E' (by (first | lia | omega)) hi hP hC hx F N off ne) (fun y s' q => ?_) fun _ _ e => e
    obtain ⟨h', tk', news', e, F', N', o', hs', r'⟩ := q
    exact ⟨h', tk', news', e, F', N', o', hs', ih (i + 1) (ys ++ [y]) news' (by (first | lia | omega)) r'⟩
end
theorem kd_add (x : Int) (j : Nat) : (x.fdiv 3 + (j : Int)).fmod 4 = (((kd x + j) % 4 : Nat) : Int) := by
  have h := (kd_spec x).1
  rw [Int.fmod_eq_emod_of_nonneg _ (by decide)] at h ⊢
  (first | lia | omega)
theorem dlp_item : ∀ i, i < 4 → Txt.item (Str.ofString "d-lp") ((i : Nat) : Int) = S [[100, 45, 108, 112].getD i 0] := by decide +kernel
theorem ints_snoc {ys : List Value} {ns : List Nat} {v : Nat} {t : Tok} (h : IntsAre ys (ns.map Int.ofNat)) : IntsAre (ys ++ [.int (v : Int) t]) ((ns ++ [v]).map Int.ofNat) := by
  rw [List.map_append]
  exact h.append (.cons _ _ .nil)
theorem rrefs_push (vs : List RIt) (x : RIt) : (rrefs vs).toArray.push (.ref x.addr) = (rrefs (vs ++ [x])).toArray := by
  apply Array.toList_inj.mp
  simp [rrefs]
end Mine
namespace Mine
noncomputable def isRow (ds : List Int) (k j : Nat) (x : RIt) : Prop := x.len = fLen ds k j ∧ x.k = k ∧ x.j = j ∧ x.text = S (textAt (ds.getD k 0) j) ∧ x.lst = S (lstg ((kd (ds.getD k 0) + j) % 4) (rt (ds.getD k 0)))
theorem isRow_mk (ds : List Int) (k j : Nat) (a : Addr) (t1 t2 t3 t4 t5 : Tok) : isRow ds k j ⟨a, (textAt (ds.getD k 0) j).length, k, j, S (textAt (ds.getD k 0) j), S (lstg ((kd (ds.getD k 0) + j) % 4) (rt (ds.getD k 0))), t1, t2, t3, t4, t5⟩ := ⟨rfl, rfl, rfl, rfl, rfl⟩
structure DSt where
  rs : List RIt
  re : Nat
  ow : Obj
  ok : Obj
noncomputable def ledD (l c3 c2 c1 : Addr) (od : Obj) (news : List (Addr × Obj)) (c : DSt) : List (Addr × Obj) := (l, W.listOf (rrefs c.rs).toArray c.re) :: (c3, c.ow) :: (c2, c.ok) :: (c1, od) :: (c.rs.map RIt.ent ++ news)
noncomputable def offD (l c3 c2 c1 : Addr) (q : List (Addr × Obj)) : Prop := ∀ p ∈ q, p.1 ≠ l ∧ p.1 ≠ c3 ∧ p.1 ≠ c2 ∧ p.1 ≠ c1
noncomputable def RowsAre (ds : List Int) (T : Nat) (rs : List RIt) : Prop := ∀ i x, rs[i]? = some x → isRow ds (i / T) (i % T) x
noncomputable def threes : List Str := (List.range 8).map fun r => S (three r)
theorem threes_at (r : Nat) (h : r < 8) : threes[r]? = some (S (three r)) := by simp [threes, h]
theorem rows_snoc {ds : List Int} {T : Nat} {rs : List RIt} {k j : Nat} {x : RIt} (h : RowsAre ds T rs) (hl : rs.length = k * T + j) (hj : j < T) (hx : isRow ds k j x) : RowsAre ds T (rs ++ [x]) := by
  intro i y hy
  by_cases hi : i < rs.length
  · rw [List.getElem?_append_left hi] at hy; exact h i y hy
  · rw [List.getElem?_append_right (by (first | lia | omega))] at hy
    obtain ⟨e1, e2⟩ : i - rs.length = 0 ∧ y = x := by
      cases hq : i - rs.length with
      | zero => rw [hq] at hy; exact ⟨rfl, (Option.some.inj hy).symm⟩
      | succ n => rw [hq] at hy; cases hy
    subst e2
    have e : i = T * k + j := by rw [Nat.mul_comm]; (first | lia | omega)
    rw [e, Nat.mul_add_div (by (first | lia | omega)), Nat.mul_add_mod, Nat.div_eq_of_lt hj, Nat.mod_eq_of_lt hj, Nat.add_zero]
    exact hx
noncomputable abbrev DInv (ds : List Int) (T : Nat) (l c3 c2 c1 : Addr) (news : List (Addr × Obj)) (i : Nat) (c : DSt) : Prop := c.rs.length = i * T ∧ RowsAre ds T c.rs ∧ (∃ v, c.ow.data = .cell v) ∧ (∃ v, c.ok.data = .cell v) ∧ offD l c3 c2 c1 (c.rs.map RIt.ent ++ news)
noncomputable abbrev DInvI (ds : List Int) (T n : Nat) (l c3 c2 c1 I : Addr) (news : List (Addr × Obj)) (j : Nat) (c : DSt) : Prop := c.rs.length = n + j ∧ RowsAre ds T c.rs ∧ (∃ v, c.ow.data = .cell v) ∧ offD l c3 c2 c1 (c.rs.map RIt.ent ++ news) ∧ ∀ p ∈ c.rs.map RIt.ent ++ news, p.1 ≠ I
noncomputable abbrev ledI (l c3 c2 c1 : Addr) (ok od : Obj) (io : Addr × Obj) (news : List (Addr × Obj)) (c : DSt) : List (Addr × Obj) := (l, W.listOf (rrefs c.rs).toArray c.re) :: (c3, c.ow) :: (c2, ok) :: (c1, od) :: io :: (c.rs.map RIt.ent ++ news)
end Mine
namespace Mine
section
variable {ds : List Int} {T : Nat} {rs : List RIt}
theorem rk_inj {f1 f2 k1 k2 j1 j2 : Nat} (a : k1 < 8) (b : k2 < 8) (c : j1 < 64) (d : j2 < 64) (e : (f1 * 8 + k1) * 64 + j1 = (f2 * 8 + k2) * 64 + j2) : k1 = k2 ∧ j1 = j2 := by (first | lia | omega)
theorem row_at (hR : RowsAre ds T rs) {i : Nat} (hi : i < rs.length) : isRow ds (i / T) (i % T) (rs.getD i default) := hR i _ (by simp [hi])
theorem key_at (hR : RowsAre ds T rs) {i : Nat} (hi : i < rs.length) : (rs.getD i default).key = rk (fLen ds) (i / T, i % T) := by
  obtain ⟨a, b, c, _⟩ := row_at hR hi
  unfold RIt.key rk
  rw [a, b, c]
theorem row_mem (hR : RowsAre ds T rs) {x : RIt} (hx : x ∈ rs) : ∃ i, i < rs.length ∧ isRow ds (i / T) (i % T) x := by
  obtain ⟨i, hi, e⟩ := List.getElem_of_mem hx
  exact ⟨i, hi, hR i x (by rw [List.getElem?_eq_getElem hi, e])⟩
variable (hR : RowsAre ds T rs) (hl : rs.length = ds.length * T) (hT : T = 2 + ds.length) (h2 : 2 ≤ ds.length) (h5 : ds.length ≤ 5)
include hl hT h2 h5
theorem due_size : 2 ≤ rs.length ∧ rs.length < 64 := by
  have a : ds.length * T ≤ 5 * 7 := Nat.mul_le_mul (by (first | lia | omega)) (by (first | lia | omega))
  have b : 2 * 4 ≤ ds.length * T := Nat.mul_le_mul (by (first | lia | omega)) (by (first | lia | omega))
  (first | lia | omega)
theorem due_ix {i : Nat} (hi : i < rs.length) : i / T < ds.length ∧ i % T < T := by
  refine ⟨Nat.div_lt_of_lt_mul (by rw [Nat.mul_comm, ← hl]; exact hi), Nat.mod_lt _ (by (first | lia | omega))⟩
include hR
theorem due_b : ∀ x ∈ rs, x.k < 8 ∧ x.j < 64 := by
  intro x hx
  obtain ⟨i, hi, _, b, c, _⟩ := row_mem hR hx
  have := due_ix hl hT h2 h5 hi
  (first | lia | omega)
theorem due_same : ∀ x ∈ rs, ∀ y ∈ rs, x.k = y.k → x.j = y.j → x.text = y.text ∧ x.lst = y.lst := by
  intro x hx y hy e1 e2
  obtain ⟨i, hi, _, b, c, d, e⟩ := row_mem hR hx
  obtain ⟨i', hi', _, b', c', d', e'⟩ := row_mem hR hy
  rw [d, d', e, e', ← b, ← b', ← c, ← c', e1, e2]
  exact ⟨rfl, rfl⟩
theorem due_d : ∀ i j, i < rs.length → j < rs.length → i ≠ j → (rs.getD i default).key ≠ (rs.getD j default).key := by
  intro i j hi hj hne e
  rw [key_at hR hi, key_at hR hj] at e
  unfold rk at e
  dsimp only at e
  have a := due_ix hl hT h2 h5 hi
  have b := due_ix hl hT h2 h5 hj
  have c : i / T = j / T ∧ i % T = j % T := rk_inj (Nat.lt_of_lt_of_le a.1 (by (first | lia | omega))) (Nat.lt_of_lt_of_le b.1 (by (first | lia | omega))) (Nat.lt_of_lt_of_le a.2 (by (first | lia | omega))) (Nat.lt_of_lt_of_le b.2 (by (first | lia | omega))) e
  apply hne
  rw [← Nat.div_add_mod i T, ← Nat.div_add_mod j T, c.1, c.2]
theorem due_01 : (rs.getD 0 default).key < (rs.getD 1 default).key := by
  have hs := due_size hl hT h2 h5
  rw [key_at hR (by (first | lia | omega)), key_at hR (by (first | lia | omega))]
  rw [Nat.zero_div, Nat.zero_mod, Nat.div_eq_of_lt (by (first | lia | omega)), Nat.mod_eq_of_lt (by (first | lia | omega))]
  have := text_mono (ds.getD 0 0) 0
  simp only [Nat.zero_add] at this
  unfold rk fLen
  dsimp only
  (first | lia | omega)
theorem due_sorted (p : Array Nat) (hp : p.Perm (List.range rs.length).toArray) (hs : SortTo (fun i => (rs.getD i default).key) p rs.length) :
    (p.toList.map fun i => (i / T, i % T)).Pairwise (fun a b => rk (fLen ds) a < rk (fLen ds) b) ∧ ∀ k j, (k, j) ∈ (p.toList.map fun i => (i / T, i % T)) ↔ k < ds.length ∧ j < T := by
  have hmem : ∀ i, i ∈ p.toList ↔ i < rs.length := by
    intro i
    have := Array.Perm.mem_iff hp (a := i)
    simpa using this
  have hsz : p.size = rs.length := by simpa using hp.size_eq
  constructor
  · rw [List.pairwise_map, List.pairwise_iff_getElem]
    intro i j hi hj hij
    have hi' : i < p.size := by simpa using hi
    have hj' : j < p.size := by simpa using hj
    have h := hs i j hij (by (first | lia | omega))
    unfold at' at h
    have e1 : p.getD i 0 = p.toList[i] := by simp [Array.getD, hi']
    have e2 : p.getD j 0 = p.toList[j] := by simp [Array.getD, hj']
    rw [e1, e2] at h
    dsimp only at h
    rw [key_at hR ((hmem _).mp (List.getElem_mem hi)), key_at hR ((hmem _).mp (List.getElem_mem hj))] at h
    exact h
  · intro k j
    rw [List.mem_map]
    constructor
    · rintro ⟨i, hi, e⟩
      have := due_ix hl hT h2 h5 ((hmem i).mp hi)
      cases e
      exact this
    · rintro ⟨hk, hj⟩
      refine ⟨T * k + j, (hmem _).mpr ?_, ?_⟩
      · rw [hl]
        have : T * (k + 1) ≤ T * ds.length := Nat.mul_le_mul_left _ hk
        rw [Nat.mul_comm ds.length T]
        rw [Nat.mul_add] at this
        (first | lia | omega)
      · rw [Nat.mul_add_div (by (first | lia | omega)), Nat.mul_add_mod, Nat.div_eq_of_lt hj, Nat.mod_eq_of_lt hj, Nat.add_zero]
end
theorem mem_getD {α : Type} [Inhabited α] {l : List α} {i : Nat} (h : i < l.length) : l.getD i default ∈ l := by simp [h]
theorem pick_upto (l : List Value) (n : Nat) (y : Int) (h : y = (n : Int)) : kms_pick l none (some y) = l.take n := by
  subst h
  unfold kms_pick kms_lo kms_hi
  dsimp only
  rw [if_neg (by (first | lia | omega)), List.drop_zero, Nat.sub_zero, kmk_take_min, Int.toNat_natCast]
section
variable {prog : Program} {w : World} {A : Around} {E : Value → Shared → Prop} {s : Shared} {h₀ : Heap} {L l : Addr} {m : Str → Option Value} {news : List (Addr × Obj)} {its : Array Value} {e : Nat}
theorem led_tup {value slice : PySem.Expr} {k : Int} {n : Nat} {u : Tok} {v : Value} {Q : Value → Shared → Prop} (N : News h₀ L s.heap news) (hm : (l, ({ cls := .type "tuple", data := .seq its } : Obj)) ∈ news) (hkn : k = (n : Int)) (hlen : its.size ≤ 64) (hv : its[n]? = some v) (h : Q v s)
    (hs : subscripted slice false (.ref l) (.int k u) = operate [.ref l, .int k u] (getItem (.ref l) (.int k u))) :
    wpAny (model prog w) A (subscriptTail value slice (.ref l) (.int k u)) Q E s := by
  subst hkn
  have hlt : n < its.size := by
    rcases Nat.lt_or_ge n its.size with q | q
    · exact q
    · rw [Array.getElem?_eq_none q] at hv; cases hv
  have hl : s.heap.IsTuple l its := ⟨_, (N _ hm).1, rfl, 0, rfl⟩
  exact tail_any hl.typeIs slot_tuple_getitem.lookup (getItem_tuple hl (by (first | lia | omega)) (by (first | lia | omega)) (by unfold seqIndex?; simp only [if_neg (show ¬ ((n : Int) < 0) by (first | lia | omega))]; rw [if_pos (by simp only [Bool.and_eq_true, decide_eq_true_eq]; (first | lia | omega))]; simp) hv h) hs
end
end Mine
namespace Mine
theorem due_c (w : World) (ds : List Int) (dvs : List Value) (hI : IntsAre dvs ds) (dl : Addr) (de : Nat) (news : List (Addr × Obj)) (hm : (dl, W.listOf dvs.toArray de) ∈ news) (h2 : 2 ≤ ds.length) (h5 : ds.length ≤ 5) (t : Tok) :
    Ctr w 10 200 190 [.ref dl, .int (2 + ds.length) t] news (fun v n' => ∃ (R : Addr) (re : Nat) (ns : List NIt) (Sx : List (Nat × Nat)), v = .ref R ∧ n' = (R, W.listOf (nrefs ns) re) :: (ns.map NIt.ent ++ news) ∧ Noted ds (Sx.take (2 + ds.length)) ns ∧ Sx.Pairwise (fun a b => rk (fLen ds) a < rk (fLen ds) b) ∧ ∀ k j, (k, j) ∈ Sx ↔ k < ds.length ∧ j < 2 + ds.length) := by
  have hlen := hI.length
  have hsz : dvs.toArray.size ≤ 64 := by rw [List.size_toArray]; (first | lia | omega)
  (unfold Ctr; k_fill; intro mean mg mb dp un gd cn cs a ccd cl outer A₀ base h₀ L m s Q E B F X N T hk hdp hu hret; refine wpAny_call ?_; k_dflt (refine' code_defC ?k1 ?k2 ?k3 ?k4 ?k5 ?kA ?kF ?kK ?k6 ?k7 ?k8 ?k9 ?kB ?kD ?_ ?c2 ?c3 ?c4; (case kA => exact rfl); (case kF => exact rfl); (case kK => assumption); (case k1 => k_asm); (case k2 => k_asm); (case k3 => k_asm); (case k4 => k_asm); (case k5 => k_asm); (case k6 => k_is); (case k7 => k_is); (case k8 => ktr_room); (case k9 => exact BindsTo.of_eq rfl); (case kB => exact rfl); (case kD => decide +kernel); (case c2 => exact rfl); (case c3 => exact rfl); (case c4 => exact rfl); k_whole; intro g' L' h' tk' cells' FG' F' N' Y' B' X' T' l1; k_cells Y'; (try simp only [List.cons_append, List.nil_append] at N'); (try dsimp only); (try k_fold)); (show (let e9 : Env := _; let A9 : Around := Around.deeper _ e9; wpAny _ A9 (execs _ e9) _ _ _)); intro e9 A9)
  rename_i ow ok od dw dk dd
  replace dw : ow.data = .cell none := dw
  replace dk : ok.data = .cell none := dk
  replace dd : od.data = .cell (some (.ref dl)) := dd
  (revert N'; show (let c1 : Addr := L' + 1; let c2 : Addr := L' + 1 + 1; let c3 : Addr := L' + 1 + 1 + 1; News _ _ _ ((c3, _) :: (c2, _) :: (c1, _) :: _) → _); intro c1 c2 c3 N')
  have l01 : @LT.lt Nat _ L' c1 := Nat.lt_succ_self _
  have l12 : @LT.lt Nat _ c1 c2 := Nat.lt_succ_self _
  have l23 : @LT.lt Nat _ c2 c3 := Nat.lt_succ_self _
  ((try dsimp only); (try k_fold); repeat' ((fail_if_success (with_reducible show wpAny _ _ (newList _) _ _ _)); first | (k_unfold; (try dsimp only)) | (k_end; wrow_close) | walk1 | (dsimp only; walk1) | (leave1; walk_say "STEP leave1"; try dsimp only) | fail "no step"); all_goals (repeat (k_unfold; (try dsimp only))))
  refine newList_K (by k_asm) (by k_asm) ?_
  intro l6 h6 F6 N6 hlt6
  ((try dsimp only); (try k_fold); repeat' ((fail_if_success (with_reducible show wpAny _ _ (exec (PySem.Stmt.While _ _ _ _) _) _ _ _)); (fail_if_success (with_reducible show wpAny _ _ (exec (PySem.Stmt.For _ _ _ _ _) _) _ _ _)); (fail_if_success (with_reducible show wpAny _ _ (eval (PySem.Expr.ListComp _ _ _ _) _) _ _ _)); (fail_if_success (with_reducible show wpAny _ _ (subscriptTail _ _ (Value.ref _) _) _ _ _)); (fail_if_success (with_reducible show wpAny _ _ (setItem (Value.ref _) _ _) _ _ _)); (fail_if_success (with_reducible show wpAny _ _ (compareOp CmpOp.Lt (Value.ref _) (Value.ref _)) _ _ _)); (fail_if_success (with_reducible show wpAny _ _ (call (Value.ref _) _) _ _ _)); (fail_if_success (with_reducible show wpAny _ _ (call (Value.builtin "len") [Value.ref _]) _ _ _)); (fail_if_success (with_reducible show KswEnd _ _ _ _ _ _ _ _ _ _ _ _)); (fail_if_success (with_reducible show LoopStepU _ _ _ _ _ _ _ _)); (fail_if_success (with_reducible show InvEndN _ _ _ _ _ _ _)); (fail_if_success (with_reducible show RngEnd _ _ _ _ _ _ _ _ _ _ _)); (fail_if_success (with_reducible show RngPostT _ _ _ _ _ _ _ _ _ _)); (fail_if_success (with_reducible show ElsPost _ _ _ _ _ _ _ _ _ _ _)); (fail_if_success (with_reducible show EnumPost _ _ _ _ _ _ _ _ _ _ _)); (fail_if_success (with_reducible show LCg.CompEnd _ _ _ _ _ _ _ _ _ _ _ _ _ _)); first | (k_unfold; (try dsimp only)) | (k_end; wrow_close) | walk1 | (dsimp only; walk1) | (leave1; walk_say "STEP leave1"; try dsimp only) | fail "no step"); all_goals (repeat (k_unfold; (try dsimp only))))
  rename Fr _ _ _ _ => lF'
  refine For_invTF lF' ?_ (by intro _; rfl)
  ((try dsimp only); (try k_fold); repeat' ((fail_if_success (with_reducible show wpAny _ _ (call (Value.builtin "len") _) _ _ _)); (fail_if_success (with_reducible show wpAny _ _ (call (Value.type "range") _) _ _ _)); first | (k_unfold; (try dsimp only)) | (k_end; wrow_close) | walk1 | (dsimp only; walk1) | (leave1; walk_say "STEP leave1"; try dsimp only) | fail "no step"); all_goals (repeat (k_unfold; (try dsimp only))))
  refine led_len (by k_asm) (.tail _ (.tail _ (.tail _ (.tail _ hm)))) hsz ?_
  ((try dsimp only); (try k_fold); repeat' ((fail_if_success (with_reducible show wpAny _ _ (call (Value.builtin "len") _) _ _ _)); (fail_if_success (with_reducible show wpAny _ _ (call (Value.type "range") _) _ _ _)); first | (k_unfold; (try dsimp only)) | (k_end; wrow_close) | walk1 | (dsimp only; walk1) | (leave1; walk_say "STEP leave1"; try dsimp only) | fail "no step"); all_goals (repeat (k_unfold; (try dsimp only))))
  rename Fr _ _ _ _ => F6
  rename News _ _ _ _ => N6
  rw [show (dvs.toArray.size : Int) = ((ds.length : Nat) : Int) by simp; (first | lia | omega)]
  obtain ⟨T9, hT9⟩ : ∃ T9, 2 + ds.length = T9 := ⟨_, rfl⟩
  have hoff0 : offD l6 (c3) (c2) (c1) news := fun p hp => by
    have a : @LT.lt Nat _ p.1 L' := l1 p hp
    have b : @LT.lt Nat _ p.1 l6 := hlt6 p (.tail _ (.tail _ (.tail _ hp)))
    refine ⟨?_, ?_, ?_, ?_⟩ <;> (apply Nat.ne_of_lt; (first | lia | omega))
  have c3l : @LT.lt Nat _ (c3) l6 := hlt6 _ (.head _)
  refine for_rangeT (σ := DSt) (ledD l6 (c3) (c2) (c1) od news) [Str.ofString "three", Str.ofString "j", Str.ofString "text", Str.ofString "listing"]
    (DInv ds T9 l6 (c3) (c2) (c1) news) ⟨[], 0, ow, ok⟩ (by (first | lia | omega)) rfl F6 N6
    ⟨by simp, fun i x h => by simp at h, ⟨_, dw⟩, ⟨_, dk⟩, hoff0⟩ ?_ ?_
  · rintro I i ⟨rs, re, ow, ok⟩ u t' s1 io hi ⟨hl9, hr9, ⟨vw, hw9⟩, ⟨vk, hk9⟩, ho9⟩ hoff F9 N9
    dsimp only [ledD] at hl9 hr9 hw9 hk9 ho9 hoff F9 N9
    (revert F9; show (let m7 : Str → Option Value := _; Fr _ _ _ m7 → _); intro m7 F9)
    obtain ⟨x, hx⟩ : ∃ x, ds.getD i 0 = x := ⟨_, rfl⟩
    obtain ⟨dt, hdv⟩ := hI.get i x (by rw [← hx]; simp [hi])
    have hdv' : dvs.toArray[i]? = some (.int x dt) := by rw [List.getElem?_toArray]; exact hdv
    ((try dsimp only); (try k_fold); repeat' ((fail_if_success (with_reducible show wpAny _ _ (storeName _ _ _) _ _ _)); first | (k_unfold; (try dsimp only)) | (k_end; wrow_close) | walk1 | (dsimp only; walk1) | (leave1; walk_say "STEP leave1"; try dsimp only) | fail "no step"); all_goals (repeat (k_unfold; (try dsimp only))))
    have q1 : I ≠ c2 := Ne.symm (hoff _ (.tail _ (.tail _ (.head _))))
    have q2 : l6 ≠ c2 := by apply Nat.ne_of_gt; (first | lia | omega)
    have q3 : c3 ≠ c2 := by apply Nat.ne_of_gt; (first | lia | omega)
    have g0 : l6 ≠ I := hoff _ (.head _)
    have g3 : c3 ≠ I := hoff _ (.tail _ (.head _))
    have g2 : c2 ≠ I := hoff _ (.tail _ (.tail _ (.head _)))
    have g1 : c1 ≠ I := hoff _ (.tail _ (.tail _ (.tail _ (.head _))))
    refine storeX_C (by k_asm) (by k_asm) rfl (.tail q1 (.tail q2 (.tail q3 (.head ?hh)))) hk9 ?_
    case hh =>
      intro p hp
      rcases List.mem_cons.mp hp with rfl | hp
      · show c1 ≠ c2; apply Nat.ne_of_lt; (first | lia | omega)
      · exact (ho9 p hp).2.2.1
    intro h8 ok2 F8 N8 hk8
    ((try dsimp only); (try k_fold); repeat' ((fail_if_success (with_reducible show wpAny _ _ (eval (PySem.Expr.List _ _) _) _ _ _)); first | (k_unfold; (try dsimp only)) | (k_end; wrow_close) | walk1 | (dsimp only; walk1) | (leave1; walk_say "STEP leave1"; try dsimp only) | fail "no step"); all_goals (repeat (k_unfold; (try dsimp only))))
    refine eval_texts (cs := threes) (by repeat' (first | exact .nil | refine .cons _ _ _ ?_)) F8 N8 (by decide +kernel) ?_
    intro a7 vs7 h7 tk7 hv7 F7 N7 hlt7
    obtain ⟨t7, ht7⟩ := hv7.at (threes_at (rt x) (rt_spec x).2)
    ((try dsimp only); (try k_fold); repeat' ((fail_if_success (with_reducible show wpAny _ _ (subscriptTail _ _ (Value.ref _) _) _ _ _)); first | (k_unfold; (try dsimp only)) | (k_end; wrow_close) | walk1 | (dsimp only; walk1) | (leave1; walk_say "STEP leave1"; try dsimp only) | fail "no step"); all_goals (repeat (k_unfold; (try dsimp only))))
    refine led_item (n := i) (by k_asm) (.tail _ (.tail _ (.tail _ (.tail _ (.tail _ (.tail _ (List.mem_append_right _ hm))))))) rfl hsz hdv' ?_ (by with_unfolding_all rfl)
    ((try dsimp only); (try k_fold); repeat' ((fail_if_success (with_reducible show wpAny _ _ (subscriptTail _ _ (Value.ref _) _) _ _ _)); first | (k_unfold; (try dsimp only)) | (k_end; wrow_close) | walk1 | (dsimp only; walk1) | (leave1; walk_say "STEP leave1"; try dsimp only) | fail "no step"); all_goals (repeat (k_unfold; (try dsimp only))))
    refine led_item (n := rt x) (by k_asm) (.head _) (rt_spec x).1 (by rw [List.size_toArray, hv7.len_eq]; decide) (by simpa using ht7) ?_ (by with_unfolding_all rfl)
    ((try dsimp only); (try k_fold); repeat' ((fail_if_success (with_reducible show wpAny _ _ (exec (PySem.Stmt.While _ _ _ _) _) _ _ _)); (fail_if_success (with_reducible show wpAny _ _ (exec (PySem.Stmt.For _ _ _ _ _) _) _ _ _)); (fail_if_success (with_reducible show wpAny _ _ (eval (PySem.Expr.ListComp _ _ _ _) _) _ _ _)); (fail_if_success (with_reducible show wpAny _ _ (subscriptTail _ _ (Value.ref _) _) _ _ _)); (fail_if_success (with_reducible show wpAny _ _ (setItem (Value.ref _) _ _) _ _ _)); (fail_if_success (with_reducible show wpAny _ _ (compareOp CmpOp.Lt (Value.ref _) (Value.ref _)) _ _ _)); (fail_if_success (with_reducible show wpAny _ _ (call (Value.ref _) _) _ _ _)); (fail_if_success (with_reducible show wpAny _ _ (call (Value.builtin "len") [Value.ref _]) _ _ _)); (fail_if_success (with_reducible show KswEnd _ _ _ _ _ _ _ _ _ _ _ _)); (fail_if_success (with_reducible show LoopStepU _ _ _ _ _ _ _ _)); (fail_if_success (with_reducible show InvEndN _ _ _ _ _ _ _)); (fail_if_success (with_reducible show RngEnd _ _ _ _ _ _ _ _ _ _ _)); (fail_if_success (with_reducible show RngPostT _ _ _ _ _ _ _ _ _ _)); (fail_if_success (with_reducible show ElsPost _ _ _ _ _ _ _ _ _ _ _)); (fail_if_success (with_reducible show EnumPost _ _ _ _ _ _ _ _ _ _ _)); (fail_if_success (with_reducible show LCg.CompEnd _ _ _ _ _ _ _ _ _ _ _ _ _ _)); first | (k_unfold; (try dsimp only)) | (k_end; wrow_close) | walk1 | (dsimp only; walk1) | (leave1; walk_say "STEP leave1"; try dsimp only) | fail "no step"); all_goals (repeat (k_unfold; (try dsimp only))))
    rename Fr _ _ _ _ => lF2
    rename News _ _ _ _ => N7
    refine For_invVF lF2 rfl rfl ?_
    ((try dsimp only); (try k_fold); repeat' ((fail_if_success (with_reducible show wpAny _ _ (call (Value.type "range") _) _ _ _)); first | (k_unfold; (try dsimp only)) | (k_end; wrow_close) | walk1 | (dsimp only; walk1) | (leave1; walk_say "STEP leave1"; try dsimp only) | fail "no step"); all_goals (repeat (k_unfold; (try dsimp only))))
    rename Fr _ _ _ _ => F6b
    rename News _ _ _ _ => N6b
    rw [show (2 + (ds.length : Int)) = ((T9 : Nat) : Int) by (first | lia | omega)]
    refine for_range (σ := DSt) (ledI l6 (c3) (c2) (c1) ok2 od (I, io) news) (fun _ => []) [Str.ofString "text", Str.ofString "listing"]
      (DInvI ds T9 (i * T9) l6 (c3) (c2) (c1) I news) ⟨rs, re, ow, ok2⟩ (by (first | lia | omega)) rfl F6b ?kN (fun _ h => nomatch h)
      ⟨by simpa using hl9, hr9, ⟨_, hw9⟩, ho9, fun p hp => hoff _ (.tail _ (.tail _ (.tail _ (.tail _ hp))))⟩ ?_ ?_
    case kN =>
      refine cb_drop N6b fun p hp => ?_
      rcases List.mem_cons.mp hp with rfl | hp
      · exact .tail _ (.tail _ (.head _))
      · rcases List.mem_cons.mp hp with rfl | hp
        · exact .tail _ (.tail _ (.tail _ (.head _)))
        · rcases List.mem_cons.mp hp with rfl | hp
          · exact .tail _ (.tail _ (.tail _ (.tail _ (.head _))))
          · rcases List.mem_cons.mp hp with rfl | hp
            · exact .tail _ (.tail _ (.tail _ (.tail _ (.tail _ (.head _)))))
            · rcases List.mem_cons.mp hp with rfl | hp
              · exact .tail _ (.head _)
              · exact .tail _ (.tail _ (.tail _ (.tail _ (.tail _ (.tail _ hp)))))
    · rintro J j ⟨rs, re, ow, okx⟩ u2 tj h9 tk9 jo hj ⟨hl9, hr9, ⟨vw, hw9⟩, ho9, hoI⟩ hoffJ F9 N9
      dsimp only at hl9 hr9 hw9 ho9 hoI hoffJ F9 N9
      (revert F9; show (let m9 : Str → Option Value := _; Fr _ _ _ m9 → _); intro m9 F9)
      (revert N9; show (let n9 : List (Addr × Obj) := _; News _ _ _ ((J, jo) :: n9) → _); intro n9 N9)
      ((try dsimp only); (try k_fold); repeat' ((fail_if_success (with_reducible show wpAny _ _ (exec (PySem.Stmt.Assign _ _ _) _) _ _ _)); first | (k_unfold; (try dsimp only)) | (k_end; wrow_close) | walk1 | (dsimp only; walk1) | (leave1; walk_say "STEP leave1"; try dsimp only) | fail "no step"); all_goals (repeat (k_unfold; (try dsimp only))))
      refine wpAny_Assign_Name ?_ (by with_unfolding_all rfl)
      k_dflt (refine LCg.ListComp_U (F₀ := by k_asm) (by with_unfolding_all rfl) (by decide) (by rfl) (by decide) (by rfl) ?_)
      ((try dsimp only); (try k_fold); repeat' ((fail_if_success (with_reducible show wpAny _ _ (call (Value.type "range") _) _ _ _)); first | (k_unfold; (try dsimp only)) | (k_end; wrow_close) | walk1 | (dsimp only; walk1) | (leave1; walk_say "STEP leave1"; try dsimp only) | fail "no step"); all_goals (repeat (k_unfold; (try dsimp only))))
      refine range1_rows F9 N9 ?_
      intro h6r tk6r ra6 rb6 rc6 hR6 F6r N6r _
      refine LCg.CompSrc.range rfl F6r N6r hR6 (small_n j (by (first | lia | omega))) (rngSize j) (by rw [sizeLine_eq]; (first | lia | omega)) ?_
      intro g
      refine comp_ind (n := j) (fun i ys nw => nw = _ ∧ IntsAre ys ((writers x i).map Int.ofNat)) ?_ ?_ j 0 [] _ (by (first | lia | omega)) ⟨rfl, .nil⟩
      · rintro q ys nw v I3 oI3 C3 oC3 D3 m3 h3 tk3 E3 hq ⟨rfl, hys⟩ ⟨t3, rfl⟩ hC3 hx3 F3 N3 off3 ne3
        ((try dsimp only); (try k_fold); repeat' ((fail_if_success (with_reducible show wpAny _ _ (subscriptTail _ _ (Value.ref _) _) _ _ _)); first | (k_unfold; (try dsimp only)) | (k_end; wrow_close) | walk1 | (dsimp only; walk1) | (leave1; walk_say "STEP leave1"; try dsimp only) | fail "no step"); all_goals (repeat (k_unfold; (try dsimp only))))
        refine led_item (n := i) (by k_asm) (.tail _ (.tail _ (.tail _ (.tail _ (.tail _ (.tail _ (.tail _ (.tail _ (.tail _ (List.mem_append_right _ hm)))))))))) rfl hsz hdv' ?_ (by with_unfolding_all rfl)
        ((try dsimp only); (try k_fold); repeat' ((fail_if_success (with_reducible show wpAny _ _ (exec (PySem.Stmt.While _ _ _ _) _) _ _ _)); (fail_if_success (with_reducible show wpAny _ _ (exec (PySem.Stmt.For _ _ _ _ _) _) _ _ _)); (fail_if_success (with_reducible show wpAny _ _ (eval (PySem.Expr.ListComp _ _ _ _) _) _ _ _)); (fail_if_success (with_reducible show wpAny _ _ (subscriptTail _ _ (Value.ref _) _) _ _ _)); (fail_if_success (with_reducible show wpAny _ _ (setItem (Value.ref _) _ _) _ _ _)); (fail_if_success (with_reducible show wpAny _ _ (compareOp CmpOp.Lt (Value.ref _) (Value.ref _)) _ _ _)); (fail_if_success (with_reducible show wpAny _ _ (call (Value.ref _) _) _ _ _)); (fail_if_success (with_reducible show wpAny _ _ (call (Value.builtin "len") [Value.ref _]) _ _ _)); (fail_if_success (with_reducible show KswEnd _ _ _ _ _ _ _ _ _ _ _ _)); (fail_if_success (with_reducible show LoopStepU _ _ _ _ _ _ _ _)); (fail_if_success (with_reducible show InvEndN _ _ _ _ _ _ _)); (fail_if_success (with_reducible show RngEnd _ _ _ _ _ _ _ _ _ _ _)); (fail_if_success (with_reducible show RngPostT _ _ _ _ _ _ _ _ _ _)); (fail_if_success (with_reducible show ElsPost _ _ _ _ _ _ _ _ _ _ _)); (fail_if_success (with_reducible show EnumPost _ _ _ _ _ _ _ _ _ _ _)); (fail_if_success (with_reducible show LCg.CompEnd _ _ _ _ _ _ _ _ _ _ _ _ _ _)); first | (k_unfold; (try dsimp only)) | (k_end; wrow_close) | walk1 | (dsimp only; walk1) | (leave1; walk_say "STEP leave1"; try dsimp only) | fail "no step"); all_goals (repeat (k_unfold; (try dsimp only))))
        rw [show (0 : Int) + (q : Int) = (q : Int) by (first | lia | omega), kd_add]
        refine LCg.CompEnd.intro F3 N3 _ (fun _ h => h) off3 trivial ⟨rfl, ?_⟩
        rw [writers_succ]
        exact ints_snoc hys
      · rintro ys nw ⟨rfl, hys⟩
        intro D3 h3 tk3 F3 N3 off3
        ((try dsimp only); (try k_fold); repeat' ((fail_if_success (with_reducible show wpAny _ _ (storeName _ _ _) _ _ _)); first | (k_unfold; (try dsimp only)) | (k_end; wrow_close) | walk1 | (dsimp only; walk1) | (leave1; walk_say "STEP leave1"; try dsimp only) | fail "no step"); all_goals (repeat (k_unfold; (try dsimp only))))
        have e1 : D3 ≠ c3 := Ne.symm off3.2.2.1
        have e2 : J ≠ c3 := Ne.symm (hoffJ _ (.tail _ (.head _)))
        have e3 : l6 ≠ c3 := by apply Nat.ne_of_gt; (first | lia | omega)
        refine storeX_C F3 N3 rfl (.tail e1 (.tail e2 (.tail e3 (.head ?hh)))) hw9 ?_
        case hh =>
          intro p hp
          rcases List.mem_cons.mp hp with rfl | hp
          · show c2 ≠ c3; apply Nat.ne_of_lt; (first | lia | omega)
          · rcases List.mem_cons.mp hp with rfl | hp
            · show c1 ≠ c3; apply Nat.ne_of_lt; (first | lia | omega)
            · rcases List.mem_cons.mp hp with rfl | hp
              · exact Ne.symm (hoff _ (.tail _ (.head _)))
              · exact (ho9 p hp).2.1
        intro h8b ow2 F8b N8b hw8
        (revert N8b; show (let n8 : List (Addr × Obj) := ledI l6 (c3) (c2) (c1) ok2 od (I, io) news ⟨rs, re, ow2, okx⟩; News _ _ _ ((D3, _) :: (J, jo) :: n8) → _); intro n8 N8b)
        ((try dsimp only); (try k_fold); repeat' ((fail_if_success (with_reducible show wpAny _ _ (eval (PySem.Expr.ListComp _ _ _ _) _) _ _ _)); first | (k_unfold; (try dsimp only)) | (k_end; wrow_close) | walk1 | (dsimp only; walk1) | (leave1; walk_say "STEP leave1"; try dsimp only) | fail "no step"); all_goals (repeat (k_unfold; (try dsimp only))))
        k_dflt (refine LCg.ListComp_U (F₀ := by k_asm) (by with_unfolding_all rfl) (by decide) (by rfl) (by decide) (by rfl) ?_)
        ((try dsimp only); (try k_fold); repeat' ((fail_if_success (with_reducible show wpAny _ _ (subscriptTail _ _ (Value.ref _) _) _ _ _)); (fail_if_success (with_reducible show wpAny _ _ (call (Value.ref _) _) _ _ _)); first | (k_unfold; (try dsimp only)) | (k_end; wrow_close) | walk1 | (dsimp only; walk1) | (leave1; walk_say "STEP leave1"; try dsimp only) | fail "no step"); all_goals (repeat (k_unfold; (try dsimp only))))
        refine led_item (n := i) (by k_asm) (.tail _ (.tail _ (.tail _ (.tail _ (.tail _ (.tail _ (.tail _ (List.mem_append_right _ hm)))))))) rfl hsz hdv' ?_ (by with_unfolding_all rfl)
        ((try dsimp only); (try k_fold); repeat' ((fail_if_success (with_reducible show wpAny _ _ (subscriptTail _ _ (Value.ref _) _) _ _ _)); (fail_if_success (with_reducible show wpAny _ _ (call (Value.ref _) _) _ _ _)); first | (k_unfold; (try dsimp only)) | (k_end; wrow_close) | walk1 | (dsimp only; walk1) | (leave1; walk_say "STEP leave1"; try dsimp only) | fail "no step"); all_goals (repeat (k_unfold; (try dsimp only))))
        (refine' ctr_use (places_c _ _ _ _) ?k1 ?k2 ?k3 ?k4 ?k5 ?kK ?kd ?ku ?_; (case k1 => k_asm); (case k2 => k_asm); (case k3 => k_asm); (case k4 => k_asm); (case k5 => k_asm); (case kK => first | exact rfl | assumption); (case kd => first | lia | ktr_room | ((try dsimp only [A9]); ktr_room)); (case ku => first | lia | ktr_units | ((try dsimp only [A9]); ktr_units)))
        intro r9 n9 h9 tk9 F9 N9 P9
        obtain ⟨D9, t1, t2, rfl, rfl, hlt9⟩ := P9
        rw [(pA_spec _).1, (pB_spec _).1] at N9
        refine LCg.CompSrc.ledger rfl F9 N9 (.head _) (by show 2 ≤ sizeLine; decide) ?_
        intro g2
        refine LCg.CompRest.succ (k := 1) ?_
        intro v1 I1 oI1 C1 oC1 E1 m1 h1 tk1 Ee1 hP1 hC1 hx1 F1 N1 off1 ne1
        obtain rfl : v1 = Value.int (pA x : Int) t1 := (Option.some.inj hP1).symm
        ((try dsimp only); (try k_fold); repeat' ((fail_if_success (with_reducible show wpAny _ _ (call (Value.ref _) _) _ _ _)); first | (k_unfold; (try dsimp only)) | (k_end; wrow_close) | walk1 | (dsimp only; walk1) | (leave1; walk_say "STEP leave1"; try dsimp only) | fail "no step"); all_goals (repeat (k_unfold; (try dsimp only))))
        have hwl : (writers x j).length ≤ 16 := by simp [writers]; (first | lia | omega)
        (refine' ctr_use (spelled_c _ _ (pA_spec x).2 (writers x j) (writers_lt x j) D3 ys hys ys.length _ _ (.tail _ (.tail _ (.tail _ (.tail _ (.head _))))) hwl) ?k1 ?k2 ?k3 ?k4 ?k5 ?kK ?kd ?ku ?_; (case k1 => k_asm); (case k2 => k_asm); (case k3 => k_asm); (case k4 => k_asm); (case k5 => k_asm); (case kK => first | exact rfl | assumption); (case kd => first | lia | ktr_room | ((try dsimp only [A9]); ktr_room)); (case ku => first | lia | ktr_units | ((try dsimp only [A9]); ktr_units)))
        intro r9 n9 h9 tk9 F9 N9 P9
        obtain ⟨rfl, t9, rfl⟩ := P9
        refine LCg.CompEnd.intro F9 N9 _ (fun _ h => h) off1 (.inr ⟨_, .head _, rfl, _, rfl⟩) ?_
        refine LCg.CompRest.succ (k := 0) ?_
        intro v2 I2 oI2 C2 oC2 E2 m2 h2x tk2 Ee2 hP2 hC2 hx2 F2 N2 off2 ne2
        obtain rfl : v2 = Value.int (pB x : Int) t2 := (Option.some.inj hP2).symm
        ((try dsimp only); (try k_fold); repeat' ((fail_if_success (with_reducible show wpAny _ _ (call (Value.ref _) _) _ _ _)); first | (k_unfold; (try dsimp only)) | (k_end; wrow_close) | walk1 | (dsimp only; walk1) | (leave1; walk_say "STEP leave1"; try dsimp only) | fail "no step"); all_goals (repeat (k_unfold; (try dsimp only))))
        (refine' ctr_use (spelled_c _ _ (pB_spec x).2 (writers x j) (writers_lt x j) D3 ys hys ys.length _ _ (.tail _ (.tail _ (.tail _ (.tail _ (.head _))))) hwl) ?k1 ?k2 ?k3 ?k4 ?k5 ?kK ?kd ?ku ?_; (case k1 => k_asm); (case k2 => k_asm); (case k3 => k_asm); (case k4 => k_asm); (case k5 => k_asm); (case kK => first | exact rfl | assumption); (case kd => first | lia | ktr_room | ((try dsimp only [A9]); ktr_room)); (case ku => first | lia | ktr_units | ((try dsimp only [A9]); ktr_units)))
        intro r9 n9 h9 tk9 F9b N9b P9
        obtain ⟨rfl, t9b, rfl⟩ := P9
        refine LCg.CompEnd.intro F9b N9b _ (fun _ h => h) off2 (.inr ⟨_, .head _, rfl, _, rfl⟩) ?_
        refine LCg.CompRest.zero ?_
        intro G8 h8 tk8 F8c N8c off8
        have hsA := spelled_len (pA x) (pA_spec x).2 (writers x j) (writers_lt x j)
        have hsB := spelled_len (pB x) (pB_spec x).2 (writers x j) (writers_lt x j)
        ((try dsimp only); (try k_fold); repeat' ((fail_if_success (with_reducible show wpAny _ _ (call (Value.builtin "str.join") _) _ _ _)); first | (k_unfold; (try dsimp only)) | (k_end; wrow_close) | walk1 | (dsimp only; walk1) | (leave1; walk_say "STEP leave1"; try dsimp only) | fail "no step"); all_goals (repeat (k_unfold; (try dsimp only))))
        refine join_listW (led_list N8c (.head _)) (.cons _ _ (.cons _ _ .nil)) (by decide) (by simp only [S_length, List.map_cons, List.map_nil, List.sum_cons, List.sum_nil, List.length_cons, List.length_nil]; (first | lia | omega)) ?_
        intro t8 k8
        rw [show Txt.join (Str.ofString "") [S (spelledP (pA x) (writers x j)), S (spelledP (pB x) (writers x j))] = S (textAt x j) from by
          rw [show [S (spelledP (pA x) (writers x j)), S (spelledP (pB x) (writers x j))] = [spelledP (pA x) (writers x j), spelledP (pB x) (writers x j)].map S from rfl, join_S]; simp [textAt]]
        ((try dsimp only); (try k_fold); repeat' ((fail_if_success (with_reducible show wpAny _ _ (subscriptTail _ _ (Value.ref _) _) _ _ _)); first | (k_unfold; (try dsimp only)) | (k_end; wrow_close) | walk1 | (dsimp only; walk1) | (leave1; walk_say "STEP leave1"; try dsimp only) | fail "no step"); all_goals (repeat (k_unfold; (try dsimp only))))
        dsimp only
        refine led_item (n := i) (by k_asm) (.tail _ (.tail _ (.tail _ (.tail _ (.tail _ (.tail _ (.tail _ (.tail _ (.tail _ (List.mem_append_right _ hm)))))))))) rfl hsz hdv' ?_ (by with_unfolding_all rfl)
        ((try dsimp only); (try k_fold); repeat' ((fail_if_success (with_reducible show wpAny _ _ (subscriptTail _ _ (Value.str _ _) _) _ _ _)); first | (k_unfold; (try dsimp only)) | (k_end; wrow_close) | walk1 | (dsimp only; walk1) | (leave1; walk_say "STEP leave1"; try dsimp only) | fail "no step"); all_goals (repeat (k_unfold; (try dsimp only))))
        rw [kd_add]
        have hk4 : (kd x + j) % 4 < 4 := Nat.mod_lt _ (by decide)
        refine item_str (fitsSsize_of (N := 100) (by (first | lia | omega)) (by (first | lia | omega)) (by decide)) (by rw [show (Str.ofString "d-lp").length = 4 by decide]; (first | lia | omega)) (by rw [show (Str.ofString "d-lp").length = 4 by decide]; (first | lia | omega)) ?_
        intro _
        rw [dlp_item _ hk4]
        have h3l : ∀ r, r < 8 → (three r).length = 3 := by decide
        have h3x := h3l (rt x) (rt_spec x).2
        ((try dsimp only); (try k_fold); repeat' ((fail_if_success (with_reducible show wpAny _ _ (binaryOp Operator.Add (Value.str _ _) _) _ _ _)); first | (k_unfold; (try dsimp only)) | (k_end; wrow_close) | walk1 | (dsimp only; walk1) | (leave1; walk_say "STEP leave1"; try dsimp only) | fail "no step"); all_goals (repeat (k_unfold; (try dsimp only))))
        refine add_S (by simp; (first | lia | omega)) ?_
        intro u1 k1
        ((try dsimp only); (try k_fold); repeat' ((fail_if_success (with_reducible show wpAny _ _ (binaryOp Operator.Add (Value.str _ _) _) _ _ _)); first | (k_unfold; (try dsimp only)) | (k_end; wrow_close) | walk1 | (dsimp only; walk1) | (leave1; walk_say "STEP leave1"; try dsimp only) | fail "no step"); all_goals (repeat (k_unfold; (try dsimp only))))
        refine add_S (by simp; (first | lia | omega)) ?_
        intro u2 k2
        ((try dsimp only); (try k_fold); repeat' ((fail_if_success (with_reducible show wpAny _ _ (binaryOp Operator.Add (Value.str _ _) _) _ _ _)); first | (k_unfold; (try dsimp only)) | (k_end; wrow_close) | walk1 | (dsimp only; walk1) | (leave1; walk_say "STEP leave1"; try dsimp only) | fail "no step"); all_goals (repeat (k_unfold; (try dsimp only))))
        refine add_S (by simp; (first | lia | omega)) ?_
        intro u3 k3
        rw [show [[100, 45, 108, 112].getD ((kd x + j) % 4) 0] ++ three (rt x) ++ three (rt x) ++ three (rt x) = lstg ((kd x + j) % 4) (rt x) by simp [lstg]]
        ((try dsimp only); (try k_fold); repeat' ((fail_if_success (with_reducible show wpAny _ _ (call (Value.builtin "len") _) _ _ _)); first | (k_unfold; (try dsimp only)) | (k_end; wrow_close) | walk1 | (dsimp only; walk1) | (leave1; walk_say "STEP leave1"; try dsimp only) | fail "no step"); all_goals (repeat (k_unfold; (try dsimp only))))
        have htl := text_len x j
        refine len_str (by rw [S_length]; (first | lia | omega)) ?_
        rw [S_length]
        ((try dsimp only); (try k_fold); repeat' ((fail_if_success (with_reducible show wpAny _ _ (newTuple _) _ _ _)); first | (k_unfold; (try dsimp only)) | (k_end; wrow_close) | walk1 | (dsimp only; walk1) | (leave1; walk_say "STEP leave1"; try dsimp only) | fail "no step"); all_goals (repeat (k_unfold; (try dsimp only))))
        refine kup_newTuple (by k_asm) (by k_asm) ?_ (by show 5 ≤ sizeLine; decide)
        intro X6 h5' F5 N5 hltX
        ((try dsimp only); (try k_fold); repeat' ((fail_if_success (with_reducible show wpAny _ _ (call (Value.builtin "list.append") _) _ _ _)); first | (k_unfold; (try dsimp only)) | (k_end; wrow_close) | walk1 | (dsimp only; walk1) | (leave1; walk_say "STEP leave1"; try dsimp only) | fail "no step"); all_goals (repeat (k_unfold; (try dsimp only))))
        have a1 : X6 ≠ l6 := Nat.ne_of_gt (hltX _ (.tail _ (.tail _ (.tail _ (.tail _ (.head _))))))
        have a2 : G8 ≠ l6 := Ne.symm off8.2.2.2.1
        have a3 : D9 ≠ l6 := Nat.ne_of_gt (hlt9 _ (.tail _ (.tail _ (.head _))))
        have a4 : D3 ≠ l6 := Ne.symm off3.2.1
        have a5 : J ≠ l6 := Ne.symm (hoffJ _ (.head _))
        refine append_K (D := l6) (by k_asm) (by k_asm) (.tail a1 (.tail a2 (.tail a3 (.tail a4 (.tail a5 (.head ?hh2)))))) ?_ ?sz
        case hh2 =>
          intro p hp
          rcases List.mem_cons.mp hp with rfl | hp
          · exact Ne.symm e3
          · rcases List.mem_cons.mp hp with rfl | hp
            · exact Ne.symm q2
            · rcases List.mem_cons.mp hp with rfl | hp
              · show c1 ≠ l6; apply Nat.ne_of_lt; (first | lia | omega)
              · rcases List.mem_cons.mp hp with rfl | hp
                · exact Ne.symm (hoff _ (.head _))
                · exact (ho9 p hp).1
        case sz =>
          have : i * T9 ≤ 5 * 7 := Nat.mul_le_mul (by (first | lia | omega)) (by (first | lia | omega))
          rw [List.size_toArray, show (rrefs rs).length = rs.length by simp [rrefs], sizeLine_eq]; (first | lia | omega)
        intro h4 F4 N4
        ((try dsimp only); (try k_fold); repeat' ((fail_if_success (with_reducible show wpAny _ _ (exec (PySem.Stmt.While _ _ _ _) _) _ _ _)); (fail_if_success (with_reducible show wpAny _ _ (exec (PySem.Stmt.For _ _ _ _ _) _) _ _ _)); (fail_if_success (with_reducible show wpAny _ _ (eval (PySem.Expr.ListComp _ _ _ _) _) _ _ _)); (fail_if_success (with_reducible show wpAny _ _ (subscriptTail _ _ (Value.ref _) _) _ _ _)); (fail_if_success (with_reducible show wpAny _ _ (setItem (Value.ref _) _ _) _ _ _)); (fail_if_success (with_reducible show wpAny _ _ (compareOp CmpOp.Lt (Value.ref _) (Value.ref _)) _ _ _)); (fail_if_success (with_reducible show wpAny _ _ (call (Value.ref _) _) _ _ _)); (fail_if_success (with_reducible show wpAny _ _ (call (Value.builtin "len") [Value.ref _]) _ _ _)); (fail_if_success (with_reducible show KswEnd _ _ _ _ _ _ _ _ _ _ _ _)); (fail_if_success (with_reducible show LoopStepU _ _ _ _ _ _ _ _)); (fail_if_success (with_reducible show InvEndN _ _ _ _ _ _ _)); (fail_if_success (with_reducible show RngEnd _ _ _ _ _ _ _ _ _ _ _)); (fail_if_success (with_reducible show RngPostT _ _ _ _ _ _ _ _ _ _)); (fail_if_success (with_reducible show ElsPost _ _ _ _ _ _ _ _ _ _ _)); (fail_if_success (with_reducible show EnumPost _ _ _ _ _ _ _ _ _ _ _)); (fail_if_success (with_reducible show LCg.CompEnd _ _ _ _ _ _ _ _ _ _ _ _ _ _)); first | (k_unfold; (try dsimp only)) | (k_end; wrow_close) | walk1 | (dsimp only; walk1) | (leave1; walk_say "STEP leave1"; try dsimp only) | fail "no step"); all_goals (repeat (k_unfold; (try dsimp only))))
        obtain ⟨y, ⟨hya, hyr⟩, N4⟩ : ∃ y : RIt, (y.addr = X6 ∧ isRow ds i j y) ∧ News _ _ h4 (y.ent :: _ :: _ :: _ :: (J, jo) :: (l6, W.listOf (rrefs (rs ++ [y])).toArray (re + 1)) :: (c3, ow2) :: (c2, ok2) :: (c1, od) :: (I, io) :: (rs.map RIt.ent ++ news)) :=
          ⟨⟨X6, (textAt x j).length, i, j, S (textAt x j), S (lstg ((kd x + j) % 4) (rt x)), _, _, _, _, _⟩, ⟨rfl, hx ▸ isRow_mk ds i j _ _ _ _ _ _⟩, by rw [← rrefs_push]; exact N4⟩
        have b1 : ∀ p ∈ (rs ++ [y]).map RIt.ent ++ news, p = y.ent ∨ p ∈ rs.map RIt.ent ++ news := by
          intro p hp
          rw [List.map_append, List.append_assoc] at hp
          rcases List.mem_append.mp hp with hp | hp
          · exact .inr (List.mem_append_left _ hp)
          · rcases List.mem_append.mp hp with hp | hp
            · exact .inl (List.mem_singleton.mp hp)
            · exact .inr (List.mem_append_right _ hp)
        refine rng_end ⟨rs ++ [y], re + 1, ow2, okx⟩ (by k_asm) N4 ?hn (.tail _ (.tail _ (.tail _ (.tail _ (.head _))))) ?ho (fun _ h => nomatch h) (fun z h1 _ h3 => (if_neg (ne_of_not (ne_of_not h3).2).1).trans ((if_neg (ne_of_not h3).1).trans ((if_neg h1).trans (not_in h3)))) ?hP
        case hn =>
          intro p hp
          rcases List.mem_cons.mp hp with rfl | hp
          · exact .tail _ (.tail _ (.tail _ (.tail _ (.tail _ (.head _)))))
          · rcases List.mem_cons.mp hp with rfl | hp
            · exact .tail _ (.tail _ (.tail _ (.tail _ (.tail _ (.tail _ (.head _))))))
            · rcases List.mem_cons.mp hp with rfl | hp
              · exact .tail _ (.tail _ (.tail _ (.tail _ (.tail _ (.tail _ (.tail _ (.head _)))))))
              · rcases List.mem_cons.mp hp with rfl | hp
                · exact .tail _ (.tail _ (.tail _ (.tail _ (.tail _ (.tail _ (.tail _ (.tail _ (.head _))))))))
                · rcases List.mem_cons.mp hp with rfl | hp
                  · exact .tail _ (.tail _ (.tail _ (.tail _ (.tail _ (.tail _ (.tail _ (.tail _ (.tail _ (.head _)))))))))
                  · rcases b1 p hp with rfl | hp
                    · exact .head _
                    · exact .tail _ (.tail _ (.tail _ (.tail _ (.tail _ (.tail _ (.tail _ (.tail _ (.tail _ (.tail _ hp)))))))))
        case ho =>
          intro p hp
          rcases List.mem_cons.mp hp with rfl | hp
          · exact Ne.symm a5
          · rcases List.mem_cons.mp hp with rfl | hp
            · exact Ne.symm e2
            · rcases List.mem_cons.mp hp with rfl | hp
              · exact hoffJ _ (.tail _ (.tail _ (.head _)))
              · rcases List.mem_cons.mp hp with rfl | hp
                · exact hoffJ _ (.tail _ (.tail _ (.tail _ (.head _))))
                · rcases List.mem_cons.mp hp with rfl | hp
                  · exact hoffJ _ (.tail _ (.tail _ (.tail _ (.tail _ (.head _)))))
                  · rcases b1 p hp with rfl | hp
                    · show y.addr ≠ J; rw [hya]; exact Nat.ne_of_gt (hltX _ (.tail _ (.tail _ (.tail _ (.head _)))))
                    · exact hoffJ p (.tail _ (.tail _ (.tail _ (.tail _ (.tail _ hp)))))
        case hP =>
          refine ⟨by simp only [List.length_append, List.length_singleton, hl9]; (first | lia | omega), rows_snoc hr9 hl9 hj hyr, ⟨_, hw8⟩, fun p hp => ?_, fun p hp => ?_⟩
          · rcases b1 p hp with rfl | hp
            · show y.addr ≠ l6 ∧ y.addr ≠ _ ∧ y.addr ≠ _ ∧ y.addr ≠ _
              rw [hya]
              exact ⟨a1, Nat.ne_of_gt (hltX _ (.tail _ (.tail _ (.tail _ (.tail _ (.tail _ (.head _))))))), Nat.ne_of_gt (hltX _ (.tail _ (.tail _ (.tail _ (.tail _ (.tail _ (.tail _ (.head _)))))))), Nat.ne_of_gt (hltX _ (.tail _ (.tail _ (.tail _ (.tail _ (.tail _ (.tail _ (.tail _ (.head _)))))))))⟩
            · exact ho9 p hp
          · rcases b1 p hp with rfl | hp
            · show y.addr ≠ I
              rw [hya]
              exact Nat.ne_of_gt (hltX _ (.tail _ (.tail _ (.tail _ (.tail _ (.tail _ (.tail _ (.tail _ (.tail _ (.head _))))))))))
            · exact hoI p hp
    · rintro ⟨rs2, re2, ow2, okx⟩ u2 h9 tk9 ⟨hl9, hr9, ⟨vw2, hw9⟩, ho9, hoI⟩ F9 N9
      dsimp only [ledI] at hl9 hr9 hw9 ho9 hoI F9 N9
      ((try dsimp only); (try k_fold); repeat' ((fail_if_success (with_reducible show wpAny _ _ (exec (PySem.Stmt.While _ _ _ _) _) _ _ _)); (fail_if_success (with_reducible show wpAny _ _ (exec (PySem.Stmt.For _ _ _ _ _) _) _ _ _)); (fail_if_success (with_reducible show wpAny _ _ (eval (PySem.Expr.ListComp _ _ _ _) _) _ _ _)); (fail_if_success (with_reducible show wpAny _ _ (subscriptTail _ _ (Value.ref _) _) _ _ _)); (fail_if_success (with_reducible show wpAny _ _ (setItem (Value.ref _) _ _) _ _ _)); (fail_if_success (with_reducible show wpAny _ _ (compareOp CmpOp.Lt (Value.ref _) (Value.ref _)) _ _ _)); (fail_if_success (with_reducible show wpAny _ _ (call (Value.ref _) _) _ _ _)); (fail_if_success (with_reducible show wpAny _ _ (call (Value.builtin "len") [Value.ref _]) _ _ _)); (fail_if_success (with_reducible show KswEnd _ _ _ _ _ _ _ _ _ _ _ _)); (fail_if_success (with_reducible show LoopStepU _ _ _ _ _ _ _ _)); (fail_if_success (with_reducible show InvEndN _ _ _ _ _ _ _)); (fail_if_success (with_reducible show RngEnd _ _ _ _ _ _ _ _ _ _ _)); (fail_if_success (with_reducible show RngPostT _ _ _ _ _ _ _ _ _ _)); (fail_if_success (with_reducible show ElsPost _ _ _ _ _ _ _ _ _ _ _)); (fail_if_success (with_reducible show EnumPost _ _ _ _ _ _ _ _ _ _ _)); (fail_if_success (with_reducible show LCg.CompEnd _ _ _ _ _ _ _ _ _ _ _ _ _ _)); first | (k_unfold; (try dsimp only)) | (k_end; wrow_close) | walk1 | (dsimp only; walk1) | (leave1; walk_say "STEP leave1"; try dsimp only) | fail "no step"); all_goals (repeat (k_unfold; (try dsimp only))))
      refine rng_endT ⟨rs2, re2, ow2, ok2⟩ (by k_asm) (by k_asm) ?hn2 (.tail _ (.tail _ (.tail _ (.tail _ (.head _))))) ?ho2 ?hr2 ?hP2
      case hn2 =>
        intro p hp
        rcases List.mem_cons.mp hp with rfl | hp
        · exact .head _
        · rcases List.mem_cons.mp hp with rfl | hp
          · exact .tail _ (.head _)
          · rcases List.mem_cons.mp hp with rfl | hp
            · exact .tail _ (.tail _ (.head _))
            · rcases List.mem_cons.mp hp with rfl | hp
              · exact .tail _ (.tail _ (.tail _ (.head _)))
              · exact .tail _ (.tail _ (.tail _ (.tail _ (.tail _ hp))))
      case ho2 =>
        intro p hp
        rcases List.mem_cons.mp hp with rfl | hp
        · exact g0
        · rcases List.mem_cons.mp hp with rfl | hp
          · exact g3
          · rcases List.mem_cons.mp hp with rfl | hp
            · exact g2
            · rcases List.mem_cons.mp hp with rfl | hp
              · exact g1
              · exact hoI p hp
      case hr2 => exact fun z h3 => (if_neg (ne_of_not (ne_of_not h3).2).1).trans ((not_in (ne_of_not (ne_of_not h3).2).2).trans ((if_neg (ne_of_not h3).1).trans (not_in h3)))
      case hP2 => exact ⟨by rw [Nat.succ_mul]; exact hl9, hr9, ⟨_, hw9⟩, ⟨_, hk8⟩, ho9⟩
  · rintro ⟨rs, re, ow, ok⟩ u h9 tk9 ⟨hl9, hr9, _, _, ho9⟩ F9 N9
    dsimp only [ledD] at hl9 hr9 ho9 F9 N9
    ((try dsimp only); (try k_fold); repeat' ((fail_if_success (with_reducible show wpAny _ _ (eval (PySem.Expr.ListComp _ _ _ _) _) _ _ _)); first | (k_unfold; (try dsimp only)) | (k_end; wrow_close) | walk1 | (dsimp only; walk1) | (leave1; walk_say "STEP leave1"; try dsimp only) | fail "no step"); all_goals (repeat (k_unfold; (try dsimp only))))
    k_dflt (refine LCg.ListComp_U (F₀ := by k_asm) (by with_unfolding_all rfl) (by decide) (by rfl) (by decide) (by rfl) ?_)
    ((try dsimp only); (try k_fold); repeat' ((fail_if_success (with_reducible show wpAny _ _ (call (Value.builtin "sorted") _) _ _ _)); first | (k_unfold; (try dsimp only)) | (k_end; wrow_close) | walk1 | (dsimp only; walk1) | (leave1; walk_say "STEP leave1"; try dsimp only) | fail "no step"); all_goals (repeat (k_unfold; (try dsimp only))))
    refine sorted_rows (rs := rs) F9 N9 (.head _) ?s1 ?s2 ?s3 ?s4 ?s5 ?s6 ?s7 ?_
    case s1 => exact fun x hx => .tail _ (.tail _ (.tail _ (.tail _ (List.mem_append_left _ (List.mem_map_of_mem hx)))))
    case s2 => exact (due_size hl9 hT9.symm h2 h5).1
    case s3 => exact (due_size hl9 hT9.symm h2 h5).2
    case s4 => exact due_b hr9 hl9 hT9.symm h2 h5
    case s5 => exact due_same hr9 hl9 hT9.symm h2 h5
    case s6 => exact due_d hr9 hl9 hT9.symm h2 h5
    case s7 => exact due_01 hr9 hl9 hT9.symm h2 h5
    intro D8 de8 h8 tk8 p8 hp8 hs8 F8 N8 hlt8
    have hds := due_sorted hr9 hl9 hT9.symm h2 h5 p8 hp8 hs8
    obtain ⟨so, hso⟩ : ∃ so, (p8.toList.map fun i => rs.getD i default) = so := ⟨_, rfl⟩
    rw [hso] at N8
    have hpl : p8.toList.length = rs.length := by have := hp8.size_eq; simpa using this
    have hsol : so.length = rs.length := by rw [← hso, List.length_map, hpl]
    have hnT : T9 ≤ rs.length := by
      rw [hl9]
      have : 1 * T9 ≤ ds.length * T9 := Nat.mul_le_mul_right _ (by (first | lia | omega))
      (first | lia | omega)
    have hs35 := (due_size hl9 hT9.symm h2 h5).2
    have hsr : ∀ q, q < T9 → ∃ y, so[q]? = some y ∧ y ∈ rs ∧ ∃ kj, (p8.toList.map fun i => (i / T9, i % T9))[q]? = some kj ∧ isRow ds kj.1 kj.2 y := by
      intro q hq
      have hq' : q < p8.toList.length := by (first | lia | omega)
      have hpm : p8.toList[q] < rs.length := by
        have := (Array.Perm.mem_iff hp8 (a := p8.toList[q])).mp (by simpa using List.getElem_mem hq')
        simpa using this
      refine ⟨rs.getD p8.toList[q] default, ?_, ?_, (p8.toList[q] / T9, p8.toList[q] % T9), ?_, row_at hr9 hpm⟩
      · rw [← hso, List.getElem?_map, List.getElem?_eq_getElem hq']; rfl
      · exact mem_getD hpm
      · rw [List.getElem?_map, List.getElem?_eq_getElem hq']; rfl
    ((try dsimp only); (try k_fold); repeat' ((fail_if_success (with_reducible show wpAny _ _ (subscriptTail _ _ _ _) _ _ _)); (fail_if_success (with_reducible show wpAny _ _ (getItem _ _) _ _ _)); first | (k_unfold; (try dsimp only)) | (k_end; wrow_close) | walk1 | (dsimp only; walk1) | (leave1; walk_say "STEP leave1"; try dsimp only) | fail "no step"); all_goals (repeat (k_unfold; (try dsimp only))))
    refine kba_turn (value' := PySem.Expr.Name (PySem.Str.ofString "_") ⟨0, 0, 0, 0⟩) (fun _ => rfl) ?_
    refine kms_slice_lit (s := { s with heap := h8, toks := tk8 }) (zs := (rrefs so).take T9) F8 N8 (led_list (s := { s with heap := h8, toks := tk8 }) N8 (.head _)) .none (.int _ _) (by rw [List.toList_toArray]; exact pick_upto _ _ _ (by (first | lia | omega))) ?_ (by with_unfolding_all rfl) (fun _ => rfl) (by rw [List.size_toArray, show (rrefs so).length = so.length by simp [rrefs], sizeLine_eq]; (first | lia | omega))
    intro D7 h7 F7 N7 hlt7
    have hrl : ((rrefs so).take T9).toArray.size = T9 := by rw [List.size_toArray, List.length_take, show (rrefs so).length = so.length by simp [rrefs]]; (first | lia | omega)
    refine LCg.CompSrc.ledger rfl F7 N7 (.head _) (by rw [hrl, sizeLine_eq]; (first | lia | omega)) ?_
    intro g
    rw [hrl]
    refine comp_ind (n := T9) (fun q ys nw => ∃ ns : List NIt, ys = ns.map (fun z => Value.ref z.addr) ∧ Noted ds ((p8.toList.map fun i => (i / T9, i % T9)).take q) ns ∧ (∀ z ∈ ns, z.ent ∈ nw) ∧ ∀ p ∈ _, p ∈ nw) ?_ ?_ T9 0 [] _ (by (first | lia | omega)) ⟨[], rfl, by simpa using Noted.nil ds, fun z hz => by simp at hz, fun p hp => hp⟩
    · rintro q ys nw v I3 oI3 C3 oC3 D3 m3 h3 tk3 E3 hq ⟨ns, rfl, hno, hni, hba⟩ hP3 hC3 hx3 F3 N3 off3 ne3
      obtain ⟨y, hy1, hy2, kj, hkj, hyr⟩ := hsr q hq
      obtain rfl : v = .ref y.addr := by
        rw [List.getElem?_toArray, List.getElem?_take, if_pos hq] at hP3
        unfold rrefs at hP3
        rw [List.getElem?_map, hy1] at hP3
        exact (Option.some.inj hP3).symm
      have hym : (y.addr, ({ cls := .type "tuple", data := .seq y.vals } : Obj)) ∈ nw := hba _ (.tail _ (.tail _ (.tail _ (.tail _ (.tail _ (.tail _ (List.mem_append_left _ (List.mem_map_of_mem (f := RIt.ent) hy2))))))))
      ((try dsimp only); (try k_fold); repeat' ((fail_if_success (with_reducible show wpAny _ _ (subscriptTail _ _ (Value.ref _) _) _ _ _)); first | (k_unfold; (try dsimp only)) | (k_end; wrow_close) | walk1 | (dsimp only; walk1) | (leave1; walk_say "STEP leave1"; try dsimp only) | fail "no step"); all_goals (repeat (k_unfold; (try dsimp only))))
      dsimp only
      refine led_tup (n := 1) (v := .int (y.k : Int) y.t2) N3 (.tail _ (.tail _ (.tail _ hym))) rfl (by show 5 ≤ 64; decide) rfl ?_ (by with_unfolding_all rfl)
      ((try dsimp only); (try k_fold); repeat' ((fail_if_success (with_reducible show wpAny _ _ (subscriptTail _ _ (Value.ref _) _) _ _ _)); first | (k_unfold; (try dsimp only)) | (k_end; wrow_close) | walk1 | (dsimp only; walk1) | (leave1; walk_say "STEP leave1"; try dsimp only) | fail "no step"); all_goals (repeat (k_unfold; (try dsimp only))))
      dsimp only
      refine led_tup (n := 3) (v := .str y.text y.t4) N3 (.tail _ (.tail _ (.tail _ hym))) rfl (by show 5 ≤ 64; decide) rfl ?_ (by with_unfolding_all rfl)
      ((try dsimp only); (try k_fold); repeat' ((fail_if_success (with_reducible show wpAny _ _ (subscriptTail _ _ (Value.ref _) _) _ _ _)); first | (k_unfold; (try dsimp only)) | (k_end; wrow_close) | walk1 | (dsimp only; walk1) | (leave1; walk_say "STEP leave1"; try dsimp only) | fail "no step"); all_goals (repeat (k_unfold; (try dsimp only))))
      dsimp only
      refine led_tup (n := 4) (v := .str y.lst y.t5) N3 (.tail _ (.tail _ (.tail _ hym))) rfl (by show 5 ≤ 64; decide) rfl ?_ (by with_unfolding_all rfl)
      ((try dsimp only); (try k_fold); repeat' ((fail_if_success (with_reducible show wpAny _ _ (newTuple _) _ _ _)); first | (k_unfold; (try dsimp only)) | (k_end; wrow_close) | walk1 | (dsimp only; walk1) | (leave1; walk_say "STEP leave1"; try dsimp only) | fail "no step"); all_goals (repeat (k_unfold; (try dsimp only))))
      refine kup_newTuple (by k_asm) (by k_asm) ?_ (by show 3 ≤ sizeLine; decide)
      intro Y6 h5' F5 N5 hltY
      have y1 : Y6 ≠ I3 := Nat.ne_of_gt (hltY _ (.head _))
      have y2 : Y6 ≠ C3 := Nat.ne_of_gt (hltY _ (.tail _ (.head _)))
      have y3 : Y6 ≠ D3 := Nat.ne_of_gt (hltY _ (.tail _ (.tail _ (.head _))))
      ((try dsimp only); (try k_fold); repeat' ((fail_if_success (with_reducible show wpAny _ _ (exec (PySem.Stmt.While _ _ _ _) _) _ _ _)); (fail_if_success (with_reducible show wpAny _ _ (exec (PySem.Stmt.For _ _ _ _ _) _) _ _ _)); (fail_if_success (with_reducible show wpAny _ _ (eval (PySem.Expr.ListComp _ _ _ _) _) _ _ _)); (fail_if_success (with_reducible show wpAny _ _ (subscriptTail _ _ (Value.ref _) _) _ _ _)); (fail_if_success (with_reducible show wpAny _ _ (setItem (Value.ref _) _ _) _ _ _)); (fail_if_success (with_reducible show wpAny _ _ (compareOp CmpOp.Lt (Value.ref _) (Value.ref _)) _ _ _)); (fail_if_success (with_reducible show wpAny _ _ (call (Value.ref _) _) _ _ _)); (fail_if_success (with_reducible show wpAny _ _ (call (Value.builtin "len") [Value.ref _]) _ _ _)); (fail_if_success (with_reducible show KswEnd _ _ _ _ _ _ _ _ _ _ _ _)); (fail_if_success (with_reducible show LoopStepU _ _ _ _ _ _ _ _)); (fail_if_success (with_reducible show InvEndN _ _ _ _ _ _ _)); (fail_if_success (with_reducible show RngEnd _ _ _ _ _ _ _ _ _ _ _)); (fail_if_success (with_reducible show RngPostT _ _ _ _ _ _ _ _ _ _)); (fail_if_success (with_reducible show ElsPost _ _ _ _ _ _ _ _ _ _ _)); (fail_if_success (with_reducible show EnumPost _ _ _ _ _ _ _ _ _ _ _)); (fail_if_success (with_reducible show LCg.CompEnd _ _ _ _ _ _ _ _ _ _ _ _ _ _)); first | (k_unfold; (try dsimp only)) | (k_end; wrow_close) | walk1 | (dsimp only; walk1) | (leave1; walk_say "STEP leave1"; try dsimp only) | fail "no step"); all_goals (repeat (k_unfold; (try dsimp only))))
      refine LCg.CompEnd.intro F5 N5 (NIt.ent ⟨Y6, (y.k : Int), y.text, y.lst, y.t2, y.t4, y.t5⟩ :: nw) ?hsub ⟨⟨y1, y2, y3⟩, off3⟩ (.inr ⟨_, .tail _ (hba _ (.head _)), rfl, _, rfl⟩) ⟨ns ++ [⟨Y6, (y.k : Int), y.text, y.lst, y.t2, y.t4, y.t5⟩], by simp, ?hno, ?hni, ?hba⟩
      case hsub =>
        intro p hp
        rcases List.mem_cons.mp hp with rfl | hp
        · exact .tail _ (.head _)
        · rcases List.mem_cons.mp hp with rfl | hp
          · exact .tail _ (.tail _ (.head _))
          · rcases List.mem_cons.mp hp with rfl | hp
            · exact .tail _ (.tail _ (.tail _ (.head _)))
            · rcases List.mem_cons.mp hp with rfl | hp
              · exact .head _
              · exact .tail _ (.tail _ (.tail _ (.tail _ hp)))
      case hno =>
        rw [List.take_add_one, hkj]
        refine hno.snoc ?_
        obtain ⟨_, r2, _, r4, r5⟩ := hyr
        exact ⟨by show (y.k : Int) = _; rw [r2], r4, r5⟩
      case hni =>
        intro z hz
        rcases List.mem_append.mp hz with hz | hz
        · exact .tail _ (hni z hz)
        · rw [List.mem_singleton.mp hz]; exact .head _
      case hba => exact fun p hp => .tail _ (hba p hp)
    · rintro ys nw ⟨ns, rfl, hno, hni, hba⟩
      intro D3 h3 tk3 F3 N3 off3
      ((try dsimp only); (try k_fold); repeat' ((fail_if_success (with_reducible show wpAny _ _ (exec (PySem.Stmt.While _ _ _ _) _) _ _ _)); (fail_if_success (with_reducible show wpAny _ _ (exec (PySem.Stmt.For _ _ _ _ _) _) _ _ _)); (fail_if_success (with_reducible show wpAny _ _ (eval (PySem.Expr.ListComp _ _ _ _) _) _ _ _)); (fail_if_success (with_reducible show wpAny _ _ (subscriptTail _ _ (Value.ref _) _) _ _ _)); (fail_if_success (with_reducible show wpAny _ _ (setItem (Value.ref _) _ _) _ _ _)); (fail_if_success (with_reducible show wpAny _ _ (compareOp CmpOp.Lt (Value.ref _) (Value.ref _)) _ _ _)); (fail_if_success (with_reducible show wpAny _ _ (call (Value.ref _) _) _ _ _)); (fail_if_success (with_reducible show wpAny _ _ (call (Value.builtin "len") [Value.ref _]) _ _ _)); (fail_if_success (with_reducible show KswEnd _ _ _ _ _ _ _ _ _ _ _ _)); (fail_if_success (with_reducible show LoopStepU _ _ _ _ _ _ _ _)); (fail_if_success (with_reducible show InvEndN _ _ _ _ _ _ _)); (fail_if_success (with_reducible show RngEnd _ _ _ _ _ _ _ _ _ _ _)); (fail_if_success (with_reducible show RngPostT _ _ _ _ _ _ _ _ _ _)); (fail_if_success (with_reducible show ElsPost _ _ _ _ _ _ _ _ _ _ _)); (fail_if_success (with_reducible show EnumPost _ _ _ _ _ _ _ _ _ _ _)); (fail_if_success (with_reducible show LCg.CompEnd _ _ _ _ _ _ _ _ _ _ _ _ _ _)); first | (k_unfold; (try dsimp only)) | (k_end; wrow_close) | walk1 | (dsimp only; walk1) | (leave1; walk_say "STEP leave1"; try dsimp only) | fail "no step"); all_goals (repeat (k_unfold; (try dsimp only))))
      refine hret _ ((D3, W.listOf (nrefs ns) (ns.map fun z => Value.ref z.addr).length) :: (ns.map NIt.ent ++ news)) _ _ (by k_asm) (cb_drop (by k_asm) fun p hp => ?_) ⟨D3, _, ns, (p8.toList.map fun i => (i / T9, i % T9)), rfl, rfl, by rw [hT9]; exact hno, hds.1, by rw [hT9]; exact hds.2⟩
      rcases List.mem_cons.mp hp with rfl | hp
      · exact .head _
      · rcases List.mem_append.mp hp with hp | hp
        · obtain ⟨z, hz, rfl⟩ := List.mem_map.mp hp
          exact .tail _ (hni z hz)
        · exact .tail _ (hba p (.tail _ (.tail _ (.tail _ (.tail _ (.tail _ (.tail _ (List.mem_append_right _ hp))))))))
end Mine
namespace Mine
section
variable {prog : Program} {w : World} {A : Around} {E : Value → Shared → Prop} {s : Shared} {h₀ : Heap} {L : Addr} {news : List (Addr × Obj)}
theorem nit_eq {x y : NIt} (N : News h₀ L s.heap news) (hx : x.ent ∈ news) (hy : y.ent ∈ news) (e1 : x.k = y.k) (e2 : x.text = y.text) (e3 : x.lst = y.lst) (hu : A.units < cLine) : SeqAt.EqAt A s (.ref x.addr) (.ref y.addr) true := by
  by_cases ha : x.addr = y.addr
  · rw [ha]; exact SeqAt.EqAt.same _
  · refine SeqAt.EqAt.of_refs ha ?_
    have h1 : s.heap.IsTuple x.addr #[.int x.k x.t1, .str x.text x.t2, .str x.lst x.t3] := ⟨_, (N _ hx).1, rfl, 0, rfl⟩
    have h2 : s.heap.IsTuple y.addr #[.int y.k y.t1, .str y.text y.t2, .str y.lst y.t3] := ⟨_, (N _ hy).1, rfl, 0, rfl⟩
    refine SeqAt.RcAt.tuples (e := fun _ => true) h1 h2 hu ?_
    intro j q1 q2
    match j, q1, q2 with
    | 0, _, _ =>
      have := SeqAt.EqAt.int_int (A := A.in1) (s := s) x.k x.t1 y.k y.t1
      rw [show (x.k == y.k) = true by rw [e1]; exact beq_self_eq_true _] at this
      exact this
    | 1, _, _ =>
      have := SeqAt.EqAt.str_str (A := A.in1) (s := s) x.text x.t2 y.text y.t2
      rw [show (x.text == y.text) = true by rw [e2]; exact beq_self_eq_true _] at this
      exact this
    | 2, _, _ =>
      have := SeqAt.EqAt.str_str (A := A.in1) (s := s) x.lst x.t3 y.lst y.t3
      rw [show (x.lst == y.lst) = true by rw [e3]; exact beq_self_eq_true _] at this
      exact this
theorem eq_noted {R R2 : Addr} {re re2 : Nat} {ns ns2 : List NIt} {Q : Value → Shared → Prop} (N : News h₀ L s.heap news) (hm : (R, W.listOf (nrefs ns) re) ∈ news) (hm2 : (R2, W.listOf (nrefs ns2) re2) ∈ news) (hall : ∀ z ∈ ns, z.ent ∈ news) (hall2 : ∀ z ∈ ns2, z.ent ∈ news)
    (hlen : ns.length = ns2.length) (heq : ∀ (i : Nat) (x y : NIt), ns[i]? = some x → ns2[i]? = some y → x.k = y.k ∧ x.text = y.text ∧ x.lst = y.lst) (hu : A.units < cLine) (hu1 : A.in1.units < cLine) (h : Q (.bool true) s) :
    wpAny (model prog w) A (compareOp .Eq (.ref R) (.ref R2)) Q E s := by
  refine SeqAt.eq_listAt (e := fun _ => true) (led_list N hm) (led_list N hm2) (by rw [nrefs_size, nrefs_size, hlen]) hu ?_ ?_
  · intro j q1 q2
    have r1 : j < ns.length := by rw [nrefs_size] at q1; exact q1
    have r2 : j < ns2.length := by rw [nrefs_size] at q2; exact q2
    have v1 : (nrefs ns)[j] = Value.ref ns[j].addr := by simp [nrefs]
    have v2 : (nrefs ns2)[j] = Value.ref ns2[j].addr := by simp [nrefs]
    rw [v1, v2]
    obtain ⟨a, b, c⟩ := heq j ns[j] ns2[j] (List.getElem?_eq_getElem r1) (List.getElem?_eq_getElem r2)
    exact nit_eq N (hall _ (List.getElem_mem r1)) (hall2 _ (List.getElem_mem r2)) a b c hu1
  · rw [show ((List.range (nrefs ns).size).all fun _ => true) = true from List.all_eq_true.mpr fun _ _ => rfl]
    exact h
theorem noted_same {ds : List Int} {picks : List (Nat × Nat)} {ns ns2 : List NIt} (h : Noted ds picks ns) (h2 : Noted ds picks ns2) : ∀ (i : Nat) (x y : NIt), ns[i]? = some x → ns2[i]? = some y → x.k = y.k ∧ x.text = y.text ∧ x.lst = y.lst := by
  intro i x y hx hy
  have hi : i < picks.length := by
    rw [← h.1]
    rcases Nat.lt_or_ge i ns.length with q | q
    · exact q
    · rw [List.getElem?_eq_none q] at hx; cases hx
  obtain ⟨a, b, c⟩ := h.2 i picks[i] x (List.getElem?_eq_getElem hi) hx
  obtain ⟨a2, b2, c2⟩ := h2.2 i picks[i] y (List.getElem?_eq_getElem hi) hy
  exact ⟨by rw [a, a2], by rw [b, b2], by rw [c, c2]⟩
end
end Mine
namespace Mine
end Mine
open Mine
theorem PySem.Challenge.cw_oh0044_01_holds : PySem.Challenge.rw_oh0044_01.Holds :=
  hd (by
  k_go0
  (all_goals try k_fold)
  ((try dsimp only); (try k_fold); repeat' ((fail_if_success (with_reducible show wpAny _ _ (call _ _) _ _ _)); first | (k_unfold; (try dsimp only)) | (k_end; wrow_close) | walk1 | (dsimp only; walk1) | (leave1; walk_say "STEP leave1"; try dsimp only) | fail "no step"); all_goals (repeat (k_unfold; (try dsimp only))))
  rename IntsAre _ ([10, 7] ++ _) => hI
  rename News _ _ _ _ => N1
  rename Fr _ _ _ _ => F1
  obtain ⟨ds, hI, h2, h5⟩ : ∃ ds, IntsAre _ ds ∧ 2 ≤ ds.length ∧ ds.length ≤ 5 := ⟨_, hI, by simp, by simp; (first | lia | omega)⟩
  have hlen := hI.length
  refine led_len N1 (.head _) (by simp; (first | lia | omega)) ?_
  ((try dsimp only); (try k_fold); repeat' ((fail_if_success (with_reducible show wpAny _ _ (call _ _) _ _ _)); first | (k_unfold; (try dsimp only)) | (k_end; wrow_close) | walk1 | (dsimp only; walk1) | (leave1; walk_say "STEP leave1"; try dsimp only) | fail "no step"); all_goals (repeat (k_unfold; (try dsimp only))))
  have hz := List.size_toArray.trans hlen
  rw [hz]
  refine' ctr_use (run_c _ ds _ hI _ _ _ (.head _) h2 h5 _) ?k1 ?k2 ?k3 ?k4 ?k5 ?kK ?kd ?ku ?_
  case k1 => k_asm
  case k2 => k_asm
  case k3 => k_asm
  case k4 => k_asm
  case k5 => k_asm
  case kK => exact rfl
  case kd => first | decide | (decide +kernel) | ktr_room
  case ku => first | decide | (decide +kernel) | ktr_units
  intro r9 n9 h9 tk9 F9 N9 P9
  obtain ⟨R, re, ns, picks, rfl, rfl, hN, hG, hpl, hoffR⟩ := P9
  ((try dsimp only); (try k_fold); repeat' ((fail_if_success (with_reducible show wpAny _ _ (call _ _) _ _ _)); first | (k_unfold; (try dsimp only)) | (k_end; wrow_close) | walk1 | (dsimp only; walk1) | (leave1; walk_say "STEP leave1"; try dsimp only) | fail "no step"); all_goals (repeat (k_unfold; (try dsimp only))))
  refine led_len N9 (.tail _ (List.mem_append_right _ (.head _))) (by simp; (first | lia | omega)) ?_
  ((try dsimp only); (try k_fold); repeat' ((fail_if_success (with_reducible show wpAny _ _ (call _ _) _ _ _)); first | (k_unfold; (try dsimp only)) | (k_end; wrow_close) | walk1 | (dsimp only; walk1) | (leave1; walk_say "STEP leave1"; try dsimp only) | fail "no step"); all_goals (repeat (k_unfold; (try dsimp only))))
  rw [hz]
  refine' ctr_use (due_c _ ds _ hI _ _ _ (.tail _ (List.mem_append_right _ (.head _))) h2 h5 _) ?m1 ?m2 ?m3 ?m4 ?m5 ?mK ?md ?mu ?_
  case m1 => k_asm
  case m2 => k_asm
  case m3 => k_asm
  case m4 => k_asm
  case m5 => k_asm
  case mK => exact rfl
  case md => first | decide | (decide +kernel) | ktr_room
  case mu => first | decide | (decide +kernel) | ktr_units
  intro r8 n8 h8 tk8 F8 N8 P8
  obtain ⟨R2, re2, ns2, Sx, rfl, rfl, hN2, hP2, hM2⟩ := P8
  have hmt := merge_take (fLen ds) ds.length (by (first | lia | omega)) (fun k j => text_mono _ _) picks Sx (by (first | lia | omega)) hG hP2 (by rw [hpl]; exact hM2) (2 + ds.length) (by (first | lia | omega))
  rw [hmt, List.take_of_length_le (by (first | lia | omega))] at hN2
  ((try dsimp only); (try k_fold); repeat' ((fail_if_success (with_reducible show wpAny _ _ (compareOp _ _ _) _ _ _)); first | (k_unfold; (try dsimp only)) | (k_end; wrow_close) | walk1 | (dsimp only; walk1) | (leave1; walk_say "STEP leave1"; try dsimp only) | fail "no step"); all_goals (repeat (k_unfold; (try dsimp only))))
  refine eq_noted N8 (.tail _ (List.mem_append_right _ (.head _))) (.head _) ?e1 ?e2 (by rw [hN.1, hN2.1]) (noted_same hN hN2) ?u1 ?u2 ?_
  case e1 => exact fun z hz => .tail _ (List.mem_append_right _ (.tail _ (List.mem_append_left _ (List.mem_map_of_mem hz))))
  case e2 => exact fun z hz => .tail _ (List.mem_append_left _ (List.mem_map_of_mem hz))
  case u1 => first | decide | (decide +kernel) | ktr_units
  case u2 => first | decide | (decide +kernel) | ktr_units
  k_steps
  all_goals (try k_data))
