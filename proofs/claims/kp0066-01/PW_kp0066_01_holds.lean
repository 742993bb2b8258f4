import PyProof.Rows.All
import Wide.All
import OpenK.AllK
import Wide.FinOn
import PySem.Challenge.RW_kp0066_01
set_option Elab.async false

section
open PySem PySem.W PyProof.Rows
namespace Mine

/-- What stood outside W stands as it stood. -/
def Mod (W : List Addr) (h h' : Heap) : Prop := ∀ b o, b ∉ W → h.get? b = some o → h'.get? b = some o
theorem Mod.refl (W : List Addr) (h : Heap) : Mod W h h := fun _ _ _ e => e
theorem Mod.trans {W : List Addr} {h h' h'' : Heap} (x : Mod W h h') (y : Mod W h' h'') : Mod W h h'' := fun b o hb e => y b o hb (x b o hb e)
theorem Mod.wide {W W' : List Addr} {h h' : Heap} (x : Mod W h h') (s : ∀ a ∈ W, a ∈ W') : Mod W' h h' := fun b o hb e => x b o (fun m => hb (s b m)) e
theorem Mod.push (W : List Addr) (h : Heap) (o : Obj) : Mod W h (h.push o) := fun _ _ _ e => Heap.get?_push_of_some _ e
theorem Mod.same {a : Addr} {W : List Addr} {h h' : Heap} (x : Heap.SameBut a h h') (m : a ∈ W) : Mod W h h' := fun b o hb e => x.extBut b o (fun q => hb (q ▸ m)) e
theorem Mod.but {a : Addr} {W : List Addr} {h h' : Heap} (x : Heap.ExtBut a h h') (m : a ∈ W) : Mod W h h' := fun b o hb e => x b o (fun q => hb (q ▸ m)) e
/-- a change at an address that did not stand yet is no change -/
theorem Mod.fresh {a : Addr} {W : List Addr} {h₀ h h' : Heap} (x : Mod W h₀ h) (y : Heap.ExtBut a h h') (n : h₀.get? a = none) : Mod W h₀ h' :=
  fun b o hb e => y b o (fun q => by rw [q, n] at e; cases e) (x b o hb e)
theorem Mod.drop {I : List Addr} {W : List Addr} {h₀ h h' : Heap} (x : Mod W h₀ h) (y : Mod (I ++ W) h h') (n : ∀ a ∈ I, h₀.get? a = none) : Mod W h₀ h' :=
  fun b o hb e => y b o (fun q => (List.mem_append.mp q).elim (fun q => by rw [n b q] at e; cases e) hb) (x b o hb e)
theorem get_none (h : Heap) : h.get? h.objs.size = none := by
  cases e : h.get? h.objs.size with
  | none => rfl
  | some o => exact absurd (Heap.lt_size e) (Nat.lt_irrefl _)
theorem get_none_of_le {h : Heap} {a : Addr} (x : h.objs.size ≤ a) : h.get? a = none := by
  cases e : h.get? a with
  | none => rfl
  | some o => exact absurd (Heap.lt_size e) (Nat.not_lt.mpr x)
theorem ne_of_get {h : Heap} {a b : Addr} {o : Obj} (e : h.get? a = some o) (n : h.get? b = none) : a ≠ b := fun q => by rw [q, n] at e; cases e

def upd (m : Str → Option Value) (x : Str) (v : Value) : Str → Option Value := fun y => if y = x then some v else m y
theorem upd_same (m : Str → Option Value) (x : Str) (v : Value) : upd m x v x = some v := if_pos rfl
theorem upd_ne (m : Str → Option Value) {x y : Str} (v : Value) (h : y ≠ x) : upd m x v y = m y := if_neg h

section
variable {prog : Program} {w : World} {A : Around} {E : Value → Shared → Prop} {s : Shared} {env : Env}

def NotFresh (env : Env) : Prop := (env.scope.kind == .class || (env.scope.kind == .module && env.locals != env.globals)) = false

/-- The end of a turn: what the loop asks of the body. -/
def TurnEnd (L : Addr) (I : List Addr) (J : (Str → Option Value) → Heap → Prop) (s : Shared) (f : Flow) (s' : Shared) : Prop :=
  (f = .next ∨ f = .cont) ∧ ∃ h' tk' m', s' = { s with heap := h', toks := tk' } ∧ h'.Ns L m' ∧ J m' h' ∧ ∀ b ∈ I, ∀ o, s.heap.get? b = some o → h'.get? b = some o

theorem loop_range {a b : Int} {n : Nat} {r : Addr} {t u v : Tok} {x : Str} {px : Pos} {body : List Stmt} {m : Str → Option Value} {Q : Flow → Shared → Prop}
    (hh : A.handled = none) (hx : env.kindOf x = some .local) (hp : NotFresh env)
    (hr : IsRange s.heap r a b 1 t u v) (hsmall : Builtin.Range.small a b 1 = true) (hn : Builtin.Range.rangeSize a b 1 = (n : Int)) (hns : s.heap.Ns env.locals m)
    (J : Nat → (Str → Option Value) → Heap → Prop)
    (frame : ∀ k m h h', J k m h → Mod [env.locals, s.heap.objs.size] h h' → J k m h')
    (hx' : ∀ k m h v, J k m h → J k (upd m x v) h)
    (h0 : J 0 m s.heap)
    (turn : ∀ k t m h tk (E' : Value → Shared → Prop), k < n → J k m h → h.Ns env.locals m → m x = some (.int (a + (k : Int)) t) → (∃ o, h.get? s.heap.objs.size = some o) →
      wpAny (model prog w) A (execs body env) (TurnEnd env.locals [s.heap.objs.size] (J (k + 1)) { s with heap := h, toks := tk }) E' { s with heap := h, toks := tk })
    (done : ∀ h tk m, h.Ns env.locals m → J n m h → Q .next { s with heap := h, toks := tk }) :
    wpAny (model prog w) A (pyIter (.ref r)) (fun it s₂ => codeAny (model prog w) A (.forLoop (.Name x px) it body [] env) (fun r s' => match r with | .ok f => Q f s' | .error e => cameBackBy (model prog w) A env E e s') s₂) E s := by
  refine wpAny_pyIter_range hr hsmall ?_
  rw [hn]
  have hLI : env.locals ≠ s.heap.objs.size := Nat.ne_of_lt hns.lt
  refine codeAny_forLoop (fun j s' => ∃ h tk m k, s' = { s with heap := h, toks := tk } ∧ k ≤ n ∧ j = n - k ∧ IsRangeIter h s.heap.objs.size (a + (k : Int)) ((n : Int) - (k : Int)) 1 ∧ h.Ns env.locals m ∧ J k m h) ?_ n ?_
  · rintro j s' ⟨h, tk, m, k, rfl, hk, rfl, hit, hns', hJ⟩
    by_cases hlt : k < n
    · refine wpAny_pyNext_range_item hit (by omega) fun h₁ hit₁ hs₁ => ?_
      have hns₁ : h₁.Ns env.locals m := hns'.sameBut hs₁ hLI
      refine wpAny_assign_Name (wpAny_storeName_local hx hns₁ (fun h₂ hn₂ hs₂ => ?_) hp)
      have hs₂' : Heap.SameBut env.locals h₁ h₂ := hs₂
      have hM : Mod [env.locals, s.heap.objs.size] h h₂ := Mod.trans (Mod.same hs₁ (by simp)) (Mod.same hs₂' (by simp))
      have hI : IsRangeIter h₂ s.heap.objs.size (a + (k : Int) + 1) ((n : Int) - (k : Int) - 1) 1 := hs₂'.extBut _ _ (Ne.symm hLI) hit₁
      refine wpAny_mono (turn k tk (upd m x (.int (a + (k : Int)) tk)) h₂ (tk + 1 + 1) _ hlt (hx' _ _ _ _ (frame _ _ _ _ hJ hM)) hn₂ (upd_same _ _ _) ⟨_, hI⟩) (fun f s₃ hT => ?_) fun _ _ e => e
      obtain ⟨hf, h', tk', m', rfl, hn', hJ', hI'⟩ := hT
      have key : ∃ m_1, m_1 < n - k ∧ ∃ h tk m k_1, { s with heap := h', toks := tk' } = { s with heap := h, toks := tk } ∧ k_1 ≤ n ∧ m_1 = n - k_1 ∧ IsRangeIter h s.heap.objs.size (a + (k_1 : Int)) ((n : Int) - (k_1 : Int)) 1 ∧ h.Ns env.locals m ∧ J k_1 m h := by
        refine ⟨n - (k + 1), by omega, h', tk', m', k + 1, rfl, hlt, rfl, ?_, hn', hJ'⟩
        have e1 : a + ((k + 1 : Nat) : Int) = a + (k : Int) + 1 := by push_cast; omega
        have e2 : (n : Int) - ((k + 1 : Nat) : Int) = (n : Int) - (k : Int) - 1 := by push_cast; omega
        rw [e1, e2]
        exact hI' _ (List.mem_singleton.mpr rfl) _ hI
      rcases hf with rfl | rfl
      · exact key
      · exact key
    · obtain rfl : k = n := by omega
      refine wpAny_pyNext_range_end hh hit (by omega) fun h₁ he₁ => wpAny_execs_nil ?_
      have he₁' : Heap.ExtBut s.heap.objs.size h h₁ := he₁
      exact done h₁ tk m (hns'.extBut he₁' hLI) (frame _ _ _ _ hJ (Mod.but he₁' (by simp)))
  · refine ⟨_, _, m, 0, rfl, Nat.zero_le _, rfl, ?_, hns.push _, frame _ _ _ _ h0 (Mod.push _ _ _)⟩
    have e1 : a + ((0 : Nat) : Int) = a := by simp
    have e2 : (n : Int) - ((0 : Nat) : Int) = n := by simp
    rw [e1, e2]
    exact Heap.get?_push_size _ rfl

theorem loop_enum {e it l : Addr} {n : Nat} {xi xv : Str} {pi pv pt : Pos} {x1} {body : List Stmt} {m : Str → Option Value} {Q : Flow → Shared → Prop}
    (hh : A.handled = none) (hxi : env.kindOf xi = some .local) (hxv : env.kindOf xv = some .local) (hne : xi ≠ xv) (hp : NotFresh env)
    (hei : e ≠ it) (heL : e ≠ env.locals) (hiL : it ≠ env.locals) (hle : l ≠ e) (hli : l ≠ it) (hlL : l ≠ env.locals)
    (he : IsEnum s.heap e it 0 .none) (hit : s.heap.IsListIter it l 0) (hns : s.heap.Ns env.locals m)
    (J : Nat → (Str → Option Value) → Heap → Prop)
    (hl : ∀ k m h, J k m h → ∃ items, h.IsList l items ∧ items.size = n)
    (frame : ∀ k m h h', J k m h → Mod [env.locals, e, it] h h' → J k m h')
    (hx' : ∀ k m h v v', J k m h → J k (upd (upd m xi v) xv v') h)
    (h0 : J 0 m s.heap)
    (turn : ∀ k items v t m h tk (E' : Value → Shared → Prop), k < n → J k m h → h.IsList l items → items[k]? = some v → h.Ns env.locals m → m xi = some (.int (k : Int) t) → m xv = some v → (∀ c ∈ [e, it], ∃ o, h.get? c = some o) →
      wpAny (model prog w) A (execs body env) (TurnEnd env.locals [e, it] (J (k + 1)) { s with heap := h, toks := tk }) E' { s with heap := h, toks := tk })
    (done : ∀ h tk m, h.Ns env.locals m → J n m h → Q .next { s with heap := h, toks := tk }) :
    wpAny (model prog w) A (pyIter (.ref e)) (fun it s₂ => codeAny (model prog w) A (.forLoop (.Tuple [.Name xi pi, .Name xv pv] x1 pt) it body [] env) (fun r s' => match r with | .ok f => Q f s' | .error e => cameBackBy (model prog w) A env E e s') s₂) E s := by
  refine wpAny_pyIter_enum he ?_
  refine codeAny_forLoop_any (fun j s' => ∃ h tk m k old, s' = { s with heap := h, toks := tk } ∧ k ≤ n ∧ j = n - k ∧ IsEnum h e it (k : Int) old ∧ h.IsListIter it l k ∧ h.Ns env.locals m ∧ J k m h) ?_ n
    ⟨s.heap, s.toks, m, 0, .none, rfl, Nat.zero_le _, rfl, he, hit, hns, h0⟩
  rintro j s' ⟨h, tk, m, k, old, rfl, hk, rfl, he', hit', hns', hJ⟩
  obtain ⟨items, hl', hsz⟩ := hl _ _ _ hJ
  by_cases hlt : k < n
  · obtain ⟨v, hv⟩ : ∃ v, items[k]? = some v := ⟨items[k]'(by omega), by rw [Array.getElem?_eq_getElem]⟩
    have heH : e < h.objs.size := Heap.lt_size he'
    have hLH : env.locals < h.objs.size := hns'.lt
    obtain ⟨oi, hoi, _⟩ := id hit'
    obtain ⟨ol, hol, _⟩ := id hl'
    have hiH : it < h.objs.size := Heap.lt_size hoi
    refine wpAny_pyNext_enum_item he' hit' hl' hv hei fun h₁ heo hit₁ ht₁ hz₁ hk₁ => ?_
    refine wpAny_letOwnedTupleGo_enum heo fun h₂ he₂ hs₂ => ?_
    replace hs₂ : Heap.SameBut e h₁ h₂ := hs₂
    have ht₂ : h₂.IsTuple h.objs.size #[.int (k : Int) tk, v] := ⟨_, (hs₂.2 _ (Nat.ne_of_gt heH)).trans ht₁, rfl, _, rfl⟩
    have hz₂ : h₂.objs.size = h.objs.size + 1 := hs₂.1.trans hz₁
    refine wpAny_assign_Tuple hh ht₂ rfl rfl fun h₃ hx₃ => ?_
    replace hx₃ : Heap.ExtBut h₂.objs.size h₂ h₃ := hx₃
    have old₃ : ∀ b o, b < h.objs.size → h₂.get? b = some o → h₃.get? b = some o := fun b o hb x => hx₃ b o (by rw [hz₂]; exact Nat.ne_of_lt (Nat.lt_succ_of_lt hb)) x
    have hn₃ : h₃.Ns env.locals m := (hns'.at fun o x => hk₁ _ o (Ne.symm heL) (Ne.symm hiL) x).sameBut hs₂ (Ne.symm heL) |>.at fun o x => old₃ _ o hLH x
    show wpAny _ A (do holding [v] (assign (.Name xi pi) env (.int (k : Int) tk)); do holding [] (assign (.Name xv pv) env v); pure ()) _ _ _
    refine wpAny_bind (wpAny_holding (wpAny_assign_Name (wpAny_storeName_local hxi hn₃ (fun h₄ hn₄ hs₄ => ?_) hp)))
    replace hs₄ : Heap.SameBut env.locals h₃ h₄ := hs₄
    refine wpAny_bind (wpAny_holding (wpAny_assign_Name (wpAny_storeName_local hxv hn₄ (fun h₅ hn₅ hs₅ => wpAny_pure ?_) hp)))
    replace hs₅ : Heap.SameBut env.locals h₄ h₅ := hs₅
    have up : ∀ b o, b ≠ env.locals → b < h.objs.size → h₂.get? b = some o → h₅.get? b = some o := fun b o hbL hb x =>
      hs₅.extBut b o hbL (hs₄.extBut b o hbL (old₃ b o hb x))
    have hM : Mod [env.locals, e, it] h h₅ := fun b o hb x => by
      simp only [List.mem_cons, List.not_mem_nil, or_false, not_or] at hb
      exact up b o hb.1 (Heap.lt_size x) (hs₂.extBut b o hb.2.1 (hk₁ b o hb.2.1 hb.2.2 x))
    have hl₅ : h₅.IsList l items := hl'.at fun o x => hM l o (by simp [hle, hli, hlL]) x
    have he₅ : IsEnum h₅ e it ((k : Int) + 1) v := up e _ heL heH he₂
    have hit₅ : h₅.IsListIter it l (k + 1) := (hit₁.extBut hs₂.extBut (Ne.symm hei)).at fun o x => up it o hiL hiH x
    have hst₅ : ∀ c ∈ [e, it], ∃ o, h₅.get? c = some o := by
      intro c hc
      simp only [List.mem_cons, List.not_mem_nil, or_false] at hc
      rcases hc with rfl | rfl
      · exact ⟨_, he₅⟩
      · obtain ⟨o, e', _⟩ := id hit₅
        exact ⟨o, e'⟩
    refine wpAny_mono (turn k items v tk (upd (upd m xi (.int (k : Int) tk)) xv v) h₅ _ _ hlt (hx' _ _ _ _ _ (frame _ _ _ _ hJ hM)) hl₅ hv hn₅
      (by rw [upd_ne _ _ hne, upd_same]) (upd_same _ _ _) hst₅) (fun f s₃ hT => ?_) fun _ _ x => x
    obtain ⟨hf, h', tk', m', rfl, hn', hJ', hI'⟩ := hT
    have key : ∃ m_1, m_1 < n - k ∧ ∃ h tk m k_1 old, { s with heap := h', toks := tk' } = { s with heap := h, toks := tk } ∧ k_1 ≤ n ∧ m_1 = n - k_1 ∧ IsEnum h e it (k_1 : Int) old ∧ h.IsListIter it l k_1 ∧ h.Ns env.locals m ∧ J k_1 m h := by
      refine ⟨n - (k + 1), by omega, h', tk', m', k + 1, v, rfl, hlt, rfl, ?_, ?_, hn', hJ'⟩
      · have : ((k + 1 : Nat) : Int) = (k : Int) + 1 := by push_cast; rfl
        rw [this]
        exact hI' e (by simp) _ he₅
      · exact hit₅.at fun o x => hI' it (by simp) o x
    rcases hf with rfl | rfl
    · exact key
    · exact key
  · obtain rfl : k = n := by omega
    have hnone : items[k]? = none := by simp [hsz]
    refine wpAny_pyNext_enum_end hh he' hit' hl' hnone fun h₁ he₁ => wpAny_execs_nil ?_
    replace he₁ : Heap.ExtBut it h h₁ := he₁
    exact done h₁ tk m (hns'.extBut he₁ (Ne.symm hiL)) (frame _ _ _ _ hJ (Mod.but he₁ (by simp)))
end
end Mine
end

section
open PySem PySem.W PyProof.Rows PySem.SeqAt
set_option maxRecDepth 100000
namespace Mine
open Sem (wp)
open AutoSeq1 (wpAny_loadPart')

/-- the object NULL -/
abbrev IsNull (h : Heap) (O : Addr) : Prop := h.get? O = some { cls := .type "object" }
/-- a list of one int, at an address outside W -/
def Cell (W : List Addr) (h : Heap) (v : Value) (x : Int) : Prop := ∃ a t n, v = .ref a ∧ a ∉ W ∧ h.get? a = some { cls := .type "list", data := .seq #[.int x t] n }
theorem Cell.mod {W : List Addr} {h h' : Heap} {v : Value} {x : Int} (c : Cell W h v x) (m : Mod W h h') : Cell W h' v x := by
  obtain ⟨a, t, n, e, ha, g⟩ := c
  exact ⟨a, t, n, e, ha, m a _ ha g⟩
theorem Cell.keep {W W' : List Addr} {h h' : Heap} {v : Value} {x : Int} (c : Cell W h v x) (k : ∀ b o, h.get? b = some o → h'.get? b = some o) (n : ∀ a ∈ W', h.get? a = none) : Cell W' h' v x := by
  obtain ⟨a, t, n', e, ha, g⟩ := c
  exact ⟨a, t, n', e, fun q => (by rw [n a q] at g; cases g), k a _ g⟩
theorem Cell.reads {W : List Addr} {h : Heap} {v : Value} {x : Int} (c : Cell W h v x) : ∃ as, Reads h v (.list [.int x]) as := by
  obtain ⟨a, t, n, rfl, ha, g⟩ := c
  exact ⟨_, .list g rfl rfl (.cons (.int x t) .nil)⟩

theorem eqv_cell (x y : Int) : PyData.eqv (.list [.int x]) (.list [.int y]) = (x == y) := by
  simp [PyData.eqv, PyData.eqvAll]

section
variable {prog : Program} {w : World} {A : Around} {E : Value → Shared → Prop} {s : Shared}

theorem cell_eqAt {W : List Addr} {v u : Value} {x y : Int} (hu : A.units + 2 < cLine) (c : Cell W s.heap v x) (d : Cell W s.heap u y) : EqAt A s v u (x == y) := by
  obtain ⟨as, ra⟩ := c.reads
  obtain ⟨bs, rb⟩ := d.reads
  rw [← eqv_cell]
  refine eqAt_reads _ _ A s v u as bs ra rb rfl rfl ?_
  have : min (PyData.list [PyData.int x]).depth (PyData.list [PyData.int y]).depth ≤ 2 := by simp [PyData.depth, PyData.depthAll] <;> omega
  omega
theorem cell_eq {W : List Addr} {v u : Value} {x y : Int} {Q : Value → Shared → Prop} (hu : A.units + 2 < cLine) (c : Cell W s.heap v x) (d : Cell W s.heap u y) (h : Q (.bool (x == y)) s) :
    wpAny (model prog w) A (compareOp .Eq v u) Q E s := by
  obtain ⟨as, ra⟩ := c.reads
  obtain ⟨bs, rb⟩ := d.reads
  refine compareEq_reads ra rb rfl rfl ?_ (by rw [eqv_cell]; exact h)
  have : min (PyData.list [PyData.int x]).depth (PyData.list [PyData.int y]).depth ≤ 2 := by simp [PyData.depth, PyData.depthAll] <;> omega
  omega

theorem sub_list_object : isSubtype (.type "list") (.type "object") = pure true := by rw [isSubtype_type]; kernel_rfl
theorem sub_object_list : isSubtype (.type "object") (.type "list") = pure false := by rw [isSubtype_type]; kernel_rfl

theorem list_eq_declines_obj (l O : Addr) (items : Array Value) (n : Nat) (dd : Option Addr) (sl : Array (Option Value)) :
    Meets (Builtin.«list.__eq__» ⟨[.ref l, .ref O], []⟩) (fun _ R s => s.heap.get? l = some { cls := .type "list", dict := dd, data := .seq items n, slots := sl } ∧ IsNull s.heap O ∧ R (.ok (.ret .notImplemented)) s) :=
  .of_wp fun prog w A R s h => by
    obtain ⟨hp, g, d, tk, os⟩ := s; obtain ⟨hl, hO, h⟩ := h
    have f1 := sub_object_list
    wp_walk using wpAny_loadPart' hl, wpAny_loadPart' hO
    exact ⟨_, rfl, h⟩

theorem object_eq_declines (O l : Addr) (ol : Obj) :
    Meets (Builtin.«object.__eq__» ⟨[.ref O, .ref l], []⟩) (fun _ R s => IsNull s.heap O ∧ s.heap.get? l = some ol ∧ O ≠ l ∧ R (.ok (.ret .notImplemented)) s) :=
  .of_wp fun prog w A R s h => by
    obtain ⟨hO, hl, hne, h⟩ := h
    show wpAny _ _ (isSame (.ref O) (.ref l) >>= _) _ _ s
    refine wpAny_bind (wpAny_isSame_ref_other hne hO hl (by simp) ?_)
    exact wpAny_pure ⟨_, rfl, h⟩

theorem null_eq {O l : Addr} {items : Array Value} {n : Nat} {Q : Value → Shared → Prop} (hO : IsNull s.heap O) (hl : s.heap.get? l = some { cls := .type "list", data := .seq items n }) (hu : A.units < cLine) (h : Q (.bool false) s) :
    wpAny (model prog w) A (compareOp .Eq (.ref O) (.ref l)) Q E s := by
  have hne : O ≠ l := fun e => by have hO' : s.heap.get? O = some _ := hO; rw [e, hl] at hO'; exact absurd (congrArg Obj.cls (Option.some.inj hO')) (by intro q; exact absurd (Value.type.inj q) (by decide))
  have ha : s.TypeIs (.ref O) "object" := ⟨_, hO, rfl⟩
  have hb : s.TypeIs (.ref l) "list" := ⟨_, hl, rfl⟩
  have h1 := F.slot_object_eq
  have h2 := F.slot_list_eq_refl
  show wpAny _ _ (richCompare .Eq _ _) _ _ s
  rcases hi : cmpInfo CmpOp.Eq with ⟨sym, f, r⟩
  rw [hi] at h1 h2
  simp only [richCompare, hi, ha.oneThing_none]
  try with_reducible refine wpAny_holding ?_
  refine wpAny_bind (wpAny_cRoomFor_or (.inr hu) ?_)
  refine wpAny_bind (wpAny_typeOf ha (wpAny_bind (wpAny_typeOf hb ?_)))
  have hne' : (Value.type "object" != Value.type "list") = true := by decide
  simp only [hne', if_true]
  refine wpAny_bind (wpAny_of_eq sub_list_object ?_)
  simp only [if_true]
  refine wpAny_bind (m := tryCompare (.ref l) _ (.ref O)) (wpAny_tryCompare_declines hb h2 (call_meets h2 hb F.entry_list_eq (F.args_list_eq_2 _ _) (list_eq_declines_obj l O items n none #[]) ⟨hl, hO, rfl, ?_⟩))
  refine wpAny_bind (m := tryCompare (.ref O) _ (.ref l)) (wpAny_tryCompare_declines ha h1 (call_meets h1 ha F.entry_object_eq (F.args_object_eq_2 _ _) (object_eq_declines O l _) ⟨hO, hl, hne, rfl, ?_⟩))
  simp only [Bool.not_true, Bool.false_eq_true, if_false]
  exact wpAny_bind (wpAny_rule (wpAny_bind (wpAny_isSame_ref_other hne hO hl (by simp) (wpAny_pure h))))

theorem mro_object : mroOf (.type "object") = pure [.type "object"] := by rw [mroOf_type]; kernel_rfl
theorem called_object : TypeCalled "object" "object.__new__" "object.__init__" :=
  ⟨by decide +kernel, by decide +kernel, ⟨_, _, mro_object⟩, madeBy_type mro_object (by rw [typeLookup_type, builtinLookup_eq_fast]; kernel_rfl) (by decide +kernel), by decide +kernel, by rw [isSubtype_type]; kernel_rfl, F.slot_object_init⟩

theorem object_new_meets : Meets (Builtin.«object.__new__» ⟨[.type "object"], []⟩) (fun _ R s => R (.ok (.ret (.ref s.heap.objs.size))) { s with heap := s.heap.push { cls := .type "object" } }) :=
  .of_wp fun prog w A R s h => by
    obtain ⟨hp, g, d, tk, os⟩ := s
    have h1 := called_object.made
    wp_walk
    exact ⟨_, rfl, h⟩

theorem object_init_meets0 {self : Value} : Meets (Builtin.«object.__init__» ⟨[self], []⟩) (fun _ R s => R (.ok (.ret .none)) s) :=
  .of_wp fun prog w A R s h => wpAny_pure ⟨_, rfl, h⟩

theorem call_object {Q : Value → Shared → Prop} (h : ∀ h', IsNull h' s.heap.objs.size → (∀ b o, s.heap.get? b = some o → h'.get? b = some o) → Q (.ref s.heap.objs.size) { s with heap := h' }) :
    wpAny (model prog w) A (call (.type "object") []) Q E s := by
  refine callType_meets (Q₁ := fun obj s₁ => obj = .ref s.heap.objs.size ∧ s₁ = { s with heap := s.heap.push { cls := .type "object" } }) called_object (by kernel_rfl) (by kernel_rfl) (entryFor_of_tree (by kernel_rfl)) F.entry_object_init object_new_meets ⟨rfl, rfl⟩ ?_
  rintro obj s₁ ⟨rfl, rfl⟩
  have hn : IsNull (s.heap.push { cls := .type "object" }) s.heap.objs.size := Heap.get?_push_size _ rfl
  exact ⟨⟨_, hn, rfl⟩, F.args_object_init_1 _, _, object_init_meets0, rfl, h _ hn fun b o e => Heap.get?_push_of_some _ e⟩
end
end Mine
end

section
open PySem PySem.W PyProof.Rows PySem.SeqAt
set_option maxRecDepth 100000
namespace Mine

theorem Mod.absorb {W W' : List Addr} {h₀ h h' : Heap} (x : Mod W h₀ h) (y : Mod W' h h') (n : ∀ a ∈ W', a ∈ W ∨ h₀.get? a = none) : Mod W h₀ h' :=
  fun b o hb e => y b o (fun q => (n b q).elim hb fun z => by rw [z] at e; cases e) (x b o hb e)
theorem Mod.keep {W : List Addr} {h₀ h h' : Heap} (k : ∀ b o, h₀.get? b = some o → h.get? b = some o) (y : Mod W h h') (n : ∀ a ∈ W, h₀.get? a = none) : ∀ b o, h₀.get? b = some o → h'.get? b = some o :=
  fun b o e => y b o (fun q => by rw [n b q] at e; cases e) (k b o e)
theorem Mod.list {W : List Addr} {h h' : Heap} {S : Addr} {vs : Array Value} (y : Mod W h h') (l : h.IsList S vs) (n : S ∉ W) : h'.IsList S vs := l.at fun o e => y S o n e

/-! ## lists of which some places are blanked -/
def mask (D : Nat → Bool) (O : Addr) (us : List Value) : List Value := us.mapIdx fun p v => if D p then .ref O else v
theorem mask_length (D : Nat → Bool) (O : Addr) (us : List Value) : (mask D O us).length = us.length := by simp [mask]
theorem mask_get (D : Nat → Bool) (O : Addr) (us : List Value) (p : Nat) : (mask D O us)[p]? = us[p]?.map fun v => if D p then .ref O else v := by simp [mask]
theorem mask_set (D : Nat → Bool) (O : Addr) (us : List Value) (q : Nat) : (mask D O us).set q (.ref O) = mask (fun p => D p || p == q) O us := by
  apply List.ext_getElem?
  intro p
  rw [List.getElem?_set, mask_get, mask_get, mask_length]
  by_cases hp : q = p
  · subst hp
    by_cases hl : q < us.length
    · simp [hl]
    · simp [hl]
  · have : (p == q) = false := by simpa using fun e => hp e.symm
    simp [hp, this]
theorem mask_congr {D D' : Nat → Bool} {O : Addr} {us : List Value} (h : ∀ p, p < us.length → D p = D' p) : mask D O us = mask D' O us := by
  apply List.ext_getElem?
  intro p
  rw [mask_get, mask_get]
  by_cases hl : p < us.length
  · rw [h p hl]
  · simp [hl]
theorem mask_none (O : Addr) (us : List Value) : mask (fun _ => false) O us = us := by
  apply List.ext_getElem?
  intro p
  rw [mask_get]; simp

/-- blanked, too, where x stands before place n -/
def blk (D : Nat → Bool) (a : List Int) (x : Int) (n : Nat) (p : Nat) : Bool := D p || (a[p]? == some x && decide (p < n))
theorem blk_here {D : Nat → Bool} {a : List Int} {x : Int} {n : Nat} : blk D a x n n = D n := by simp [blk]
theorem blk_hit {D : Nat → Bool} {a : List Int} {x : Int} {n : Nat} (h : a[n]? = some x) (p : Nat) : (blk D a x n p || p == n) = blk D a x (n + 1) p := by
  unfold blk
  by_cases hp : p = n
  · subst hp; simp [h]
  · have e1 : (p == n) = false := by simpa using hp
    have e2 : decide (p < n + 1) = decide (p < n) := by rw [decide_eq_decide]; omega
    rw [e1, e2, Bool.or_false]
theorem blk_miss {D : Nat → Bool} {a : List Int} {x y : Int} {n : Nat} (h : a[n]? = some y) (hne : y ≠ x) (p : Nat) : blk D a x n p = blk D a x (n + 1) p := by
  unfold blk
  by_cases hp : p = n
  · subst hp; simp [h, hne]
  · have e2 : decide (p < n + 1) = decide (p < n) := by rw [decide_eq_decide]; omega
    rw [e2]
theorem blk_start {D : Nat → Bool} {a : List Int} {x : Int} {n : Nat} (h : ∀ p, p < n → D p = false → a[p]? ≠ some x) (p : Nat) : blk D a x n p = D p := by
  unfold blk
  by_cases hp : p < n
  · cases hD : D p with
    | true => rfl
    | false =>
      have := h p hp hD
      simp [this]
  · simp [hp]

/-- how often x stands from place i up to place n -/
def cntBetween (a : List Int) (x : Int) (i n : Nat) : Nat := ((a.take n).drop i).count x
theorem cnt_zero (a : List Int) (x : Int) (i : Nat) : cntBetween a x i i = 0 := by
  have : (a.take i).drop i = [] := List.drop_eq_nil_of_le (by simp [List.length_take]; omega)
  simp [cntBetween, this]
theorem cnt_step {a : List Int} {x y : Int} {i n : Nat} (hi : i ≤ n) (h : a[n]? = some y) : cntBetween a x i (n + 1) = cntBetween a x i n + if y = x then 1 else 0 := by
  have hn : n < a.length := (List.getElem?_eq_some_iff.mp h).1
  unfold cntBetween
  rw [List.take_add_one, h, List.drop_append_of_le_length (by rw [List.length_take]; omega)]
  simp [List.count_append, List.count_cons]
theorem cnt_all {a : List Int} {x : Int} {i n : Nat} (hn : a.length ≤ n) (h : x ∉ a.take i) : cntBetween a x i n = a.count x := by
  unfold cntBetween
  rw [List.take_of_length_le hn]
  have e : a.count x = (a.take i).count x + (a.drop i).count x := by rw [← List.count_append, List.take_append_drop]
  rw [e, List.count_eq_zero.mpr h, Nat.zero_add]

section
variable {prog : Program} {w : World} {A : Around} {E : Value → Shared → Prop} {s : Shared} {env : Env} {m : Str → Option Value} {h₀ : Heap}

theorem ev_name {x : Str} {p : Pos} {v : Value} {Q : Value → Shared → Prop} (hk : env.scope.kind = .function) (hl : env.kindOf x = some .local) (hns : s.heap.Ns env.locals m) (hv : m x = some v) (h : Q v s)
    (hd : (x == ("__debug__" : Str)) = false := by decide) : wpAny (model prog w) A (eval (.Name x p) env) Q E s := wpAny_Name (wpAny_loadName_local hk hl hns hv h) hd

/-- A name of the module or of the built-ins, at every state that keeps h₀. -/
def Glb (prog : Program) (w : World) (A : Around) (env : Env) (h₀ : Heap) (x : Str) (v : Value) : Prop :=
  ∀ (s : Shared) (p : Pos) (Q : Value → Shared → Prop) (E : Value → Shared → Prop), (∀ b o, h₀.get? b = some o → s.heap.get? b = some o) → Q v s → wpAny (model prog w) A (eval (.Name x p) env) Q E s

theorem cmp_slot {W : List Addr} {O : Addr} {d : Bool} {v u : Value} {x y : Int} {Q : Value → Shared → Prop} (hu : A.units + 2 < cLine) (hO : IsNull s.heap O) (c : Cell W s.heap v y) (c' : Cell W s.heap u x) (h : Q (.bool (!d && y == x)) s) :
    wpAny (model prog w) A (compareOp .Eq (if d then .ref O else v) u) Q E s := by
  cases d with
  | true =>
    obtain ⟨l, t, n, rfl, hl, g⟩ := c'
    exact null_eq hO g (by omega) h
  | false => exact cell_eq hu c c' (by simpa using h)

/-- The two statements «c += 1» and «xs[j] = NULL». -/
theorem blank_then {xs cn jn : Str} {p1 p2 p3 p4 p5 p6 p7 p8 : Pos} {k0 : Nat} {S O : Addr} {vs : List Value} {q : Nat} {c : Int} {tc tj : Tok} {Q : Flow → Shared → Prop}
    (hk : env.scope.kind = .function) (nf : NotFresh env) (lc : env.kindOf cn = some .local) (lx : env.kindOf xs = some .local) (lj : env.kindOf jn = some .local) (lN : env.kindOf ("NULL" : Str) = some .local)
    (hns : s.heap.Ns env.locals m) (mc : m cn = some (.int c tc)) (mx : m xs = some (.ref S)) (mj : m jn = some (.int (q : Int) tj)) (mN : m ("NULL" : Str) = some (.ref O))
    (ncx : xs ≠ cn) (ncj : jn ≠ cn) (ncN : ("NULL" : Str) ≠ cn) (dx : (xs == ("__debug__" : Str)) = false) (dj : (jn == ("__debug__" : Str)) = false)
    (hS : s.heap.IsList S vs.toArray) (hq : q < vs.length) (hq' : vs.length ≤ 64) (hSL : S ≠ env.locals)
    (h : ∀ h' tk' t', h'.Ns env.locals (upd m cn (.int (c + 1) t')) → h'.IsList S (vs.set q (.ref O)).toArray → Mod [env.locals, S] s.heap h' → Q .next { s with heap := h', toks := tk' }) :
    wpAny (model prog w) A (execs [.AugAssign (.Name cn p1) .Add (.Constant (.int 1) k0 p2) p3, .Assign [.Subscript (.Name xs p4) (.Name jn p5) p6] (.Name ("NULL" : Str) p7) p8] env) Q E s := by
  refine wpAny_execs_cons (wpAny_AugAssign_Name (wpAny_loadName_local hk lc hns mc (wpAny_Constant_int (AutoIntOps.iadd_0 ?_))))
  show wpAny _ _ (storeName env cn _) _ _ _
  refine wpAny_storeName_local lc hns (fun h₁ hn₁ hs₁ => ?_) nf
  have hS₁ : h₁.IsList S vs.toArray := hS.at fun o e => Heap.SameBut.extBut hs₁ S o hSL e
  refine wpAny_execs_cons (wpAny_Assign_Subscript (ev_name hk lN hn₁ (by show upd m cn _ _ = _; rw [upd_ne _ _ ncN]; exact mN) (ev_name hk lx hn₁ (by show upd m cn _ _ = _; rw [upd_ne _ _ ncx]; exact mx) (ev_name hk lj hn₁ (by show upd m cn _ _ = _; rw [upd_ne _ _ ncj]; exact mj) ?_ dj) dx)))
  refine wpAny_setItem_list hS₁ (by omega) (by omega) (by simp; omega) fun h₂ hl₂ hs₂ => wpAny_execs_nil ?_
  refine h h₂ _ _ (hn₁.sameBut hs₂ (Ne.symm hSL)) ?_ (Mod.trans (Mod.same hs₁ (by simp)) (Mod.same hs₂ (by simp)))
  simpa using hl₂
end
end Mine
end

section
open PySem PySem.W PyProof.Rows PySem.SeqAt
set_option maxRecDepth 100000
namespace Mine

theorem small_range {i n : Nat} (hn : n ≤ 64) (hi : i ≤ n) : Builtin.Range.small (i : Int) (n : Int) 1 = true := by
  refine small_one ?_ ?_ ?_ ?_ <;> omega
theorem size_range {i n : Nat} (hi : i ≤ n) : Builtin.Range.rangeSize (i : Int) (n : Int) 1 = ((n - i : Nat) : Int) := by
  rw [rangeSize_nat]; congr 1; omega

section
variable {prog : Program} {w : World} {A : Around} {E : Value → Shared → Prop} {s : Shared} {env : Env} {m : Str → Option Value} {h₀ : Heap}

/-- What an inner loop over places keeps: the list's blanks, the count, the other names, the rest of the heap. -/
structure Inner (L S O : Addr) (us : List Value) (a : List Int) (x : Int) (D : Nat → Bool) (i : Nat) (hs : Heap) (ms : Str → Option Value) (cn : Str) (own : List Str) (n : Nat) (m : Str → Option Value) (h : Heap) : Prop where
  list : h.IsList S (mask (blk D a x n) O us).toArray
  cnt : ∃ t, m cn = some (.int (cntBetween a x i n : Nat) t)
  names : ∀ y, y ∉ own → y ≠ cn → m y = ms y
  mod : Mod [L, S] hs h

theorem Inner.frame {L S O : Addr} {us : List Value} {a : List Int} {x : Int} {D : Nat → Bool} {i : Nat} {hs h h' : Heap} {ms m : Str → Option Value} {cn : Str} {own : List Str} {n : Nat} {W : List Addr}
    (J : Inner L S O us a x D i hs ms cn own n m h) (y : Mod W h h') (hW : ∀ b ∈ W, b = L ∨ hs.get? b = none) (hSL : S ≠ L) (hS : ∃ o, hs.get? S = some o) : Inner L S O us a x D i hs ms cn own n m h' :=
  ⟨Mod.list y J.list fun q => (hW S q).elim hSL fun z => (by obtain ⟨o, e⟩ := hS; rw [z] at e; cases e), J.cnt, J.names, J.mod.absorb y fun b q => (hW b q).elim (fun z => .inl (z ▸ List.mem_cons_self)) .inr⟩

theorem Inner.hit {L S O : Addr} {us : List Value} {a : List Int} {x : Int} {D : Nat → Bool} {i : Nat} {hs h h' : Heap} {ms m m' : Str → Option Value} {cn : Str} {own : List Str} {n : Nat} {t : Tok}
    (J : Inner L S O us a x D i hs ms cn own n m h) (hx : a[n]? = some x) (hin : i ≤ n) (hl : h'.IsList S ((mask (blk D a x n) O us).set n (.ref O)).toArray) (hc : m' = upd m cn (.int ((cntBetween a x i n : Nat) + 1) t)) (y : Mod [L, S] h h') :
    Inner L S O us a x D i hs ms cn own (n + 1) m' h' := by
  refine ⟨?_, ⟨t, ?_⟩, ?_, J.mod.trans y⟩
  · rw [mask_set, mask_congr (D' := blk D a x (n + 1)) fun p _ => blk_hit hx p] at hl
    exact hl
  · rw [hc, upd_same, cnt_step hin hx, if_pos rfl]; push_cast; rfl
  · intro z hz hzc
    rw [hc, upd_ne _ _ hzc]
    exact J.names z hz hzc

theorem Inner.miss {L S O : Addr} {us : List Value} {a : List Int} {x y : Int} {D : Nat → Bool} {i : Nat} {hs h : Heap} {ms m : Str → Option Value} {cn : Str} {own : List Str} {n : Nat}
    (J : Inner L S O us a x D i hs ms cn own n m h) (hy : a[n]? = some y) (hne : y ≠ x) (hin : i ≤ n) : Inner L S O us a x D i hs ms cn own (n + 1) m h := by
  refine ⟨?_, ?_, J.names, J.mod⟩
  · have := J.list
    rw [mask_congr (D' := blk D a x (n + 1)) fun p _ => blk_miss hy hne p] at this
    exact this
  · obtain ⟨t, e⟩ := J.cnt
    exact ⟨t, by rw [e, cnt_step hin hy, if_neg hne]; rfl⟩

theorem inner_range {xs cn nm : Str} {p1 p2 p3 p4 p5 p6 p7 p8 p9 p10 p11 p12 p13 p14 p15 p16 p17 p18 p19 p20 : Pos} {k0 : Nat} {S O : Addr} {us : List Value} {a : List Int} {x : Int} {D : Nat → Bool} {i : Nat} {u : Value} {ti tn tc : Tok} {Q : Flow → Shared → Prop}
    (hh : A.handled = none) (hun : A.units + 2 < cLine) (hk : env.scope.kind = .function) (nf : NotFresh env)
    (lc : env.kindOf cn = some .local) (lx : env.kindOf xs = some .local) (ln : env.kindOf nm = some .local) (li : env.kindOf ("i" : Str) = some .local) (lj : env.kindOf ("j" : Str) = some .local) (le : env.kindOf ("elem" : Str) = some .local) (lN : env.kindOf ("NULL" : Str) = some .local)
    (ncx : xs ≠ cn) (ncj : ("j" : Str) ≠ cn) (nce : ("elem" : Str) ≠ cn) (ncN : ("NULL" : Str) ≠ cn) (nxj : xs ≠ ("j" : Str)) (dx : (xs == ("__debug__" : Str)) = false) (dn : (nm == ("__debug__" : Str)) = false)
    (gr : Glb prog w A env h₀ "range" (.type "range")) (keep : ∀ b o, h₀.get? b = some o → s.heap.get? b = some o)
    (hns : s.heap.Ns env.locals m) (mi : m ("i" : Str) = some (.int (i : Int) ti)) (mn : m nm = some (.int (a.length : Int) tn)) (mx : m xs = some (.ref S)) (me : m ("elem" : Str) = some u) (mN : m ("NULL" : Str) = some (.ref O)) (mc : m cn = some (.int 0 tc))
    (hS : s.heap.IsList S (mask D O us).toArray) (hlen : us.length = a.length) (h64 : a.length ≤ 64) (hia : i ≤ a.length) (hSL : S ≠ env.locals) (hO : IsNull s.heap O) (hOS : O ∉ [env.locals, S])
    (cells : ∀ (p : Nat) v y, us[p]? = some v → a[p]? = some y → Cell [env.locals, S] s.heap v y) (cu : Cell [env.locals, S] s.heap u x)
    (hD : ∀ p, D p = true → a[p]? ≠ some x) (hi : x ∉ a.take i)
    (post : ∀ h' tk' m' t', h'.Ns env.locals m' → (∀ y, y ≠ ("j" : Str) → y ≠ cn → m' y = m y) → m' cn = some (.int (a.count x : Nat) t') → h'.IsList S (mask (fun p => D p || a[p]? == some x) O us).toArray → Mod [env.locals, S] s.heap h' → Q .next { s with heap := h', toks := tk' }) :
    wpAny (model prog w) A (exec (.For (.Name ("j" : Str) p1) (.Call (.Name ("range" : Str) p2) [.Name ("i" : Str) p3, .Name nm p4] [] p5)
      [.If (.Compare (.Subscript (.Name xs p6) (.Name ("j" : Str) p7) p8) [.Eq] [.Name ("elem" : Str) p9] p10) [.AugAssign (.Name cn p11) .Add (.Constant (.int 1) k0 p12) p13, .Assign [.Subscript (.Name xs p14) (.Name ("j" : Str) p15) p16] (.Name ("NULL" : Str) p17) p18] [] p19] [] p20) env) Q E s := by
  obtain ⟨oS, hoS, _⟩ := id hS
  refine wpAny_For (wpAny_Call_ofName (gr s _ _ _ keep ?_))
  show wpAny _ A (callWith p5 (.type "range") [] (backTo p5 (starEach [.Name ("i" : Str) p3, .Name nm p4] env)) []) _ E s
  refine Pv.callWith_type1 ?_
  refine Calls.spliced_cons (ev_name hk li hns mi ?_)
  refine Calls.spliced_cons (ev_name hk ln hns mn ?_ dn)
  refine Calls.spliced_nil ?_
  refine call_range_2 ?_
  have up : ∀ b o, s.heap.get? b = some o → (s.heap.push { cls := .type "range", data := .fields #[.int (i : Int) ti, .int (a.length : Int) tn, .int 1 s.toks] }).get? b = some o := fun b o e => Heap.get?_push_of_some _ e
  have hrange := IsRange.new s.heap (i : Int) (a.length : Int) 1 ti tn s.toks
  have hsz : (s.heap.push { cls := .type "range", data := .fields #[.int (i : Int) ti, .int (a.length : Int) tn, .int 1 s.toks] }).objs.size = s.heap.objs.size + 1 := Heap.size_push ..
  generalize s.heap.push { cls := .type "range", data := .fields #[.int (i : Int) ti, .int (a.length : Int) tn, .int 1 s.toks] } = hr at up hrange hsz ⊢
  have hI : s.heap.get? hr.objs.size = none := get_none_of_le (by rw [hsz]; exact Nat.le_succ _)
  have hL : ∃ o, s.heap.get? env.locals = some o := by obtain ⟨o, _, _, e, _⟩ := hns; exact ⟨o, e⟩
  refine loop_range (n := a.length - i) (m := m) hh lj nf hrange (small_range h64 hia) (size_range hia) (hns.at fun o e => up _ _ e)
    (fun k m' h => Inner env.locals S O us a x D i s.heap m cn ["j"] (i + k) m' h) ?_ ?_ ?_ ?_ ?_
  · intro k m' h h' J y
    refine J.frame y (fun b hb => ?_) hSL ⟨_, hoS⟩
    simp only [List.mem_cons, List.not_mem_nil, or_false] at hb
    rcases hb with rfl | rfl
    · exact .inl rfl
    · exact .inr hI
  · intro k m' h v J
    refine ⟨J.list, ?_, fun y hy hc => ?_, J.mod⟩
    · rw [upd_ne _ _ (Ne.symm ncj)]; exact J.cnt
    · rw [upd_ne _ _ (by simpa using hy)]; exact J.names y hy hc
  · refine ⟨?_, ⟨tc, ?_⟩, fun _ _ _ => rfl, fun b o _ e => up b o e⟩
    · rw [mask_congr (D' := D) fun p _ => ?_]
      · exact hS.at fun o e => up _ _ e
      · refine blk_start (fun p hp _ e => hi ?_) p
        rw [List.mem_take_iff_getElem]
        obtain ⟨h1, h2⟩ := List.getElem?_eq_some_iff.mp e
        exact ⟨p, by omega, h2⟩
    · rw [Nat.add_zero, cnt_zero]; exact mc
  · intro k t m' h tk E' hlt J hn' mj _
    have hq : i + k < a.length := by omega
    have hqu : i + k < us.length := by omega
    obtain ⟨y, hy⟩ : ∃ y, a[i + k]? = some y := ⟨a[i + k], List.getElem?_eq_getElem hq⟩
    obtain ⟨v, hv⟩ : ∃ v, us[i + k]? = some v := ⟨us[i + k], List.getElem?_eq_getElem hqu⟩
    have e1 : ((i : Int) + (k : Int)) = ((i + k : Nat) : Int) := by push_cast; rfl
    rw [e1] at mj
    have mx' : m' xs = some (.ref S) := (J.names xs (by simpa using nxj) ncx).trans mx
    have me' : m' ("elem" : Str) = some u := (J.names _ (by decide) nce).trans me
    have mN' : m' ("NULL" : Str) = some (.ref O) := (J.names _ (by decide) ncN).trans mN
    have hO' : IsNull h O := J.mod O _ hOS hO
    have hitem : ((mask (blk D a x (i + k)) O us).toArray)[((i + k : Nat) : Int).toNat]? = some (if D (i + k) then .ref O else v) := by
      simp only [Int.toNat_natCast, List.getElem?_toArray, mask_get, hv, Option.map_some, blk_here]
    refine wpAny_execs_cons (wpAny_If (wpAny_isTrue_Compare1 (wpAny_Subscript_Name (T := "list") slot_list_getitem.lookup (ev_name hk lx hn' mx' (ev_name hk lj hn' mj ⟨J.list.typeIs, wpAny_getItem_list J.list (by omega) (by omega) hitem ?_⟩) dx))))
    refine ev_name hk le hn' me' ?_
    refine cmp_slot hun hO' ((cells _ _ _ hv hy).mod J.mod) (cu.mod J.mod) (wpAny_truthy_bool ?_)
    obtain ⟨tc', hc'⟩ := J.cnt
    by_cases hyx : y = x
    · subst hyx
      have hDf : D (i + k) = false := by
        cases hDv : D (i + k) with
        | false => rfl
        | true => exact absurd hy (hD _ hDv)
      rw [hDf]
      simp only [Bool.not_false, beq_self_eq_true, Bool.and_self, if_true]
      refine blank_then hk nf lc lx lj lN hn' hc' mx' mj mN' ncx ncj ncN dx (by decide) J.list (by rw [mask_length]; exact hqu) (by rw [mask_length]; omega) hSL fun h' tk' t' hn'' hl' y => wpAny_execs_nil ?_
      refine ⟨.inl rfl, h', tk', _, rfl, hn'', ?_, fun b hb o e => y b o ?_ e⟩
      · rw [show i + (k + 1) = i + k + 1 by omega]
        exact J.hit hy (by omega) hl' rfl y
      · rw [List.mem_singleton.mp hb]
        intro hm
        simp only [List.mem_cons, List.not_mem_nil, or_false] at hm
        rcases hm with hm | hm
        · obtain ⟨o, e⟩ := hL; rw [← hm, hI] at e; cases e
        · rw [← hm, hI] at hoS; cases hoS
    · have hb : (!D (i + k) && y == x) = false := by simp [hyx]
      rw [hb]
      simp only [Bool.false_eq_true, if_false]
      refine wpAny_execs_nil (wpAny_execs_nil ?_)
      refine ⟨.inl rfl, h, tk, m', rfl, hn', ?_, fun _ _ _ e => e⟩
      rw [show i + (k + 1) = i + k + 1 by omega]
      exact J.miss hy hyx (by omega)
  · intro h tk m' hn' J
    have e1 : i + (a.length - i) = a.length := by omega
    rw [e1] at J
    obtain ⟨t', hc⟩ := J.cnt
    refine post h tk m' t' hn' (fun y hy hyc => J.names y (by simpa using hy) hyc) (by rw [hc, cnt_all (Nat.le_refl _) hi]) ?_ J.mod
    have hl := J.list
    rw [mask_congr (D' := fun p => D p || a[p]? == some x) fun p hp => ?_] at hl
    · exact hl
    · unfold blk
      have : decide (p < a.length) = true := by simpa using by omega
      rw [this, Bool.and_true]
end
end Mine
end

section
open PySem PySem.W PyProof.Rows PySem.SeqAt
set_option maxRecDepth 100000
namespace Mine

theorem isList_unique {h : Heap} {S : Addr} {vs ws : Array Value} (x : h.IsList S vs) (y : h.IsList S ws) : vs = ws := by
  obtain ⟨o, e, _, n, d⟩ := x
  obtain ⟨o', e', _, n', d'⟩ := y
  rw [e] at e'; cases e'
  rw [d] at d'; cases d'; rfl

section
variable {prog : Program} {w : World} {A : Around} {E : Value → Shared → Prop} {s : Shared} {env : Env} {m : Str → Option Value} {h₀ : Heap}

theorem ev_enumerate {nm : Str} {p2 p3 p5 : Pos} {S : Addr} {items : Array Value} {Q : Value → Shared → Prop}
    (hk : env.scope.kind = .function) (ln : env.kindOf nm = some .local) (dn : (nm == ("__debug__" : Str)) = false)
    (gr : Glb prog w A env h₀ "enumerate" (.type "enumerate")) (keep : ∀ b o, h₀.get? b = some o → s.heap.get? b = some o)
    (hns : s.heap.Ns env.locals m) (mn : m nm = some (.ref S)) (hS : s.heap.IsList S items)
    (h : ∀ h', IsEnum h' (s.heap.objs.size + 1) s.heap.objs.size 0 .none → h'.IsListIter s.heap.objs.size S 0 → (∀ b o, s.heap.get? b = some o → h'.get? b = some o) → Q (.ref (s.heap.objs.size + 1)) { s with heap := h' }) :
    wpAny (model prog w) A (eval (.Call (.Name ("enumerate" : Str) p2) [.Name nm p3] [] p5) env) Q E s := by
  refine wpAny_Call_ofName (gr s _ _ _ keep ?_)
  show wpAny _ A (callWith p5 (.type "enumerate") [] (backTo p5 (starEach [.Name nm p3] env)) []) _ E s
  refine Pv.callWith_type1 ?_
  refine Calls.spliced_cons (ev_name hk ln hns mn ?_ dn)
  refine Calls.spliced_nil ?_
  exact call_enumerate_list hS fun h' a b _ c => h h' a b c

theorem inner_enum {xs cn : Str} {p1 p1' p1'' p2 p3 p5 p6 p9 p10 p11 p12 p13 p14 p15 p16 p17 p18 p19 p20 : Pos} {x1 k0 : Nat} {S O : Addr} {us : List Value} {a : List Int} {x : Int} {D : Nat → Bool} {u : Value} {tc : Tok} {Q : Flow → Shared → Prop}
    (hh : A.handled = none) (hun : A.units + 2 < cLine) (hk : env.scope.kind = .function) (nf : NotFresh env)
    (lc : env.kindOf cn = some .local) (lx : env.kindOf xs = some .local) (lo : env.kindOf ("other_elem" : Str) = some .local) (lj : env.kindOf ("j" : Str) = some .local) (le : env.kindOf ("elem" : Str) = some .local) (lN : env.kindOf ("NULL" : Str) = some .local)
    (ncx : xs ≠ cn) (ncj : ("j" : Str) ≠ cn) (nce : ("elem" : Str) ≠ cn) (ncN : ("NULL" : Str) ≠ cn) (nco : ("other_elem" : Str) ≠ cn) (nxj : xs ≠ ("j" : Str)) (nxo : xs ≠ ("other_elem" : Str)) (dx : (xs == ("__debug__" : Str)) = false)
    (gr : Glb prog w A env h₀ "enumerate" (.type "enumerate")) (keep : ∀ b o, h₀.get? b = some o → s.heap.get? b = some o)
    (hns : s.heap.Ns env.locals m) (mx : m xs = some (.ref S)) (me : m ("elem" : Str) = some u) (mN : m ("NULL" : Str) = some (.ref O)) (mc : m cn = some (.int 0 tc))
    (hS : s.heap.IsList S (mask D O us).toArray) (hlen : us.length = a.length) (h64 : a.length ≤ 64) (hSL : S ≠ env.locals) (hO : IsNull s.heap O) (hOS : O ∉ [env.locals, S])
    (cells : ∀ (p : Nat) v y, us[p]? = some v → a[p]? = some y → Cell [env.locals, S] s.heap v y) (cu : Cell [env.locals, S] s.heap u x)
    (hD : ∀ p, D p = true → a[p]? ≠ some x)
    (post : ∀ h' tk' m' t', h'.Ns env.locals m' → (∀ y, y ∉ [("j" : Str), "other_elem"] → y ≠ cn → m' y = m y) → m' cn = some (.int (a.count x : Nat) t') → h'.IsList S (mask (fun p => D p || a[p]? == some x) O us).toArray → Mod [env.locals, S] s.heap h' → Q .next { s with heap := h', toks := tk' }) :
    wpAny (model prog w) A (exec (.For (.Tuple [.Name ("j" : Str) p1, .Name ("other_elem" : Str) p1'] x1 p1'') (.Call (.Name ("enumerate" : Str) p2) [.Name xs p3] [] p5)
      [.If (.Compare (.Name ("other_elem" : Str) p6) [.Eq] [.Name ("elem" : Str) p9] p10) [.AugAssign (.Name cn p11) .Add (.Constant (.int 1) k0 p12) p13, .Assign [.Subscript (.Name xs p14) (.Name ("j" : Str) p15) p16] (.Name ("NULL" : Str) p17) p18] [] p19] [] p20) env) Q E s := by
  obtain ⟨oS, hoS, _⟩ := id hS
  refine wpAny_For (ev_enumerate hk lx dx gr keep hns mx hS fun hr he hit up => ?_)
  have hI : s.heap.get? s.heap.objs.size = none := get_none _
  have hI' : s.heap.get? (s.heap.objs.size + 1) = none := get_none_of_le (Nat.le_succ _)
  obtain ⟨oL, hL⟩ : ∃ o, s.heap.get? env.locals = some o := by obtain ⟨o, _, _, e, _⟩ := hns; exact ⟨o, e⟩
  refine loop_enum (n := a.length) (l := S) (m := m) hh lj lo (by decide) nf (Nat.succ_ne_self _) (Ne.symm (ne_of_get hL hI')) (Ne.symm (ne_of_get hL hI)) (ne_of_get hoS hI') (ne_of_get hoS hI) hSL he hit (hns.at fun o e => up _ _ e)
    (fun k m' h => Inner env.locals S O us a x D 0 s.heap m cn ["j", "other_elem"] k m' h) ?_ ?_ ?_ ?_ ?_ ?_
  · intro k m' h J
    exact ⟨_, J.list, by simp [mask_length, hlen]⟩
  · intro k m' h h' J y
    refine J.frame y (fun b hb => ?_) hSL ⟨_, hoS⟩
    simp only [List.mem_cons, List.not_mem_nil, or_false] at hb
    rcases hb with rfl | rfl | rfl
    · exact .inl rfl
    · exact .inr hI'
    · exact .inr hI
  · intro k m' h v v' J
    refine ⟨J.list, ?_, fun y hy hc => ?_, J.mod⟩
    · rw [upd_ne _ _ (Ne.symm nco), upd_ne _ _ (Ne.symm ncj)]; exact J.cnt
    · simp only [List.mem_cons, List.not_mem_nil, or_false, not_or] at hy
      rw [upd_ne _ _ hy.2, upd_ne _ _ hy.1]; exact J.names y (by simp [hy]) hc
  · refine ⟨?_, ⟨tc, ?_⟩, fun _ _ _ => rfl, fun b o _ e => up b o e⟩
    · rw [mask_congr (D' := D) fun p _ => ?_]
      · exact hS.at fun o e => up _ _ e
      · exact blk_start (fun p hp => absurd hp (Nat.not_lt_zero _)) p
    · rw [cnt_zero]; exact mc
  · intro k items v₀ t m' h tk E' hq J hl hv₀ hn' mj mo _
    have hqu : k < us.length := by omega
    obtain ⟨y, hy⟩ : ∃ y, a[k]? = some y := ⟨a[k], List.getElem?_eq_getElem hq⟩
    obtain ⟨v, hv⟩ : ∃ v, us[k]? = some v := ⟨us[k], List.getElem?_eq_getElem hqu⟩
    have mx' : m' xs = some (.ref S) := (J.names xs (by simp [nxj, nxo]) ncx).trans mx
    have me' : m' ("elem" : Str) = some u := (J.names _ (by decide) nce).trans me
    have mN' : m' ("NULL" : Str) = some (.ref O) := (J.names _ (by decide) ncN).trans mN
    have hO' : IsNull h O := J.mod O _ hOS hO
    have hitem : ((mask (blk D a x k) O us).toArray)[k]? = some (if D k then .ref O else v) := by
      simp only [List.getElem?_toArray, mask_get, hv, Option.map_some, blk_here]
    rw [isList_unique hl J.list, hitem] at hv₀
    cases hv₀
    refine wpAny_execs_cons (wpAny_If (wpAny_isTrue_Compare1 (ev_name hk lo hn' mo (ev_name hk le hn' me' ?_))))
    refine cmp_slot hun hO' ((cells _ _ _ hv hy).mod J.mod) (cu.mod J.mod) (wpAny_truthy_bool ?_)
    obtain ⟨tc', hc'⟩ := J.cnt
    by_cases hyx : y = x
    · subst hyx
      have hDf : D k = false := by
        cases hDv : D k with
        | false => rfl
        | true => exact absurd hy (hD _ hDv)
      rw [hDf]
      simp only [Bool.not_false, beq_self_eq_true, Bool.and_self, if_true]
      refine blank_then hk nf lc lx lj lN hn' hc' mx' mj mN' ncx ncj ncN dx (by decide) J.list (by rw [mask_length]; exact hqu) (by rw [mask_length]; omega) hSL fun h' tk' t' hn'' hl' y => wpAny_execs_nil ?_
      refine ⟨.inl rfl, h', tk', _, rfl, hn'', J.hit hy (Nat.zero_le _) hl' rfl y, fun b hb o e => y b o ?_ e⟩
      intro hm
      simp only [List.mem_cons, List.not_mem_nil, or_false] at hm hb
      have hbn : s.heap.get? b = none := hb.elim (fun z => z ▸ hI') fun z => z ▸ hI
      rcases hm with hm | hm
      · rw [hm, hL] at hbn; cases hbn
      · rw [hm, hoS] at hbn; cases hbn
    · have hb : (!D k && y == x) = false := by simp [hyx]
      rw [hb]
      simp only [Bool.false_eq_true, if_false]
      exact wpAny_execs_nil (wpAny_execs_nil ⟨.inl rfl, h, tk, m', rfl, hn', J.miss hy hyx (Nat.zero_le _), fun _ _ _ e => e⟩)
  · intro h tk m' hn' J
    obtain ⟨t', hc⟩ := J.cnt
    refine post h tk m' t' hn' (fun y hy hyc => J.names y hy hyc) (by rw [hc, cnt_all (Nat.le_refl _) (by simp)]) ?_ J.mod
    have hl := J.list
    rw [mask_congr (D' := fun p => D p || a[p]? == some x) fun p hp => ?_] at hl
    · exact hl
    · unfold blk
      have : decide (p < a.length) = true := by simpa using by omega
      rw [this, Bool.and_true]
end
end Mine
end

section
open PySem PySem.W PyProof.Rows PySem.SeqAt
set_option maxRecDepth 100000
namespace Mine

theorem Cell.wide {W W' : List Addr} {h : Heap} {v : Value} {x : Int} (c : Cell W h v x) (n : ∀ b ∈ W', b ∈ W ∨ h.get? b = none) : Cell W' h v x := by
  obtain ⟨a, t, n', e, ha, g⟩ := c
  exact ⟨a, t, n', e, fun q => (n a q).elim ha fun z => (by rw [z] at g; cases g), g⟩
theorem Cell.less {W W' : List Addr} {h : Heap} {v : Value} {x : Int} (c : Cell W h v x) (n : ∀ b ∈ W', b ∈ W) : Cell W' h v x := c.wide fun b q => .inl (n b q)

/-- an object of the class at C, made of two counts and a cell -/
def Mis (C : Addr) (W : List Addr) (h : Heap) (v : Value) (x : Int × Int × Int) : Prop :=
  ∃ p d n t1 t2 u, v = .ref p ∧ p ∉ W ∧ h.get? p = some { cls := .ref C, dict := d, data := .seq #[.int x.1 t1, .int x.2.1 t2, u] n } ∧ Cell W h u x.2.2
theorem Mis.mod {C : Addr} {W : List Addr} {h h' : Heap} {v : Value} {x : Int × Int × Int} (c : Mis C W h v x) (m : Mod W h h') : Mis C W h' v x := by
  obtain ⟨p, d, n, t1, t2, u, e, hp, g, cu⟩ := c
  exact ⟨p, d, n, t1, t2, u, e, hp, m p _ hp g, cu.mod m⟩

/-- whether what stands at place p of a is among what pre holds -/
def seen (a pre : List Int) (p : Nat) : Bool := match a[p]? with | some y => pre.contains y | none => false
theorem seen_some {a pre : List Int} {p : Nat} {y : Int} (h : a[p]? = some y) : seen a pre p = pre.contains y := by simp [seen, h]
theorem seen_not {a pre : List Int} {p : Nat} {x : Int} (hx : x ∉ pre) (h : seen a pre p = true) : a[p]? ≠ some x := fun e => by
  rw [seen_some e] at h
  exact hx (by simpa using h)
theorem seen_next {a pre : List Int} {x : Int} (p : Nat) : (seen a pre p || a[p]? == some x) = seen a (pre ++ [x]) p := by
  unfold seen
  cases h : a[p]? with
  | none => rfl
  | some y => by_cases hy : y = x <;> simp [hy]
theorem seen_same {a pre : List Int} {x : Int} (hx : x ∈ pre) (p : Nat) : seen a pre p = seen a (pre ++ [x]) p := by
  unfold seen
  cases h : a[p]? with
  | none => rfl
  | some y =>
    by_cases hy : y = x
    · subst hy; simp [hx]
    · simp [hy]
theorem seen_nil (a : List Int) (p : Nat) : seen a [] p = false := by
  unfold seen
  cases a[p]? <;> rfl
theorem take_next {a : List Int} {k : Nat} {x : Int} (h : a[k]? = some x) : a.take (k + 1) = a.take k ++ [x] := by rw [List.take_add_one, h]; rfl

/-- what is due of a's items, up to place k -/
def due1 (a b : List Int) : Nat → List (Int × Int × Int)
  | 0 => []
  | k + 1 => due1 a b k ++ (match a[k]? with | some x => if x ∈ a.take k then [] else if a.count x = b.count x then [] else [((a.count x : Nat), (b.count x : Nat), x)] | none => [])
theorem due1_seen {a b : List Int} {k : Nat} {x : Int} (h : a[k]? = some x) (hx : x ∈ a.take k) : due1 a b (k + 1) = due1 a b k := by simp [due1, h, hx]
theorem due1_same {a b : List Int} {k : Nat} {x : Int} (h : a[k]? = some x) (hx : x ∉ a.take k) (he : a.count x = b.count x) : due1 a b (k + 1) = due1 a b k := by simp only [due1, h, if_neg hx, if_pos he, List.append_nil]
theorem due1_new {a b : List Int} {k : Nat} {x : Int} (h : a[k]? = some x) (hx : x ∉ a.take k) (he : a.count x ≠ b.count x) : due1 a b (k + 1) = due1 a b k ++ [(((a.count x : Nat) : Int), ((b.count x : Nat) : Int), x)] := by simp only [due1, h, if_neg hx, if_neg he]
theorem due1_length (a b : List Int) (k : Nat) : (due1 a b k).length ≤ k := by
  induction k with
  | zero => exact Nat.le_refl _
  | succ k ih =>
    simp only [due1, List.length_append]
    split <;> (repeat' split) <;> simp <;> omega

section
variable {prog : Program} {w : World} {A : Around} {E : Value → Shared → Prop} {s : Shared} {env : Env} {m : Str → Option Value} {h₀ : Heap}

/-- The class at C called with two ints and a value, from the frame of env, at every state that keeps h₀. -/
def MisCall (prog : Program) (w : World) (A : Around) (L : Addr) (h₀ : Heap) (s₀ : Shared) (C : Addr) : Prop :=
  ∀ (h : Heap) (tk : Nat) (m : Str → Option Value) (c d : Int) (tc td : Tok) (u : Value) (Q : Value → Shared → Prop) (E : Value → Shared → Prop), (∀ b o, h₀.get? b = some o → h.get? b = some o) → h.Ns L m → (∃ a, u = .ref a) →
    (∀ p h' tk' dd n, h.get? p = none → (∀ b o, h.get? b = some o → h'.get? b = some o) → h'.get? p = some { cls := .ref C, dict := dd, data := .seq #[.int c tc, .int d td, u] n } → Q (.ref p) { s₀ with heap := h', toks := tk' }) →
    wpAny (model prog w) A (call (.ref C) [.int c tc, .int d td, u]) Q E { s₀ with heap := h, toks := tk }
/-- The arguments of a call of the class at C are evaluated, then it is called. -/
def MisWith (prog : Program) (w : World) (A : Around) (env : Env) (h₀ : Heap) (C : Addr) : Prop :=
  ∀ (s : Shared) (p : Pos) (e : Expr) (rest : List Expr) (Q : Value → Shared → Prop) (E : Value → Shared → Prop), starEach (e :: rest) env = (false, eval e env) :: starEach rest env → (backTo p (starEach rest env)).any (·.1) = false →
    wpAny (model prog w) A (spliced (backTo p (starEach (e :: rest) env))) (fun vs s₁ => (∀ b o, h₀.get? b = some o → s₁.heap.get? b = some o) ∧ wpAny (model prog w) A (call (.ref C) vs) Q E s₁) E s →
    wpAny (model prog w) A (callWith p (.ref C) [] (backTo p (starEach (e :: rest) env)) []) Q E s

/-- What stays as it is all along in the callee. -/
structure Callee (prog : Program) (w : World) (A : Around) (env : Env) (h₀ : Heap) (s₀ : Shared) (C : Addr) : Prop where
  hh : A.handled = none
  un : A.units + 2 < cLine
  kind : env.scope.kind = .function
  nf : NotFresh env
  quiet : interactive env = false
  loc : ∀ x ∈ ([("actual" : Str), "expected", "s", "t", "m", "n", "NULL", "result", "i", "elem", "cnt_s", "cnt_t", "j", "other_elem", "diff"] : List Str), env.kindOf x = some .local
  range : Glb prog w A env h₀ "range" (.type "range")
  enum : Glb prog w A env h₀ "enumerate" (.type "enumerate")
  list : Glb prog w A env h₀ "list" (.type "list")
  len : Glb prog w A env h₀ "len" (.builtin "len")
  object : Glb prog w A env h₀ "object" (.type "object")
  mis : Glb prog w A env h₀ "_Mismatch" (.ref C)
  call : MisCall prog w A env.locals h₀ s₀ C
  callW : MisWith prog w A env h₀ C

/-- «diff = _Mismatch(.., cnt_t, elem)» and «result.append(diff)» -/
theorem add_diff {C R : Addr} {s₀ : Shared} (X : Callee prog w A env h₀ s₀ C) {h : Heap} {tk : Nat} {e1 : Expr} {p1 p2 p3 p4 p5 p6 p7 p8 p9 p10 p11 : Pos} {c d : Int} {td : Tok} {u : Value} {rs : List Value} {Q : Flow → Shared → Prop}
    (keep : ∀ b o, h₀.get? b = some o → h.get? b = some o) (hns : h.Ns env.locals m)
    (he : starEach [e1, .Name ("cnt_t" : Str) p2, .Name ("elem" : Str) p3] env = (false, eval e1 env) :: starEach [.Name ("cnt_t" : Str) p2, .Name ("elem" : Str) p3] env)
    (h1 : ∀ (Q' : Value → Shared → Prop), (∀ tc tk', Q' (.int c tc) { s₀ with heap := h, toks := tk' }) → wpAny (model prog w) A (eval e1 env) Q' E { s₀ with heap := h, toks := tk })
    (mt : m ("cnt_t" : Str) = some (.int d td)) (me : m ("elem" : Str) = some u) (mr : m ("result" : Str) = some (.ref R)) (hu : ∃ a, u = .ref a)
    (hR : PlainL h R rs.toArray) (hRL : R ≠ env.locals) (hsz : rs.length ≤ 200) (hline : (p9.endLine == p10.line) = true)
    (post : ∀ p h' tk' dd n tc, h.get? p = none → h'.get? p = some { cls := .ref C, dict := dd, data := .seq #[.int c tc, .int d td, u] n } → h'.Ns env.locals (upd m "diff" (.ref p)) → PlainL h' R (rs ++ [Value.ref p]).toArray → Mod [env.locals, R] h h' → Q .next { s₀ with heap := h', toks := tk' }) :
    wpAny (model prog w) A (execs [.Assign [.Name ("diff" : Str) p4] (.Call (.Name ("_Mismatch" : Str) p5) [e1, .Name ("cnt_t" : Str) p2, .Name ("elem" : Str) p3] [] p6) p7,
      .Expr (.Call (.Attribute (.Name ("result" : Str) p8) ("append" : Str) p9) [.Name ("diff" : Str) p1] [] p10) p11] env) Q E { s₀ with heap := h, toks := tk } := by
  have hk := X.kind
  refine wpAny_execs_cons (wpAny_Assign_Name (wpAny_Call_ofName (X.mis _ _ _ _ keep ?_)))
  show wpAny _ A (callWith p6 (.ref C) [] (backTo p6 (starEach [e1, .Name ("cnt_t" : Str) p2, .Name ("elem" : Str) p3] env)) []) _ _ _
  refine X.callW _ _ _ _ _ _ he rfl ?_
  rw [he]
  refine Calls.spliced_cons (h1 _ fun tc tk₁ => ?_)
  refine Calls.spliced_cons (ev_name hk (X.loc _ (by decide)) hns mt ?_)
  refine Calls.spliced_cons (ev_name hk (X.loc _ (by decide)) hns me ?_)
  refine Calls.spliced_nil ⟨keep, ?_⟩
  refine X.call h tk₁ m c d tc td u _ _ keep hns hu fun p h₁ tk₂ dd n hp k₁ hg => ?_
  have hns₁ : h₁.Ns env.locals m := hns.at fun o e => k₁ _ _ e
  refine wpAny_storeName_local (X.loc _ (by decide)) hns₁ (fun h₂ hn₂ hs₂ => ?_) X.nf
  have hpL : p ≠ env.locals := fun e => by obtain ⟨o, _, _, e', _⟩ := hns; rw [e, e'] at hp; cases hp
  obtain ⟨oR, nR, hoR, hcR, hdR, hRd⟩ := id hR
  have hpR : p ≠ R := fun e => by rw [e, hoR] at hp; cases hp
  have hs₂' : Heap.SameBut env.locals h₁ h₂ := hs₂
  have hR₂ : PlainL h₂ R rs.toArray := (hR.keeps k₁).extBut hs₂'.extBut hRL
  refine wpAny_execs_cons (wpAny_Expr ?_ X.quiet)
  refine wpAny_Call_append rfl rfl hline rfl (ev_name hk (X.loc _ (by decide)) hn₂ (by show upd m "diff" _ _ = _; rw [upd_ne _ _ (by decide)]; exact mr) ⟨R, _, rfl, hR₂, ?_⟩)
  refine ev_name hk (X.loc _ (by decide)) hn₂ (by show upd m "diff" _ _ = _; exact upd_same _ _ _) ?_
  refine list_append_plainL hR₂ (fun h₃ hR₃ hs₃ => wpAny_execs_nil ?_) (by simp [sizeLine]; omega)
  have hs₃' : Heap.SameBut R h₂ h₃ := hs₃
  refine post p h₃ _ dd n tc hp ?_ (hn₂.sameBut hs₃' (Ne.symm hRL)) (by simpa using hR₃) ?_
  · exact hs₃'.extBut _ _ hpR (hs₂'.extBut _ _ hpL hg)
  · exact Mod.trans (Mod.trans (fun b o _ e => k₁ b o e) (Mod.same hs₂' (by simp))) (Mod.same hs₃' (by simp))
end
end Mine
end

section
open PySem PySem.W PyProof.Rows PySem.SeqAt
set_option maxRecDepth 100000
namespace Mine

section
variable {prog : Program} {w : World} {A : Around} {E : Value → Shared → Prop} {s : Shared} {env : Env} {m : Str → Option Value} {h₀ : Heap}

theorem assign_pair {x y : Str} {px py tp p' pos : Pos} {k k' : Nat} {e1 e2 : Expr} {Q : Flow → Shared → Prop} (hh : A.handled = none) (lx : env.kindOf x = some .local) (ly : env.kindOf y = some .local) (nf : NotFresh env)
    (hw : swappedStores [.Tuple [.Name x px, .Name y py] k tp] (.Tuple [e1, e2] k' p') env = pure (some [x, y]))
    (he1 : starEach [e1, e2] env = (false, eval e1 env) :: (false, eval e2 env) :: [])
    (h : wpAny (model prog w) A (eval e1 env) (fun v1 s₁ => wpAny (model prog w) A (eval e2 env) (fun v2 s₂ => ∃ m, s₂.heap.Ns env.locals m ∧ ∀ h' tk', h'.Ns env.locals (upd (upd m y v2) x v1) → Mod [env.locals] s₂.heap h' → Q .next { s₂ with heap := h', toks := tk' }) E s₁) E s) :
    wpAny (model prog w) A (exec (.Assign [.Tuple [.Name x px, .Name y py] k tp] (.Tuple [e1, e2] k' p') pos) env) Q E s := by
  refine Assign_Tuple_swapped (names := [x, y]) (Tuple_ ?_) rfl hw
  rw [he1]
  refine Calls.spliced_cons (wpAny_mono h (fun v1 s₁ h₁ => ?_) fun _ _ e => e)
  refine Calls.spliced_cons (wpAny_mono h₁ (fun v2 s₂ h₂ => ?_) fun _ _ e => e)
  refine Calls.spliced_nil ?_
  obtain ⟨m, hns, hQ⟩ := h₂
  refine wpAny_newObj_type ?_ (by size_fits)
  have up : ∀ b o, s₂.heap.get? b = some o → (s₂.heap.push { cls := .type "tuple", data := .seq #[v1, v2] }).get? b = some o := fun b o e => Heap.get?_push_of_some _ e
  have ht : IsTup (s₂.heap.push { cls := .type "tuple", data := .seq #[v1, v2] }) s₂.heap.objs.size #[v1, v2] := ⟨_, Heap.get?_push_size _ rfl, rfl, _, rfl⟩
  have hsz : (s₂.heap.push { cls := .type "tuple", data := .seq #[v1, v2] }).objs.size = s₂.heap.objs.size + 1 := Heap.size_push ..
  show wpAny _ A (unpackItems (.ref s₂.heap.objs.size) 2 none) _ _ { s₂ with heap := s₂.heap.push { cls := .type "tuple", data := .seq #[v1, v2] } }
  generalize s₂.heap.push { cls := .type "tuple", data := .seq #[v1, v2] } = h₃ at up ht hsz ⊢
  have hU := @PyProof.Rows.unpackItems_tuple prog w A E { s₂ with heap := h₃ } s₂.heap.objs.size #[v1, v2]
  refine hU hh ht fun h₄ he₄ => ?_
  clear hU
  have he₄' : Heap.ExtBut h₃.objs.size h₃ h₄ := he₄
  have hI : s₂.heap.get? h₃.objs.size = none := get_none_of_le (by rw [hsz]; exact Nat.le_succ _)
  have up₄ : ∀ b o, s₂.heap.get? b = some o → h₄.get? b = some o := fun b o e => he₄' b o (fun q => by rw [q, hI] at e; cases e) (up b o e)
  have hns₄ : h₄.Ns env.locals m := hns.at fun o e => up₄ _ _ e
  show wpAny _ A (assignInOrder [bindName env y, bindName env x] [v2, v1]) _ _ _
  refine wpAny_assignInOrder_more (bindName_ (wpAny_storeName_local ly hns₄ (fun h₅ hn₅ hs₅ => ?_) nf))
  have hs₅' : Heap.SameBut env.locals h₄ h₅ := hs₅
  refine wpAny_assignInOrder_more (bindName_ (wpAny_storeName_local lx hn₅ (fun h₆ hn₆ hs₆ => ?_) nf))
  have hs₆' : Heap.SameBut env.locals h₅ h₆ := hs₆
  refine wpAny_assignInOrder_none ?_
  refine hQ h₆ _ hn₆ (Mod.trans (fun b o _ e => up₄ b o e) (Mod.trans (Mod.same hs₅' (by simp)) (Mod.same hs₆' (by simp))))

theorem ev_list {nm : Str} {p2 p3 p5 : Pos} {S : Addr} {items : Array Value} {Q : Value → Shared → Prop}
    (hk : env.scope.kind = .function) (ln : env.kindOf nm = some .local) (dn : (nm == ("__debug__" : Str)) = false)
    (gr : Glb prog w A env h₀ "list" (.type "list")) (keep : ∀ b o, h₀.get? b = some o → s.heap.get? b = some o)
    (hns : s.heap.Ns env.locals m) (mn : m nm = some (.ref S)) (hS : s.heap.IsList S items) (hsz : items.size ≤ sizeLine)
    (h : ∀ h', (∀ b o, s.heap.get? b = some o → h'.get? b = some o) → h'.IsList s.heap.objs.size items → Q (.ref s.heap.objs.size) { s with heap := h' }) :
    wpAny (model prog w) A (eval (.Call (.Name ("list" : Str) p2) [.Name nm p3] [] p5) env) Q E s := by
  refine wpAny_Call_ofName (gr s _ _ _ keep ?_)
  show wpAny _ A (callWith p5 (.type "list") [] (backTo p5 (starEach [.Name nm p3] env)) []) _ E s
  refine Pv.callWith_type1 ?_
  refine Calls.spliced_cons (ev_name hk ln hns mn ?_ dn)
  refine Calls.spliced_nil ?_
  obtain ⟨o, ho, hc, n, hd⟩ := hS
  exact call_list_seq S (.inl rfl) ho hc hd (fun h' c' k hg => h h' k ⟨_, hg, rfl, _, rfl⟩) hsz

theorem ev_len {nm : Str} {p2 p3 p5 : Pos} {S : Addr} {items : Array Value} {Q : Value → Shared → Prop}
    (hk : env.scope.kind = .function) (ln : env.kindOf nm = some .local) (dn : (nm == ("__debug__" : Str)) = false)
    (gr : Glb prog w A env h₀ "len" (.builtin "len")) (keep : ∀ b o, h₀.get? b = some o → s.heap.get? b = some o)
    (hns : s.heap.Ns env.locals m) (mn : m nm = some (.ref S)) (hS : s.heap.IsList S items) (hsz : items.size ≤ 64)
    (h : ∀ t tk', Q (.int (items.size : Nat) t) { s with toks := tk' }) :
    wpAny (model prog w) A (eval (.Call (.Name ("len" : Str) p2) [.Name nm p3] [] p5) env) Q E s := by
  refine wpAny_Call_ofName (gr s _ _ _ keep ?_)
  show wpAny _ A (callWith p5 (.builtin "len") [] (backTo p5 (starEach [.Name nm p3] env)) []) _ E s
  refine PyProof.Rows.callWith_builtin1 ?_
  refine Calls.spliced_cons (ev_name hk ln hns mn ?_ dn)
  refine Calls.spliced_nil ?_
  exact len_list hS (by omega) (h _ _)
end
end Mine
end

section
open PySem PySem.W PyProof.Rows PySem.SeqAt
set_option maxRecDepth 100000
namespace Mine

/-- the body and the scope of the def that stands at place k of the text's top -/
def bodyAt (k : Nat) : List Stmt := match PySem.Challenge.pw_kp0066_01.main.body[k]? with
  | some (.FunctionDef _ _ body _ _ _ _ _ _ _) => body
  | _ => []
def scopeAt (k : Nat) : Scope := match PySem.Challenge.pw_kp0066_01.main.body[k]? with
  | some (.FunctionDef _ _ _ _ _ _ scope _ _ _) => scope
  | _ => { kind := .function, names := [], isGenerator := false, isCoroutine := false }
def stmtAt (k i : Nat) : Stmt := (bodyAt k).getD i (.Pass ⟨0, 0, 0, 0⟩)

/-- What the first outer loop keeps. -/
structure Outer1 (L S T O R C : Addr) (W : List Addr) (us ts : List Value) (a b : List Int) (hs : Heap) (ms : Str → Option Value) (k : Nat) (m : Str → Option Value) (h : Heap) : Prop where
  s : h.IsList S (mask (seen a (a.take k)) O us).toArray
  t : h.IsList T (mask (seen b (a.take k)) O ts).toArray
  r : ∃ rs, PlainL h R rs.toArray ∧ Paired (Mis C W h) rs (due1 a b k)
  names : ∀ y, y ∉ ([("i" : Str), "elem", "cnt_s", "cnt_t", "j", "other_elem", "diff"] : List Str) → m y = ms y
  mod : Mod [L, S, T, R] hs h

theorem plainL_mod {W : List Addr} {h h' : Heap} {R : Addr} {vs : Array Value} (x : PlainL h R vs) (y : Mod W h h') (n : R ∉ W) : PlainL h' R vs :=
  let ⟨o, k, e, r⟩ := x; ⟨o, k, y R o n e, r⟩
theorem paired_mod {C : Addr} {W W' : List Addr} {h h' : Heap} {rs : List Value} {ds : List (Int × Int × Int)} (p : Paired (Mis C W h) rs ds) (y : Mod W' h h') (n : ∀ b ∈ W', b ∈ W) : Paired (Mis C W h') rs ds :=
  Paired.mono (fun _ _ x => x.mod (y.wide n)) p

theorem Outer1.frame {L S T O R C : Addr} {W W' : List Addr} {us ts : List Value} {a b : List Int} {hs h h' : Heap} {ms m : Str → Option Value} {k : Nat} (J : Outer1 L S T O R C W us ts a b hs ms k m h) (y : Mod W' h h')
    (nS : S ∉ W') (nT : T ∉ W') (nR : R ∉ W') (n : ∀ b ∈ W', b ∈ W) (z : ∀ b ∈ W', b ∈ [L, S, T, R] ∨ hs.get? b = none) : Outer1 L S T O R C W us ts a b hs ms k m h' := by
  obtain ⟨rs, hR, hp⟩ := J.r
  exact ⟨y.list J.s nS, y.list J.t nT, ⟨rs, plainL_mod hR y nR, paired_mod hp y n⟩, J.names, J.mod.absorb y z⟩

section
variable {prog : Program} {w : World} {A : Around} {E : Value → Shared → Prop} {s : Shared} {m : Str → Option Value} {h₀ : Heap}

theorem outer1 {nm : Str} {L fa : Addr} {cd : Value} {C S T O R : Addr} {us ts : List Value} {a b : List Int} {Q : Flow → Shared → Prop}
    (X : Callee prog w A (envOf nm (scopeAt 5) L fa cd) h₀ s C)
    (keep : ∀ b o, h₀.get? b = some o → s.heap.get? b = some o) (new : ∀ x ∈ [L, S, T, R], h₀.get? x = none)
    (hns : s.heap.Ns L m) (ms : m ("s" : Str) = some (.ref S)) (mt : m ("t" : Str) = some (.ref T)) (tm : Tok) (mm : m ("m" : Str) = some (.int (a.length : Int) tm)) (mN : m ("NULL" : Str) = some (.ref O)) (mr : m ("result" : Str) = some (.ref R))
    (hS : s.heap.IsList S us.toArray) (hT : s.heap.IsList T ts.toArray) (hR : PlainL s.heap R #[]) (hO : IsNull s.heap O)
    (apart : S ≠ L ∧ T ≠ L ∧ R ≠ L ∧ O ≠ L ∧ S ≠ T ∧ S ≠ R ∧ T ≠ R ∧ O ≠ S ∧ O ≠ T ∧ O ≠ R)
    (hla : us.length = a.length) (hlb : ts.length = b.length) (h64a : a.length ≤ 64) (h64b : b.length ≤ 64)
    (cs : ∀ (p : Nat) v y, us[p]? = some v → a[p]? = some y → Cell [L, S, T, R] s.heap v y) (ct : ∀ (p : Nat) v y, ts[p]? = some v → b[p]? = some y → Cell [L, S, T, R] s.heap v y)
    (post : ∀ h' tk' m' rs, h'.Ns L m' → (∀ y, y ∉ ([("i" : Str), "elem", "cnt_s", "cnt_t", "j", "other_elem", "diff"] : List Str) → m' y = m y) → h'.IsList T (mask (seen b a) O ts).toArray → PlainL h' R rs.toArray →
      Paired (Mis C [L, S, T, R] h') rs (due1 a b a.length) → Mod [L, S, T, R] s.heap h' → Q .next { s with heap := h', toks := tk' }) :
    wpAny (model prog w) A (exec (stmtAt 5 5) (envOf nm (scopeAt 5) L fa cd)) Q E s := by
  have hk := X.kind
  obtain ⟨nSL, nTL, nRL, nOL, nST, nSR, nTR, nOS, nOT, nOR⟩ := apart
  refine wpAny_For (ev_enumerate hk (X.loc _ (by decide)) (by decide) X.enum keep hns ms hS fun hr he hit up => ?_)
  have hI : s.heap.get? s.heap.objs.size = none := get_none _
  have hI' : s.heap.get? (s.heap.objs.size + 1) = none := get_none_of_le (Nat.le_succ _)
  obtain ⟨oL, hL⟩ : ∃ o, s.heap.get? L = some o := by obtain ⟨o, _, _, e, _⟩ := hns; exact ⟨o, e⟩
  obtain ⟨oS, hoS, _⟩ := id hS
  obtain ⟨oT, hoT, _⟩ := id hT
  obtain ⟨oR, nR, hoR, _⟩ := id hR
  have hfr : ∀ x ∈ [L, S, T, R], x ≠ s.heap.objs.size ∧ x ≠ s.heap.objs.size + 1 := by
    intro x hx
    simp only [List.mem_cons, List.not_mem_nil, or_false] at hx
    rcases hx with rfl | rfl | rfl | rfl
    · exact ⟨ne_of_get hL hI, ne_of_get hL hI'⟩
    · exact ⟨ne_of_get hoS hI, ne_of_get hoS hI'⟩
    · exact ⟨ne_of_get hoT hI, ne_of_get hoT hI'⟩
    · exact ⟨ne_of_get hoR hI, ne_of_get hoR hI'⟩
  refine loop_enum (n := a.length) (l := S) (m := m) X.hh (X.loc _ (by decide)) (X.loc _ (by decide)) (by decide) X.nf (Nat.succ_ne_self _) (Ne.symm (ne_of_get hL hI')) (Ne.symm (ne_of_get hL hI)) (ne_of_get hoS hI') (ne_of_get hoS hI) nSL he hit (hns.at fun o e => up _ _ e)
    (fun k m' h => Outer1 L S T O R C [L, S, T, R, s.heap.objs.size + 1, s.heap.objs.size] us ts a b s.heap m k m' h) ?_ ?_ ?_ ?_ ?_ ?_
  · intro k m' h J
    exact ⟨_, J.s, by simp [mask_length, hla]⟩
  · intro k m' h h' J y
    have y' : Mod [L, s.heap.objs.size + 1, s.heap.objs.size] h h' := y
    refine J.frame y' ?_ ?_ ?_ ?_ ?_
    · simp only [List.mem_cons, List.not_mem_nil, or_false, not_or]; exact ⟨nSL, (hfr S (by simp)).2, (hfr S (by simp)).1⟩
    · simp only [List.mem_cons, List.not_mem_nil, or_false, not_or]; exact ⟨nTL, (hfr T (by simp)).2, (hfr T (by simp)).1⟩
    · simp only [List.mem_cons, List.not_mem_nil, or_false, not_or]; exact ⟨nRL, (hfr R (by simp)).2, (hfr R (by simp)).1⟩
    · intro b hb; simp only [List.mem_cons, List.not_mem_nil, or_false] at hb ⊢; rcases hb with h | h | h <;> simp [h]
    · intro b hb
      simp only [List.mem_cons, List.not_mem_nil, or_false] at hb
      rcases hb with rfl | rfl | rfl
      · exact .inl (by simp)
      · exact .inr hI'
      · exact .inr hI
  · intro k m' h v v' J
    refine ⟨J.s, J.t, J.r, fun y hy => ?_, J.mod⟩
    rw [upd_ne _ _ (show y ≠ ("elem" : Str) from fun e => hy (by rw [e]; decide)), upd_ne _ _ (show y ≠ ("i" : Str) from fun e => hy (by rw [e]; decide))]
    exact J.names y hy
  · refine ⟨?_, ?_, ⟨[], hR.keeps up, .nil⟩, fun _ _ => rfl, fun b o _ e => up b o e⟩
    · rw [List.take_zero, mask_congr (D' := fun _ => false) fun p _ => seen_nil a p, mask_none]
      exact hS.at fun o e => up _ _ e
    · rw [List.take_zero, mask_congr (D' := fun _ => false) fun p _ => seen_nil b p, mask_none]
      exact hT.at fun o e => up _ _ e
  · intro k items v₀ t m' h tk E' hq J hl hv₀ hn' mi me hst
    have hqu : k < us.length := by omega
    obtain ⟨x, hx⟩ : ∃ x, a[k]? = some x := ⟨a[k], List.getElem?_eq_getElem hq⟩
    obtain ⟨u, hu⟩ : ∃ u, us[k]? = some u := ⟨us[k], List.getElem?_eq_getElem hqu⟩
    have hitem : ((mask (seen a (a.take k)) O us).toArray)[k]? = some (if seen a (a.take k) k then .ref O else u) := by
      simp only [List.getElem?_toArray, mask_get, hu, Option.map_some]
    rw [isList_unique hl J.s, hitem] at hv₀
    cases hv₀
    have mN' : m' ("NULL" : Str) = some (.ref O) := (J.names _ (by decide)).trans mN
    have ms' : m' ("s" : Str) = some (.ref S) := (J.names _ (by decide)).trans ms
    have mt' : m' ("t" : Str) = some (.ref T) := (J.names _ (by decide)).trans mt
    have mr' : m' ("result" : Str) = some (.ref R) := (J.names _ (by decide)).trans mr
    have mm' : m' ("m" : Str) = some (.int (a.length : Int) tm) := (J.names _ (by decide)).trans mm
    have nO : O ∉ [L, S, T, R] := by simp only [List.mem_cons, List.not_mem_nil, or_false, not_or]; exact ⟨nOL, nOS, nOT, nOR⟩
    have hO' : IsNull h O := J.mod O _ nO hO
    have keep' : ∀ b o, h₀.get? b = some o → h.get? b = some o := Mod.keep keep J.mod new
    rw [seen_some hx] at me
    by_cases hxs : x ∈ a.take k
    · -- the item is blanked: «continue»
      rw [show (a.take k).contains x = true by simpa using hxs] at me
      refine wpAny_execs_cons (wpAny_If (wpAny_isTrue_Compare1 (ev_name hk (X.loc _ (by decide)) hn' me (ev_name hk (X.loc _ (by decide)) hn' mN' (wpAny_is_ref_self (wpAny_truthy_bool ?_))))))
      simp only [if_true]
      refine wpAny_execs_cons (wpAny_Continue ?_)
      refine ⟨.inr rfl, h, tk, m', rfl, hn', ⟨?_, ?_, ?_, J.names, J.mod⟩, fun _ _ _ e => e⟩
      · rw [take_next hx, ← mask_congr fun p _ => seen_same hxs p]; exact J.s
      · rw [take_next hx, ← mask_congr fun p _ => seen_same hxs p]; exact J.t
      · rw [due1_seen hx hxs]; exact J.r
    · rw [show (a.take k).contains x = false by simpa using hxs] at me
      simp only [Bool.false_eq_true, if_false] at me
      have cu := cs _ _ _ hu hx
      obtain ⟨lu, tu, nu, eu, hlu, hgu⟩ := id cu
      have hgu' : h.get? lu = some _ := J.mod lu _ hlu hgu
      have nlO : lu ≠ O := fun e => by
        have hO2 : h.get? O = some _ := hO'
        rw [e, hO2] at hgu'
        exact absurd (congrArg Obj.cls (Option.some.inj hgu')) (by intro q; exact absurd (Value.type.inj q) (by decide))
      subst eu
      refine wpAny_execs_cons (wpAny_If (wpAny_isTrue_Compare1 (ev_name hk (X.loc _ (by decide)) hn' me (ev_name hk (X.loc _ (by decide)) hn' mN' (wpAny_is_ref_other nlO hgu' hO' (by intro q; exact absurd (Value.type.inj q) (by decide)) (wpAny_truthy_bool ?_))))))
      simp only [Bool.false_eq_true, if_false]
      refine wpAny_execs_nil ?_
      -- «cnt_s = cnt_t = 0»
      refine wpAny_execs_cons (wpAny_Assign_two (wpAny_Constant_int (wpAny_assign_Name (wpAny_storeName_local (X.loc _ (by decide)) hn' (fun h1 hn1 hs1 => wpAny_assign_Name (wpAny_storeName_local (X.loc _ (by decide)) hn1 (fun h2 hn2 hs2 => ?_) X.nf)) X.nf))))
      have hM2 : Mod [L] h h2 := Mod.trans (Mod.same (a := L) hs1 (by simp)) (Mod.same (a := L) hs2 (by simp))
      have sub : ∀ b ∈ [L, S], b ∈ [L, S, T, R] := by intro b hb; simp only [List.mem_cons, List.not_mem_nil, or_false] at hb ⊢; rcases hb with h | h <;> simp [h]
      have subT : ∀ b ∈ [L, T], b ∈ [L, S, T, R] := by intro b hb; simp only [List.mem_cons, List.not_mem_nil, or_false] at hb ⊢; rcases hb with h | h <;> simp [h]
      have subR : ∀ b ∈ [L, R], b ∈ [L, S, T, R] := by intro b hb; simp only [List.mem_cons, List.not_mem_nil, or_false] at hb ⊢; rcases hb with h | h <;> simp [h]
      have subL : ∀ b ∈ [L], b ∈ [L, S, T, R] := by intro b hb; simp only [List.mem_cons, List.not_mem_nil, or_false] at hb ⊢; simp [hb]
      have M2 : Mod [L, S, T, R] s.heap h2 := J.mod.trans (hM2.wide subL)
      -- the loop over the places of s
      refine wpAny_execs_cons (inner_range (h₀ := h₀) (S := S) (O := O) (us := us) (a := a) (x := x) (D := seen a (a.take k)) (i := k) X.hh X.un hk X.nf
        (X.loc _ (by decide)) (X.loc _ (by decide)) (X.loc _ (by decide)) (X.loc _ (by decide)) (X.loc _ (by decide)) (X.loc _ (by decide)) (X.loc _ (by decide))
        (by decide) (by decide) (by decide) (by decide) (by decide) (by decide) (by decide) X.range (Mod.keep keep M2 new) hn2
        (by show upd (upd m' "cnt_s" _) "cnt_t" _ _ = _; rw [upd_ne _ _ (by decide), upd_ne _ _ (by decide)]; exact mi)
        (by show upd (upd m' "cnt_s" _) "cnt_t" _ _ = _; rw [upd_ne _ _ (by decide), upd_ne _ _ (by decide)]; exact mm')
        (by show upd (upd m' "cnt_s" _) "cnt_t" _ _ = _; rw [upd_ne _ _ (by decide), upd_ne _ _ (by decide)]; exact ms')
        (by show upd (upd m' "cnt_s" _) "cnt_t" _ _ = _; rw [upd_ne _ _ (by decide), upd_ne _ _ (by decide)]; exact me)
        (by show upd (upd m' "cnt_s" _) "cnt_t" _ _ = _; rw [upd_ne _ _ (by decide), upd_ne _ _ (by decide)]; exact mN')
        (by show upd (upd m' "cnt_s" _) "cnt_t" _ _ = _; rw [upd_ne _ _ (by decide), upd_same])
        (hM2.list J.s (by simpa using nSL)) hla h64a (Nat.le_of_lt hq) nSL (M2 O _ nO hO) (by simp only [List.mem_cons, List.not_mem_nil, or_false, not_or]; exact ⟨nOL, nOS⟩)
        (fun p v y e1 e2 => ((cs p v y e1 e2).mod M2).less sub) ((cu.mod M2).less sub) (fun p hp => seen_not hxs hp) hxs ?_)
      intro h3 tk3 m3 t3 hn3 names3 cnt3 list3 mod3
      have mod3' : Mod [L, S] h2 h3 := mod3
      have M3 : Mod [L, S, T, R] s.heap h3 := M2.trans (mod3'.wide sub)
      have up3 : ∀ y, y ≠ ("j" : Str) → y ≠ ("cnt_s" : Str) → y ≠ ("cnt_t" : Str) → m3 y = m' y := fun y h1 h2 h3 => by
        rw [names3 y h1 h2]; show upd (upd m' "cnt_s" _) "cnt_t" _ _ = _; rw [upd_ne _ _ h3, upd_ne _ _ h2]
      -- the loop over t's items
      refine wpAny_execs_cons (inner_enum (h₀ := h₀) (S := T) (O := O) (us := ts) (a := b) (x := x) (D := seen b (a.take k)) X.hh X.un hk X.nf
        (X.loc _ (by decide)) (X.loc _ (by decide)) (X.loc _ (by decide)) (X.loc _ (by decide)) (X.loc _ (by decide)) (X.loc _ (by decide))
        (by decide) (by decide) (by decide) (by decide) (by decide) (by decide) (by decide) (by decide) X.enum (Mod.keep keep M3 new) hn3
        ((up3 _ (by decide) (by decide) (by decide)).trans mt') ((up3 _ (by decide) (by decide) (by decide)).trans me) ((up3 _ (by decide) (by decide) (by decide)).trans mN')
        (by rw [names3 _ (by decide) (by decide)]; show upd (upd m' "cnt_s" _) "cnt_t" _ _ = _; rw [upd_same])
        (mod3'.list (hM2.list J.t (by simpa using nTL)) (by simp only [List.mem_cons, List.not_mem_nil, or_false, not_or]; exact ⟨nTL, Ne.symm nST⟩)) hlb h64b nTL (M3 O _ nO hO) (by simp only [List.mem_cons, List.not_mem_nil, or_false, not_or]; exact ⟨nOL, nOT⟩)
        (fun p v y e1 e2 => ((ct p v y e1 e2).mod M3).less subT) ((cu.mod M3).less subT) (fun p hp => seen_not hxs hp) ?_)
      intro h4 tk4 m4 t4 hn4 names4 cnt4 list4 mod4
      have mod4' : Mod [L, T] h3 h4 := mod4
      have M4 : Mod [L, S, T, R] s.heap h4 := M3.trans (mod4'.wide subT)
      have up4 : ∀ y, y ≠ ("j" : Str) → y ≠ ("cnt_s" : Str) → y ≠ ("cnt_t" : Str) → y ≠ ("other_elem" : Str) → m4 y = m' y := fun y h1 h2 h3 h4 => by
        rw [names4 y (by simp [h1, h4]) h3, up3 y h1 h2 h3]
      have cnt3' : m4 ("cnt_s" : Str) = some (.int (a.count x : Nat) t3) := by rw [names4 _ (by decide) (by decide)]; exact cnt3
      have s4 : h4.IsList S (mask (seen a (a.take (k + 1))) O us).toArray := by
        rw [take_next hx, ← mask_congr fun p _ => seen_next p]
        exact mod4'.list list3 (by simp only [List.mem_cons, List.not_mem_nil, or_false, not_or]; exact ⟨nSL, nST⟩)
      have t4' : h4.IsList T (mask (seen b (a.take (k + 1))) O ts).toArray := by
        rw [take_next hx, ← mask_congr fun p _ => seen_next p]; exact list4
      obtain ⟨rs, hR', hp⟩ := J.r
      have hR4 : PlainL h4 R rs.toArray := plainL_mod (plainL_mod (plainL_mod hR' hM2 (by simpa using nRL)) mod3' (by simp only [List.mem_cons, List.not_mem_nil, or_false, not_or]; exact ⟨nRL, Ne.symm nSR⟩)) mod4' (by simp only [List.mem_cons, List.not_mem_nil, or_false, not_or]; exact ⟨nRL, Ne.symm nTR⟩)
      have wide : ∀ b ∈ [L, S, T, R], b ∈ [L, S, T, R, s.heap.objs.size + 1, s.heap.objs.size] := by
        intro b hb; simp only [List.mem_cons, List.not_mem_nil, or_false] at hb ⊢; rcases hb with h | h | h | h <;> simp [h]
      have hp4 : Paired (Mis C [L, S, T, R, s.heap.objs.size + 1, s.heap.objs.size] h4) rs (due1 a b k) :=
        paired_mod (paired_mod (paired_mod hp hM2 fun b q => wide b (subL b q)) mod3' fun b q => wide b (sub b q)) mod4' fun b q => wide b (subT b q)
      have eI : ∀ (h5 : Heap), Mod [L, S, T, R] h h5 → ∀ c ∈ [s.heap.objs.size + 1, s.heap.objs.size], ∀ o, h.get? c = some o → h5.get? c = some o := by
        intro h5 y c hc o e
        refine y c o (fun q => ?_) e
        have := hfr c q
        simp only [List.mem_cons, List.not_mem_nil, or_false] at hc
        rcases hc with hc | hc
        · exact this.2 hc
        · exact this.1 hc
      have names4' : ∀ y, y ∉ ([("i" : Str), "elem", "cnt_s", "cnt_t", "j", "other_elem", "diff"] : List Str) → m4 y = m y := by
        intro y hy
        rw [up4 y (fun e => hy (by rw [e]; decide)) (fun e => hy (by rw [e]; decide)) (fun e => hy (by rw [e]; decide)) (fun e => hy (by rw [e]; decide))]
        exact J.names y hy
      have Mh4 : Mod [L, S, T, R] h h4 := (hM2.wide subL).trans ((mod3'.wide sub).trans (mod4'.wide subT))
      refine wpAny_execs_cons (wpAny_If (wpAny_isTrue_Compare1 (ev_name hk (X.loc _ (by decide)) hn4 cnt3' (ev_name hk (X.loc _ (by decide)) hn4 cnt4 (PyProof.Rows.ne_int (wpAny_truthy_bool ?_))))))
      by_cases heq : a.count x = b.count x
      · rw [show (((a.count x : Nat) : Int) != ((b.count x : Nat) : Int)) = false by simp [heq]]
        simp only [Bool.false_eq_true, if_false]
        refine wpAny_execs_nil (wpAny_execs_nil ?_)
        exact ⟨.inl rfl, h4, tk4, m4, rfl, hn4, ⟨s4, t4', ⟨rs, hR4, by rw [due1_same hx hxs heq]; exact hp4⟩, names4', M4⟩, eI h4 Mh4⟩
      · rw [show (((a.count x : Nat) : Int) != ((b.count x : Nat) : Int)) = true by simp; omega]
        simp only [if_true]
        refine add_diff X (R := R) (rs := rs) (Mod.keep keep M4 new) hn4 rfl (fun Q' hQ' => ev_name hk (X.loc _ (by decide)) hn4 cnt3' (hQ' _ _)) cnt4 ((up4 _ (by decide) (by decide) (by decide) (by decide)).trans me) ((up4 _ (by decide) (by decide) (by decide) (by decide)).trans mr') ⟨_, rfl⟩ hR4 nRL
          (by rw [hp.length]; have := due1_length a b k; omega) rfl ?_
        intro p h5 tk5 dd nn tc hpn hg hn5 hR5 mod5
        have mod5' : Mod [L, R] h4 h5 := mod5
        have hpW : p ∉ [L, S, T, R, s.heap.objs.size + 1, s.heap.objs.size] := by
          have some_ne : ∀ c, (∃ o, h4.get? c = some o) → p ≠ c := fun c ⟨o, e⟩ q => by rw [q, e] at hpn; cases hpn
          simp only [List.mem_cons, List.not_mem_nil, or_false, not_or]
          refine ⟨some_ne _ ?_, some_ne _ ?_, some_ne _ ?_, some_ne _ ?_, some_ne _ ?_, some_ne _ ?_⟩
          · obtain ⟨o, _, _, e, _⟩ := hn4; exact ⟨o, e⟩
          · obtain ⟨o, e, _⟩ := s4; exact ⟨o, e⟩
          · obtain ⟨o, e, _⟩ := t4'; exact ⟨o, e⟩
          · obtain ⟨o, _, e, _⟩ := hR4; exact ⟨o, e⟩
          · obtain ⟨o, e⟩ := hst (s.heap.objs.size + 1) (by simp); exact ⟨o, eI h4 Mh4 _ (by simp) o e⟩
          · obtain ⟨o, e⟩ := hst s.heap.objs.size (by simp); exact ⟨o, eI h4 Mh4 _ (by simp) o e⟩
        refine wpAny_execs_nil ⟨.inl rfl, h5, tk5, _, rfl, hn5, ⟨?_, ?_, ⟨_, hR5, ?_⟩, ?_, M4.trans (mod5'.wide subR)⟩, eI h5 (Mh4.trans (mod5'.wide subR))⟩
        · exact mod5'.list s4 (by simp only [List.mem_cons, List.not_mem_nil, or_false, not_or]; exact ⟨nSL, nSR⟩)
        · exact mod5'.list t4' (by simp only [List.mem_cons, List.not_mem_nil, or_false, not_or]; exact ⟨nTL, nTR⟩)
        · rw [due1_new hx hxs heq]
          refine Paired.snoc (paired_mod hp4 mod5' fun b q => wide b (subR b q)) ⟨p, dd, nn, tc, t4, _, rfl, hpW, hg, ?_⟩
          refine (cu.wide fun b hb => ?_).mod ((M4.trans (mod5'.wide subR)).wide wide)
          simp only [List.mem_cons, List.not_mem_nil, or_false] at hb
          rcases hb with h | h | h | h | h | h
          · exact .inl (by simp [h])
          · exact .inl (by simp [h])
          · exact .inl (by simp [h])
          · exact .inl (by simp [h])
          · exact .inr (h ▸ hI')
          · exact .inr (h ▸ hI)
        · intro y hy
          rw [upd_ne _ _ (show y ≠ ("diff" : Str) from fun e => hy (by rw [e]; decide))]
          exact names4' y hy
  · intro h tk m' hn' J
    obtain ⟨rs, hR', hp⟩ := J.r
    refine post h tk m' rs hn' J.names ?_ hR' ?_ J.mod
    · have := J.t
      rw [List.take_of_length_le (Nat.le_refl _)] at this
      exact this
    · refine Paired.mono (fun v x c => ?_) hp
      obtain ⟨p, d, n, t1, t2, u, e, hp, g, cu⟩ := c
      exact ⟨p, d, n, t1, t2, u, e, fun q => hp (by simp only [List.mem_cons, List.not_mem_nil, or_false] at q ⊢; rcases q with q | q | q | q <;> simp [q]), g, cu.less fun b q => by simp only [List.mem_cons, List.not_mem_nil, or_false] at q ⊢; rcases q with q | q | q | q <;> simp [q]⟩
end
end Mine
end

section
open PySem PySem.W PyProof.Rows PySem.SeqAt
set_option maxRecDepth 100000
namespace Mine

theorem Mis.wide {C : Addr} {W W' : List Addr} {h : Heap} {v : Value} {x : Int × Int × Int} (c : Mis C W h v x) (n : ∀ b ∈ W', b ∈ W ∨ h.get? b = none) : Mis C W' h v x := by
  obtain ⟨p, d, k, t1, t2, u, e, hp, g, cu⟩ := c
  exact ⟨p, d, k, t1, t2, u, e, fun q => (n p q).elim hp fun z => (by rw [z] at g; cases g), g, cu.wide n⟩

/-- what is due of b's items that a lacks, up to place k -/
def due2 (a b : List Int) : Nat → List (Int × Int × Int)
  | 0 => []
  | k + 1 => due2 a b k ++ (match b[k]? with | some x => if x ∈ a ++ b.take k then [] else [(0, (b.count x : Nat), x)] | none => [])
theorem due2_seen {a b : List Int} {k : Nat} {x : Int} (h : b[k]? = some x) (hx : x ∈ a ++ b.take k) : due2 a b (k + 1) = due2 a b k := by simp only [due2, h, if_pos hx, List.append_nil]
theorem due2_new {a b : List Int} {k : Nat} {x : Int} (h : b[k]? = some x) (hx : x ∉ a ++ b.take k) : due2 a b (k + 1) = due2 a b k ++ [((0 : Int), ((b.count x : Nat) : Int), x)] := by simp only [due2, h, if_neg hx]
theorem due2_length (a b : List Int) (k : Nat) : (due2 a b k).length ≤ k := by
  induction k with
  | zero => exact Nat.le_refl _
  | succ k ih =>
    simp only [due2, List.length_append]
    split <;> (repeat' split) <;> simp <;> omega

structure Outer2 (L T O R C : Addr) (W : List Addr) (ts : List Value) (a b : List Int) (d₀ : List (Int × Int × Int)) (hs : Heap) (ms : Str → Option Value) (k : Nat) (m : Str → Option Value) (h : Heap) : Prop where
  t : h.IsList T (mask (seen b (a ++ b.take k)) O ts).toArray
  r : ∃ rs, PlainL h R rs.toArray ∧ Paired (Mis C W h) rs (d₀ ++ due2 a b k)
  names : ∀ y, y ∉ ([("i" : Str), "elem", "cnt_t", "j", "diff"] : List Str) → m y = ms y
  mod : Mod [L, T, R] hs h

section
variable {prog : Program} {w : World} {A : Around} {E : Value → Shared → Prop} {s : Shared} {m : Str → Option Value} {h₀ : Heap}

theorem outer2 {nm : Str} {L fa : Addr} {cd : Value} {C T O R : Addr} {ts rs₀ : List Value} {a b : List Int} {d₀ : List (Int × Int × Int)} {Q : Flow → Shared → Prop}
    (X : Callee prog w A (envOf nm (scopeAt 5) L fa cd) h₀ s C)
    (keep : ∀ b o, h₀.get? b = some o → s.heap.get? b = some o) (new : ∀ x ∈ [L, T, R], h₀.get? x = none)
    (hns : s.heap.Ns L m) (mt : m ("t" : Str) = some (.ref T)) (tn : Tok) (mn : m ("n" : Str) = some (.int (b.length : Int) tn)) (mN : m ("NULL" : Str) = some (.ref O)) (mr : m ("result" : Str) = some (.ref R))
    (hT : s.heap.IsList T (mask (seen b a) O ts).toArray) (hR : PlainL s.heap R rs₀.toArray) (hp₀ : Paired (Mis C [L, T, R] s.heap) rs₀ d₀) (hd₀ : d₀.length ≤ 64) (hO : IsNull s.heap O)
    (apart : T ≠ L ∧ R ≠ L ∧ O ≠ L ∧ T ≠ R ∧ O ≠ T ∧ O ≠ R)
    (hlb : ts.length = b.length) (h64b : b.length ≤ 64)
    (ct : ∀ (p : Nat) v y, ts[p]? = some v → b[p]? = some y → Cell [L, T, R] s.heap v y)
    (post : ∀ h' tk' m' rs, h'.Ns L m' → (∀ y, y ∉ ([("i" : Str), "elem", "cnt_t", "j", "diff"] : List Str) → m' y = m y) → PlainL h' R rs.toArray →
      Paired (Mis C [L, T, R] h') rs (d₀ ++ due2 a b b.length) → Mod [L, T, R] s.heap h' → Q .next { s with heap := h', toks := tk' }) :
    wpAny (model prog w) A (exec (stmtAt 5 6) (envOf nm (scopeAt 5) L fa cd)) Q E s := by
  have hk := X.kind
  obtain ⟨nTL, nRL, nOL, nTR, nOT, nOR⟩ := apart
  refine wpAny_For (ev_enumerate hk (X.loc _ (by decide)) (by decide) X.enum keep hns mt hT fun hr he hit up => ?_)
  have hI : s.heap.get? s.heap.objs.size = none := get_none _
  have hI' : s.heap.get? (s.heap.objs.size + 1) = none := get_none_of_le (Nat.le_succ _)
  obtain ⟨oL, hL⟩ : ∃ o, s.heap.get? L = some o := by obtain ⟨o, _, _, e, _⟩ := hns; exact ⟨o, e⟩
  obtain ⟨oT, hoT, _⟩ := id hT
  obtain ⟨oR, nR, hoR, _⟩ := id hR
  have hfr : ∀ x ∈ [L, T, R], x ≠ s.heap.objs.size ∧ x ≠ s.heap.objs.size + 1 := by
    intro x hx
    simp only [List.mem_cons, List.not_mem_nil, or_false] at hx
    rcases hx with rfl | rfl | rfl
    · exact ⟨ne_of_get hL hI, ne_of_get hL hI'⟩
    · exact ⟨ne_of_get hoT hI, ne_of_get hoT hI'⟩
    · exact ⟨ne_of_get hoR hI, ne_of_get hoR hI'⟩
  have wide : ∀ b ∈ [L, T, R], b ∈ [L, T, R, s.heap.objs.size + 1, s.heap.objs.size] := by
    intro b hb; simp only [List.mem_cons, List.not_mem_nil, or_false] at hb ⊢; rcases hb with h | h | h <;> simp [h]
  have old : ∀ b ∈ [L, T, R, s.heap.objs.size + 1, s.heap.objs.size], b ∈ [L, T, R] ∨ s.heap.get? b = none := by
    intro b hb
    simp only [List.mem_cons, List.not_mem_nil, or_false] at hb
    rcases hb with h | h | h | h | h
    · exact .inl (by simp [h])
    · exact .inl (by simp [h])
    · exact .inl (by simp [h])
    · exact .inr (h ▸ hI')
    · exact .inr (h ▸ hI)
  refine loop_enum (n := b.length) (l := T) (m := m) X.hh (X.loc _ (by decide)) (X.loc _ (by decide)) (by decide) X.nf (Nat.succ_ne_self _) (Ne.symm (ne_of_get hL hI')) (Ne.symm (ne_of_get hL hI)) (ne_of_get hoT hI') (ne_of_get hoT hI) nTL he hit (hns.at fun o e => up _ _ e)
    (fun k m' h => Outer2 L T O R C [L, T, R, s.heap.objs.size + 1, s.heap.objs.size] ts a b d₀ s.heap m k m' h) ?_ ?_ ?_ ?_ ?_ ?_
  · intro k m' h J
    exact ⟨_, J.t, by simp [mask_length, hlb]⟩
  · intro k m' h h' J y
    have y' : Mod [L, s.heap.objs.size + 1, s.heap.objs.size] h h' := y
    obtain ⟨rs, hR', hp⟩ := J.r
    refine ⟨y'.list J.t ?_, ⟨rs, plainL_mod hR' y' ?_, paired_mod hp y' ?_⟩, J.names, J.mod.absorb y' ?_⟩
    · simp only [List.mem_cons, List.not_mem_nil, or_false, not_or]; exact ⟨nTL, (hfr T (by simp)).2, (hfr T (by simp)).1⟩
    · simp only [List.mem_cons, List.not_mem_nil, or_false, not_or]; exact ⟨nRL, (hfr R (by simp)).2, (hfr R (by simp)).1⟩
    · intro b hb; simp only [List.mem_cons, List.not_mem_nil, or_false] at hb ⊢; rcases hb with h | h | h <;> simp [h]
    · intro b hb
      simp only [List.mem_cons, List.not_mem_nil, or_false] at hb
      rcases hb with h | h | h
      · exact .inl (by simp [h])
      · exact .inr (h ▸ hI')
      · exact .inr (h ▸ hI)
  · intro k m' h v v' J
    refine ⟨J.t, J.r, fun y hy => ?_, J.mod⟩
    rw [upd_ne _ _ (show y ≠ ("elem" : Str) from fun e => hy (by rw [e]; decide)), upd_ne _ _ (show y ≠ ("i" : Str) from fun e => hy (by rw [e]; decide))]
    exact J.names y hy
  · refine ⟨?_, ⟨rs₀, hR.keeps up, ?_⟩, fun _ _ => rfl, fun b o _ e => up b o e⟩
    · rw [List.take_zero, List.append_nil]
      exact hT.at fun o e => up _ _ e
    · rw [show due2 a b 0 = [] from rfl, List.append_nil]
      exact Paired.mono (fun v x c => (c.wide old).mod fun b o _ e => up b o e) hp₀
  · intro k items v₀ t m' h tk E' hq J hl hv₀ hn' mi me hst
    have hqu : k < ts.length := by omega
    obtain ⟨x, hx⟩ : ∃ x, b[k]? = some x := ⟨b[k], List.getElem?_eq_getElem hq⟩
    obtain ⟨u, hu⟩ : ∃ u, ts[k]? = some u := ⟨ts[k], List.getElem?_eq_getElem hqu⟩
    have hitem : ((mask (seen b (a ++ b.take k)) O ts).toArray)[k]? = some (if seen b (a ++ b.take k) k then .ref O else u) := by
      simp only [List.getElem?_toArray, mask_get, hu, Option.map_some]
    rw [isList_unique hl J.t, hitem] at hv₀
    cases hv₀
    have mN' : m' ("NULL" : Str) = some (.ref O) := (J.names _ (by decide)).trans mN
    have mt' : m' ("t" : Str) = some (.ref T) := (J.names _ (by decide)).trans mt
    have mr' : m' ("result" : Str) = some (.ref R) := (J.names _ (by decide)).trans mr
    have mn' : m' ("n" : Str) = some (.int (b.length : Int) tn) := (J.names _ (by decide)).trans mn
    have nO : O ∉ [L, T, R] := by simp only [List.mem_cons, List.not_mem_nil, or_false, not_or]; exact ⟨nOL, nOT, nOR⟩
    have hO' : IsNull h O := J.mod O _ nO hO
    have keep' : ∀ b o, h₀.get? b = some o → h.get? b = some o := Mod.keep keep J.mod new
    have nextPre : a ++ b.take (k + 1) = (a ++ b.take k) ++ [x] := by rw [take_next hx, List.append_assoc]
    rw [seen_some hx] at me
    by_cases hxs : x ∈ a ++ b.take k
    · rw [show (a ++ b.take k).contains x = true by simpa using hxs] at me
      refine wpAny_execs_cons (wpAny_If (wpAny_isTrue_Compare1 (ev_name hk (X.loc _ (by decide)) hn' me (ev_name hk (X.loc _ (by decide)) hn' mN' (wpAny_is_ref_self (wpAny_truthy_bool ?_))))))
      simp only [if_true]
      refine wpAny_execs_cons (wpAny_Continue ?_)
      refine ⟨.inr rfl, h, tk, m', rfl, hn', ⟨?_, ?_, J.names, J.mod⟩, fun _ _ _ e => e⟩
      · rw [nextPre, ← mask_congr fun p _ => seen_same hxs p]; exact J.t
      · rw [due2_seen hx hxs]; exact J.r
    · rw [show (a ++ b.take k).contains x = false by simpa using hxs] at me
      simp only [Bool.false_eq_true, if_false] at me
      have cu := ct _ _ _ hu hx
      obtain ⟨lu, tu, nu, eu, hlu, hgu⟩ := id cu
      have hgu' : h.get? lu = some _ := J.mod lu _ hlu hgu
      have nlO : lu ≠ O := fun e => by
        have hO2 : h.get? O = some _ := hO'
        rw [e, hO2] at hgu'
        exact absurd (congrArg Obj.cls (Option.some.inj hgu')) (by intro q; exact absurd (Value.type.inj q) (by decide))
      subst eu
      refine wpAny_execs_cons (wpAny_If (wpAny_isTrue_Compare1 (ev_name hk (X.loc _ (by decide)) hn' me (ev_name hk (X.loc _ (by decide)) hn' mN' (wpAny_is_ref_other nlO hgu' hO' (by intro q; exact absurd (Value.type.inj q) (by decide)) (wpAny_truthy_bool ?_))))))
      simp only [Bool.false_eq_true, if_false]
      refine wpAny_execs_nil ?_
      refine wpAny_execs_cons (wpAny_Assign_Name (wpAny_Constant_int (wpAny_storeName_local (X.loc _ (by decide)) hn' (fun h2 hn2 hs2 => ?_) X.nf)))
      have hM2 : Mod [L] h h2 := Mod.same (a := L) hs2 (by simp)
      have subT : ∀ b ∈ [L, T], b ∈ [L, T, R] := by intro b hb; simp only [List.mem_cons, List.not_mem_nil, or_false] at hb ⊢; rcases hb with h | h <;> simp [h]
      have subR : ∀ b ∈ [L, R], b ∈ [L, T, R] := by intro b hb; simp only [List.mem_cons, List.not_mem_nil, or_false] at hb ⊢; rcases hb with h | h <;> simp [h]
      have subL : ∀ b ∈ [L], b ∈ [L, T, R] := by intro b hb; simp only [List.mem_cons, List.not_mem_nil, or_false] at hb ⊢; simp [hb]
      have M2 : Mod [L, T, R] s.heap h2 := J.mod.trans (hM2.wide subL)
      refine wpAny_execs_cons (inner_range (h₀ := h₀) (S := T) (O := O) (us := ts) (a := b) (x := x) (D := seen b (a ++ b.take k)) (i := k) X.hh X.un hk X.nf
        (X.loc _ (by decide)) (X.loc _ (by decide)) (X.loc _ (by decide)) (X.loc _ (by decide)) (X.loc _ (by decide)) (X.loc _ (by decide)) (X.loc _ (by decide))
        (by decide) (by decide) (by decide) (by decide) (by decide) (by decide) (by decide) X.range (Mod.keep keep M2 new) hn2
        (by show upd m' "cnt_t" _ _ = _; rw [upd_ne _ _ (by decide)]; exact mi)
        (by show upd m' "cnt_t" _ _ = _; rw [upd_ne _ _ (by decide)]; exact mn')
        (by show upd m' "cnt_t" _ _ = _; rw [upd_ne _ _ (by decide)]; exact mt')
        (by show upd m' "cnt_t" _ _ = _; rw [upd_ne _ _ (by decide)]; exact me)
        (by show upd m' "cnt_t" _ _ = _; rw [upd_ne _ _ (by decide)]; exact mN')
        (by show upd m' "cnt_t" _ _ = _; rw [upd_same])
        (hM2.list J.t (by simpa using nTL)) hlb h64b (Nat.le_of_lt hq) nTL (M2 O _ nO hO) (by simp only [List.mem_cons, List.not_mem_nil, or_false, not_or]; exact ⟨nOL, nOT⟩)
        (fun p v y e1 e2 => ((ct p v y e1 e2).mod M2).less subT) ((cu.mod M2).less subT) (fun p hp => seen_not hxs hp) (fun q => hxs (List.mem_append.mpr (.inr q))) ?_)
      intro h3 tk3 m3 t3 hn3 names3 cnt3 list3 mod3
      have mod3' : Mod [L, T] h2 h3 := mod3
      have M3 : Mod [L, T, R] s.heap h3 := M2.trans (mod3'.wide subT)
      have up3 : ∀ y, y ≠ ("j" : Str) → y ≠ ("cnt_t" : Str) → m3 y = m' y := fun y h1 h2 => by
        rw [names3 y h1 h2]; show upd m' "cnt_t" _ _ = _; rw [upd_ne _ _ h2]
      have t3' : h3.IsList T (mask (seen b (a ++ b.take (k + 1))) O ts).toArray := by
        rw [nextPre, ← mask_congr fun p _ => seen_next p]; exact list3
      obtain ⟨rs, hR', hp⟩ := J.r
      have hR3 : PlainL h3 R rs.toArray := plainL_mod (plainL_mod hR' hM2 (by simpa using nRL)) mod3' (by simp only [List.mem_cons, List.not_mem_nil, or_false, not_or]; exact ⟨nRL, Ne.symm nTR⟩)
      have hp3 : Paired (Mis C [L, T, R, s.heap.objs.size + 1, s.heap.objs.size] h3) rs (d₀ ++ due2 a b k) :=
        paired_mod (paired_mod hp hM2 fun b q => wide b (subL b q)) mod3' fun b q => wide b (subT b q)
      have eI : ∀ (h5 : Heap), Mod [L, T, R] h h5 → ∀ c ∈ [s.heap.objs.size + 1, s.heap.objs.size], ∀ o, h.get? c = some o → h5.get? c = some o := by
        intro h5 y c hc o e
        refine y c o (fun q => ?_) e
        have := hfr c q
        simp only [List.mem_cons, List.not_mem_nil, or_false] at hc
        rcases hc with hc | hc
        · exact this.2 hc
        · exact this.1 hc
      have names3' : ∀ y, y ∉ ([("i" : Str), "elem", "cnt_t", "j", "diff"] : List Str) → m3 y = m y := by
        intro y hy
        rw [up3 y (fun e => hy (by rw [e]; decide)) (fun e => hy (by rw [e]; decide))]
        exact J.names y hy
      have Mh3 : Mod [L, T, R] h h3 := (hM2.wide subL).trans (mod3'.wide subT)
      refine add_diff X (R := R) (rs := rs) (Mod.keep keep M3 new) hn3 rfl (fun Q' hQ' => wpAny_Constant_int (hQ' _ _)) cnt3 ((up3 _ (by decide) (by decide)).trans me) ((up3 _ (by decide) (by decide)).trans mr') ⟨_, rfl⟩ hR3 nRL
          (by rw [hp.length, List.length_append]; have := due2_length a b k; omega) rfl ?_
      intro p h5 tk5 dd nn tc hpn hg hn5 hR5 mod5
      have mod5' : Mod [L, R] h3 h5 := mod5
      have hpW : p ∉ [L, T, R, s.heap.objs.size + 1, s.heap.objs.size] := by
        have some_ne : ∀ c, (∃ o, h3.get? c = some o) → p ≠ c := fun c ⟨o, e⟩ q => by rw [q, e] at hpn; cases hpn
        simp only [List.mem_cons, List.not_mem_nil, or_false, not_or]
        refine ⟨some_ne _ ?_, some_ne _ ?_, some_ne _ ?_, some_ne _ ?_, some_ne _ ?_⟩
        · obtain ⟨o, _, _, e, _⟩ := hn3; exact ⟨o, e⟩
        · obtain ⟨o, e, _⟩ := t3'; exact ⟨o, e⟩
        · obtain ⟨o, _, e, _⟩ := hR3; exact ⟨o, e⟩
        · obtain ⟨o, e⟩ := hst (s.heap.objs.size + 1) (by simp); exact ⟨o, eI h3 Mh3 _ (by simp) o e⟩
        · obtain ⟨o, e⟩ := hst s.heap.objs.size (by simp); exact ⟨o, eI h3 Mh3 _ (by simp) o e⟩
      refine ⟨.inl rfl, h5, tk5, _, rfl, hn5, ⟨?_, ⟨_, hR5, ?_⟩, ?_, M3.trans (mod5'.wide subR)⟩, eI h5 (Mh3.trans (mod5'.wide subR))⟩
      · exact mod5'.list t3' (by simp only [List.mem_cons, List.not_mem_nil, or_false, not_or]; exact ⟨nTL, nTR⟩)
      · rw [due2_new hx hxs, ← List.append_assoc]
        refine Paired.snoc (paired_mod hp3 mod5' fun b q => wide b (subR b q)) ⟨p, dd, nn, tc, t3, _, rfl, hpW, hg, ?_⟩
        exact (cu.wide old).mod ((M3.trans (mod5'.wide subR)).wide wide)
      · intro y hy
        rw [upd_ne _ _ (show y ≠ ("diff" : Str) from fun e => hy (by rw [e]; decide))]
        exact names3' y hy
  · intro h tk m' hn' J
    obtain ⟨rs, hR', hp⟩ := J.r
    refine post h tk m' rs hn' J.names hR' ?_ J.mod
    refine Paired.mono (fun v x c => ?_) hp
    obtain ⟨p, d, n, t1, t2, u, e, hp, g, cu⟩ := c
    exact ⟨p, d, n, t1, t2, u, e, fun q => hp (wide _ q), g, cu.less wide⟩
end
end Mine
end

section
open PySem PySem.W PyProof.Rows PySem.SeqAt
set_option maxRecDepth 100000
namespace Mine

section
variable {prog : Program} {w : World} {A : Around} {E : Value → Shared → Prop} {s : Shared} {m : Str → Option Value} {h₀ : Heap}

theorem Callee.at {prog : Program} {w : World} {A : Around} {env : Env} {h₀ : Heap} {s : Shared} {C : Addr} (X : Callee prog w A env h₀ s C) (h : Heap) (t : Nat) : Callee prog w A env h₀ { s with heap := h, toks := t } C :=
  { X with call := X.call }

theorem callee_walk {nm : Str} {L fa : Addr} {cd : Value} {C one other : Addr} {us ts : List Value} {a b : List Int} {Q : Flow → Shared → Prop}
    (X : Callee prog w A (envOf nm (scopeAt 5) L fa cd) h₀ s C)
    (keep : ∀ b o, h₀.get? b = some o → s.heap.get? b = some o) (newL : h₀.get? L = none)
    (hns : s.heap.Ns L m) (ma : m ("actual" : Str) = some (.ref one)) (me : m ("expected" : Str) = some (.ref other))
    (hone : h₀.IsList one us.toArray) (hother : h₀.IsList other ts.toArray)
    (hla : us.length = a.length) (hlb : ts.length = b.length) (h64a : a.length ≤ 64) (h64b : b.length ≤ 64)
    (cs : ∀ (p : Nat) v y, us[p]? = some v → a[p]? = some y → Cell [] h₀ v y) (ct : ∀ (p : Nat) v y, ts[p]? = some v → b[p]? = some y → Cell [] h₀ v y)
    (post : ∀ h' tk' m' R rs, h₀.get? R = none → R ≠ L → h'.Ns L m' → (∀ b o, h₀.get? b = some o → h'.get? b = some o) → PlainL h' R rs.toArray →
      Paired (Mis C [L, R] h') rs (due1 a b a.length ++ due2 a b b.length) → Q (.ret (.ref R)) { s with heap := h', toks := tk' }) :
    wpAny (model prog w) A (execs (bodyAt 5) (envOf nm (scopeAt 5) L fa cd)) Q E s := by
  have hk := X.kind
  have hone' : s.heap.IsList one us.toArray := hone.at fun o e => keep _ _ e
  have hother' : s.heap.IsList other ts.toArray := hother.at fun o e => keep _ _ e
  refine wpAny_execs_cons (wpAny_Expr (Calls.Constant_str ?_) X.quiet)
  -- s, t
  refine wpAny_execs_cons (assign_pair X.hh (X.loc _ (by decide)) (X.loc _ (by decide)) X.nf (by rfl) (by rfl) ?_)
  refine ev_list hk (X.loc _ (by decide)) (by decide) X.list keep hns ma hone' (by simp [sizeLine]; omega) fun h1 k1 l1 => ?_
  have keep1 : ∀ b o, h₀.get? b = some o → h1.get? b = some o := fun b o e => k1 b o (keep b o e)
  refine ev_list hk (X.loc _ (by decide)) (by decide) X.list keep1 (hns.at fun o e => k1 _ _ e) me (hother'.at fun o e => k1 _ _ e) (by simp [sizeLine]; omega) fun h2 k2 l2 => ?_
  have k2' : ∀ b o, h1.get? b = some o → h2.get? b = some o := k2
  have l2' : h2.IsList h1.objs.size ts.toArray := l2
  refine ⟨m, (hns.at fun o e => k1 _ _ e).at fun o e => k2' _ _ e, fun h3 tk3 hn3 mod3 => ?_⟩
  have nS : s.heap.get? s.heap.objs.size = none := get_none _
  have nT : h1.get? h1.objs.size = none := get_none _
  generalize hSe : s.heap.objs.size = S at *
  generalize hTe : h1.objs.size = T at *
  obtain ⟨oL, hL⟩ : ∃ o, s.heap.get? L = some o := by obtain ⟨o, _, _, e, _⟩ := hns; exact ⟨o, e⟩
  have nSL : S ≠ L := Ne.symm (ne_of_get hL nS)
  have nTL : T ≠ L := Ne.symm (ne_of_get (k1 _ _ hL) nT)
  have nST : S ≠ T := by obtain ⟨o, e, _⟩ := l1; exact ne_of_get e nT
  have newS : h₀.get? S = none := by
    cases e : h₀.get? S with
    | none => rfl
    | some o => have := keep _ _ e; rw [nS] at this; cases this
  have newT : h₀.get? T = none := by
    cases e : h₀.get? T with
    | none => rfl
    | some o => have := keep1 _ _ e; rw [nT] at this; cases this
  have mod3' : Mod [L] h2 h3 := mod3
  have keep3 : ∀ b o, h₀.get? b = some o → h3.get? b = some o := Mod.keep (fun b o e => k2' b o (keep1 b o e)) mod3' (by simpa using newL)
  have l3S : h3.IsList S us.toArray := mod3'.list (l1.at fun o e => k2' _ _ e) (by simpa using nSL)
  have l3T : h3.IsList T ts.toArray := mod3'.list l2' (by simpa using nTL)
  -- m, n
  refine wpAny_execs_cons (assign_pair X.hh (X.loc _ (by decide)) (X.loc _ (by decide)) X.nf (by rfl) (by rfl) ?_)
  refine ev_len hk (X.loc _ (by decide)) (by decide) X.len keep3 hn3 (upd_same _ _ _) l3S (by simp; omega) fun tm tk4 => ?_
  refine ev_len hk (X.loc _ (by decide)) (by decide) X.len keep3 hn3 (by rw [upd_ne _ _ (by decide), upd_same]) l3T (by simp; omega) fun tn tk5 => ?_
  refine ⟨_, hn3, fun h6 tk6 hn6 mod6 => ?_⟩
  have mod6' : Mod [L] h3 h6 := mod6
  have keep6 : ∀ b o, h₀.get? b = some o → h6.get? b = some o := Mod.keep keep3 mod6' (by simpa using newL)
  -- NULL
  refine wpAny_execs_cons (wpAny_Assign_Name (wpAny_Call_ofName (X.object _ _ _ _ keep6 ?_)))
  show wpAny _ A (callWith _ (.type "object") [] (backTo _ (starEach [] (envOf nm (scopeAt 5) L fa cd))) []) _ _ _
  refine PyProof.Rows.callWith_type0 (call_object fun h7 hO7 k7 => ?_)
  have k7' : ∀ b o, h6.get? b = some o → h7.get? b = some o := k7
  have hO7' : IsNull h7 h6.objs.size := hO7
  have nO : h6.get? h6.objs.size = none := get_none _
  refine wpAny_storeName_local (X.loc _ (by decide)) (hn6.at fun o e => k7' _ _ e) (fun h8 hn8 hs8 => ?_) X.nf
  have mod8 : Mod [L] h7 h8 := Mod.same (a := L) hs8 (by simp)
  show wpAny _ _ _ _ _ _
  generalize hOe : h6.objs.size = O at *
  have nOL : O ≠ L := by obtain ⟨o, _, _, e, _⟩ := hn6; exact Ne.symm (ne_of_get e nO)
  have nOS : O ≠ S := by obtain ⟨o, e, _⟩ := mod6'.list l3S (by simpa using nSL); exact Ne.symm (ne_of_get e nO)
  have nOT : O ≠ T := by obtain ⟨o, e, _⟩ := mod6'.list l3T (by simpa using nTL); exact Ne.symm (ne_of_get e nO)
  have hO8 : IsNull h8 O := mod8 O _ (by simpa using nOL) hO7'
  have l8S : h8.IsList S us.toArray := mod8.list ((mod6'.list l3S (by simpa using nSL)).at fun o e => k7' _ _ e) (by simpa using nSL)
  have l8T : h8.IsList T ts.toArray := mod8.list ((mod6'.list l3T (by simpa using nTL)).at fun o e => k7' _ _ e) (by simpa using nTL)
  have keep8 : ∀ b o, h₀.get? b = some o → h8.get? b = some o := Mod.keep (fun b o e => k7' b o (keep6 b o e)) mod8 (by simpa using newL)
  -- result
  refine wpAny_execs_cons (wpAny_Assign_Name (List_ (Calls.spliced_nil (wpAny_newObj_type ?_ (by size_fits)))))
  have nR : h8.get? h8.objs.size = none := get_none _
  have up9 : ∀ b o, h8.get? b = some o → (h8.push { cls := .type "list", data := .seq ([] : List Value).toArray }).get? b = some o := fun b o e => Heap.get?_push_of_some _ e
  have hR9 : PlainL (h8.push { cls := .type "list", data := .seq ([] : List Value).toArray }) h8.objs.size #[] := ⟨_, _, Heap.get?_push_size _ rfl, rfl, rfl, rfl⟩
  show wpAny _ _ (storeName _ _ (.ref h8.objs.size)) _ _ { s with heap := h8.push { cls := .type "list", data := .seq ([] : List Value).toArray }, toks := _ }
  generalize h8.push { cls := .type "list", data := .seq ([] : List Value).toArray } = h9 at *
  refine wpAny_storeName_local (X.loc _ (by decide)) (hn8.at fun o e => up9 _ _ e) (fun h10 hn10 hs10 => ?_) X.nf
  have mod10 : Mod [L] h9 h10 := Mod.same (a := L) hs10 (by simp)
  generalize hRe : h8.objs.size = R at *
  have nRL : R ≠ L := by obtain ⟨o, _, _, e, _⟩ := hn8; exact Ne.symm (ne_of_get e nR)
  have nRS : S ≠ R := by obtain ⟨o, e, _⟩ := l8S; exact ne_of_get e nR
  have nRT : T ≠ R := by obtain ⟨o, e, _⟩ := l8T; exact ne_of_get e nR
  have nOR : O ≠ R := ne_of_get hO8 nR
  have newR : h₀.get? R = none := by
    cases e : h₀.get? R with
    | none => rfl
    | some o => have := keep8 _ _ e; rw [nR] at this; cases this
  have keep10 : ∀ b o, h₀.get? b = some o → h10.get? b = some o := Mod.keep (fun b o e => up9 b o (keep8 b o e)) mod10 (by simpa using newL)
  have new4 : ∀ x ∈ [L, S, T, R], h₀.get? x = none := by
    intro x hx; simp only [List.mem_cons, List.not_mem_nil, or_false] at hx
    rcases hx with h | h | h | h
    · exact h ▸ newL
    · exact h ▸ newS
    · exact h ▸ newT
    · exact h ▸ newR
  have l10S : h10.IsList S us.toArray := mod10.list (l8S.at fun o e => up9 _ _ e) (by simpa using nSL)
  have l10T : h10.IsList T ts.toArray := mod10.list (l8T.at fun o e => up9 _ _ e) (by simpa using nTL)
  have hR10 : PlainL h10 R #[] := plainL_mod hR9 mod10 (by simpa using nRL)
  have hO10 : IsNull h10 O := mod10 O _ (by simpa using nOL) (up9 _ _ hO8)
  refine wpAny_execs_cons (outer1 (S := S) (T := T) (O := O) (R := R) (us := us) (ts := ts) (a := a) (b := b) (X.at _ _) keep10 new4 hn10
    (by show upd (upd (upd (upd (upd (upd m "t" _) "s" _) "n" _) "m" _) "NULL" _) "result" _ _ = _; rw [upd_ne _ _ (by decide), upd_ne _ _ (by decide), upd_ne _ _ (by decide), upd_ne _ _ (by decide), upd_same])
    (by show upd (upd (upd (upd (upd (upd m "t" _) "s" _) "n" _) "m" _) "NULL" _) "result" _ _ = _; rw [upd_ne _ _ (by decide), upd_ne _ _ (by decide), upd_ne _ _ (by decide), upd_ne _ _ (by decide), upd_ne _ _ (by decide), upd_same])
    tm
    (by show upd (upd (upd (upd (upd (upd m "t" _) "s" _) "n" _) "m" _) "NULL" _) "result" _ _ = _; rw [upd_ne _ _ (by decide), upd_ne _ _ (by decide), upd_same]; simp [hla])
    (by show upd (upd (upd (upd (upd (upd m "t" _) "s" _) "n" _) "m" _) "NULL" _) "result" _ _ = _; rw [upd_ne _ _ (by decide), upd_same])
    (by show upd (upd (upd (upd (upd (upd m "t" _) "s" _) "n" _) "m" _) "NULL" _) "result" _ _ = _; rw [upd_same])
    l10S l10T hR10 hO10 ⟨nSL, nTL, nRL, nOL, nST, nRS, nRT, nOS, nOT, nOR⟩ hla hlb h64a h64b
    (fun p v y e1 e2 => (cs p v y e1 e2).keep keep10 new4) (fun p v y e1 e2 => (ct p v y e1 e2).keep keep10 new4) ?_)
  intro h11 tk11 m11 rs hn11 names11 l11T hR11 hp11 mod11
  have mod11' : Mod [L, S, T, R] h10 h11 := mod11
  have keep11 : ∀ b o, h₀.get? b = some o → h11.get? b = some o := Mod.keep keep10 mod11' new4
  have nO4 : O ∉ [L, S, T, R] := by simp only [List.mem_cons, List.not_mem_nil, or_false, not_or]; exact ⟨nOL, nOS, nOT, nOR⟩
  have new3 : ∀ x ∈ [L, T, R], h₀.get? x = none := fun x hx => new4 x (by simp only [List.mem_cons, List.not_mem_nil, or_false] at hx ⊢; rcases hx with h | h | h <;> simp [h])
  have sub3 : ∀ x ∈ [L, T, R], x ∈ [L, S, T, R] := by intro x hx; simp only [List.mem_cons, List.not_mem_nil, or_false] at hx ⊢; rcases hx with h | h | h <;> simp [h]
  refine wpAny_execs_cons (outer2 (T := T) (O := O) (R := R) (ts := ts) (rs₀ := rs) (a := a) (b := b) (d₀ := due1 a b a.length) (X.at _ _) keep11 new3 hn11
    (by rw [names11 _ (by decide)]; show upd (upd (upd (upd (upd (upd m "t" _) "s" _) "n" _) "m" _) "NULL" _) "result" _ _ = _; rw [upd_ne _ _ (by decide), upd_ne _ _ (by decide), upd_ne _ _ (by decide), upd_ne _ _ (by decide), upd_ne _ _ (by decide), upd_same])
    tn
    (by rw [names11 _ (by decide)]; show upd (upd (upd (upd (upd (upd m "t" _) "s" _) "n" _) "m" _) "NULL" _) "result" _ _ = _; rw [upd_ne _ _ (by decide), upd_ne _ _ (by decide), upd_ne _ _ (by decide), upd_same]; simp [hlb])
    (by rw [names11 _ (by decide)]; show upd (upd (upd (upd (upd (upd m "t" _) "s" _) "n" _) "m" _) "NULL" _) "result" _ _ = _; rw [upd_ne _ _ (by decide), upd_same])
    (by rw [names11 _ (by decide)]; show upd (upd (upd (upd (upd (upd m "t" _) "s" _) "n" _) "m" _) "NULL" _) "result" _ _ = _; rw [upd_same])
    l11T hR11 (Paired.mono (fun v x c => ?_) hp11) (Nat.le_trans (due1_length _ _ _) h64a) (mod11' O _ nO4 hO10) ⟨nTL, nRL, nOL, nRT, nOT, nOR⟩ hlb h64b
    (fun p v y e1 e2 => (ct p v y e1 e2).keep keep11 new3) ?_)
  · obtain ⟨p, d, n, t1, t2, u, e, hp, g, cu⟩ := c
    exact ⟨p, d, n, t1, t2, u, e, fun q => hp (sub3 _ q), g, cu.less sub3⟩
  intro h12 tk12 m12 rs' hn12 names12 hR12 hp12 mod12
  have mod12' : Mod [L, T, R] h11 h12 := mod12
  refine wpAny_execs_cons (wpAny_Return_some (ev_name hk (X.loc _ (by decide)) hn12 (v := .ref R) ?_ ?_))
  · rw [names12 _ (by decide), names11 _ (by decide)]
    show upd (upd (upd (upd (upd (upd m "t" _) "s" _) "n" _) "m" _) "NULL" _) "result" _ _ = _
    rw [upd_same]
  · refine post h12 tk12 m12 R rs' newR nRL hn12 (Mod.keep keep11 mod12' new3) hR12 (Paired.mono (fun v x c => ?_) hp12)
    obtain ⟨p, d, n, t1, t2, u, e, hp, g, cu⟩ := c
    have sub2 : ∀ x ∈ [L, R], x ∈ [L, T, R] := by intro x hx; simp only [List.mem_cons, List.not_mem_nil, or_false] at hx ⊢; rcases hx with h | h <;> simp [h]
    exact ⟨p, d, n, t1, t2, u, e, fun q => hp (sub2 _ q), g, cu.less sub2⟩
end
end Mine
end

section
open PySem PySem.W PyProof.Rows PySem.SeqAt
set_option maxRecDepth 100000
set_option maxHeartbeats 1000000
namespace Mine

/-- What is looked up of a class at C under «tuple» that makes its instances by a def of its own. -/
structure TupCls (M : Model) (h : Heap) (C : Addr) : Prop where
  obj : ∃ cd sl, h.get? C = some ⟨.type "type", none, .cls cd, sl⟩ ∧ cd.hasDel = false ∧ cd.mro = [.ref C, .type "tuple", .type "object"]
  call : Looks M h (specialOf (.ref C) "__call__") (some (.builtin "type.__call__"))
  typ : Looks M h (isInstance (.ref C) (.type "type")) true
  made : Looks M h (Bind.madeBy (.ref C)) none
  base : Looks M h (Bind.staticBase (.ref C)) (.type "tuple")
  init : Looks M h (typeLookup (.ref C) "__init__") (some (.builtin "object.__init__"))
theorem TupCls.keeps {M : Model} {h h' : Heap} {C : Addr} (Y : TupCls M h C) (k : ∀ b o, h.get? b = some o → h'.get? b = some o) : TupCls M h' C := by
  obtain ⟨⟨cd, sl, e, r⟩, a, b, c, d, f⟩ := Y
  exact ⟨⟨cd, sl, k _ _ e, r⟩, a.keeps k, b.keeps k, c.keeps k, d.keeps k, f.keeps k⟩
theorem TupCls.sub {M : Model} {h : Heap} {C : Addr} (Y : TupCls M h C) {b : Value} {r : Bool} (e : [Value.ref C, .type "tuple", .type "object"].contains b = r) : Looks M h (isSubtype (.ref C) b) r := by
  obtain ⟨⟨cd, sl, hC, _, hm⟩, _⟩ := Y
  have m : Looks M h (mroOf (.ref C)) [.ref C, .type "tuple", .type "object"] := by
    have : Looks M h (mroOf (.ref C)) cd.mro := ((Looks.ld (part := none) hC).andThen .now).andThen .now
    rwa [hm] at this
  unfold isSubtype
  refine m.andThen ?_
  exact Looks.of_pure (by rw [← e]; rfl)

section
variable {prog : Program} {w : World} {A : Around} {C : Addr} {h : Heap} {g : Array GenState} {d : Drawn} {t : Nat} {os : OsState}

theorem oi_args4 (a b c d : Value) : argsOk "object.__init__" ⟨[a, b, c, d], []⟩ := by unfold argsOk; kernel_rfl

/-- The class called with three arguments: by way of its own __new__, at f. -/
theorem tupCls_call {f : Addr} {a1 a2 a3 : Value} {R : Result → Shared → Prop} (Y : TupCls (model prog w) h C)
    (hattr : ∀ (A' : Around) (Q : Value → Shared → Prop) (E : Value → Shared → Prop), (∀ t', Q (.ref f) ⟨h, g, d, t', os⟩) → wpAny (model prog w) A' (getAttr (.ref C) "__new__") Q E ⟨h, g, d, t, os⟩)
    (hq : ∀ t', codeAny (model prog w) (A.under (.builtin "type.__call__" ⟨[.ref C, a1, a2, a3], []⟩)) (.call (.ref f) ⟨[.ref C, a1, a2, a3], []⟩) (fun r s' => match r with
      | .ok (.ret v) => ∃ p h' t'' dd its n, v = .ref p ∧ s' = ⟨h', g, d, t'', os⟩ ∧ (∀ b o, h.get? b = some o → h'.get? b = some o) ∧ h'.get? p = some { cls := .ref C, dict := dd, data := .seq its n } ∧ R (.ok (.ret (.ref p))) s'
      | .ok _ => False
      | .error e => R (.error e) s') ⟨h, g, d, t', os⟩) :
    codeAny (model prog w) A (.call (.ref C) ⟨[a1, a2, a3], []⟩) R ⟨h, g, d, t, os⟩ := by
  have Y' := Y
  obtain ⟨⟨cd, sl, hC, e2, em⟩, call, typ, made, base, init⟩ := Y
  refine codeAny_of_tree ?_
  show wpAny _ _ (callAny (.ref C) _) _ _ _
  refine nd_load hC ?_
  show wpAny _ _ (callAny.viaDunder (.ref C) _) _ _ _
  unfold callAny.viaDunder
  refine wpAny_bind (call.at ?_)
  dsimp only
  rw [tc_bind]
  refine wpAny_bind (wpAny_pure (wpAny_bind (wpAny_pure ?_)))
  refine wpAny_pure (a := Fin.again (.call (.builtin "type.__call__") ⟨[.ref C, a1, a2, a3], []⟩)) (And.intro rfl ?_)
  refine codeAny_call_builtin_at (Code.quiet_builtin _ (by decide +kernel)) entry_typeCall (check_slot tc_kind tc_split typ (tc_args _ _ _) ?_)
  unfold Builtin.«type.__call__»
  have hm : Looks (model prog w) h (mroOf (.ref C)) [.ref C, .type "tuple", .type "object"] := by
    have : Looks (model prog w) h (mroOf (.ref C)) cd.mro := ((Looks.ld (part := none) hC).andThen .now).andThen .now
    rwa [em] at this
  repeat (first | with_reducible refine hattr _ _ _ ?_ | lk)
  intro t'
  refine wpAny_bind (wpAny_holding (wpAny_call (codeAny_mono (hq t') fun r s' z => ?_)))
  rcases r with e | (v | _ | _ | _) <;> first | exact z | exact z.elim | skip
  obtain ⟨p, h', t'', dd, its, n, rfl, rfl, k, hp, hR⟩ := z
  have Z := Y'.keeps k
  have t1 : Looks (model prog w) h' (typeOf (.ref p)) (.ref C) := (Looks.ld hp).andThen .now
  have i1 : Looks (model prog w) h' (isInstance (.ref p) (.ref C)) true := t1.andThen (Z.sub (by simp))
  have i2 : Looks (model prog w) h' (isInstance (.ref p) (.type "object")) true := t1.andThen (Z.sub (by simp))
  refine wpAny_bind (i1.at ?_)
  rw [if_neg (by decide)]
  refine wpAny_bind (wpAny_holding ?_)
  unfold callSpecial?
  have sp : Looks (model prog w) h' (specialOf (.ref p) "__init__") (some (.builtin "object.__init__")) := t1.andThen Z.init
  refine wpAny_bind (sp.at ?_)
  refine wpAny_holding (wpAny_bind (wpAny_of_eq (oi_bind (.ref p)) (wpAny_bind (wpAny_call ?_))))
  refine codeAny_call_builtin oi_plain entry_oi (check_slot oi_kind oi_split i2 (oi_args4 _ _ _ _) ?_)
  have tl := Z.init
  have md := Z.made
  unfold Builtin.«object.__init__»
  repeat lk
  exact hR
end
end Mine
end

section
open PySem PySem.W PyProof.Rows PySem.SeqAt
set_option maxRecDepth 100000
set_option maxHeartbeats 1000000
namespace Mine
theorem tn_kind : builtinKind "tuple.__new__" = some .builtinFn := by decide +kernel
theorem tn_split : splitId "tuple.__new__" = some ("tuple", "__new__") := by decide +kernel
theorem tn_args (a b : Value) : argsOk "tuple.__new__" ⟨[a, b], []⟩ := by unfold argsOk; kernel_rfl
theorem tn_plain : plainId "tuple.__new__" = true := by decide +kernel
theorem stub_tuple : Manifest.isStub "tuple" = false := by decide +kernel
theorem tuple_new_found : findCls ([] : Frag) (.type "tuple") (.type "type") ("__new__" : Str) = some (.val (.builtin "tuple.__new__")) := by kernel_rfl
theorem getMethod_tupleNew {prog : Program} {w : World} {A : Around} {E : Value → Shared → Prop} {s : Shared} {h₀ : Heap} {L : Addr} {m : Str → Option Value} {pl : Sem Bool} {Q : Value × List Value → Shared → Prop}
    (F : Fr h₀ L s.heap m) (h : Q (.builtin "tuple.__new__", []) { s with toks := s.toks + 1 }) : wpAny (model prog w) A (getMethod (.type "tuple") ("__new__" : Str) pl) Q E s := by
  have X : Frag.In [] h₀ := fun _ _ e => nomatch e
  have hh : handedIn (.builtin "tuple.__new__") = true := rfl
  have z := @PySem.W.method_type prog w A E s [] L h₀ m ("__new__" : Str) (.builtin "tuple.__new__") "tuple" pl Q F X
  exact z PyProof.Rows.meta_tuple stub_tuple tuple_new_found hh h
section
variable {prog : Program} {w : World} {A : Around} {C : Addr} {h : Heap} {g : Array GenState} {d : Drawn} {t : Nat} {os : OsState}

theorem tupCls_new {t0 : Addr} {its : Array Value} {n0 : Nat} {R : Result → Shared → Prop} (Y : TupCls (model prog w) h C) (ht : h.get? t0 = some { cls := .type "tuple", data := .seq its n0 }) (hsz : its.size ≤ sizeLine)
    (hq : ∀ p h' dd, h.get? p = none → (∀ b o, h.get? b = some o → h'.get? b = some o) → h'.get? p = some { cls := .ref C, dict := dd, data := .seq its 0 } → R (.ok (.ret (.ref p))) ⟨h', g, d, t, os⟩) :
    codeAny (model prog w) A (.call (.builtin "tuple.__new__") ⟨[.ref C, .ref t0], []⟩) R ⟨h, g, d, t, os⟩ := by
  have Y' := Y
  obtain ⟨⟨cd, sl, hC, e2, em⟩, call, typ, made, base, init⟩ := Y
  have isT : Looks (model prog w) h (isType (.ref C)) true := (Looks.ld (part := none) hC).andThen .now
  have subT : Looks (model prog w) h (isSubtype (.ref C) (.type "tuple")) true := Y'.sub (by simp)
  have madeT : Looks (model prog w) h (Bind.madeBy (.type "tuple")) (some "tuple.__new__") := Looks.of_pure PySem.F.called_tuple.made
  refine codeAny_call_builtin tn_plain PySem.F.entry_tuple_new ?_
  have chk : wpAny (model prog w) A.in1 (checkBuiltinCall "tuple.__new__" ⟨[.ref C, .ref t0], []⟩) (fun _ s₁ => wpAny (model prog w) A.in1 (Builtin.«tuple.__new__» ⟨[.ref C, .ref t0], []⟩)
      (fun fin s' => match fin with | .done f => R (.ok f) s' | .again c' => c'.quiet = true ∧ codeAny (model prog w) A c' R s') (fun e s' => R (.error e) s') s₁) (fun e s' => R (.error e) s') ⟨h, g, d, t, os⟩ := by
    simp only [checkBuiltinCall, tn_kind, tn_split]
    have ha := tn_args (.ref C) (.ref t0)
    rw [if_pos (by decide)]
    refine wpAny_bind (isT.at ?_)
    rw [if_neg (by decide)]
    refine wpAny_bind (subT.at ?_)
    rw [if_neg (by decide)]
    refine wpAny_bind (base.at ?_)
    refine wpAny_bind (madeT.at ?_)
    dsimp only
    rw [if_neg (by simp)]
    have fin : wpAny (model prog w) A.in1 (Builtin.«tuple.__new__» ⟨[.ref C, .ref t0], []⟩) (fun fin s' => match fin with | .done f => R (.ok f) s' | .again c' => c'.quiet = true ∧ codeAny (model prog w) A c' R s') (fun e s' => R (.error e) s') ⟨h, g, d, t, os⟩ := by
      have hH : Looks (model prog w) h (Bind.madeHere "tuple.__new__" (.ref C)) () := base.andThen (madeT.andThen (Looks.of_pure (by simp)))
      unfold Builtin.«tuple.__new__»
      dsimp only
      refine wpAny_bind (isT.at ?_)
      rw [if_neg (by decide)]
      refine wpAny_bind (subT.at ?_)
      rw [if_neg (by decide)]
      refine wpAny_bind (hH.at ?_)
      refine wpAny_bind (init.at ?_)
      rw [if_pos (by simp)]
      refine wpAny_bind (wpAny_of_eq (a := ()) (by kernel_rfl) ?_)
      refine wpAny_bind (wpAny_of_eq (a := ()) (by kernel_rfl) ?_)
      rw [if_neg (by simp)]
      refine wpAny_bind (wpAny_collect_seq t0 (.inr rfl) ht rfl rfl (fun h₁ k₁ => ?_) hsz)
      refine wpAny_bind (wpAny_pure ?_)
      have k₁' : ∀ b o, h.get? b = some o → h₁.get? b = some o := k₁
      refine wpAny_bind (wpAny_alloc ?_)
      have eits : its.toList.toArray = its := by simp
      rw [eits]
      have k₂ : ∀ b o, h₁.get? b = some o → (h₁.push { cls := .type "dict", data := .dict #[] }).get? b = some o := fun b o e => Heap.get?_push_of_some _ e
      show wpAny _ _ (newObj (.ref C) (.seq its) (some h₁.objs.size) >>= _) _ _ ⟨h₁.push { cls := .type "dict", data := .dict #[] }, g, d, t, os⟩
      generalize h₁.push { cls := .type "dict", data := .dict #[] } = h₂ at k₂ ⊢
      refine wpAny_bind ?_
      unfold newObj
      dsimp only
      rw [if_neg (by omega)]
      show wpAny _ _ (newObjAsIs _ _ _) _ _ _
      unfold newObjAsIs classHasDel
      refine wpAny_bind (wpAny_alloc ?_)
      dsimp only
      refine wpAny_bind (wpAny_bind (wpAny_load (Heap.get?_push_of_some _ (k₂ _ _ (k₁' _ _ hC))) ?_))
      refine wpAny_pure ?_
      rw [e2]
      refine wpAny_pure (wpAny_pure ?_)
      refine hq h₂.objs.size _ (some h₁.objs.size) ?_ (fun b o e => Heap.get?_push_of_some _ (k₂ _ _ (k₁' _ _ e))) (Heap.get?_push_size _ rfl)
      cases e : h.get? h₂.objs.size with
      | none => rfl
      | some o => exact absurd (Heap.lt_size (k₂ _ _ (k₁' _ _ e))) (Nat.lt_irrefl _)
    unfold argsOk at ha
    cases hsig : Manifest.signature? "tuple.__new__" with
    | none => exact wpAny_pure fin
    | some sig =>
      rw [hsig] at ha
      have h2 : Bind.checkArgs "tuple.__new__" sig ⟨[.ref C, .ref t0], []⟩ = pure () := ha
      dsimp only
      rw [h2]
      exact wpAny_pure fin
  exact chk
end
end Mine
end

section
open PySem PySem.W PyProof.Rows PySem.SeqAt
set_option maxRecDepth 100000
namespace Mine
section
variable {prog : Program} {w : World} {A : Around} {E : Value → Shared → Prop} {s : Shared} {env : Env} {m : Str → Option Value} {h₀ : Heap}

theorem fr_any {h : Heap} {L : Addr} (hns : h.Ns L m) : Fr ({ objs := #[] } : Heap) L h m := ⟨hns, fun _ _ e => by simp [Heap.get?] at e, Nat.zero_le _⟩

/-- The body of a named tuple's __new__. -/
theorem new_walk {C : Addr} {d : Str} {k1 k2 : Nat} {p1 p2 p3 p4 p5 p6 p7 p8 p9 p10 p11 : Pos} {pl : Sem Bool} {a1 a2 a3 : Value} {Q : Flow → Shared → Prop}
    (hk : env.scope.kind = .function) (quiet : interactive env = false) (loc : ∀ x ∈ ([("_cls" : Str), "actual", "expected", "value"] : List Str), env.kindOf x = some .local)
    (gt : Glb prog w A env h₀ "tuple" (.type "tuple")) (Y : TupCls (model prog w) h₀ C) (keep : ∀ b o, h₀.get? b = some o → s.heap.get? b = some o)
    (he : eval (.Call (.Attribute (.Name ("tuple" : Str) p3) ("__new__" : Str) p4) [.Name ("_cls" : Str) p5, .Tuple [.Name ("actual" : Str) p6, .Name ("expected" : Str) p7, .Name ("value" : Str) p8] k2 p9] [] p10) env = (do
      let ov ← eval (.Name ("tuple" : Str) p3) env
      standAt p4.atName
      let (f, first) ← holding [ov] (getMethod ov ("__new__" : Str) pl)
      callWith p10 f first (backTo p10 (starEach [.Name ("_cls" : Str) p5, .Tuple [.Name ("actual" : Str) p6, .Name ("expected" : Str) p7, .Name ("value" : Str) p8] k2 p9] env)) []))
    (hns : s.heap.Ns env.locals m) (mc : m ("_cls" : Str) = some (.ref C)) (m1 : m ("actual" : Str) = some a1) (m2 : m ("expected" : Str) = some a2) (m3 : m ("value" : Str) = some a3)
    (post : ∀ p h' tk' dd, s.heap.get? p = none → (∀ b o, s.heap.get? b = some o → h'.get? b = some o) → h'.get? p = some { cls := .ref C, dict := dd, data := .seq #[a1, a2, a3] 0 } → Q (.ret (.ref p)) { s with heap := h', toks := tk' }) :
    wpAny (model prog w) A (execs [.Expr (.Constant (.str d) k1 p1) p2, .Return (some (.Call (.Attribute (.Name ("tuple" : Str) p3) ("__new__" : Str) p4) [.Name ("_cls" : Str) p5, .Tuple [.Name ("actual" : Str) p6, .Name ("expected" : Str) p7, .Name ("value" : Str) p8] k2 p9] [] p10)) p11] env) Q E s := by
  refine wpAny_execs_cons (wpAny_Expr (Calls.Constant_str ?_) quiet)
  refine wpAny_execs_cons (wpAny_Return_some (MethodCall_ (pl := pl) (gt _ _ _ _ keep ?_) he))
  refine getMethod_tupleNew (fr_any hns) ?_
  dsimp only
  refine callWith_method1 ?_
  refine Calls.spliced_cons (ev_name hk (loc _ (by decide)) hns mc ?_)
  refine Calls.spliced_cons (Tuple_ (k := k2) ?_)
  refine Calls.spliced_cons (ev_name hk (loc _ (by decide)) hns m1 ?_)
  refine Calls.spliced_cons (ev_name hk (loc _ (by decide)) hns m2 ?_)
  refine Calls.spliced_cons (ev_name hk (loc _ (by decide)) hns m3 ?_)
  refine Calls.spliced_nil (wpAny_newObj_type ?_ (by size_fits))
  refine Calls.spliced_nil ?_
  have up : ∀ b o, s.heap.get? b = some o → (s.heap.push { cls := .type "tuple", data := .seq #[a1, a2, a3] }).get? b = some o := fun b o e => Heap.get?_push_of_some _ e
  have ht : (s.heap.push { cls := .type "tuple", data := .seq #[a1, a2, a3] }).get? s.heap.objs.size = some { cls := .type "tuple", data := .seq #[a1, a2, a3] } := Heap.get?_push_size _ rfl
  show wpAny _ _ (call (.builtin "tuple.__new__") [.ref C, .ref s.heap.objs.size]) _ _ { s with heap := s.heap.push { cls := .type "tuple", data := .seq #[a1, a2, a3] }, toks := _ }
  generalize s.heap.push { cls := .type "tuple", data := .seq #[a1, a2, a3] } = h₁ at up ht ⊢
  refine wpAny_call (tupCls_new (Y.keeps fun b o e => up b o (keep b o e)) ht (by size_fits) fun p h' dd hp k hg => ?_)
  refine post p h' _ dd ?_ (fun b o e => k b o (up b o e)) hg
  cases e : s.heap.get? p with
  | none => rfl
  | some o => rw [up _ _ e] at hp; cases hp
end
end Mine
end

section
open PySem PySem.W PyProof.Rows PySem.SeqAt
set_option maxRecDepth 100000
namespace Mine

/-- us are lists of one int each, these: a -/
def Cells (W : List Addr) (h : Heap) (us : List Value) (a : List Int) : Prop := Paired (Cell W h) us a
theorem Cells.get {W : List Addr} {h : Heap} : ∀ {us : List Value} {a : List Int}, Cells W h us a → ∀ (p : Nat) v y, us[p]? = some v → a[p]? = some y → Cell W h v y
  | _, _, .nil, p, v, y, e, _ => by simp at e
  | _, _, .cons c r, 0, v, y, e1, e2 => by
    simp only [List.getElem?_cons_zero, Option.some.injEq] at e1 e2
    subst e1 e2; exact c
  | _, _, .cons c r, p + 1, v, y, e1, e2 => by
    simp only [List.getElem?_cons_succ] at e1 e2
    exact Cells.get r p v y e1 e2
theorem Cells.exists {W : List Addr} {h : Heap} : ∀ {us : List Value}, (∀ v ∈ us, ∃ x, Cell W h v x) → ∃ a, Cells W h us a
  | [], _ => ⟨[], .nil⟩
  | v :: us, H => by
    obtain ⟨x, c⟩ := H v List.mem_cons_self
    obtain ⟨a, r⟩ := Cells.exists (us := us) fun v hv => H v (List.mem_cons_of_mem _ hv)
    exact ⟨x :: a, .cons c r⟩
theorem Cells.mod {W : List Addr} {h h' : Heap} {us : List Value} {a : List Int} (c : Cells W h us a) (m : Mod W h h') : Cells W h' us a := Paired.mono (fun _ _ x => x.mod m) c
theorem Cells.take {W : List Addr} {h : Heap} : ∀ {us : List Value} {a : List Int}, Cells W h us a → ∀ k, Cells W h (us.take k) (a.take k)
  | _, _, _, 0 => by simp only [List.take_zero]; exact .nil
  | _, _, .nil, _ + 1 => .nil
  | _, _, .cons c r, k + 1 => .cons c (Cells.take r k)

theorem Cell.unique {W : List Addr} {h : Heap} {v : Value} {x y : Int} (c : Cell W h v x) (d : Cell W h v y) : x = y := by
  obtain ⟨a, t, n, e, _, g⟩ := c
  obtain ⟨a', t', n', e', _, g'⟩ := d
  rw [e] at e'; cases e'
  rw [g] at g'
  have := congrArg Obj.data (Option.some.inj g')
  simp at this
  exact this.1.1

open Classical in
noncomputable def isCell (W : List Addr) (h : Heap) (x : Int) (v : Value) : Bool := decide (Cell W h v x)
theorem isCell_of {W : List Addr} {h : Heap} {x y : Int} {v : Value} (c : Cell W h v y) : isCell W h x v = (y == x) := by
  unfold isCell
  by_cases e : y = x
  · subst e; simp [c]
  · have : ¬ Cell W h v x := fun d => e (c.unique d)
    simp [this, e]
theorem any_cells {W : List Addr} {h : Heap} {x : Int} : ∀ {us : List Value} {a : List Int}, Cells W h us a → us.any (isCell W h x) = a.contains x
  | _, _, .nil => rfl
  | _, _, .cons (b := y) c r => by
    rw [List.any_cons, isCell_of c, any_cells r, List.contains_cons]
    congr 1
    exact BEq.comm
theorem count_cells {W : List Addr} {h : Heap} {x : Int} : ∀ {us : List Value} {a : List Int}, Cells W h us a → us.countP (isCell W h x) = a.count x
  | _, _, .nil => rfl
  | _, _, .cons (b := y) c r => by
    rw [List.countP_cons, isCell_of c, count_cells r, List.count_cons]

section
variable {prog : Program} {w : World} {A : Around} {E : Value → Shared → Prop} {s : Shared} {env : Env} {m : Str → Option Value} {h₀ : Heap}

theorem cells_eqAt {W : List Addr} {us : List Value} {a : List Int} {v : Value} {x : Int} (hu : A.units + 3 < cLine) (c : Cells W s.heap us a) (d : Cell W s.heap v x) : ∀ y ∈ us, EqAt A.in1 s y v (isCell W s.heap x y) := by
  intro y hy
  obtain ⟨p, hp, e⟩ := List.mem_iff_getElem.mp hy
  have hl : us.length = a.length := Paired.length c
  have cy := Cells.get c p y (a[p]'(by omega)) (by rw [List.getElem?_eq_getElem hp, e]) (List.getElem?_eq_getElem (by omega))
  rw [isCell_of cy]
  exact cell_eqAt (by show A.units + 1 + 2 < cLine; omega) cy d

theorem notIn_cells {W : List Addr} {l : Addr} {us : List Value} {a : List Int} {v : Value} {x : Int} {Q : Value → Shared → Prop} (hu : A.units + 3 < cLine) (hl : s.heap.IsList l us.toArray) (c : Cells W s.heap us a) (d : Cell W s.heap v x) (h : Q (.bool (!a.contains x)) s) :
    wpAny (model prog w) A (compareOp .NotIn v (.ref l)) Q E s := by
  refine notIn_listAt (isCell W s.heap x) hl (fun y hy => cells_eqAt hu c d y (by simpa using hy)) ?_
  have e : us.toArray.any (isCell W s.heap x) = a.contains x := by rw [List.any_toArray]; exact any_cells c
  rw [e]
  exact h

theorem call_count {W : List Addr} {l : Addr} {us : List Value} {a : List Int} {v : Value} {x : Int} {Q : Value → Shared → Prop} (hu : A.units + 3 < cLine) (hl : s.heap.IsList l us.toArray) (c : Cells W s.heap us a) (d : Cell W s.heap v x)
    (h : ∀ t tk', Q (.int (a.count x : Nat) t) { s with toks := tk' }) : wpAny (model prog w) A (call (.builtin "list.count") [.ref l, v]) Q E s := by
  obtain ⟨⟨cls, dd, data, sl⟩, ho, hc, n, hd⟩ := id hl
  simp only at hc hd
  subst hc hd
  refine call_meets PySem.F.slot_list_count ⟨_, ho, rfl⟩ PySem.F.entry_list_count (PySem.F.args_list_count_2 _ _) (list_countAt l us.toArray n dd sl v (isCell W s.heap x)) ⟨ho, fun y hy => ?_, ?_⟩
  · exact cells_eqAt hu c d y (by simpa using hy)
  · have e : us.toArray.toList.countP (isCell W s.heap x) = a.count x := by simpa using count_cells c
    rw [e]
    exact h _ _
end
end Mine
end

section
open PySem PySem.W PyProof.Rows PySem.SeqAt
set_option maxRecDepth 100000
namespace Mine

theorem PlainL.isList {h : Heap} {a : Addr} {its : Array Value} (x : PlainL h a its) : h.IsList a its := by
  obtain ⟨o, n, e, c, _, d⟩ := x
  exact ⟨o, e, c, n, d⟩
theorem PlainL.noDict {h : Heap} {a : Addr} {its : Array Value} (x : PlainL h a its) : h.NoDictAt (.ref a) := by
  obtain ⟨o, n, e, c, d, _⟩ := x
  exact ⟨o, e, d⟩

/-- how «xs.count(ys[j])» is evaluated: the method is taken, then the argument -/
def CountEq (env : Env) (xs ys jn : Str) (p1 p2 p3 p4 p5 p6 : Pos) : Prop :=
  ∃ pl : Sem Bool, eval (.Call (.Attribute (.Name xs p1) ("count" : Str) p2) [.Subscript (.Name ys p3) (.Name jn p4) p5] [] p6) env = (do
      let ov ← eval (.Name xs p1) env
      standAt p2.atName
      let (f, first) ← holding [ov] (getMethod ov ("count" : Str) pl)
      callWith p6 f first (backTo p6 (starEach [.Subscript (.Name ys p3) (.Name jn p4) p5] env)) [])

section
variable {prog : Program} {w : World} {A : Around} {E : Value → Shared → Prop} {s : Shared} {env : Env} {m : Str → Option Value} {h₀ : Heap}

/-- «xs[k]» -/
theorem ev_at {xs jn : Str} {p1 p2 p3 : Pos} {S : Addr} {us : List Value} {k : Nat} {t : Tok} {v : Value} {Q : Value → Shared → Prop}
    (hk : env.scope.kind = .function) (lx : env.kindOf xs = some .local) (lj : env.kindOf jn = some .local) (dx : (xs == ("__debug__" : Str)) = false) (dj : (jn == ("__debug__" : Str)) = false)
    (hns : s.heap.Ns env.locals m) (mx : m xs = some (.ref S)) (mj : m jn = some (.int (k : Int) t)) (hS : s.heap.IsList S us.toArray) (hv : us[k]? = some v) (hk64 : k < 64) (h : Q v s) :
    wpAny (model prog w) A (eval (.Subscript (.Name xs p1) (.Name jn p2) p3) env) Q E s :=
  wpAny_Subscript_Name (T := "list") slot_list_getitem.lookup (ev_name hk lx hns mx (ev_name hk lj hns mj ⟨hS.typeIs, wpAny_getItem_list hS (by omega) (by omega) (by simpa using hv) h⟩ dj) dx)

/-- «xs.count(ys[k])» -/
theorem ev_count {xs ys jn : Str} {p1 p2 p3 p4 p5 p6 : Pos} {S T : Addr} {us ts : List Value} {a : List Int} {k : Nat} {t : Tok} {v : Value} {x : Int} {Q : Value → Shared → Prop}
    (he : CountEq env xs ys jn p1 p2 p3 p4 p5 p6)
    (hu : A.units + 3 < cLine) (hk : env.scope.kind = .function) (lx : env.kindOf xs = some .local) (ly : env.kindOf ys = some .local) (lj : env.kindOf jn = some .local) (dx : (xs == ("__debug__" : Str)) = false) (dy : (ys == ("__debug__" : Str)) = false) (dj : (jn == ("__debug__" : Str)) = false)
    (hns : s.heap.Ns env.locals m) (mx : m xs = some (.ref S)) (my : m ys = some (.ref T)) (mj : m jn = some (.int (k : Int) t)) (hS : PlainL s.heap S us.toArray) (hT : s.heap.IsList T ts.toArray) (hv : ts[k]? = some v) (hk64 : k < 64)
    {W : List Addr} (c : Cells W s.heap us a) (d : Cell W s.heap v x) (h : ∀ t tk', Q (.int (a.count x : Nat) t) { s with toks := tk' }) :
    wpAny (model prog w) A (eval (.Call (.Attribute (.Name xs p1) ("count" : Str) p2) [.Subscript (.Name ys p3) (.Name jn p4) p5] [] p6) env) Q E s := by
  obtain ⟨pl, he⟩ := he
  refine MethodCall_ (pl := pl) (ev_name hk lx hns mx ?_ dx) he
  refine getMethod_list_of PySem.F.slot_list_count PySem.F.type_list_count (PlainL.isList hS) (PlainL.noDict hS) ?_
  dsimp only
  refine callWith_method1 ?_
  refine Calls.spliced_cons (ev_at hk ly lj dy dj hns my mj hT hv hk64 ?_)
  refine Calls.spliced_nil ?_
  exact call_count hu (PlainL.isList hS) c d h

/-- «xs[k] not in xs[:k]» -/
theorem test_fresh {xs : Str} {p1 p2 p3 p4 p5 p6 p7 p8 : Pos} {whole : Sem Value} {S : Addr} {us : List Value} {a : List Int} {k : Nat} {t : Tok} {v : Value} {x : Int} {Q : Bool → Shared → Prop}
    (hu : A.units + 3 < cLine) (hk : env.scope.kind = .function) (lx : env.kindOf xs = some .local) (lj : env.kindOf ("k" : Str) = some .local) (dx : (xs == ("__debug__" : Str)) = false)
    (hns : s.heap.Ns env.locals m) (mx : m xs = some (.ref S)) (mj : m ("k" : Str) = some (.int (k : Int) t)) (hS : s.heap.IsList S us.toArray) (hv : us[k]? = some v) (hlen : us.length ≤ 64)
    {W : List Addr} (c : Cells W s.heap us a) (d : Cell W s.heap v x) (h : ∀ h' tk', (∀ b o, s.heap.get? b = some o → h'.get? b = some o) → Q (!(a.take k).contains x) { s with heap := h', toks := tk' }) :
    wpAny (model prog w) A (isTrue (.Compare (.Subscript (.Name xs p1) (.Name ("k" : Str) p2) p3) [.NotIn] [.Subscript (.Name xs p4) (.Slice none (some (.Name ("k" : Str) p5)) none p6) p7] p8) env whole) Q E s := by
  have hklt : k < us.length := by
    obtain ⟨h1, _⟩ := List.getElem?_eq_some_iff.mp hv
    exact h1
  refine wpAny_isTrue_Compare1 (ev_at hk lx lj dx (by decide) hns mx mj hS hv (by omega) ?_)
  refine wpAny_Subscript_list_slice (ev_name hk lx hns mx ?_ dx)
  refine wpAny_evalPart_none (wpAny_evalPart_some (ev_name hk lj hns mj ?_))
  refine ⟨S, us.toArray, none, some (k : Int), rfl, hS, by simp [sizeLine]; omega, .none, .int _ _, ?_⟩
  rw [slicePick_upto']
  have up : ∀ b o, s.heap.get? b = some o → ((s.heap.push { cls := .type "slice", data := .fields #[.none, .int (k : Int) t, .none] }).push { cls := .type "list", data := .seq (us.toArray.toList.take k).toArray }).get? b = some o := fun b o e => Heap.get?_push_of_some _ (Heap.get?_push_of_some _ e)
  have hl : ((s.heap.push { cls := .type "slice", data := .fields #[.none, .int (k : Int) t, .none] }).push { cls := .type "list", data := .seq (us.toArray.toList.take k).toArray }).IsList (s.heap.objs.size + 1) (us.take k).toArray := by
    have g : ((s.heap.push { cls := .type "slice", data := .fields #[.none, .int (k : Int) t, .none] }).push { cls := .type "list", data := .seq (us.toArray.toList.take k).toArray }).get? (s.heap.push { cls := .type "slice", data := .fields #[.none, .int (k : Int) t, .none] }).objs.size = some { cls := .type "list", data := .seq (us.toArray.toList.take k).toArray } := Heap.get?_push_size _ rfl
    rw [Heap.size_push] at g
    exact ⟨_, g, rfl, 0, rfl⟩
  show wpAny _ _ (compareOp .NotIn v (.ref (s.heap.objs.size + 1))) _ _ { s with heap := (s.heap.push { cls := .type "slice", data := .fields #[.none, .int (k : Int) t, .none] }).push { cls := .type "list", data := .seq (us.toArray.toList.take k).toArray } }
  generalize (s.heap.push { cls := .type "slice", data := .fields #[.none, .int (k : Int) t, .none] }).push { cls := .type "list", data := .seq (us.toArray.toList.take k).toArray } = h' at up hl ⊢
  refine notIn_cells hu hl ((c.mod (h' := h') fun b o _ e => up b o e).take k) (d.mod (h' := h') fun b o _ e => up b o e) (wpAny_truthy_bool ?_)
  exact h h' _ up
end
end Mine
end

section
open PySem PySem.W PyProof.Rows PySem.SeqAt
set_option maxRecDepth 100000
namespace Mine

/-- a plain tuple of two counts and a cell -/
def Tri (W : List Addr) (h : Heap) (v : Value) (x : Int × Int × Int) : Prop :=
  ∃ p d n t1 t2 u, v = .ref p ∧ p ∉ W ∧ h.get? p = some { cls := .type "tuple", dict := d, data := .seq #[.int x.1 t1, .int x.2.1 t2, u] n } ∧ Cell W h u x.2.2
theorem Tri.mod {W : List Addr} {h h' : Heap} {v : Value} {x : Int × Int × Int} (c : Tri W h v x) (m : Mod W h h') : Tri W h' v x := by
  obtain ⟨p, d, n, t1, t2, u, e, hp, g, cu⟩ := c
  exact ⟨p, d, n, t1, t2, u, e, hp, m p _ hp g, cu.mod m⟩
theorem Tri.wide {W W' : List Addr} {h : Heap} {v : Value} {x : Int × Int × Int} (c : Tri W h v x) (n : ∀ b ∈ W', b ∈ W ∨ h.get? b = none) : Tri W' h v x := by
  obtain ⟨p, d, k, t1, t2, u, e, hp, g, cu⟩ := c
  exact ⟨p, d, k, t1, t2, u, e, fun q => (n p q).elim hp fun z => (by rw [z] at g; cases g), g, cu.wide n⟩
theorem tris_mod {W W' : List Addr} {h h' : Heap} {rs : List Value} {ds : List (Int × Int × Int)} (p : Paired (Tri W h) rs ds) (y : Mod W' h h') (n : ∀ b ∈ W', b ∈ W) : Paired (Tri W h') rs ds :=
  Paired.mono (fun _ _ x => x.mod (y.wide n)) p
theorem Cells.wide {W W' : List Addr} {h : Heap} {us : List Value} {a : List Int} (c : Cells W h us a) (n : ∀ b ∈ W', b ∈ W ∨ h.get? b = none) : Cells W' h us a := Paired.mono (fun _ _ x => x.wide n) c
theorem Cells.some {W : List Addr} {h : Heap} {us : List Value} {a : List Int} (c : Cells W h us a) {k : Nat} (hk : k < us.length) : ∃ v x, us[k]? = some v ∧ a[k]? = some x ∧ Cell W h v x := by
  have hl : us.length = a.length := Paired.length c
  exact ⟨us[k], a[k]'(by omega), List.getElem?_eq_getElem hk, List.getElem?_eq_getElem (by omega), Cells.get c k _ _ (List.getElem?_eq_getElem hk) (List.getElem?_eq_getElem (by omega))⟩

/-- What stays as it is all along in the law. -/
structure LawX (prog : Program) (w : World) (A : Around) (env : Env) (h₀ : Heap) : Prop where
  hh : A.handled = none
  un : A.units + 3 < cLine
  kind : env.scope.kind = .function
  nf : NotFresh env
  quiet : interactive env = false
  loc : ∀ x ∈ ([("script" : Str), "row", "one", "other", "due", "k"] : List Str), env.kindOf x = some .local
  range : Glb prog w A env h₀ "range" (.type "range")
  len : Glb prog w A env h₀ "len" (.builtin "len")

/-- What the law's loops keep. -/
structure Dues (L D : Addr) (W : List Addr) (hs : Heap) (ms : Str → Option Value) (F : List (Int × Int × Int)) (m : Str → Option Value) (h : Heap) : Prop where
  d : ∃ ds, PlainL h D ds.toArray ∧ Paired (Tri W h) ds F
  names : ∀ y, y ≠ ("k" : Str) → m y = ms y
  mod : Mod [L, D] hs h
theorem Dues.frame {L D : Addr} {W W' : List Addr} {hs h h' : Heap} {ms m : Str → Option Value} {F : List (Int × Int × Int)} (J : Dues L D W hs ms F m h) (y : Mod W' h h') (nD : D ∉ W') (n : ∀ b ∈ W', b ∈ W) (z : ∀ b ∈ W', b ∈ [L, D] ∨ hs.get? b = none) : Dues L D W hs ms F m h' := by
  obtain ⟨ds, hD, hp⟩ := J.d
  exact ⟨⟨ds, plainL_mod hD y nD, tris_mod hp y n⟩, J.names, J.mod.absorb y z⟩

section
variable {prog : Program} {w : World} {A : Around} {E : Value → Shared → Prop} {s : Shared} {env : Env} {m : Str → Option Value} {h₀ : Heap}

theorem due_add {e1 e2 e3 : Expr} {p1 p2 p6 p7 p8 : Pos} {kk : Nat} {D : Addr} {h : Heap} {tk : Nat} {c d : Int} {u : Value} {ds : List Value} {Q : Flow → Shared → Prop}
    (hk : env.scope.kind = .function) (ld : env.kindOf ("due" : Str) = some .local) (quiet : interactive env = false)
    (he : starEach [e1, e2, e3] env = [(false, eval e1 env), (false, eval e2 env), (false, eval e3 env)]) (hline : (p2.endLine == p7.line) = true)
    (hns : h.Ns env.locals m) (md : m ("due" : Str) = some (.ref D)) (hD : PlainL h D ds.toArray) (hDL : D ≠ env.locals) (hsz : ds.length ≤ 200)
    (h1 : ∀ tk (Q' : Value → Shared → Prop), (∀ t tk', Q' (.int c t) { s with heap := h, toks := tk' }) → wpAny (model prog w) A (eval e1 env) Q' E { s with heap := h, toks := tk })
    (h2 : ∀ tk (Q' : Value → Shared → Prop), (∀ t tk', Q' (.int d t) { s with heap := h, toks := tk' }) → wpAny (model prog w) A (eval e2 env) Q' E { s with heap := h, toks := tk })
    (h3 : ∀ tk (Q' : Value → Shared → Prop), (∀ tk', Q' u { s with heap := h, toks := tk' }) → wpAny (model prog w) A (eval e3 env) Q' E { s with heap := h, toks := tk })
    (post : ∀ h' tk' p dd n t1 t2, h.get? p = none → h'.get? p = some { cls := .type "tuple", dict := dd, data := .seq #[.int c t1, .int d t2, u] n } → h'.Ns env.locals m → PlainL h' D (ds ++ [Value.ref p]).toArray → Mod [D] h h' → Q .next { s with heap := h', toks := tk' }) :
    wpAny (model prog w) A (execs [.Expr (.Call (.Attribute (.Name ("due" : Str) p1) ("append" : Str) p2) [.Tuple [e1, e2, e3] kk p6] [] p7) p8] env) Q E { s with heap := h, toks := tk } := by
  refine wpAny_execs_cons (wpAny_Expr ?_ quiet)
  refine wpAny_Call_append rfl rfl hline rfl (ev_name hk ld hns md ⟨D, _, rfl, hD, ?_⟩)
  refine Tuple_ ?_
  rw [he]
  refine Calls.spliced_cons (h1 _ _ fun t1 tk1 => ?_)
  refine Calls.spliced_cons (h2 _ _ fun t2 tk2 => ?_)
  refine Calls.spliced_cons (h3 _ _ fun tk3 => ?_)
  refine Calls.spliced_nil (wpAny_newObj_type ?_ (by size_fits))
  have up : ∀ b o, h.get? b = some o → (h.push { cls := .type "tuple", data := .seq #[.int c t1, .int d t2, u] }).get? b = some o := fun b o e => Heap.get?_push_of_some _ e
  have ht : (h.push { cls := .type "tuple", data := .seq #[.int c t1, .int d t2, u] }).get? h.objs.size = some { cls := .type "tuple", data := .seq #[.int c t1, .int d t2, u] } := Heap.get?_push_size _ rfl
  show wpAny _ _ (call (.builtin "list.append") [.ref D, .ref h.objs.size]) _ _ { s with heap := h.push { cls := .type "tuple", data := .seq #[.int c t1, .int d t2, u] }, toks := _ }
  generalize h.push { cls := .type "tuple", data := .seq #[.int c t1, .int d t2, u] } = h₁ at up ht ⊢
  have hp : h.get? h.objs.size = none := get_none _
  obtain ⟨oD, nD, hoD, _⟩ := id hD
  refine list_append_plainL (hD.keeps up) (fun h₃ hR₃ hs₃ => wpAny_execs_nil ?_) (by simp [sizeLine]; omega)
  have hs₃' : Heap.SameBut D h₁ h₃ := hs₃
  refine post h₃ _ h.objs.size _ _ t1 t2 hp (hs₃'.extBut _ _ (Ne.symm (ne_of_get hoD hp)) ht) ((hns.at fun o e => up _ _ e).sameBut hs₃' (Ne.symm hDL)) (by simpa using hR₃) ?_
  exact Mod.trans (fun b o _ e => up b o e) (Mod.same hs₃' (by simp))

end
section
variable {prog : Program} {w : World} {A : Around} {E : Value → Shared → Prop} {s : Shared} {m : Str → Option Value} {h₀ : Heap}

set_option maxHeartbeats 2000000 in
theorem due_loop1 {nm : Str} {L fa : Addr} {cd : Value} {one other D : Addr} {us ts : List Value} {a b : List Int} {Q : Flow → Shared → Prop}
    (X : LawX prog w A (envOfC nm (scopeAt 7) L fa cd) h₀)
    (keep : ∀ b o, h₀.get? b = some o → s.heap.get? b = some o) (new : ∀ x ∈ [L, D], h₀.get? x = none)
    (hns : s.heap.Ns L m) (mo : m ("one" : Str) = some (.ref one)) (mt : m ("other" : Str) = some (.ref other)) (md : m ("due" : Str) = some (.ref D))
    (h1 : PlainL s.heap one us.toArray) (h2 : PlainL s.heap other ts.toArray) (hD : PlainL s.heap D #[]) (apart : one ≠ L ∧ other ≠ L ∧ D ≠ L ∧ one ≠ D ∧ other ≠ D)
    (cs : Cells [L, D] s.heap us a) (ct : Cells [L, D] s.heap ts b) (h64a : us.length ≤ 64) (h64b : ts.length ≤ 64)
    (post : ∀ h' tk' m' ds, h'.Ns L m' → (∀ y, y ≠ ("k" : Str) → m' y = m y) → PlainL h' D ds.toArray → Paired (Tri [L, D] h') ds (due1 a b a.length) → Mod [L, D] s.heap h' → Q .next { s with heap := h', toks := tk' }) :
    wpAny (model prog w) A (exec (stmtAt 7 4) (envOfC nm (scopeAt 7) L fa cd)) Q E s := by
  have hk := X.kind
  obtain ⟨nOL, nTL, nDL, nOD, nTD⟩ := apart
  have hla : us.length = a.length := Paired.length cs
  obtain ⟨oL, hL⟩ : ∃ o, s.heap.get? L = some o := by obtain ⟨o, _, _, e, _⟩ := hns; exact ⟨o, e⟩
  obtain ⟨oD, _, hoD, _⟩ := id hD
  refine wpAny_For (wpAny_Call_ofName (X.range s _ _ _ keep ?_))
  show wpAny _ A (callWith _ (.type "range") [] (backTo _ (starEach [.Call (.Name ("len" : Str) _) [.Name ("one" : Str) _] [] _] (envOfC nm (scopeAt 7) L fa cd))) []) _ E s
  refine Pv.callWith_type1 ?_
  refine Calls.spliced_cons (ev_len hk (X.loc _ (by decide)) (by decide) X.len keep hns mo (PlainL.isList h1) (by simpa using h64a) fun tn tk0 => ?_)
  refine Calls.spliced_nil ?_
  refine call_range_1 ?_
  have up : ∀ b o, s.heap.get? b = some o → (s.heap.push { cls := .type "range", data := .fields #[.int 0 tk0, .int (us.toArray.size : Nat) tn, .int 1 (tk0 + 1)] }).get? b = some o := fun b o e => Heap.get?_push_of_some _ e
  have hrange := IsRange.new s.heap (0 : Int) (us.toArray.size : Nat) 1 tk0 tn (tk0 + 1)
  have hsz : (s.heap.push { cls := .type "range", data := .fields #[.int 0 tk0, .int (us.toArray.size : Nat) tn, .int 1 (tk0 + 1)] }).objs.size = s.heap.objs.size + 1 := Heap.size_push ..
  generalize s.heap.push { cls := .type "range", data := .fields #[.int 0 tk0, .int (us.toArray.size : Nat) tn, .int 1 (tk0 + 1)] } = hr at up hrange hsz ⊢
  have hI : s.heap.get? hr.objs.size = none := get_none_of_le (by rw [hsz]; exact Nat.le_succ _)
  have nDI : D ≠ hr.objs.size := ne_of_get hoD hI
  have zI : ∀ b ∈ [L, hr.objs.size], b ∈ [L, D] ∨ s.heap.get? b = none := by
    intro b hb
    simp only [List.mem_cons, List.not_mem_nil, or_false] at hb
    rcases hb with rfl | rfl
    · exact .inl (by simp)
    · exact .inr hI
  refine loop_range (n := us.length) (m := m) X.hh (X.loc _ (by decide)) X.nf hrange (small_range (i := 0) (n := us.toArray.size) (by simpa using h64a) (by simp)) (by simpa using size_range (i := 0) (n := us.toArray.size) (by simp)) (hns.at fun o e => up _ _ e)
    (fun k m' h => Dues L D [L, D, hr.objs.size] s.heap m (due1 a b k) m' h) ?_ ?_ ?_ ?_ ?_
  · intro k m' h h' J y
    have y' : Mod [L, hr.objs.size] h h' := y
    exact J.frame y' (by simp only [List.mem_cons, List.not_mem_nil, or_false, not_or]; exact ⟨nDL, nDI⟩) (by intro b hb; simp only [List.mem_cons, List.not_mem_nil, or_false] at hb ⊢; rcases hb with h | h <;> simp [h]) zI
  · intro k m' h v J
    exact ⟨J.d, fun y hy => by rw [upd_ne _ _ hy]; exact J.names y hy, J.mod⟩
  · exact ⟨⟨[], hD.keeps up, .nil⟩, fun _ _ => rfl, fun b o _ e => up b o e⟩
  · intro k t m' h tk E' hlt J hn' mj hoI
    rw [Int.zero_add] at mj
    have hn'' : h.Ns L m' := hn'
    obtain ⟨v, x, hv, hx, cv⟩ := cs.some hlt
    have mo' : m' ("one" : Str) = some (.ref one) := (J.names _ (by decide)).trans mo
    have mt' : m' ("other" : Str) = some (.ref other) := (J.names _ (by decide)).trans mt
    have md' : m' ("due" : Str) = some (.ref D) := (J.names _ (by decide)).trans md
    have n1 : one ∉ [L, D] := by simp only [List.mem_cons, List.not_mem_nil, or_false, not_or]; exact ⟨nOL, nOD⟩
    have n2 : other ∉ [L, D] := by simp only [List.mem_cons, List.not_mem_nil, or_false, not_or]; exact ⟨nTL, nTD⟩
    have g1 : PlainL h one us.toArray := plainL_mod h1 J.mod n1
    have g2 : PlainL h other ts.toArray := plainL_mod h2 J.mod n2
    have wI : ∀ b ∈ [L, D, hr.objs.size], b ∈ [L, D] ∨ s.heap.get? b = none := by
      intro b hb
      simp only [List.mem_cons, List.not_mem_nil, or_false] at hb
      rcases hb with rfl | rfl | rfl
      · exact .inl (by simp)
      · exact .inl (by simp)
      · exact .inr hI
    have wL : ∀ b ∈ [L, D], b ∈ [L, D, hr.objs.size] := by intro b hb; simp only [List.mem_cons, List.not_mem_nil, or_false] at hb ⊢; rcases hb with h | h <;> simp [h]
    have cs' : Cells [L, D, hr.objs.size] h us a := (cs.wide wI).mod (J.mod.wide wL)
    have ct' : Cells [L, D, hr.objs.size] h ts b := (ct.wide wI).mod (J.mod.wide wL)
    have cv' : Cell [L, D, hr.objs.size] h v x := (cv.wide wI).mod (J.mod.wide wL)
    -- the end of a turn that adds nothing
    have skip : ∀ h' tk', (∀ b o, h.get? b = some o → h'.get? b = some o) → due1 a b (k + 1) = due1 a b k → TurnEnd L [hr.objs.size] (Dues L D [L, D, hr.objs.size] s.heap m (due1 a b (k + 1))) { s with heap := h, toks := tk } .next { s with heap := h', toks := tk' } := by
      intro h' tk' k' e
      refine ⟨.inl rfl, h', tk', m', rfl, hn''.at fun o e => k' _ _ e, ?_, fun b _ o e => k' b o e⟩
      rw [e]
      exact J.frame (W' := []) (fun b o _ e => k' b o e) (by simp) (by simp) (by simp)
    refine wpAny_execs_cons (wpAny_If (wpAny_isTrue_BoolOp (wpAny_allTrue_And_cons (test_fresh X.un hk (X.loc _ (by decide)) (X.loc _ (by decide)) (by decide) hn'' mo' mj (PlainL.isList g1) hv h64a cs' cv' fun h2 tk2 k2 => ?_))))
    have k2' : ∀ b o, h.get? b = some o → h2.get? b = some o := k2
    have M2 : Mod [L, D, hr.objs.size] h h2 := fun b o _ e => k2' b o e
    by_cases hxs : x ∈ a.take k
    · rw [show (!(a.take k).contains x) = false by simpa using hxs]
      simp only [Bool.false_eq_true, if_false]
      refine wpAny_execs_nil (wpAny_execs_nil ?_)
      exact skip h2 tk2 k2' (due1_seen hx hxs)
    rw [show (!(a.take k).contains x) = true by simpa using hxs]
    simp only [if_true]
    have hn2 : h2.Ns L m' := hn''.at fun o e => k2' _ _ e
    have c1 : ∀ tk (E'' : Value → Shared → Prop) (p1 p2 p3 p4 p5 p6 : Pos), CountEq (envOfC nm (scopeAt 7) L fa cd) "one" "one" "k" p1 p2 p3 p4 p5 p6 → ∀ (Q' : Value → Shared → Prop), (∀ t tk', Q' (.int (a.count x : Nat) t) { s with heap := h2, toks := tk' }) →
        wpAny (model prog w) A (eval (.Call (.Attribute (.Name ("one" : Str) p1) ("count" : Str) p2) [.Subscript (.Name ("one" : Str) p3) (.Name ("k" : Str) p4) p5] [] p6) (envOfC nm (scopeAt 7) L fa cd)) Q' E'' { s with heap := h2, toks := tk } :=
      fun tk E'' p1 p2 p3 p4 p5 p6 he Q' hQ' => ev_count he X.un hk (X.loc _ (by decide)) (X.loc _ (by decide)) (X.loc _ (by decide)) (by decide) (by decide) (by decide) hn2 mo' mo' mj (g1.keeps k2') ((PlainL.isList g1).at fun o e => k2' _ _ e) hv (by omega) (cs'.mod M2) (cv'.mod M2) hQ'
    have c2 : ∀ tk (E'' : Value → Shared → Prop) (p1 p2 p3 p4 p5 p6 : Pos), CountEq (envOfC nm (scopeAt 7) L fa cd) "other" "one" "k" p1 p2 p3 p4 p5 p6 → ∀ (Q' : Value → Shared → Prop), (∀ t tk', Q' (.int (b.count x : Nat) t) { s with heap := h2, toks := tk' }) →
        wpAny (model prog w) A (eval (.Call (.Attribute (.Name ("other" : Str) p1) ("count" : Str) p2) [.Subscript (.Name ("one" : Str) p3) (.Name ("k" : Str) p4) p5] [] p6) (envOfC nm (scopeAt 7) L fa cd)) Q' E'' { s with heap := h2, toks := tk } :=
      fun tk E'' p1 p2 p3 p4 p5 p6 he Q' hQ' => ev_count he X.un hk (X.loc _ (by decide)) (X.loc _ (by decide)) (X.loc _ (by decide)) (by decide) (by decide) (by decide) hn2 mt' mo' mj (g2.keeps k2') ((PlainL.isList g1).at fun o e => k2' _ _ e) hv (by omega) (ct'.mod M2) (cv'.mod M2) hQ'
    refine wpAny_allTrue_And_cons (wpAny_isTrue_Compare1 (c1 _ _ _ _ _ _ _ _ ⟨_, rfl⟩ _ fun t1 tk3 => c2 _ _ _ _ _ _ _ _ ⟨_, rfl⟩ _ fun t2 tk4 => PyProof.Rows.ne_int (wpAny_truthy_bool ?_)))
    by_cases hc : a.count x = b.count x
    · rw [show (((a.count x : Nat) : Int) != ((b.count x : Nat) : Int)) = false by simp [hc]]
      simp only [Bool.false_eq_true, if_false]
      refine wpAny_execs_nil (wpAny_execs_nil ?_)
      exact skip h2 tk4 k2' (due1_same hx hxs hc)
    rw [show (((a.count x : Nat) : Int) != ((b.count x : Nat) : Int)) = true from bne_iff_ne.mpr (by omega)]
    simp only [if_true]
    refine wpAny_allTrue_And_nil ?_
    simp only [if_true]
    obtain ⟨ds, hDs, hp⟩ := J.d
    have hlen : ds.length = (due1 a b k).length := Paired.length hp
    have hle := due1_length a b k
    refine due_add (s := s) (c := (a.count x : Nat)) (d := (b.count x : Nat)) (u := v) (ds := ds) hk (X.loc _ (by decide)) X.quiet (by rfl) (by rfl) hn2 md' (hDs.keeps k2') nDL (by omega)
      (fun tk Q' hQ' => c1 _ _ _ _ _ _ _ _ ⟨_, by rfl⟩ _ hQ') (fun tk Q' hQ' => c2 _ _ _ _ _ _ _ _ ⟨_, by rfl⟩ _ hQ') (fun tk Q' hQ' => ev_at hk (X.loc _ (by decide)) (X.loc _ (by decide)) (by decide) (by decide) hn2 mo' mj ((PlainL.isList g1).at fun o e => k2' _ _ e) hv (by omega) (hQ' _)) ?_
    intro h5 tk5 p dd n t3 t4 hpn hpg hn5 hD5 mod5
    have mod5' : Mod [D] h2 h5 := mod5
    have M5 : Mod [D] h h5 := Mod.trans (fun b o _ e => k2' b o e) mod5'
    refine wpAny_execs_nil ?_
    refine ⟨.inl rfl, h5, tk5, m', rfl, hn5, ⟨⟨ds ++ [.ref p], hD5, ?_⟩, J.names, J.mod.trans (M5.wide (by intro b hb; simp only [List.mem_cons, List.not_mem_nil, or_false] at hb ⊢; simp [hb]))⟩, fun b hb o e => M5 b o ?_ e⟩
    · rw [due1_new hx hxs hc]
      have wD : ∀ b ∈ [D], b ∈ [L, D, hr.objs.size] := by intro b hb; simp only [List.mem_cons, List.not_mem_nil, or_false] at hb ⊢; simp [hb]
      refine Paired.snoc (tris_mod hp M5 wD) ⟨p, dd, n, t3, t4, v, rfl, ?_, hpg, cv'.mod (M5.wide wD)⟩
      have hoI' : ∃ o, h.get? hr.objs.size = some o := hoI
      obtain ⟨oI, hoI'⟩ := hoI'
      obtain ⟨oL', hL'⟩ : ∃ o, h2.get? L = some o := by obtain ⟨o, _, _, e, _⟩ := hn2; exact ⟨o, e⟩
      obtain ⟨oD', _, hoD', _⟩ := hDs.keeps k2'
      simp only [List.mem_cons, List.not_mem_nil, or_false, not_or]
      exact ⟨Ne.symm (ne_of_get hL' hpn), Ne.symm (ne_of_get hoD' hpn), Ne.symm (ne_of_get (k2' _ _ hoI') hpn)⟩
    · rw [List.mem_singleton.mp hb]
      simp only [List.mem_cons, List.not_mem_nil, or_false]
      exact Ne.symm nDI
  · intro h tk m' hn' J
    obtain ⟨ds, hDs, hp⟩ := J.d
    have J' := J.mod
    rw [hla] at hp
    exact post h tk m' ds hn' J.names hDs (Paired.mono (fun v x c => c.wide (by intro b hb; left; simp only [List.mem_cons, List.not_mem_nil, or_false] at hb ⊢; rcases hb with h | h <;> simp [h])) hp) J'
end
end Mine
end

section
open PySem PySem.W PyProof.Rows PySem.SeqAt
set_option maxRecDepth 100000
namespace Mine
section
variable {prog : Program} {w : World} {A : Around} {E : Value → Shared → Prop} {s : Shared} {m : Str → Option Value} {h₀ : Heap}

set_option maxHeartbeats 2000000 in
theorem due_loop2 {nm : Str} {L fa : Addr} {cd : Value} {one other D : Addr} {us ts ds₀ : List Value} {a b : List Int} {F₀ : List (Int × Int × Int)} {Q : Flow → Shared → Prop}
    (X : LawX prog w A (envOfC nm (scopeAt 7) L fa cd) h₀)
    (keep : ∀ b o, h₀.get? b = some o → s.heap.get? b = some o)
    (hns : s.heap.Ns L m) (mo : m ("one" : Str) = some (.ref one)) (mt : m ("other" : Str) = some (.ref other)) (md : m ("due" : Str) = some (.ref D))
    (h1 : PlainL s.heap one us.toArray) (h2 : PlainL s.heap other ts.toArray) (hD : PlainL s.heap D ds₀.toArray) (hp₀ : Paired (Tri [L, D] s.heap) ds₀ F₀) (hF₀ : F₀.length ≤ 64) (apart : one ≠ L ∧ other ≠ L ∧ D ≠ L ∧ one ≠ D ∧ other ≠ D)
    (cs : Cells [L, D] s.heap us a) (ct : Cells [L, D] s.heap ts b) (h64b : ts.length ≤ 64)
    (post : ∀ h' tk' m' ds, h'.Ns L m' → (∀ y, y ≠ ("k" : Str) → m' y = m y) → PlainL h' D ds.toArray → Paired (Tri [L, D] h') ds (F₀ ++ due2 a b b.length) → Mod [L, D] s.heap h' → Q .next { s with heap := h', toks := tk' }) :
    wpAny (model prog w) A (exec (stmtAt 7 5) (envOfC nm (scopeAt 7) L fa cd)) Q E s := by
  have hk := X.kind
  obtain ⟨nOL, nTL, nDL, nOD, nTD⟩ := apart
  have hlb : ts.length = b.length := Paired.length ct
  obtain ⟨oL, hL⟩ : ∃ o, s.heap.get? L = some o := by obtain ⟨o, _, _, e, _⟩ := hns; exact ⟨o, e⟩
  obtain ⟨oD, _, hoD, _⟩ := id hD
  refine wpAny_For (wpAny_Call_ofName (X.range s _ _ _ keep ?_))
  show wpAny _ A (callWith _ (.type "range") [] (backTo _ (starEach [.Call (.Name ("len" : Str) _) [.Name ("other" : Str) _] [] _] (envOfC nm (scopeAt 7) L fa cd))) []) _ E s
  refine Pv.callWith_type1 ?_
  refine Calls.spliced_cons (ev_len hk (X.loc _ (by decide)) (by decide) X.len keep hns mt (PlainL.isList h2) (by simpa using h64b) fun tn tk0 => ?_)
  refine Calls.spliced_nil ?_
  refine call_range_1 ?_
  have up : ∀ b o, s.heap.get? b = some o → (s.heap.push { cls := .type "range", data := .fields #[.int 0 tk0, .int (ts.toArray.size : Nat) tn, .int 1 (tk0 + 1)] }).get? b = some o := fun b o e => Heap.get?_push_of_some _ e
  have hrange := IsRange.new s.heap (0 : Int) (ts.toArray.size : Nat) 1 tk0 tn (tk0 + 1)
  have hsz : (s.heap.push { cls := .type "range", data := .fields #[.int 0 tk0, .int (ts.toArray.size : Nat) tn, .int 1 (tk0 + 1)] }).objs.size = s.heap.objs.size + 1 := Heap.size_push ..
  generalize s.heap.push { cls := .type "range", data := .fields #[.int 0 tk0, .int (ts.toArray.size : Nat) tn, .int 1 (tk0 + 1)] } = hr at up hrange hsz ⊢
  have hI : s.heap.get? hr.objs.size = none := get_none_of_le (by rw [hsz]; exact Nat.le_succ _)
  have nDI : D ≠ hr.objs.size := ne_of_get hoD hI
  have zI : ∀ b ∈ [L, hr.objs.size], b ∈ [L, D] ∨ s.heap.get? b = none := by
    intro b hb
    simp only [List.mem_cons, List.not_mem_nil, or_false] at hb
    rcases hb with rfl | rfl
    · exact .inl (by simp)
    · exact .inr hI
  have wI : ∀ b ∈ [L, D, hr.objs.size], b ∈ [L, D] ∨ s.heap.get? b = none := by
    intro b hb
    simp only [List.mem_cons, List.not_mem_nil, or_false] at hb
    rcases hb with rfl | rfl | rfl
    · exact .inl (by simp)
    · exact .inl (by simp)
    · exact .inr hI
  have wL : ∀ b ∈ [L, D], b ∈ [L, D, hr.objs.size] := by intro b hb; simp only [List.mem_cons, List.not_mem_nil, or_false] at hb ⊢; rcases hb with h | h <;> simp [h]
  refine loop_range (n := ts.length) (m := m) X.hh (X.loc _ (by decide)) X.nf hrange (small_range (i := 0) (n := ts.toArray.size) (by simpa using h64b) (by simp)) (by simpa using size_range (i := 0) (n := ts.toArray.size) (by simp)) (hns.at fun o e => up _ _ e)
    (fun k m' h => Dues L D [L, D, hr.objs.size] s.heap m (F₀ ++ due2 a b k) m' h) ?_ ?_ ?_ ?_ ?_
  · intro k m' h h' J y
    have y' : Mod [L, hr.objs.size] h h' := y
    exact J.frame y' (by simp only [List.mem_cons, List.not_mem_nil, or_false, not_or]; exact ⟨nDL, nDI⟩) (by intro b hb; simp only [List.mem_cons, List.not_mem_nil, or_false] at hb ⊢; rcases hb with h | h <;> simp [h]) zI
  · intro k m' h v J
    exact ⟨J.d, fun y hy => by rw [upd_ne _ _ hy]; exact J.names y hy, J.mod⟩
  · refine ⟨⟨ds₀, hD.keeps up, ?_⟩, fun _ _ => rfl, fun b o _ e => up b o e⟩
    rw [show F₀ ++ due2 a b 0 = F₀ from List.append_nil _]
    exact Paired.mono (fun v x c => (c.wide wI).mod (fun b o _ e => up b o e)) hp₀
  · intro k t m' h tk E' hlt J hn' mj hoI
    rw [Int.zero_add] at mj
    have hn'' : h.Ns L m' := hn'
    obtain ⟨v, x, hv, hx, cv⟩ := ct.some hlt
    have mo' : m' ("one" : Str) = some (.ref one) := (J.names _ (by decide)).trans mo
    have mt' : m' ("other" : Str) = some (.ref other) := (J.names _ (by decide)).trans mt
    have md' : m' ("due" : Str) = some (.ref D) := (J.names _ (by decide)).trans md
    have n1 : one ∉ [L, D] := by simp only [List.mem_cons, List.not_mem_nil, or_false, not_or]; exact ⟨nOL, nOD⟩
    have n2 : other ∉ [L, D] := by simp only [List.mem_cons, List.not_mem_nil, or_false, not_or]; exact ⟨nTL, nTD⟩
    have g1 : PlainL h one us.toArray := plainL_mod h1 J.mod n1
    have g2 : PlainL h other ts.toArray := plainL_mod h2 J.mod n2
    have cs' : Cells [L, D, hr.objs.size] h us a := (cs.wide wI).mod (J.mod.wide wL)
    have ct' : Cells [L, D, hr.objs.size] h ts b := (ct.wide wI).mod (J.mod.wide wL)
    have cv' : Cell [L, D, hr.objs.size] h v x := (cv.wide wI).mod (J.mod.wide wL)
    have skip : ∀ h' tk', (∀ b o, h.get? b = some o → h'.get? b = some o) → due2 a b (k + 1) = due2 a b k → TurnEnd L [hr.objs.size] (Dues L D [L, D, hr.objs.size] s.heap m (F₀ ++ due2 a b (k + 1))) { s with heap := h, toks := tk } .next { s with heap := h', toks := tk' } := by
      intro h' tk' k' e
      refine ⟨.inl rfl, h', tk', m', rfl, hn''.at fun o e => k' _ _ e, ?_, fun b _ o e => k' b o e⟩
      rw [e]
      exact J.frame (W' := []) (fun b o _ e => k' b o e) (by simp) (by simp) (by simp)
    refine wpAny_execs_cons (wpAny_If (wpAny_isTrue_BoolOp (wpAny_allTrue_And_cons (test_fresh X.un hk (X.loc _ (by decide)) (X.loc _ (by decide)) (by decide) hn'' mt' mj (PlainL.isList g2) hv h64b ct' cv' fun h2 tk2 k2 => ?_))))
    have k2' : ∀ b o, h.get? b = some o → h2.get? b = some o := k2
    have M2 : Mod [L, D, hr.objs.size] h h2 := fun b o _ e => k2' b o e
    by_cases hxs : x ∈ b.take k
    · rw [show (!(b.take k).contains x) = false by simpa using hxs]
      simp only [Bool.false_eq_true, if_false]
      refine wpAny_execs_nil (wpAny_execs_nil ?_)
      exact skip h2 tk2 k2' (due2_seen hx (List.mem_append_right _ hxs))
    rw [show (!(b.take k).contains x) = true by simpa using hxs]
    simp only [if_true]
    have hn2 : h2.Ns L m' := hn''.at fun o e => k2' _ _ e
    have l1 : h2.IsList one us.toArray := (PlainL.isList g1).at fun o e => k2' _ _ e
    have l2 : h2.IsList other ts.toArray := (PlainL.isList g2).at fun o e => k2' _ _ e
    have c2 : ∀ tk (E'' : Value → Shared → Prop) (p1 p2 p3 p4 p5 p6 : Pos), CountEq (envOfC nm (scopeAt 7) L fa cd) "other" "other" "k" p1 p2 p3 p4 p5 p6 → ∀ (Q' : Value → Shared → Prop), (∀ t tk', Q' (.int (b.count x : Nat) t) { s with heap := h2, toks := tk' }) →
        wpAny (model prog w) A (eval (.Call (.Attribute (.Name ("other" : Str) p1) ("count" : Str) p2) [.Subscript (.Name ("other" : Str) p3) (.Name ("k" : Str) p4) p5] [] p6) (envOfC nm (scopeAt 7) L fa cd)) Q' E'' { s with heap := h2, toks := tk } :=
      fun tk E'' p1 p2 p3 p4 p5 p6 he Q' hQ' => ev_count he X.un hk (X.loc _ (by decide)) (X.loc _ (by decide)) (X.loc _ (by decide)) (by decide) (by decide) (by decide) hn2 mt' mt' mj (g2.keeps k2') l2 hv (by omega) (ct'.mod M2) (cv'.mod M2) hQ'
    refine wpAny_allTrue_And_cons (wpAny_isTrue_Compare1 (ev_at hk (X.loc _ (by decide)) (X.loc _ (by decide)) (by decide) (by decide) hn2 mt' mj l2 hv (by omega) (ev_name hk (X.loc _ (by decide)) hn2 mo' (notIn_cells X.un l1 (cs'.mod M2) (cv'.mod M2) (wpAny_truthy_bool ?_)))))
    by_cases hc : x ∈ a
    · rw [show (!a.contains x) = false by simpa using hc]
      simp only [Bool.false_eq_true, if_false]
      refine wpAny_execs_nil (wpAny_execs_nil ?_)
      exact skip h2 tk2 k2' (due2_seen hx (List.mem_append_left _ hc))
    rw [show (!a.contains x) = true by simpa using hc]
    simp only [if_true]
    refine wpAny_allTrue_And_nil ?_
    simp only [if_true]
    obtain ⟨ds, hDs, hp⟩ := J.d
    have hlen : ds.length = (F₀ ++ due2 a b k).length := Paired.length hp
    have hle := due2_length a b k
    rw [List.length_append] at hlen
    refine due_add (s := s) (c := 0) (d := (b.count x : Nat)) (u := v) (ds := ds) hk (X.loc _ (by decide)) X.quiet (by rfl) (by rfl) hn2 md' (hDs.keeps k2') nDL (by omega)
      (fun tk Q' hQ' => wpAny_Constant_int (hQ' _ _)) (fun tk Q' hQ' => c2 _ _ _ _ _ _ _ _ ⟨_, by rfl⟩ _ hQ') (fun tk Q' hQ' => ev_at hk (X.loc _ (by decide)) (X.loc _ (by decide)) (by decide) (by decide) hn2 mt' mj l2 hv (by omega) (hQ' _)) ?_
    intro h5 tk5 p dd n t3 t4 hpn hpg hn5 hD5 mod5
    have mod5' : Mod [D] h2 h5 := mod5
    have M5 : Mod [D] h h5 := Mod.trans (fun b o _ e => k2' b o e) mod5'
    refine wpAny_execs_nil ?_
    refine ⟨.inl rfl, h5, tk5, m', rfl, hn5, ⟨⟨ds ++ [.ref p], hD5, ?_⟩, J.names, J.mod.trans (M5.wide (by intro b hb; simp only [List.mem_cons, List.not_mem_nil, or_false] at hb ⊢; simp [hb]))⟩, fun b hb o e => M5 b o ?_ e⟩
    · rw [due2_new hx (by simp only [List.mem_append, not_or]; exact ⟨hc, hxs⟩), ← List.append_assoc]
      have wD : ∀ b ∈ [D], b ∈ [L, D, hr.objs.size] := by intro b hb; simp only [List.mem_cons, List.not_mem_nil, or_false] at hb ⊢; simp [hb]
      refine Paired.snoc (tris_mod hp M5 wD) ⟨p, dd, n, t3, t4, v, rfl, ?_, hpg, cv'.mod (M5.wide wD)⟩
      have hoI' : ∃ o, h.get? hr.objs.size = some o := hoI
      obtain ⟨oI, hoI'⟩ := hoI'
      obtain ⟨oL', hL'⟩ : ∃ o, h2.get? L = some o := by obtain ⟨o, _, _, e, _⟩ := hn2; exact ⟨o, e⟩
      obtain ⟨oD', _, hoD', _⟩ := hDs.keeps k2'
      simp only [List.mem_cons, List.not_mem_nil, or_false, not_or]
      exact ⟨Ne.symm (ne_of_get hL' hpn), Ne.symm (ne_of_get hoD' hpn), Ne.symm (ne_of_get (k2' _ _ hoI') hpn)⟩
    · rw [List.mem_singleton.mp hb]
      simp only [List.mem_cons, List.not_mem_nil, or_false]
      exact Ne.symm nDI
  · intro h tk m' hn' J
    obtain ⟨ds, hDs, hp⟩ := J.d
    have J' := J.mod
    rw [hlb] at hp
    exact post h tk m' ds hn' J.names hDs (Paired.mono (fun v x c => c.wide (by intro b hb; left; simp only [List.mem_cons, List.not_mem_nil, or_false] at hb ⊢; rcases hb with h | h <;> simp [h])) hp) J'
end
end Mine
end

section
open PySem PySem.W PyProof.Rows PySem.SeqAt
set_option maxRecDepth 100000
set_option maxHeartbeats 1000000
namespace Mine

/-- a class under «tuple» whose «__iter__» and «__len__» are tuple's own -/
structure TupIt (M : Model) (h : Heap) (C : Addr) : Prop where
  cls : TupCls M h C
  iter : Looks M h (typeLookup (.ref C) "__iter__") (some (.builtin "tuple.__iter__"))
  len : Looks M h (typeLookup (.ref C) "__len__") (some (.builtin "tuple.__len__"))
theorem TupIt.keeps {M : Model} {h h' : Heap} {C : Addr} (Y : TupIt M h C) (k : ∀ b o, h.get? b = some o → h'.get? b = some o) : TupIt M h' C := ⟨Y.cls.keeps k, Y.iter.keeps k, Y.len.keeps k⟩

/-- an object of the class at C that holds these -/
def Inst (C p : Addr) (h : Heap) (its : Array Value) : Prop := ∃ dd n, h.get? p = some { cls := .ref C, dict := dd, data := .seq its n }
theorem Inst.keeps {C p : Addr} {h h' : Heap} {its : Array Value} (x : Inst C p h its) (k : ∀ b o, h.get? b = some o → h'.get? b = some o) : Inst C p h' its := let ⟨d, n, e⟩ := x; ⟨d, n, k _ _ e⟩

section
variable {prog : Program} {w : World} {A : Around} {E : Value → Shared → Prop} {s : Shared} {C p : Addr} {its : Array Value}

theorem inst_type (x : Inst C p s.heap its) : Looks (model prog w) s.heap (typeOf (.ref p)) (.ref C) := by
  obtain ⟨d, n, e⟩ := x
  exact (Looks.ld e).andThen .now
theorem inst_tuple (Y : TupIt (model prog w) s.heap C) (x : Inst C p s.heap its) : Looks (model prog w) s.heap (isInstance (.ref p) (.type "tuple")) true := (inst_type x).andThen (Y.cls.sub (by simp))
theorem inst_iter (Y : TupIt (model prog w) s.heap C) (x : Inst C p s.heap its) : Looks (model prog w) s.heap (specialOf (.ref p) "__iter__") (some (.builtin "tuple.__iter__")) := (inst_type x).andThen Y.iter
theorem inst_len (Y : TupIt (model prog w) s.heap C) (x : Inst C p s.heap its) : Looks (model prog w) s.heap (specialOf (.ref p) "__len__") (some (.builtin "tuple.__len__")) := (inst_type x).andThen Y.len

theorem ti_kind : builtinKind "tuple.__iter__" = some .slot := by decide +kernel
theorem ti_split : splitId "tuple.__iter__" = some ("tuple", "__iter__") := by decide +kernel
theorem tl_kind : builtinKind "tuple.__len__" = some .slot := by decide +kernel
theorem tl_split : splitId "tuple.__len__" = some ("tuple", "__len__") := by decide +kernel

/-- a slot of tuple's called on such an object -/
theorem inst_slot {i n : String} {b : Builtin} {Q : Value → Shared → Prop} (hk : builtinKind i = some .slot) (hs : splitId i = some ("tuple", n)) (hpl : plainId i = true) (he : entryFor table i = some b) (ha : argsOk i ⟨[.ref p], []⟩)
    (Y : TupIt (model prog w) s.heap C) (x : Inst C p s.heap its)
    (h : wpAny (model prog w) A.in1 (b ⟨[.ref p], []⟩) (fun fin s' => ∃ v, fin = .done (.ret v) ∧ Q v s') E s) : wpAny (model prog w) A (call (.builtin i) [.ref p]) Q E s := by
  refine wpAny_call (codeAny_call_builtin hpl he (check_slot hk hs (inst_tuple Y x) ha (wpAny_mono h (fun fin s' h' => ?_) fun _ _ h' => h')))
  obtain ⟨v, rfl, hv⟩ := h'
  exact hv

theorem inst_pyIter {Q : Value → Shared → Prop} (Y : TupIt (model prog w) s.heap C) (x : Inst C p s.heap its)
    (hQ : Q (.ref s.heap.objs.size) { s with heap := s.heap.push { cls := .type "tuple_iterator", data := .fields #[.ref p, .int 0 0] } }) : wpAny (model prog w) A (pyIter (.ref p)) Q E s := by
  have sp := inst_iter Y x
  unfold pyIter
  refine wpAny_bind (sp.here ?_)
  show wpAny _ A (callSpecialIfBoundUnlessNone? (.ref p) "__iter__" _ >>= _) Q E s
  have body : wpAny (model prog w) A (call (.builtin "tuple.__iter__") [.ref p]) (fun v s' => wpAny (model prog w) A (specialOf v "__next__" >>= fun
      | none => rule "iter.non-iterator" >>= fun _ => typeNameOf v >>= fun x => raiseError "TypeError" s!"iter() returned non-iterator of type '{x}'"
      | some _ => pure v) Q E s') E s := by
    refine inst_slot ti_kind ti_split PySem.F.slot_tuple_iter.plain PySem.F.entry_tuple_iter (PySem.F.args_tuple_iter_1 _) Y x ?_
    show wpAny _ _ (do ret (← newFields "tuple_iterator" [.ref p, rawInt 0])) _ _ s
    refine wpAny_bind (wpAny_newObj_type (wpAny_pure ⟨_, rfl, ?_⟩) (by size_fits))
    exact wpAny_bind (wpAny_specialOf (T := "tuple_iterator") ⟨_, Heap.get?_push_size _ rfl, rfl⟩ PySem.F.slot_tuple_iterator_next.lookup (wpAny_pure hQ))
  refine wpAny_bind ?_
  simp only [callSpecialIfBoundUnlessNone?, bindSpecialIfBound?]
  refine wpAny_holding (wpAny_bind (wpAny_bind (sp.here ?_)))
  simp only [PySem.F.slot_tuple_iter.bind]
  have fin : wpAny (model prog w) A (if (Value.builtin "tuple.__iter__" == Value.none) = true then ((rule "iter.none" >>= fun _ => typeNameOf (.ref p) >>= fun x => raiseError "TypeError" s!"'{x}' object is not iterable") >>= fun v => pure (some v)) else (call (.builtin "tuple.__iter__") [.ref p] >>= fun v => pure (some v)))
      (fun r s' => wpAny (model prog w) A (match r with
        | some it => specialOf it "__next__" >>= fun
          | none => rule "iter.non-iterator" >>= fun _ => typeNameOf it >>= fun x => raiseError "TypeError" s!"iter() returned non-iterator of type '{x}'"
          | some _ => pure it
        | none => bindSpecialIfBound? (.ref p) "__getitem__" >>= fun
          | none => rule "iter.not-iterable" >>= fun _ => typeNameOf (.ref p) >>= fun x => raiseError "TypeError" s!"'{x}' object is not iterable"
          | some _ => rule "iter.getitem-fallback" >>= fun _ => mkInt 0 >>= fun z => newFields "iterator" [.ref p, z]) Q E s') E s := by
    rw [if_neg (by decide)]
    exact wpAny_bind (wpAny_mono body (fun v s' h' => wpAny_pure h') fun _ _ h' => h')
  refine wpAny_bind (wpAny_askSetting (wpAny_ite ?_))
  split
  · exact wpAny_bind (wpAny_pure (wpAny_pure fin))
  · exact wpAny_tryCatch (wpAny_bind (wpAny_pure (wpAny_pure fin)))
end
end Mine
end

section
open PySem PySem.W PyProof.Rows PySem.SeqAt
set_option maxRecDepth 100000
set_option maxHeartbeats 1000000
namespace Mine

def SeqOf (h : Heap) (p : Addr) (its : Array Value) : Prop := ∃ o n, h.get? p = some o ∧ o.data = .seq its n
theorem Inst.seqOf {C p : Addr} {h : Heap} {its : Array Value} (x : Inst C p h its) : SeqOf h p its := let ⟨_, _, e⟩ := x; ⟨_, _, e, rfl⟩

section
variable {prog : Program} {w : World} {A : Around} {E : Value → Shared → Prop} {s : Shared} {C p : Addr} {its : Array Value}

theorem inst_callLen {Q : Value → Shared → Prop} (Y : TupIt (model prog w) s.heap C) (x : Inst C p s.heap its) (hsz : its.size ≤ 64) (h : ∀ t tk', Q (.int (its.size : Nat) t) { s with toks := tk' }) :
    wpAny (model prog w) A (call (.builtin "len") [.ref p]) Q E s := by
  have sp := inst_len Y x
  obtain ⟨o, n, ho, hd⟩ := x.seqOf
  refine PySem.Calls.call_function_entry PySem.kind_len PySem.plain_len PySem.entry_len (PySem.args_len1 _) ?_
  unfold Builtin.«len»
  refine wpAny_bind (m := oneArg "len" _) (wpAny_pure ?_)
  refine wpAny_bind (m := callSpecial? (.ref p) (Str.ofString "__len__")) ?_
  simp only [callSpecial?]
  refine wpAny_bind (sp.here ?_)
  simp only [PySem.F.slot_tuple_len.bind]
  refine wpAny_holding (wpAny_bind (wpAny_pure (wpAny_bind ?_)))
  refine inst_slot tl_kind tl_split PySem.F.slot_tuple_len.plain PySem.F.entry_tuple_len (PySem.F.args_tuple_len_1 _) Y x ?_
  show wpAny _ _ (seqItems? (.ref p) >>= _ >>= _) _ _ s
  refine wpAny_bind (wpAny_bind (wpAny_seqItems ho hd (wpAny_pure ?_)))
  refine wpAny_bind (wpAny_mkInt (wpAny_pure ⟨_, rfl, wpAny_pure ?_⟩))
  refine wpAny_bind (wpAny_holding (wpAny_pure ?_))
  refine wpAny_bind (wpAny_letGo ?_)
  show wpAny _ _ (if ((its.size : Nat) : Int) < 0 then _ else _) _ _ _
  rw [if_neg (by omega)]
  show wpAny _ _ (if ((its.size : Nat) : Int) ≥ 2 ^ 63 then _ else _) _ _ _
  rw [if_neg (by omega)]
  exact wpAny_bind (wpAny_mkInt (wpAny_pure ⟨_, rfl, h _ _⟩))

theorem inst_hint {Q : Bool → Shared → Prop} (Y : TupIt (model prog w) s.heap C) (x : Inst C p s.heap its) (hsz : its.size ≤ 64) (h0 : 0 < its.size) (h : ∀ tk', Q true { s with toks := tk' }) :
    wpAny (model prog w) A (Builtin.List.listLengthHint (.ref p)) Q E s := by
  have sp := inst_len Y x
  have it := inst_tuple Y x
  have ty := inst_type (prog := prog) (w := w) x
  unfold Builtin.List.listLengthHint
  refine wpAny_bind (sp.here ?_)
  dsimp only
  rw [show splitId "tuple.__len__" = some ("tuple", "__len__") from tl_split]
  dsimp only
  refine wpAny_bind (it.here ?_)
  rw [if_neg (by decide)]
  rw [if_pos (by decide)]
  refine wpAny_bind (ty.here ?_)
  dsimp only
  refine wpAny_bind (inst_callLen Y x hsz fun t tk' => ?_)
  refine wpAny_bind (m := asInt? (.int (its.size : Nat) t)) (wpAny_pure ?_)
  dsimp only
  rw [show (((its.size : Nat) : Int) != 0) = true from bne_iff_ne.mpr (by omega)]
  exact wpAny_pure (h _)
end
end Mine
end

section
open PySem PySem.W PyProof.Rows PySem.SeqAt
set_option maxRecDepth 100000
set_option maxHeartbeats 1000000
namespace Mine

theorem SeqOf.keeps {h h' : Heap} {p : Addr} {its : Array Value} (x : SeqOf h p its) (k : ∀ o, h.get? p = some o → h'.get? p = some o) : SeqOf h' p its := let ⟨o, n, e, d⟩ := x; ⟨o, n, k _ e, d⟩

section
variable {prog : Program} {w : World} {A : Around} {E : Value → Shared → Prop} {s : Shared} {C p : Addr} {its : Array Value}

/-- one turn of a tuple's iterator over whatever holds a row of values -/
theorem seq_next {I : Addr} {i : Nat} {Q : Option Value → Shared → Prop} (hit : s.heap.IsTupleIter I p i) (hp : SeqOf s.heap p its)
    (more : ∀ v h', its[i]? = some v → h'.IsTupleIter I p (i + 1) → Heap.SameBut I s.heap h' → Q (some v) { s with heap := h' })
    (fin : its[i]? = none → A.handled = none ∧ ∀ h', Heap.ExtBut I s.heap h' → Q none { s with heap := h' }) : wpAny (model prog w) A (pyNext (.ref I)) Q E s := by
  obtain ⟨o, ho, hc, hd⟩ := id hit
  obtain ⟨ol, nl, hol, hdl⟩ := hp
  unfold pyNext
  refine wpAny_bind (wpAny_attempt (wpAny_callSpecial?_slot (name := Str.ofString "__next__") hit.typeIs PySem.F.slot_tuple_iterator_next
    (wpAny_call_entry PySem.F.slot_tuple_iterator_next hit.typeIs PySem.F.entry_tuple_iterator_next ?_ (PySem.F.args_tuple_iterator_next_1 _))))
  show wpAny _ _ (field (.ref I) 0 >>= _) _ _ s
  refine wpAny_bind (wpAny_field ho hd (x := .ref p) rfl ?_)
  show wpAny _ _ (if (Value.ref p == Value.none) = true then _ else _) _ _ s
  rw [if_neg (show ¬ ((Value.ref p == Value.none) = true) from Bool.false_ne_true)]
  show wpAny _ _ (field (.ref I) 1 >>= _) _ _ s
  refine wpAny_bind (wpAny_field ho hd (x := .int i 0) rfl ?_)
  show wpAny _ _ (seqItems? (.ref p) >>= _) _ _ s
  refine wpAny_bind (wpAny_seqItems hol hdl ?_)
  simp only [Int.toNat_natCast]
  cases hx : its[i]? with
  | some v =>
    simp only
    refine wpAny_bind (wpAny_setField ho hd (by simp) (wpAny_pure ⟨v, rfl, wpAny_pure (more v _ hx ?_ (Heap.SameBut.update ..))⟩))
    exact ⟨_, Heap.get?_update_self _ ho (Obj.isFreed_of_fields (Obj.data_mapFields hd _)), (Obj.cls_mapFields ..).trans hc, by
      rw [Obj.data_mapFields hd]; simp [rawInt]⟩
  | none =>
    obtain ⟨hh, hQ⟩ := fin hx
    simp only
    refine wpAny_bind (wpAny_rule (wpAny_bind (wpAny_setField ho hd (by simp) ?_)))
    show wpAny _ _ (newExc (.type "StopIteration") [] >>= _) _ _ _
    refine wpAny_bind ?_
    simp only [newExc, newTuple]
    refine wpAny_bind (wpAny_newObj_type ?_ (by size_fits))
    refine wpAny_bind (m := firstArgMember _ _) (wpAny_of_eq (a := Value.none) (by first | rfl | (simp only [firstArgMember]; rfl)) ?_)
    refine wpAny_newObj_type ?_ (by size_fits)
    simp only [raiseNew]
    refine wpAny_bind (wpAny_handled ?_)
    rw [show A.in1.handled = none from hh]
    refine wpAny_bind (wpAny_pure (wpAny_throw ?_))
    refine wpAny_bind (wpAny_isInstance (T := "StopIteration") (b := true) ⟨_, Heap.get?_push_size _ rfl, rfl⟩ isSubtype_stop ?_)
    exact wpAny_pure (hQ _ (((Heap.SameBut.update ..).extBut.push _).push _))

theorem seq_walks {I : Addr} (hh : A.handled = none) (hne : p ≠ I) :
    Walks prog w A I [I, p] [I] its.size (fun i v => its[i]? = some v) (fun i h => h.IsTupleIter I p i ∧ SeqOf h p its) where
  sub := fun b hb => by simp at hb; simp [hb]
  frame := fun _ _ _ st hk => ⟨st.1.at fun o e => hk I (by simp) o e, st.2.keeps fun o e => hk p (by simp) o e⟩
  item := fun i s Q E hi st hQ => by
    refine seq_next st.1 st.2 (fun v h' hv hit' hs' => ?_) fun e => absurd e (by simp; omega)
    exact hQ v h' s.toks hv ⟨hit', st.2.keeps fun o e => hs'.extBut _ _ hne e⟩ fun b o hb e => hs'.extBut b o (fun h => hb (by simp [h])) e
  done := fun s Q E st hQ => seq_next st.1 st.2 (fun v h' hv => absurd hv (by simp)) fun _ => ⟨hh, fun h' he' => hQ h' s.toks fun b o hb e => he' b o (fun h => hb (by simp [h])) e⟩
  self := fun _ _ _ _ st hQ => wpAny_pyIter_tupleiter st.1 hQ

theorem items_all {acc : Array Value} (x : ItemsOf (fun i v => its[i]? = some v) acc its.size) : acc = its := by
  refine Array.ext x.1 fun i h1 h2 => ?_
  have this : its[i]? = some acc[i] := x.2 i acc[i] (Array.getElem?_eq_getElem h1)
  rw [Array.getElem?_eq_getElem h2] at this
  exact (Option.some.inj this).symm

theorem inst_collect {Q : List Value → Shared → Prop} (hh : A.handled = none) (Y : TupIt (model prog w) s.heap C) (x : Inst C p s.heap its) (hsz : its.size ≤ 64) (h0 : 0 < its.size)
    (hQ : ∀ h' tk', (∀ b o, s.heap.get? b = some o → h'.get? b = some o) → Q its.toList { s with heap := h', toks := tk' }) : wpAny (model prog w) A (collect (.ref p)) Q E s := by
  obtain ⟨op, np, hop, _⟩ := x.seqOf
  unfold collect
  refine wpAny_bind (wpAny_runValue (codeAny_builtin PySem.F.entry_proto_collect ?_))
  rw [Around.under_plainId PySem.F.plain_proto_collect _]
  show wpAny _ A.in1 (newList [] >>= fun l => again (.builtin "list.__iadd__" ⟨[l, .ref p], []⟩)) _ _ s
  refine wpAny_bind (wpAny_newObj_type ?_ (by size_fits))
  refine wpAny_pure ⟨plainId_quiet PySem.F.plain_list_iadd _, codeAny_builtin PySem.F.entry_list_iadd ?_⟩
  rw [Around.under_plainId PySem.F.plain_list_iadd _]
  have k1 : ∀ b o, s.heap.get? b = some o → (s.heap.push { cls := .type "list", data := .seq ([] : List Value).toArray }).get? b = some o := fun b o e => Heap.get?_push_of_some _ e
  have hS₁ : (s.heap.push { cls := .type "list", data := .seq ([] : List Value).toArray }).get? s.heap.objs.size = some { cls := .type "list", data := .seq ([] : List Value).toArray } := Heap.get?_push_size _ rfl
  have nS : s.heap.get? s.heap.objs.size = none := get_none _
  show wpAny _ A.in1 (Builtin.List.listExtendWith (.ref s.heap.objs.size) (.ref p) (.ref s.heap.objs.size)) _ _ { s with heap := s.heap.push { cls := .type "list", data := .seq ([] : List Value).toArray } }
  have nSp : s.heap.objs.size ≠ p := Ne.symm (ne_of_get hop nS)
  generalize s.heap.objs.size = S at *
  generalize s.heap.push { cls := .type "list", data := .seq ([] : List Value).toArray } = h₁ at k1 hS₁ ⊢
  have Y₁ : TupIt (model prog w) h₁ C := Y.keeps k1
  have x₁ : Inst C p h₁ its := x.keeps k1
  unfold Builtin.List.listExtendWith
  refine wpAny_bind ((inst_type (s := { s with heap := h₁ }) x₁).here ?_)
  rw [if_neg (by simp [Builtin.List.listSameRef, nSp])]
  refine wpAny_bind (inst_pyIter (s := { s with heap := h₁ }) Y₁ x₁ ?_)
  have k2 : ∀ b o, h₁.get? b = some o → (h₁.push { cls := .type "tuple_iterator", data := .fields #[.ref p, .int 0 0] }).get? b = some o := fun b o e => Heap.get?_push_of_some _ e
  have hI : (h₁.push { cls := .type "tuple_iterator", data := .fields #[.ref p, .int 0 0] }).get? h₁.objs.size = some { cls := .type "tuple_iterator", data := .fields #[.ref p, .int 0 0] } := Heap.get?_push_size _ rfl
  have nI : h₁.get? h₁.objs.size = none := get_none _
  dsimp only
  generalize h₁.push { cls := .type "tuple_iterator", data := .fields #[.ref p, .int 0 0] } = h₂ at k2 hI ⊢
  generalize h₁.objs.size = I at *
  have nSI : S ≠ I := ne_of_get hS₁ nI
  have npI : p ≠ I := ne_of_get (k1 _ _ hop) nI
  have Y₂ : TupIt (model prog w) h₂ C := Y₁.keeps k2
  have x₂ : Inst C p h₂ its := x₁.keeps k2
  have hS₂ := k2 _ _ hS₁
  refine wpAny_bind (wpAny_holding (inst_hint (s := { s with heap := h₂ }) Y₂ x₂ hsz h0 fun tk => ?_))
  rw [if_pos (by simp)]
  refine wpAny_bind (wpAny_rule ?_)
  refine wpAny_bind ?_
  show wpAny _ A.in1 (updateSeq S (·.push .none) >>= fun _ => updateSeq S (·.pop)) _ _ _
  refine wpAny_bind (wpAny_updateSeq hS₂ rfl ?_)
  have hS₃ := Heap.get?_update_self (Obj.mapSeq (·.push Value.none)) hS₂ rfl
  refine wpAny_updateSeq hS₃ rfl ?_
  have hS₄ := Heap.get?_update_self (Obj.mapSeq (·.pop)) hS₃ rfl
  have oth : ∀ b o, b ≠ S → h₂.get? b = some o → ((h₂.update S (Obj.mapSeq (·.push Value.none))).update S (Obj.mapSeq (·.pop))).get? b = some o :=
    fun b o hb e => (Heap.get?_update_other _ _ (Ne.symm hb)).trans ((Heap.get?_update_other _ _ (Ne.symm hb)).trans e)
  have hI₃ : ((h₂.update S (Obj.mapSeq (·.push Value.none))).update S (Obj.mapSeq (·.pop))).IsTupleIter I p 0 := ⟨_, oth _ _ (Ne.symm nSI) hI, rfl, rfl⟩
  have hp₃ : SeqOf ((h₂.update S (Obj.mapSeq (·.push Value.none))).update S (Obj.mapSeq (·.pop))) p its := x₂.seqOf.keeps fun o e => oth _ _ (Ne.symm nSp) e
  dsimp only at oth hI₃ hp₃ hS₄ ⊢
  have W := (seq_walks (prog := prog) (w := w) (A := A.in1) (its := its) hh npI).toS
  refine wpAny_pure ⟨plainId_quiet PySem.F.plain_extend_loop _, codeAny_extend_loopS W (by simp [sizeLine]; omega) S (by simp only [List.mem_cons, List.not_mem_nil, or_false, not_or]; exact ⟨nSI, nSp⟩) _ its.size 0 _ _ _ rfl (Nat.zero_le _)
    ⟨hI₃, hp₃⟩ hS₄ (ItemsOf.nil _) fun s' acc' c' hm hS' hacc => ?_⟩
  show wpAny _ A (load S >>= _) _ _ s'
  refine wpAny_bind (wpAny_load hS' ?_)
  refine wpAny_pure ?_
  rw [items_all hacc, hm.eq_with]
  refine hQ _ _ fun b o e => hm.heap b o ?_ (oth b o ?_ (k2 b o (k1 b o e)))
  · simp only [List.mem_cons, List.not_mem_nil, or_false, not_or]
    exact ⟨ne_of_get e nS, ne_of_get (k1 b o e) nI⟩
  · exact ne_of_get e nS
end
end Mine
end

section
open PySem PySem.W PyProof.Rows PySem.SeqAt
set_option maxRecDepth 100000
set_option maxHeartbeats 1000000
namespace Mine
section
variable {prog : Program} {w : World} {A : Around} {E : Value → Shared → Prop} {s : Shared} {C p : Addr} {its : Array Value}

theorem inst_new (C p : Addr) (its : Array Value) (hsz : its.size ≤ 64) (h0 : 0 < its.size) : MeetsIn prog w (Builtin.«tuple.__new__» ⟨[.type "tuple", .ref p], []⟩)
    (fun A R s => A.handled = none ∧ TupIt (model prog w) s.heap C ∧ Inst C p s.heap its ∧
      ∀ h' tk' q, (∀ b o, s.heap.get? b = some o → h'.get? b = some o) → s.heap.get? q = none → h'.get? q = some { cls := .type "tuple", data := .seq its } → R (.ok (.ret (.ref q))) { s with heap := h', toks := tk' }) :=
  .of_wp fun A R s ⟨hh, Y, x, hR⟩ => by
    have hsub := sub_tuple_self
    have hinit := init_tuple_lookup
    have hmh := madeHere_tuple
    have ty := inst_type (prog := prog) (w := w) x
    have typ : ∀ {A : Around} {Q : Value → Shared → Prop} {E : Value → Shared → Prop}, Q (.ref C) s → wpAny (model prog w) A (typeOf (.ref p)) Q E s := fun h => ty.here h
    have col : ∀ {A : Around} {Q : List Value → Shared → Prop} {E : Value → Shared → Prop}, A.handled = none → (∀ h' tk', (∀ b o, s.heap.get? b = some o → h'.get? b = some o) → Q its.toList { s with heap := h', toks := tk' }) → wpAny (model prog w) A (collect (.ref p)) Q E s :=
      fun h1 h2 => inst_collect h1 Y x hsz h0 h2
    wp_walk using typ, (col (A := A.in1) hh)
    intro h' tk' k
    show wpAny _ _ (Builtin.Tuple.tupleExact its.toList.toArray >>= fun v => ret v) _ _ _
    unfold Builtin.Tuple.tupleExact
    have e : its.toList.toArray = its := by simp
    rw [e]
    refine wpAny_bind (wpAny_newObj_type ?_ (by show its.size ≤ sizeLine; exact Nat.le_trans hsz (by decide)))
    refine wpAny_pure ⟨_, rfl, hR _ _ h'.objs.size (fun b o e => Heap.get?_push_of_some _ (k b o e)) ?_ (Heap.get?_push_size _ rfl)⟩
    cases e : s.heap.get? h'.objs.size with
    | none => rfl
    | some o => exact absurd (Heap.lt_size (k _ _ e)) (Nat.lt_irrefl _)

theorem call_tuple_inst {Q : Value → Shared → Prop} (hh : A.handled = none) (Y : TupIt (model prog w) s.heap C) (x : Inst C p s.heap its) (hsz : its.size ≤ 64) (h0 : 0 < its.size)
    (h : ∀ h' tk' q, (∀ b o, s.heap.get? b = some o → h'.get? b = some o) → s.heap.get? q = none → h'.get? q = some { cls := .type "tuple", data := .seq its } → Q (.ref q) { s with heap := h', toks := tk' }) :
    wpAny (model prog w) A (call (.type "tuple") [.ref p]) Q E s :=
  callType_newIn PySem.F.called_tuple (by decide) (PySem.F.typeCall_tuple_1 _) (PySem.F.newCall_tuple_1 _) (fun obj => PySem.F.args_object_init_2 obj _) PySem.F.entry_tuple_new
    (inst_new C p its hsz h0) ⟨hh, Y, x, fun h' tk' q k n g => ⟨⟨_, g, rfl⟩, h h' tk' q k n g⟩⟩
end
end Mine
end

section
open PySem PySem.W PyProof.Rows PySem.SeqAt PyProof.Rows.LCg
set_option maxRecDepth 100000
set_option maxHeartbeats 1000000
namespace Mine

/-- all that stands in h and neither in h₀ nor at L -/
def allNews (h₀ : Heap) (L : Addr) (h : Heap) : List (Addr × Obj) :=
  (List.range h.objs.size).filterMap fun b => if b = L ∨ (h₀.get? b).isSome = true then none else (h.get? b).map fun o => (b, o)
theorem mem_allNews {h₀ h : Heap} {L b : Addr} {o : Obj} : (b, o) ∈ allNews h₀ L h ↔ b ≠ L ∧ h₀.get? b = none ∧ h.get? b = some o := by
  unfold allNews
  rw [List.mem_filterMap]
  constructor
  · rintro ⟨c, _, e⟩
    by_cases hc : c = L ∨ (h₀.get? c).isSome = true
    · rw [if_pos hc] at e; cases e
    · rw [if_neg hc] at e
      cases hg : h.get? c with
      | none => rw [hg] at e; cases e
      | some o' =>
        rw [hg] at e
        simp only [Option.map_some, Option.some.injEq, Prod.mk.injEq] at e
        obtain ⟨rfl, rfl⟩ := e
        rw [not_or] at hc
        exact ⟨hc.1, by simpa using hc.2, hg⟩
  · rintro ⟨h1, h2, h3⟩
    refine ⟨b, List.mem_range.mpr (Heap.lt_size h3), ?_⟩
    rw [if_neg (by rw [not_or]; exact ⟨h1, by simp [h2]⟩), h3]
    rfl
theorem allNews_news (h₀ : Heap) (L : Addr) (h : Heap) : News h₀ L h (allNews h₀ L h) := fun ⟨b, o⟩ hp => by
  obtain ⟨h1, h2, h3⟩ := mem_allNews.mp hp
  exact ⟨h3, h1, h2⟩
theorem allNews_mod {h₀ h h' : Heap} {L : Addr} {news : List (Addr × Obj)} (N : News h₀ L h' news) (sub : ∀ p ∈ allNews h₀ L h, p ∈ news) (k : ∀ b o, h₀.get? b = some o → h.get? b = some o) (k' : ∀ b o, h₀.get? b = some o → h'.get? b = some o) : Mod [L] h h' := by
  intro b o hb e
  cases hg : h₀.get? b with
  | none => exact (N _ (sub _ (mem_allNews.mpr ⟨by simpa using hb, hg, e⟩))).1
  | some o' =>
    have := k _ _ hg
    rw [e] at this
    cases this
    exact k' _ _ hg

section
variable {prog : Program} {w : World} {A : Around} {h₀ : Heap} {L : Addr} {m : Str → Option Value} {env : Env} {s : Shared}

theorem rest_all {elt : Expr} {x : Str} {scope : Scope} {cl : List (Str × Addr)} {S : List (Addr × Obj) → Prop} {its : Array Value} {Fin : List Value → List (Addr × Obj) → Prop} {n₀ : List (Addr × Obj)}
    (G : Value → Value → List (Addr × Obj) → Prop) (mono : ∀ v y n n', (∀ p ∈ n, p ∈ n') → G v y n → G v y n')
    (src : ∀ n', (∀ p ∈ n₀, p ∈ n') → S n')
    (turn : ∀ v news I oI C oC D ys m₂ h tk (E' Q' : Value → Shared → Prop), v ∈ its.toList → (∀ p ∈ n₀, p ∈ news) → NsObj oC m₂ → m₂ x = some v → Fr h₀ L h m → News h₀ L h ((I, oI) :: (C, oC) :: (D, lst ys) :: news) → Off3 I C D news →
      (∀ y h' tk' news', (∀ p ∈ news, p ∈ news') → Fr h₀ L h' m → News h₀ L h' ((I, oI) :: (C, oC) :: (D, lst ys) :: news') → Off3 I C D news' → G v y news' → Q' y { s with heap := h', toks := tk' }) →
      wpAny (model prog w) A (eval elt (compEnvC scope cl C env)) Q' E' { s with heap := h, toks := tk })
    (fin : ∀ ys news, (∀ p ∈ n₀, p ∈ news) → Paired (fun v y => G v y news) its.toList ys → Fin ys news) :
    ∀ k i ys news, i + k = its.size → (∀ p ∈ n₀, p ∈ news) → Paired (fun v y => G v y news) (its.toList.take i) ys →
      CompRest prog w A h₀ L m env elt x scope cl s S (fun i v => its[i]? = some v) Fin k i ys news
  | 0, i, ys, news, hi, hn, hp => by
    refine CompRest.zero (fin ys news hn ?_)
    rwa [List.take_of_length_le (by simp; omega)] at hp
  | k + 1, i, ys, news, hi, hn, hp => by
    refine CompRest.succ fun v I oI C oC D m₂ h tk E' hv hC hx F N off _ => ?_
    have hv' : its.toList[i]? = some v := by simpa using hv
    refine turn v news I oI C oC D ys m₂ h tk E' _ (List.mem_of_getElem? hv') hn hC hx F N off ?_
    intro y h' tk' news' sub F' N' off' g
    refine CompEnd.intro F' N' news' (fun p hp => hp) off' (src _ fun p hp => sub _ (hn _ hp)) ?_
    refine rest_all G mono src turn fin k (i + 1) _ _ (by omega) (fun p hp => sub _ (hn _ hp)) ?_
    rw [List.take_add_one, hv']
    exact Paired.snoc (Paired.mono (fun v y g => mono v y _ _ sub g) hp) g

/-- a new object at the end of a turn -/
theorem turn_new {h h' : Heap} {I C D a : Addr} {oI oC o : Obj} {ys : List Value} {news : List (Addr × Obj)} (F : Fr h₀ L h m) (N : News h₀ L h ((I, oI) :: (C, oC) :: (D, lst ys) :: news)) (off : Off3 I C D news)
    (k : ∀ b o, h.get? b = some o → h'.get? b = some o) (n : h.get? a = none) (g : h'.get? a = some o) :
    Fr h₀ L h' m ∧ News h₀ L h' ((I, oI) :: (C, oC) :: (D, lst ys) :: (a, o) :: news) ∧ Off3 I C D ((a, o) :: news) := by
  have na : ∀ p ∈ (I, oI) :: (C, oC) :: (D, lst ys) :: news, a ≠ p.1 := fun p hp e => by
    have := (N p hp).1
    rw [← e, n] at this
    cases this
  have hL : a ≠ L := fun e => by
    obtain ⟨o, _, _, e', _⟩ := F.ns
    rw [← e, n] at e'
    cases e'
  have h0 : h₀.get? a = none := by
    cases e : h₀.get? a with
    | none => rfl
    | some o' => have := F.keep _ _ e; rw [n] at this; cases this
  refine ⟨F.keeps k, fun p hp => ?_, ⟨⟨na _ List.mem_cons_self, na _ (List.mem_cons_of_mem _ List.mem_cons_self), na _ (List.mem_cons_of_mem _ (List.mem_cons_of_mem _ List.mem_cons_self))⟩, off⟩⟩
  have old : ∀ p ∈ (I, oI) :: (C, oC) :: (D, lst ys) :: news, h'.get? p.1 = some p.2 ∧ p.1 ≠ L ∧ h₀.get? p.1 = none := fun p hp => ⟨k _ _ (N p hp).1, (N p hp).2⟩
  rcases List.mem_cons.mp hp with rfl | hp
  · exact old _ List.mem_cons_self
  rcases List.mem_cons.mp hp with rfl | hp
  · exact old _ (List.mem_cons_of_mem _ List.mem_cons_self)
  rcases List.mem_cons.mp hp with rfl | hp
  · exact old _ (List.mem_cons_of_mem _ (List.mem_cons_of_mem _ List.mem_cons_self))
  rcases List.mem_cons.mp hp with rfl | hp
  · exact ⟨g, hL, h0⟩
  · exact old _ (List.mem_cons_of_mem _ (List.mem_cons_of_mem _ (List.mem_cons_of_mem _ hp)))
end
end Mine
end

section
open PySem PySem.W PyProof.Rows PySem.SeqAt PyProof.Rows.LCg
set_option maxRecDepth 100000
set_option maxHeartbeats 1000000
namespace Mine

theorem mem_slicePick {items : Array Value} {lo hi st : Option Int} {v : Value} (h : v ∈ (slicePick items lo hi st).toList) : v ∈ items.toList := by
  unfold slicePick at h
  rw [List.mem_filterMap] at h
  obtain ⟨i, _, e⟩ := h
  exact Array.mem_toList_iff.mpr (Array.mem_of_getElem? e)
theorem paired_right {α β : Type} {F : α → β → Prop} : ∀ {l₁ : List α} {l₂ : List β}, Paired F l₁ l₂ → ∀ b ∈ l₂, ∃ a, F a b := Paired.right

section
variable {prog : Program} {w : World} {A : Around} {E : Value → Shared → Prop} {s : Shared} {m : Str → Option Value} {h₀ : Heap}

/-- what an element of «row» is -/
def IsRow (_ y : Value) (news : List (Addr × Obj)) : Prop := ∃ a x t n, y = .ref a ∧ (a, ({ cls := .type "list", data := .seq #[.int x t] n } : Obj)) ∈ news

set_option maxHeartbeats 2000000 in
theorem row_walk {nm : Str} {L fa : Addr} {cd : Value} {l : Addr} {vs : List Value} {way : Int} {tw : Tok} {oW : Obj} {Q : Flow → Shared → Prop}
    (hh : A.handled = none) (F : Fr h₀ L s.heap m) (hl : h₀.IsList l vs.toArray) (hin : ∀ v ∈ vs, ∃ n t, v = .int n t) (len : vs.length ≤ 63) (ms : m ("script" : Str) = some (.ref l))
    (cell : s.heap.get? (L + 1) = some oW) (hoW : oW.data = .cell (some (.int way tw))) (hL1 : h₀.get? (L + 1) = none)
    (post : ∀ h' tk' D (rs : List Value), Fr h₀ L h' (upd m "row" (.ref D)) → D ≠ L → PlainL h' D rs.toArray → (∀ v ∈ rs, ∃ x, Cell [L] h' v x) → rs.length ≤ 63 → Q .next { s with heap := h', toks := tk' }) :
    wpAny (model prog w) A (exec (stmtAt 7 1) (envOfC nm (scopeAt 7) L fa cd)) Q E s := by
  refine Assign_ListComp_U (h₀ := h₀) (L := L) (m := m) (cl := [("way", L + 1)]) F rfl (by rfl) (by rfl) (by decide) (by rfl) (by decide) (by rfl) (by rfl) (by rfl) ?_
  refine wpAny_Subscript_list_slice (ev_name (m := m) (by rfl) (by rfl) F.ns ms ?_)
  refine wpAny_evalPart_some (wpAny_Constant_int (wpAny_evalPart_none ?_))
  refine ⟨l, vs.toArray, some 1, none, rfl, hl.at fun o e => F.keep _ _ e, by simp [sizeLine]; omega, .int _ _, .none, ?_⟩
  have k1 : ∀ b o, s.heap.get? b = some o → ((s.heap.push { cls := .type "slice", data := .fields #[.int 1 s.toks, .none, .none] }).push { cls := .type "list", data := .seq (slicePick vs.toArray (some 1) none none) }).get? b = some o := fun b o e => Heap.get?_push_of_some _ (Heap.get?_push_of_some _ e)
  have g1 : ((s.heap.push { cls := .type "slice", data := .fields #[.int 1 s.toks, .none, .none] }).push { cls := .type "list", data := .seq (slicePick vs.toArray (some 1) none none) }).get? (s.heap.push { cls := .type "slice", data := .fields #[.int 1 s.toks, .none, .none] }).objs.size = some { cls := .type "list", data := .seq (slicePick vs.toArray (some 1) none none) } := Heap.get?_push_size _ rfl
  rw [Heap.size_push] at g1
  have hpick : ∀ v ∈ (slicePick vs.toArray (some 1) none none).toList, ∃ n t, v = .int n t := fun v hv => hin v (by simpa using mem_slicePick hv)
  have hple : (slicePick vs.toArray (some 1) none none).size ≤ 63 := Nat.le_trans (slicePick_size_le _ _ _ _) (by simpa using len)
  have nA : s.heap.get? (s.heap.objs.size + 1) = none := get_none_of_le (Nat.le_succ _)
  dsimp only
  generalize slicePick vs.toArray (some 1) none none = its at *
  generalize (s.heap.push { cls := .type "slice", data := .fields #[.int 1 s.toks, .none, .none] }).push { cls := .type "list", data := .seq its } = h₁ at k1 g1 ⊢
  generalize s.heap.objs.size + 1 = ax at *
  have F1 : Fr h₀ L h₁ m := F.keeps k1
  have hax : ax ≠ L := fun e => by
    obtain ⟨o, _, _, e', _⟩ := F.ns
    rw [← e, nA] at e'
    cases e'
  have hax0 : h₀.get? ax = none := by
    cases e : h₀.get? ax with
    | none => rfl
    | some o' => have := F.keep _ _ e; rw [nA] at this; cases this
  refine .inl ⟨ax, its, [(ax, { cls := .type "list", data := .seq its }), (L + 1, oW)], rfl, hh, F1, fun p hp => ?_, .inr ⟨_, List.mem_cons_self, rfl, 0, rfl⟩, Nat.le_trans hple (by decide), fun s₂ hs₂ => ?_⟩
  · rcases List.mem_cons.mp hp with rfl | hp
    · exact ⟨g1, hax, hax0⟩
    · rw [List.mem_singleton.mp hp]
      exact ⟨k1 _ _ cell, Nat.succ_ne_self L, hL1⟩
  obtain ⟨gh, rfl⟩ := hs₂
  refine rest_all (n₀ := [(ax, { cls := .type "list", data := .seq its }), (L + 1, oW)]) IsRow ?_ ?_ ?_ ?_ its.size 0 [] _ (by omega) (fun p hp => hp) .nil
  · rintro v y n n' sub ⟨a, x, t, k, e, hm⟩
    exact ⟨a, x, t, k, e, sub _ hm⟩
  · intro n' sub
    exact .inr ⟨_, sub _ List.mem_cons_self, rfl, 0, rfl⟩
  · intro v news I oI C oC D ys m₂ h tk E' Q' hv sub hC hx F' N off fin
    obtain ⟨n, t, rfl⟩ := hpick v hv
    have hway : (L + 1, oW) ∈ (I, oI) :: (C, oC) :: (D, lst ys) :: news := List.mem_cons_of_mem _ (List.mem_cons_of_mem _ (List.mem_cons_of_mem _ (sub _ (List.mem_cons_of_mem _ List.mem_cons_self))))
    have hCm : (C, oC) ∈ (I, oI) :: (C, oC) :: (D, lst ys) :: news := List.mem_cons_of_mem _ List.mem_cons_self
    have done : ∀ z u tk', wpAny (model prog w) A (newList [.int z u]) Q' E' { s with heap := h, toks := tk' } := by
      intro z u tk'
      refine wpAny_newObj_type ?_ (by size_fits)
      have hnew := turn_new (a := h.objs.size) (o := { cls := .type "list", data := .seq ([.int z u] : List Value).toArray }) F' N off (fun b o e => Heap.get?_push_of_some _ e) (get_none h) (Heap.get?_push_size _ rfl)
      exact fin _ _ tk' _ (fun p hp => List.mem_cons_of_mem _ hp) hnew.1 hnew.2.1 hnew.2.2 ⟨_, z, u, 0, rfl, List.mem_cons_self⟩
    refine List_ (Calls.spliced_cons ?_)
    refine wpAny_IfExp (pos := ⟨102, 12, 102, 38⟩) (wpAny_isTrue_Compare1 (lcf_cell N (by rfl) hway hoW ?_ (by rfl) (by rfl)))
    refine wpAny_Constant_int (PyProof.Rows.eq_int (wpAny_truthy_bool ?_))
    by_cases h0 : way = 0
    · rw [show (way == 0) = true from beq_iff_eq.mpr h0]
      simp only [if_true]
      refine LCgL.ld_own N hCm hC hx ?_ (by rfl) (by rfl)
      exact Calls.spliced_nil (done _ _ _)
    · rw [show (way == 0) = false from beq_eq_false_iff_ne.mpr h0]
      simp only [Bool.false_eq_true, if_false]
      refine wpAny_BinOp (LCgL.ld_own N hCm hC hx ?_ (by rfl) (by rfl))
      refine lcf_cell N (by rfl) hway hoW ?_ (by rfl) (by rfl)
      refine PyProof.Rows.mod_int' h0 ?_
      exact Calls.spliced_nil (done _ _ _)
  · intro ys news sub hp D h tk F' N off
    have hys : ys.length = its.toList.length := (Paired.length hp).symm
    refine post h tk D ys F' (N _ List.mem_cons_self).2.1 ⟨_, _, (N _ List.mem_cons_self).1, rfl, rfl, rfl⟩ (fun y hy => ?_) (by rw [hys]; simpa using hple)
    obtain ⟨v, a, x, t, k, rfl, hm⟩ := Paired.right hp y hy
    have z := N _ (List.mem_cons_of_mem _ hm)
    exact ⟨x, a, t, k, rfl, by simpa using z.2.1, z.1⟩
end
end Mine
end

section
open PySem PySem.W PyProof.Rows PySem.SeqAt PyProof.Rows.LCg
set_option maxRecDepth 100000
set_option maxHeartbeats 1000000
namespace Mine
section
variable {prog : Program} {w : World} {A : Around} {E : Value → Shared → Prop} {s : Shared} {env : Env} {m : Str → Option Value} {h₀ : Heap}

/-- «xs[lower::c]» -/
theorem ev_slice_step {xs : Str} {lower : Option Expr} {lo : Option Int} {c : Int} {k0 : Nat} {p1 p2 p3 p4 : Pos} {S : Addr} {items : List Value} {Q : Value → Shared → Prop}
    (hk : env.scope.kind = .function) (lx : env.kindOf xs = some .local) (dx : (xs == ("__debug__" : Str)) = false) (hc : c ≠ 0)
    (hlo : ∀ (s : Shared) (Q' : Value → Shared → Prop), (∀ vl tk', IsPart vl lo → Q' vl { s with toks := tk' }) → wpAny (model prog w) A (evalPart lower env) Q' E s)
    (hns : s.heap.Ns env.locals m) (mx : m xs = some (.ref S)) (hS : s.heap.IsList S items.toArray) (hlen : items.length ≤ 64)
    (post : ∀ h' tk' a (us : List Value), (∀ b o, s.heap.get? b = some o → h'.get? b = some o) → s.heap.get? a = none → PlainL h' a us.toArray → (∀ v ∈ us, v ∈ items) → us.length ≤ items.length → Q (.ref a) { s with heap := h', toks := tk' }) :
    wpAny (model prog w) A (eval (.Subscript (.Name xs p1) (.Slice lower none (some (.Constant (.int c) k0 p2)) p3) p4) env) Q E s := by
  refine wpAny_Subscript_Slice_step (T := "list") list_getitem_lookup (ev_name hk lx hns mx ?_ dx)
  refine wpAny_Slice (hlo _ _ fun vl tk1 hvl => ?_)
  refine wpAny_evalPart_none (wpAny_evalPart_some (wpAny_Constant_int ?_))
  dsimp only
  have k1 : ∀ b o, s.heap.get? b = some o → (s.heap.push { cls := .type "slice", data := .fields #[vl, .none, .int c tk1] }).get? b = some o := fun b o e => Heap.get?_push_of_some _ e
  have hsl := Heap.IsSliceOf.new s.heap vl .none (.int c tk1)
  have hl1 : (s.heap.push { cls := .type "slice", data := .fields #[vl, .none, .int c tk1] }).IsList S items.toArray := hS.at fun o e => k1 _ _ e
  generalize s.heap.push { cls := .type "slice", data := .fields #[vl, .none, .int c tk1] } = h₁ at k1 hsl hl1 ⊢
  refine ⟨hl1.typeIs, wpAny_getItem_list_slice (s := { s with heap := h₁, toks := tk1 + 1 }) hl1 hsl hvl .none (.int _ _) (by simpa using hc) ?_ (by simp [sizeLine]; omega)⟩
  have hn : s.heap.get? h₁.objs.size = none := by
    cases e : s.heap.get? h₁.objs.size with
    | none => rfl
    | some o => exact absurd (Heap.lt_size (k1 _ _ e)) (Nat.lt_irrefl _)
  have g : (h₁.push { cls := .type "list", data := .seq (slicePick items.toArray lo none (some c)) }).get? h₁.objs.size = some { cls := .type "list", data := .seq (slicePick items.toArray lo none (some c)) } := Heap.get?_push_size _ rfl
  refine post _ _ h₁.objs.size (slicePick items.toArray lo none (some c)).toList (fun b o e => Heap.get?_push_of_some _ (k1 _ _ e)) hn ⟨_, 0, g, rfl, rfl, by simp⟩ (fun v hv => by simpa using mem_slicePick hv) ?_
  have := slicePick_size_le items.toArray lo none (some c)
  simpa using this
end
section
variable {prog : Program} {w : World} {A : Around} {E : Value → Shared → Prop} {s : Shared} {m : Str → Option Value} {h₀ : Heap}

theorem split_walk {nm : Str} {L fa : Addr} {cd : Value} {D : Addr} {rs : List Value} {Q : Flow → Shared → Prop}
    (X : LawX prog w A (envOfC nm (scopeAt 7) L fa cd) h₀) (hns : s.heap.Ns L m) (mr : m ("row" : Str) = some (.ref D)) (hR : PlainL s.heap D rs.toArray) (cells : ∀ v ∈ rs, ∃ x, Cell [L] s.heap v x) (hlen : rs.length ≤ 63) (hDL : D ≠ L)
    (post : ∀ h' tk' one other (us ts : List Value) a b, h'.Ns L (upd (upd m "other" (.ref other)) "one" (.ref one)) → Mod [L] s.heap h' → PlainL h' one us.toArray → PlainL h' other ts.toArray → Cells [L] h' us a → Cells [L] h' ts b →
      us.length ≤ 63 → ts.length ≤ 63 → s.heap.get? one = none → s.heap.get? other = none → one ≠ L → other ≠ L → Q .next { s with heap := h', toks := tk' }) :
    wpAny (model prog w) A (exec (stmtAt 7 2) (envOfC nm (scopeAt 7) L fa cd)) Q E s := by
  have hk := X.kind
  refine assign_pair X.hh (X.loc _ (by decide)) (X.loc _ (by decide)) X.nf (by rfl) (by rfl) ?_
  refine ev_slice_step (lo := none) (items := rs) hk (X.loc _ (by decide)) (by decide) (by decide) (fun s Q' h => wpAny_evalPart_none (h _ s.toks .none)) hns mr (PlainL.isList hR) (by omega) fun h1 tk1 one us k1 n1 p1 sub1 le1 => ?_
  have k1' : ∀ b o, s.heap.get? b = some o → h1.get? b = some o := k1
  refine ev_slice_step (lo := some 1) (items := rs) hk (X.loc _ (by decide)) (by decide) (by decide) (fun s Q' h => wpAny_evalPart_some (wpAny_Constant_int (h _ _ (.int _ _)))) (hns.at fun o e => k1' _ _ e) mr ((PlainL.isList hR).at fun o e => k1' _ _ e) (by omega) fun h2 tk2 other ts k2 n2 p2 sub2 le2 => ?_
  have k2' : ∀ b o, h1.get? b = some o → h2.get? b = some o := k2
  have k12 : ∀ b o, s.heap.get? b = some o → h2.get? b = some o := fun b o e => k2' b o (k1' b o e)
  refine ⟨m, hns.at fun o e => k12 _ _ e, fun h3 tk3 hn3 mod3 => ?_⟩
  have mod3' : Mod [L] h2 h3 := mod3
  obtain ⟨oL, hL⟩ : ∃ o, s.heap.get? L = some o := by obtain ⟨o, _, _, e, _⟩ := hns; exact ⟨o, e⟩
  have m13 : Mod [L] s.heap h3 := Mod.trans (fun b o _ e => k12 b o e) mod3'
  have n1L : one ≠ L := Ne.symm (ne_of_get hL n1)
  have n2L : other ≠ L := Ne.symm (ne_of_get (k1' _ _ hL) n2)
  have n2' : s.heap.get? other = none := by
    cases e : s.heap.get? other with
    | none => rfl
    | some o => have := k1' _ _ e; rw [show h1.get? other = none from n2] at this; cases this
  obtain ⟨a, ha⟩ := Cells.exists (us := us) fun v hv => let ⟨x, c⟩ := cells v (sub1 v hv); ⟨x, c.mod m13⟩
  obtain ⟨b, hb⟩ := Cells.exists (us := ts) fun v hv => let ⟨x, c⟩ := cells v (sub2 v hv); ⟨x, c.mod m13⟩
  exact post h3 tk3 one other us ts a b hn3 m13 (plainL_mod (p1.keeps k2') mod3' (by simpa using n1L)) (plainL_mod p2 mod3' (by simpa using n2L)) ha hb (by omega) (by omega) n1 n2' n1L n2L
end
end Mine
end

section
open PySem PySem.W PyProof.Rows PySem.SeqAt PyProof.Rows.LCg
set_option maxRecDepth 100000
set_option maxHeartbeats 1000000
namespace Mine

/-! ## the last comparison -/
def triD (x : Int × Int × Int) : PyData := .tuple [.int x.1, .int x.2.1, .list [.int x.2.2]]
theorem tri_reads {W : List Addr} {h : Heap} {v : Value} {x : Int × Int × Int} (c : Tri W h v x) : ∃ as, Reads h v (triD x) as := by
  obtain ⟨p, d, n, t1, t2, u, rfl, _, g, a, t, k, rfl, _, ga⟩ := c
  exact ⟨_, .tuple g rfl rfl (.cons (.int _ _) (.cons (.int _ _) (.cons (.list ga rfl rfl (.cons (.int _ _) .nil)) .nil)))⟩
theorem tris_reads {W : List Addr} {h : Heap} : ∀ {vs : List Value} {F : List (Int × Int × Int)}, Paired (Tri W h) vs F → ∃ as, ReadsAll h vs (F.map triD) as
  | _, _, .nil => ⟨_, .nil⟩
  | _, _, .cons c r => by
    obtain ⟨as, x⟩ := tri_reads c
    obtain ⟨bs, y⟩ := tris_reads r
    exact ⟨_, .cons x y⟩
theorem tris_depth : ∀ F : List (Int × Int × Int), PyData.depthAll (F.map triD) ≤ 2
  | [] => by simp [PyData.depthAll]
  | x :: F => by
    rw [List.map_cons, PyData.depthAll]
    refine Nat.max_le.mpr ⟨?_, tris_depth F⟩
    simp [triD, PyData.depth, PyData.depthAll]
theorem tris_lay : ∀ F : List (Int × Int × Int), PyData.canLayAll0 (F.map triD) = true
  | [] => rfl
  | x :: F => by
    rw [List.map_cons, PyData.canLayAll0, tris_lay F]
    simp [triD, PyData.canLay0, PyData.canLayAll0]
theorem paired_left {α β : Type} {F : α → β → Prop} : ∀ {l₁ : List α} {l₂ : List β}, Paired F l₁ l₂ → ∀ a ∈ l₁, ∃ b, F a b
  | _, _, .nil, a, h => nomatch h
  | _, _, .cons c r, a, h => by
    rcases List.mem_cons.mp h with rfl | h
    · exact ⟨_, c⟩
    · exact paired_left r a h
theorem paired_join {α β γ : Type} {P : α → β → Prop} {G : α → γ → Prop} {T : γ → β → Prop} (H : ∀ v x y, P v x → G v y → T y x) : ∀ {vs : List α} {xs : List β} {ys : List γ}, Paired P vs xs → Paired G vs ys → Paired T ys xs
  | _, _, _, .nil, .nil => .nil
  | _, _, _, .cons c r, .cons d q => .cons (H _ _ _ c d) (paired_join H r q)

/-- the scope of the last comprehension -/
def toldScope : Scope := { kind := .function, names := [(".0", .local), ("told", .local), ("tuple", .globalImplicit)], isGenerator := false, isCoroutine := false }

/-- What the last line asks for. -/
structure LawY (prog : Program) (w : World) (A : Around) (env : Env) (h₀ : Heap) (s₀ : Shared) (C K : Addr) : Prop where
  it : TupIt (model prog w) h₀ C
  tup : ∀ c, Glb prog w A (compEnvC toldScope [] c env) h₀ "tuple" (.type "tuple")
  cda : Glb prog w A env h₀ "_count_diff_all_purpose" (.ref K)
  withK : MisWith prog w A env h₀ K
  call : ∀ (h : Heap) (tk : Nat) (one other : Addr) (us ts : List Value) (a b : List Int) (Q E : Value → Shared → Prop), (∀ b o, h₀.get? b = some o → h.get? b = some o) → h₀.objs.size ≤ h.objs.size → h.IsList one us.toArray → h.IsList other ts.toArray →
    Cells [] h us a → Cells [] h ts b → us.length ≤ 63 → ts.length ≤ 63 →
    (∀ h' tk' R (rs : List Value), (∀ b o, h.get? b = some o → h'.get? b = some o) → h.get? R = none → PlainL h' R rs.toArray → Paired (Mis C [] h') rs (due1 a b a.length ++ due2 a b b.length) → Q (.ref R) { s₀ with heap := h', toks := tk' }) →
    wpAny (model prog w) A (call (.ref K) [.ref one, .ref other]) Q E { s₀ with heap := h, toks := tk }

section
variable {prog : Program} {w : World} {A : Around} {E : Value → Shared → Prop} {s : Shared} {m : Str → Option Value} {h₀ : Heap}

/-- what stands at L is a namespace: no list, no tuple -/
theorem ne_ns {h : Heap} {L p : Addr} {o : Obj} {vs : Array Value} {n : Nat} (N : h.Ns L m) (e : h.get? p = some o) (d : o.data = .seq vs n) : p ≠ L := fun q => by
  obtain ⟨o', es, ep, e', d', _⟩ := N
  rw [q, e'] at e
  cases e
  rw [d] at d'
  cases d'

set_option maxHeartbeats 2000000 in
theorem return_walk {nm : Str} {L fa : Addr} {cd : Value} {C K one other D : Addr} {us ts ds : List Value} {a b : List Int} {Q : Flow → Shared → Prop} {s₀ : Shared} {h : Heap} {tk : Nat}
    (X : LawX prog w A (envOfC nm (scopeAt 7) L fa cd) h₀) (Y : LawY prog w A (envOfC nm (scopeAt 7) L fa cd) h₀ s₀ C K) (F : Fr h₀ L h m)
    (mo : m ("one" : Str) = some (.ref one)) (mt : m ("other" : Str) = some (.ref other)) (md : m ("due" : Str) = some (.ref D))
    (h1 : PlainL h one us.toArray) (h2 : PlainL h other ts.toArray) (hD : PlainL h D ds.toArray) (hp : Paired (Tri [L] h) ds (due1 a b a.length ++ due2 a b b.length))
    (cs : Cells [L] h us a) (ct : Cells [L] h ts b) (la : us.length ≤ 63) (lb : ts.length ≤ 63)
    (post : ∀ h' tk', Fr h₀ L h' m → Q (.ret (.bool true)) { s₀ with heap := h', toks := tk' }) :
    wpAny (model prog w) A (exec (stmtAt 7 6) (envOfC nm (scopeAt 7) L fa cd)) Q E { s₀ with heap := h, toks := tk } := by
  have hk := X.kind
  have hF : (due1 a b a.length ++ due2 a b b.length).length ≤ 126 := by
    have e1 := due1_length a b a.length
    have e2 := due2_length a b b.length
    have e3 : us.length = a.length := Paired.length cs
    have e4 : ts.length = b.length := Paired.length ct
    rw [List.length_append]; omega
  generalize hFe : due1 a b a.length ++ due2 a b b.length = FF at *
  refine wpAny_Return_some (wpAny_Compare1 (ListComp_U (h₀ := h₀) (L := L) (m := m) (cl := []) F (by rfl) (by decide) (by rfl) (by decide) (by rfl) ?_))
  refine wpAny_Call_ofName (Y.cda _ _ _ _ F.keep ?_)
  refine Y.withK _ _ _ _ _ _ (by rfl) (by rfl) ?_
  refine Calls.spliced_cons (ev_name hk (X.loc _ (by decide)) F.ns mo ?_)
  refine Calls.spliced_cons (ev_name hk (X.loc _ (by decide)) F.ns mt ?_)
  refine Calls.spliced_nil ⟨F.keep, ?_⟩
  refine Y.call h tk one other us ts a b _ _ F.keep (Nat.le_trans F.above (Nat.le_of_lt F.ns.lt)) (PlainL.isList h1) (PlainL.isList h2) (cs.wide (by simp)) (ct.wide (by simp)) la lb fun g1 tk1 R rs k1 nR pR hrs => ?_
  rw [hFe] at hrs
  have F1 : Fr h₀ L g1 m := F.keeps k1
  obtain ⟨oR, n, eR, cR, _, dR⟩ := id pR
  have hRL : R ≠ L := ne_ns F1.ns eR dR
  have hR0 : h₀.get? R = none := by
    cases e : h₀.get? R with
    | none => rfl
    | some o => have := F.keep _ _ e; rw [nR] at this; cases this
  have hlen : rs.length = FF.length := Paired.length hrs
  refine .inl ⟨R, rs.toArray, allNews h₀ L g1, rfl, X.hh, F1, allNews_news _ _ _, .inr ⟨oR, mem_allNews.mpr ⟨hRL, hR0, eR⟩, cR, n, dR⟩, by simp [sizeLine]; omega, fun s₂ hs₂ => ?_⟩
  obtain ⟨g2, rfl⟩ := hs₂
  refine rest_all (n₀ := allNews h₀ L g1) (fun v y news => ∀ p dd n its, v = .ref p → g1.get? p = some { cls := .ref C, dict := dd, data := .seq its n } → ∃ q, y = .ref q ∧ (q, ({ cls := .type "tuple", data := .seq its } : Obj)) ∈ news)
    ?_ ?_ ?_ ?_ rs.toArray.size 0 [] _ (by omega) (fun p hp => hp) .nil
  · intro v y n n' sub g p dd k its e1 e2
    obtain ⟨q, e, hm⟩ := g p dd k its e1 e2
    exact ⟨q, e, sub _ hm⟩
  · intro n' sub
    exact .inr ⟨oR, sub _ (mem_allNews.mpr ⟨hRL, hR0, eR⟩), cR, n, dR⟩
  · intro v news I oI c oC Dc ys m₂ g3 tk3 E' Q' hv sub hC hx F3 N off fin
    obtain ⟨x, p, dd, k, t1, t2, u, rfl, _, gp, cu⟩ := paired_left hrs v (by simpa using hv)
    have hpL : p ≠ L := ne_ns F1.ns gp rfl
    have N' : News h₀ L g3 news := fun p hp => N p (List.mem_cons_of_mem _ (List.mem_cons_of_mem _ (List.mem_cons_of_mem _ hp)))
    have m13 : Mod [L] g1 g3 := allNews_mod N' sub F1.keep F3.keep
    have gp3 : g3.get? p = some { cls := .ref C, dict := dd, data := .seq #[.int x.1 t1, .int x.2.1 t2, u] k } := m13 _ _ (by simpa using hpL) gp
    have hCm : (c, oC) ∈ (I, oI) :: (c, oC) :: (Dc, lst ys) :: news := List.mem_cons_of_mem _ List.mem_cons_self
    refine wpAny_Call_ofName (Y.tup c _ _ _ _ F3.keep ?_)
    refine Pv.callWith_type1 ?_
    refine Calls.spliced_cons (LCgL.ld_own N hCm hC hx ?_ (by rfl) (by rfl))
    refine Calls.spliced_nil ?_
    refine call_tuple_inst (s := { s₀ with heap := g3, toks := tk3 }) (C := C) (its := #[.int x.1 t1, .int x.2.1 t2, u]) X.hh (Y.it.keeps F3.keep) ⟨_, _, gp3⟩ (by simp) (by simp) fun g4 tk4 q k4 nq gq => ?_
    have hnew := turn_new (a := q) F3 N off k4 nq gq
    refine fin (.ref q) g4 tk4 _ (fun p hp => List.mem_cons_of_mem _ hp) hnew.1 hnew.2.1 hnew.2.2 ?_
    intro p' dd' n' its' e1 e2
    cases e1
    rw [gp] at e2
    have e3 := congrArg Obj.data (Option.some.inj e2)
    simp only [Data.seq.injEq] at e3
    obtain ⟨rfl, _⟩ := e3
    exact ⟨q, rfl, List.mem_cons_self⟩
  · intro ys news sub hps D' g3 tk3 F3 N off
    have N' : News h₀ L g3 news := fun p hp => N p (List.mem_cons_of_mem _ hp)
    have m13 : Mod [L] g1 g3 := allNews_mod N' sub F1.keep F3.keep
    have ma3 : Mod [L] h g3 := Mod.trans (fun b o _ e => k1 b o e) m13
    have hys : Paired (Tri [L] g3) ys FF := by
      refine paired_join (fun v x y c g => ?_) hrs (show Paired _ rs ys by simpa using hps)
      obtain ⟨p, dd, k, t1, t2, u, rfl, _, gp, a', t, k', rfl, _, ga⟩ := c
      obtain ⟨q, rfl, hm⟩ := g p dd k _ rfl gp
      have z := N' _ hm
      have haL : a' ≠ L := ne_ns F1.ns ga rfl
      exact ⟨q, _, _, t1, t2, _, rfl, by simpa using z.2.1, z.1, a', t, k', rfl, by simpa using haL, m13 _ _ (by simpa using haL) ga⟩
    have hds : Paired (Tri [L] g3) ds FF := tris_mod hp ma3 (by simp)
    obtain ⟨oD, nD, eD, cD, _, dD⟩ := id hD
    have hDL : D ≠ L := ne_ns F.ns eD dD
    refine ev_name hk (X.loc _ (by decide)) F3.ns md ?_
    obtain ⟨as, ra⟩ := tris_reads hys
    obtain ⟨bs, rb⟩ := tris_reads hds
    have zD := N _ List.mem_cons_self
    have RA : Reads g3 (.ref D') (.list (FF.map triD)) (D' :: as) := .list zD.1 rfl rfl (by simpa using ra)
    have RB : Reads g3 (.ref D) (.list (FF.map triD)) (D :: bs) := .list (ma3 _ _ (by simpa using hDL) eD) cD dD (by simpa using rb)
    have lay : (PyData.list (FF.map triD)).canLay0 = true := by rw [PyData.canLay0]; exact tris_lay FF
    refine compareEq_reads RA RB lay lay ?_ ?_
    · have := tris_depth FF
      have hun := X.un
      rw [Nat.min_self, PyData.depth]
      omega
    · rw [eqv_refl _ lay]
      exact post g3 _ F3
end
end Mine
end

section
open PySem PySem.W PyProof.Rows PySem.SeqAt PyProof.Rows.LCg
set_option maxRecDepth 100000
set_option maxHeartbeats 1000000
namespace Mine
section
variable {prog : Program} {w : World} {A : Around} {E : Value → Shared → Prop} {m : Str → Option Value} {h₀ : Heap}

theorem fr_mod {h h' : Heap} {L : Addr} {m' : Str → Option Value} (F : Fr h₀ L h m) (y : Mod [L] h h') (n : h'.Ns L m') : Fr h₀ L h' m' :=
  ⟨n, Mod.keep F.keep y (by intro a ha; rw [List.mem_singleton.mp ha]; exact Heap.get?_none_of_le F.above), F.above⟩

set_option maxHeartbeats 2000000 in
theorem law_rest {nm : Str} {L fa : Addr} {cd : Value} {C K l : Addr} {vs : List Value} {way : Int} {tw : Tok} {oW : Obj} {Q : Flow → Shared → Prop} {s₀ : Shared} {h : Heap} {tk : Nat}
    (X : LawX prog w A (envOfC nm (scopeAt 7) L fa cd) h₀) (Y : LawY prog w A (envOfC nm (scopeAt 7) L fa cd) h₀ s₀ C K) (F : Fr h₀ L h m)
    (hl : h₀.IsList l vs.toArray) (hin : ∀ v ∈ vs, ∃ n t, v = .int n t) (len : vs.length ≤ 63) (ms : m ("script" : Str) = some (.ref l))
    (cell : h.get? (L + 1) = some oW) (hoW : oW.data = .cell (some (.int way tw))) (hL1 : h₀.get? (L + 1) = none)
    (post : ∀ h' tk' m', Fr h₀ L h' m' → Q (.ret (.bool true)) { s₀ with heap := h', toks := tk' }) :
    wpAny (model prog w) A (execs [stmtAt 7 1, stmtAt 7 2, stmtAt 7 3, stmtAt 7 4, stmtAt 7 5, stmtAt 7 6] (envOfC nm (scopeAt 7) L fa cd)) Q E { s₀ with heap := h, toks := tk } := by
  refine wpAny_execs_cons (row_walk (s := { s₀ with heap := h, toks := tk }) X.hh F hl hin len ms cell hoW hL1 fun h1 tk1 D rs F1 hDL pD cells hlen => ?_)
  refine wpAny_execs_cons (split_walk (s := { s₀ with heap := h1, toks := tk1 }) X F1.ns (upd_same _ _ _) pD cells hlen hDL fun h2 tk2 one other us ts a b hn2 mod2 p1 p2 cs ct la lb n1 n2 n1L n2L => ?_)
  have F2 := fr_mod F1 mod2 hn2
  -- «due = []»
  refine wpAny_execs_cons (wpAny_Assign_Name (List_ (Calls.spliced_nil (wpAny_newObj_type ?_ (by size_fits)))))
  have nR : h2.get? h2.objs.size = none := get_none _
  have up : ∀ b o, h2.get? b = some o → (h2.push { cls := .type "list", data := .seq ([] : List Value).toArray }).get? b = some o := fun b o e => Heap.get?_push_of_some _ e
  have hR9 : PlainL (h2.push { cls := .type "list", data := .seq ([] : List Value).toArray }) h2.objs.size #[] := ⟨_, _, Heap.get?_push_size _ rfl, rfl, rfl, rfl⟩
  show wpAny _ _ (storeName _ _ (.ref h2.objs.size)) _ _ { s₀ with heap := h2.push { cls := .type "list", data := .seq ([] : List Value).toArray }, toks := _ }
  generalize h2.push { cls := .type "list", data := .seq ([] : List Value).toArray } = h3 at *
  generalize h2.objs.size = R at *
  refine wpAny_storeName_local (X.loc _ (by decide)) (F2.ns.at fun o e => up _ _ e) (fun h4 hn4 hs4 => ?_) X.nf
  have mod4 : Mod [L] h3 h4 := Mod.same (a := L) hs4 (by simp)
  have M24 : Mod [L] h2 h4 := Mod.trans (fun b o _ e => up b o e) mod4
  have F4 := fr_mod F2 M24 hn4
  have hRL : R ≠ L := by obtain ⟨o, _, _, e, _⟩ := F2.ns; exact Ne.symm (ne_of_get e nR)
  have hR0 : h₀.get? R = none := by
    cases e : h₀.get? R with
    | none => rfl
    | some o => have := F2.keep _ _ e; rw [nR] at this; cases this
  have hL0 : h₀.get? L = none := Heap.get?_none_of_le F.above
  have new0 : ∀ x ∈ [L, R], h₀.get? x = none := by
    intro x hx
    simp only [List.mem_cons, List.not_mem_nil, or_false] at hx
    rcases hx with rfl | rfl
    · exact hL0
    · exact hR0
  have q1 : PlainL h4 one us.toArray := plainL_mod p1 M24 (by simpa using n1L)
  have q2 : PlainL h4 other ts.toArray := plainL_mod p2 M24 (by simpa using n2L)
  have qR : PlainL h4 R #[] := plainL_mod hR9 mod4 (by simpa using hRL)
  have e1R : one ≠ R := by obtain ⟨o, _, e, _⟩ := p1; exact ne_of_get e nR
  have e2R : other ≠ R := by obtain ⟨o, _, e, _⟩ := p2; exact ne_of_get e nR
  have wR : ∀ b ∈ [L, R], b ∈ [L] ∨ h2.get? b = none := by
    intro b hb
    simp only [List.mem_cons, List.not_mem_nil, or_false] at hb ⊢
    rcases hb with rfl | rfl
    · exact .inl rfl
    · exact .inr nR
  have sL : ∀ b ∈ [L], b ∈ [L, R] := by simp
  have cs4 : Cells [L, R] h4 us a := (cs.wide wR).mod (M24.wide sL)
  have ct4 : Cells [L, R] h4 ts b := (ct.wide wR).mod (M24.wide sL)
  have ap : one ≠ L ∧ other ≠ L ∧ R ≠ L ∧ one ≠ R ∧ other ≠ R := ⟨n1L, n2L, hRL, e1R, e2R⟩
  have mo4 : upd (upd (upd (upd m "row" (.ref D)) "other" (.ref other)) "one" (.ref one)) "due" (.ref R) ("one" : Str) = some (.ref one) := by rw [upd_ne _ _ (by decide), upd_same]
  have mt4 : upd (upd (upd (upd m "row" (.ref D)) "other" (.ref other)) "one" (.ref one)) "due" (.ref R) ("other" : Str) = some (.ref other) := by rw [upd_ne _ _ (by decide), upd_ne _ _ (by decide), upd_same]
  have md4 : upd (upd (upd (upd m "row" (.ref D)) "other" (.ref other)) "one" (.ref one)) "due" (.ref R) ("due" : Str) = some (.ref R) := upd_same _ _ _
  have hn4' : h4.Ns L (upd (upd (upd (upd m "row" (.ref D)) "other" (.ref other)) "one" (.ref one)) "due" (.ref R)) := hn4
  have F4' : Fr h₀ L h4 (upd (upd (upd (upd m "row" (.ref D)) "other" (.ref other)) "one" (.ref one)) "due" (.ref R)) := F4
  generalize upd (upd (upd (upd m "row" (.ref D)) "other" (.ref other)) "one" (.ref one)) "due" (.ref R) = m4 at mo4 mt4 md4 hn4' F4'
  refine wpAny_execs_cons (due_loop1 (s := { s₀ with heap := h4, toks := _ }) X F4'.keep new0
    hn4' mo4 mt4 md4 q1 q2 qR ap cs4 ct4 (by omega) (by omega) fun h5 tk5 m5 ds hn5 names5 qD5 hp5 mod5 => ?_)
  have mod5' : Mod [L, R] h4 h5 := mod5
  have o1 : one ∉ [L, R] := by simp only [List.mem_cons, List.not_mem_nil, or_false, not_or]; exact ⟨n1L, e1R⟩
  have o2 : other ∉ [L, R] := by simp only [List.mem_cons, List.not_mem_nil, or_false, not_or]; exact ⟨n2L, e2R⟩
  have F5 : Fr h₀ L h5 m5 := ⟨hn5, Mod.keep F4'.keep mod5' new0, F.above⟩
  have la' : a.length ≤ 63 := by rw [← Paired.length cs]; exact la
  refine wpAny_execs_cons (due_loop2 (s := { s₀ with heap := h5, toks := tk5 }) (F₀ := due1 a b a.length) X F5.keep hn5 ((names5 _ (by decide)).trans mo4) ((names5 _ (by decide)).trans mt4) ((names5 _ (by decide)).trans md4)
    (plainL_mod q1 mod5' o1) (plainL_mod q2 mod5' o2) qD5 hp5 (Nat.le_trans (due1_length _ _ _) (by omega)) ap (cs4.mod mod5') (ct4.mod mod5') (by omega) fun h6 tk6 m6 ds6 hn6 names6 qD6 hp6 mod6 => ?_)
  have mod6' : Mod [L, R] h5 h6 := mod6
  have F6 : Fr h₀ L h6 m6 := ⟨hn6, Mod.keep F5.keep mod6' new0, F.above⟩
  have lR : ∀ b ∈ [L], b ∈ [L, R] ∨ h6.get? b = none := by intro b hb; left; simp only [List.mem_cons, List.not_mem_nil, or_false] at hb ⊢; simp [hb]
  refine wpAny_execs_cons (return_walk (s₀ := s₀) (h := h6) (tk := tk6) X Y F6 ((names6 _ (by decide)).trans ((names5 _ (by decide)).trans mo4)) ((names6 _ (by decide)).trans ((names5 _ (by decide)).trans mt4)) ((names6 _ (by decide)).trans ((names5 _ (by decide)).trans md4))
    (plainL_mod (plainL_mod q1 mod5' o1) mod6' o1) (plainL_mod (plainL_mod q2 mod5' o2) mod6' o2) qD6 (Paired.mono (fun v x c => c.wide lR) hp6) (((cs4.mod mod5').mod mod6').wide lR) (((ct4.mod mod5').mod mod6').wide lR) la lb
    fun h7 tk7 F7 => ?_)
  exact post h7 tk7 m6 F7
end
end Mine
end

section
open PySem PySem.W PyProof.Rows PySem.SeqAt PyProof.Rows.LCg
set_option maxRecDepth 100000
set_option maxHeartbeats 1000000
namespace Mine

theorem ints_each : ∀ {vs : List Value} {ns : List Int}, IntsAre vs ns → ∀ v ∈ vs, ∃ n t, v = .int n t
  | _, _, .nil, v, h => nomatch h
  | _, _, .cons n t r, v, h => by
    rcases List.mem_cons.mp h with rfl | h
    · exact ⟨n, t, rfl⟩
    · exact ints_each r v h
theorem ints_len : ∀ {vs : List Value} {ns : List Int}, IntsAre vs ns → vs.length = ns.length
  | _, _, .nil => rfl
  | _, _, .cons _ _ r => congrArg (· + 1) (ints_len r)

/-- the state behind the law's first statement -/
def AfterWay (L l : Addr) (hb : Heap) (s₀ : Shared) (f : Flow) (s' : Shared) : Prop :=
  f = .next ∧ ∃ h tk oW way tw m, s' = { s₀ with heap := h, toks := tk } ∧ Fr hb L h m ∧ m ("script" : Str) = some (.ref l) ∧ h.get? (L + 1) = some oW ∧ oW.data = .cell (some (.int way tw)) ∧ hb.get? (L + 1) = none

section
variable {prog : Program} {w : World} {A : Around} {env : Env} {h₀ : Heap} {K : Frag} {p : Program} {loose : List Str} {mean : ExcName → Option Value} {mg mb : Str → Option Value}

theorem Glb.more {x : Str} {v : Value} {h : Heap} (g : Glb prog w A env h₀ x v) (k : ∀ b o, h₀.get? b = some o → h.get? b = some o) : Glb prog w A env h x v :=
  fun s pos Q E keep hQ => g s pos Q E (fun b o e => keep b o (k b o e)) hQ
theorem glb_built {x : Str} {v : Value} (X : K.In h₀) (T : Top p loose mean mg mb h₀) (e : nsIn K mainGlobals x = some none) (hv : bootBuiltins x = some v) (hn : x ≠ "__name__")
    (hg : env.globals = mainGlobals) (hb : env.builtins = builtinsNs) (hk : env.scope.kind = .function) (hx : env.kindOf x = some .globalImplicit) (hd : (x == ("__debug__" : Str)) = false) : Glb prog w A env h₀ x v :=
  fun s _ _ _ keep hQ => PySem.Calls.Name_function_global hk hx (PySem.Calls.loadGlobal_builtin (env := env) (show s.heap.Ns env.globals mg from hg ▸ (T.keeps keep).g) (mg_none_of X T.g e) (show s.heap.Ns env.builtins mb from hb ▸ (T.keeps keep).b) ((T.builtins x hn).trans hv) hQ) hd
theorem glb_global {x : Str} {v : Value} (X : K.In h₀) (T : Top p loose mean mg mb h₀) (e : nsIn K mainGlobals x = some (some v))
    (hg : env.globals = mainGlobals) (hk : env.scope.kind = .function) (hx : env.kindOf x = some .globalImplicit) (hd : (x == ("__debug__" : Str)) = false) : Glb prog w A env h₀ x v :=
  fun s _ _ _ keep hQ => PySem.Calls.Name_function_global hk hx (PySem.Calls.loadGlobal_global (env := env) (show s.heap.Ns env.globals mg from hg ▸ (T.keeps keep).g) (mg_of X T.g e) hQ) hd
theorem in_more {h h' : Heap} (X : K.In h) (k : ∀ b o, h.get? b = some o → h'.get? b = some o) : K.In h' := fun b o e => k b o (X b o e)
theorem with_of {C : Addr} (X : K.In h₀) (hk : keepIn K (.ref C) = true) : MisWith prog w A env h₀ C :=
  fun _ _ _ _ _ _ he hp h => callWith_K X hk (wpAny_mono h (fun _ _ z => ⟨fun b o e => z.1 b o (X b o e), z.2⟩) fun _ _ e => e) he hp
end
end Mine
end

open PySem PySem.W PyProof.Rows Mine
set_option maxRecDepth 100000 in
set_option maxHeartbeats 8000000 in
theorem PySem.Challenge.cw_kp0066_01_holds : PySem.Challenge.rw_kp0066_01.Holds := by
  w_on
  o_law
  k_head
  (case hw => w_witness2)
  k_go0
  all_goals try k_fold
  rename_i w s₀ s₁ mg mb G Y fa o pm doc ho hg KX X V GL T B TE TW bm ob M cdA a7 hcd ns hs hlay0 hLay hr1 hl2 as5 as4 l vs as1 hL ra w1 r0 hI hr hlen htrue K0 hD h₁ tk₁ F wc hwc N0 X0
  have TC : TupIt (model PySem.Challenge.rw_kp0066_01.row.prog w) s₁.heap 135 := by
    refine ⟨⟨⟨_, _, KX 135 _ rfl, rfl, rfl⟩, ?_, ?_, ?_, ?_, ?_⟩, ?_, ?_⟩
    · exact looks_specialIn KX (by k_dflt k_is)
    · exact looks_instIn KX (by k_dflt k_is)
    · exact Looks.of_peek KX (by kernel_rfl)
    · exact Looks.of_peek KX (by kernel_rfl)
    · exact looks_findIn KX (by k_dflt k_is)
    · exact looks_findIn KX (by k_dflt k_is)
    · exact looks_findIn KX (by k_dflt k_is)
  have CALL : ∀ (h : Heap) (tk : Nat) (one other : Addr) (us ts : List Value) (a b : List Int) (Q E : Value → Shared → Prop), (∀ b o, s₁.heap.get? b = some o → h.get? b = some o) → s₁.heap.objs.size ≤ h.objs.size → h.IsList one us.toArray → h.IsList other ts.toArray →
    Cells [] h us a → Cells [] h ts b → us.length ≤ 63 → ts.length ≤ 63 →
    (∀ h' tk' R (rs : List Value), (∀ b o, h.get? b = some o → h'.get? b = some o) → h.get? R = none → PlainL h' R rs.toArray → Paired (Mis 135 [] h') rs (due1 a b a.length ++ due2 a b b.length) → Q (.ref R) { s₁ with heap := h', toks := tk' }) →
    wpAny (model PySem.Challenge.rw_kp0066_01.row.prog w) (callerA.deeper (envOfC "law" (scopeAt 7) s₁.heap.objs.size fa (.ref cdA))) (call (.ref 145) [.ref one, .ref other]) Q E { s₁ with heap := h, toks := tk } := by
    intro h tk one other us ts a b Q E keep hsz hone hother cs ct la lb post
    have e1 : us.length = a.length := Paired.length cs
    have e2 : ts.length = b.length := Paired.length ct
    have KX' := in_more KX keep
    have T' := T.keeps keep
    refine wpAny_call (codeAny_call_def (of_decide_eq_true rfl) (KX' 145 _ rfl) rfl T'.nolimit (codeRec_of KX' (by k_is)) rfl (BindsTo.of_eq rfl) (by decide) (PyProof.Rows.locs rfl) fun h0 hns k0 => ?_)
    refine callee_walk (nm := "_count_diff_all_purpose") (L := h.objs.size) (fa := 145) (cd := .ref 144) (C := 135) (h₀ := h) (one := one) (other := other) (us := us) (ts := ts) (a := a) (b := b) ?_ k0 (get_none h) hns (by rfl) (by rfl) hone hother e1 e2 (by omega) (by omega)
      (fun p v y h1 h2 => Cells.get cs p v y h1 h2) (fun p v y h1 h2 => Cells.get ct p v y h1 h2) fun h' tk' m' R rs hR _ hn' k' hP hM => post h' tk' R rs k' hR hP (Paired.mono (fun v x c => c.wide (by simp)) hM)
    refine ⟨by rfl, of_decide_eq_true rfl, by rfl, by rfl, by rfl, ?_, ?_, ?_, ?_, ?_, ?_, ?_, ?_, ?_⟩
    · intro x hx
      simp only [List.mem_cons, List.not_mem_nil, or_false] at hx
      rcases hx with rfl | rfl | rfl | rfl | rfl | rfl | rfl | rfl | rfl | rfl | rfl | rfl | rfl | rfl | rfl <;> rfl
    · exact glb_built KX' T' (by kernel_rfl) (by rfl) (by decide) (by rfl) (by rfl) (by rfl) (by rfl) (by rfl)
    · exact glb_built KX' T' (by kernel_rfl) (by rfl) (by decide) (by rfl) (by rfl) (by rfl) (by rfl) (by rfl)
    · exact glb_built KX' T' (by kernel_rfl) (by rfl) (by decide) (by rfl) (by rfl) (by rfl) (by rfl) (by rfl)
    · exact glb_built KX' T' (by kernel_rfl) (by rfl) (by decide) (by rfl) (by rfl) (by rfl) (by rfl) (by rfl)
    · exact glb_built KX' T' (by kernel_rfl) (by rfl) (by decide) (by rfl) (by rfl) (by rfl) (by rfl) (by rfl)
    · exact glb_global KX' T' (by kernel_rfl) (by rfl) (by rfl) (by rfl) (by rfl)
    · intro g tk3 m3 c d tc td u Q3 E3 kg hnsg hu post3
      have kg' : ∀ b o, s₁.heap.get? b = some o → g.get? b = some o := fun b o e => kg b o (keep b o e)
      have KX3 := in_more KX kg'
      have T3 := T.keeps kg'
      refine wpAny_call (tupCls_call (f := 82) (TC.cls.keeps kg') ?_ ?_)
      · intro A' Q' E' hQ'
        clear F N0
        have F : Fr s₁.heap h.objs.size g m3 := ⟨hnsg, kg', hsz⟩
        have N0 : News s₁.heap h.objs.size g [] := fun _ h => nomatch h
        k_steps
        exact hQ' _
      · intro t'
        refine codeAny_call_def (of_decide_eq_true rfl) (KX3 82 _ rfl) rfl T3.nolimit (codeRec_of KX3 (by k_is)) rfl (BindsTo.of_eq rfl) (by decide) (PyProof.Rows.locs rfl) fun g0 hnsg0 kg0 => ?_
        refine new_walk (C := 135) (h₀ := s₁.heap) (by rfl) (by rfl) ?_ (glb_built KX T (by kernel_rfl) (by rfl) (by decide) (by rfl) (by rfl) (by rfl) (by rfl) (by rfl)) TC.cls (fun b o e => kg0 b o (kg' b o e)) (by rfl) hnsg0 (by rfl) (by rfl) (by rfl) (by rfl) fun p h' tk' dd hp k hgp => ?_
        · intro x hx
          simp only [List.mem_cons, List.not_mem_nil, or_false] at hx
          rcases hx with rfl | rfl | rfl | rfl <;> rfl
        · have hpg : g.get? p = none := by
            cases e : g.get? p with
            | none => rfl
            | some o => have := kg0 _ _ e; rw [show g0.get? p = none from hp] at this; cases this
          exact ⟨p, h', tk', dd, _, 0, rfl, rfl, fun b o e => k b o (kg0 b o e), hgp, post3 p h' tk' dd 0 hpg (fun b o e => k b o (kg0 b o e)) hgp⟩
    · exact with_of KX' (by kernel_rfl)
  have step1 : wpAny (model PySem.Challenge.rw_kp0066_01.row.prog w) (callerA.deeper (envOfC "law" (scopeAt 7) s₁.heap.objs.size fa (.ref cdA))) (exec (stmtAt 7 0) (envOfC "law" (scopeAt 7) s₁.heap.objs.size fa (.ref cdA)))
     (AfterWay s₁.heap.objs.size l s₁.heap s₁) ek { s₁ with heap := h₁, toks := tk₁ } := by
    show wpAny _ _ (exec (.Assign _ _ _) _) _ _ _
    k_steps
    all_goals
      rename_i F2 N2 d2
      exact ⟨rfl, _, _, _, _, _, _, rfl, F2, by rfl, (N2 _ List.mem_cons_self).1, d2, (N2 _ List.mem_cons_self).2.2⟩
  have LX : LawX PySem.Challenge.rw_kp0066_01.row.prog w (callerA.deeper (envOfC "law" (scopeAt 7) s₁.heap.objs.size fa (.ref cdA))) (envOfC "law" (scopeAt 7) s₁.heap.objs.size fa (.ref cdA)) s₁.heap := by
    refine ⟨by rfl, of_decide_eq_true rfl, by rfl, by rfl, by rfl, ?_, ?_, ?_⟩
    · intro x hx
      simp only [List.mem_cons, List.not_mem_nil, or_false] at hx
      rcases hx with rfl | rfl | rfl | rfl | rfl | rfl <;> rfl
    · exact glb_built KX T (by kernel_rfl) (by rfl) (by decide) (by rfl) (by rfl) (by rfl) (by rfl) (by rfl)
    · exact glb_built KX T (by kernel_rfl) (by rfl) (by decide) (by rfl) (by rfl) (by rfl) (by rfl) (by rfl)
  have LY : LawY PySem.Challenge.rw_kp0066_01.row.prog w (callerA.deeper (envOfC "law" (scopeAt 7) s₁.heap.objs.size fa (.ref cdA))) (envOfC "law" (scopeAt 7) s₁.heap.objs.size fa (.ref cdA)) s₁.heap s₁ 135 145 := by
    refine ⟨TC, ?_, ?_, ?_, CALL⟩
    · intro c
      exact glb_built KX T (by kernel_rfl) (by rfl) (by decide) (by rfl) (by rfl) (by rfl) (by rfl) (by rfl)
    · exact glb_global KX T (by kernel_rfl) (by rfl) (by rfl) (by rfl) (by rfl)
    · exact with_of KX (by kernel_rfl)
  show wpAny (model PySem.Challenge.rw_kp0066_01.row.prog w) (callerA.deeper (envOfC "law" (scopeAt 7) s₁.heap.objs.size fa (.ref cdA))) (execs [stmtAt 7 0, stmtAt 7 1, stmtAt 7 2, stmtAt 7 3, stmtAt 7 4, stmtAt 7 5, stmtAt 7 6] (envOfC "law" (scopeAt 7) s₁.heap.objs.size fa (.ref cdA))) qk ek { s₁ with heap := h₁, toks := tk₁ }
  refine wpAny_execs_cons (wpAny_mono step1 (fun f s' hs' => ?_) fun _ _ e => e)
  obtain ⟨rfl, h2, tk2, oW, way, tw, m2, rfl, F2, ms, cell, hoW, hL1⟩ := hs'
  refine law_rest (s₀ := s₁) (C := 135) (K := 145) LX LY F2 hL (ints_each hI) ?_ ms cell hoW hL1 fun h' tk' m' F' => ?_
  · have := ints_len hI
    omega
  · clear F F2 N0 cell
    have N' : News s₁.heap s₁.heap.objs.size h' [] := fun _ h => nomatch h
    k_end
    wrow_close
