import PyProof.Rows.All
import Wide.All
import OpenK.AllK
import Wide.FinOn
import Lean
import PySem.Challenge.RW_oy0388_01
open PySem PySem.W PySem.Calls PyProof.Rows
set_option Elab.async false
set_option linter.all false

namespace Mine

noncomputable def LstAt (h : Heap) (a : Addr) (xs : Array Value) : Prop := ∃ o, h.get? a = some o ∧ o.cls = .type "list" ∧ o.dict = none ∧ ∃ n, o.data = .seq xs n
theorem LstAt.isList {h : Heap} {a : Addr} {xs : Array Value} (x : LstAt h a xs) : h.IsList a xs := let ⟨o, ho, hc, _, n, hd⟩ := x; ⟨o, ho, hc, n, hd⟩

mutual
inductive Dt (h : Heap) : Value → PyData → Prop
  | none : Dt h .none .none
  | bool (b : Bool) : Dt h (.bool b) (.bool b)
  | int (i : Int) (t : Tok) : Dt h (.int i t) (.int i)
  | str (x : Str) (t : Tok) : Dt h (.str x t) (.str x)
  | list {a : Addr} {vs : List Value} {ds : List PyData} : LstAt h a vs.toArray → DtAll h vs ds → Dt h (.ref a) (.list ds)
  | tup {a : Addr} {vs : List Value} {ds : List PyData} : IsTup h a vs.toArray → DtAll h vs ds → Dt h (.ref a) (.tuple ds)
inductive DtAll (h : Heap) : List Value → List PyData → Prop
  | nil : DtAll h [] []
  | cons {v : Value} {vs : List Value} {d : PyData} {ds : List PyData} : Dt h v d → DtAll h vs ds → DtAll h (v :: vs) (d :: ds)
end

noncomputable def SeqKeep (h h' : Heap) : Prop := ∀ a o, h.get? a = some o → (∃ xs n, o.data = .seq xs n) → ∃ o', h'.get? a = some o' ∧ o'.cls = o.cls ∧ o'.dict = o.dict ∧ o'.data = o.data

theorem SeqKeep.refl (h : Heap) : SeqKeep h h := fun _ o e _ => ⟨o, e, rfl, rfl, rfl⟩
theorem SeqKeep.trans {a b c : Heap} (x : SeqKeep a b) (y : SeqKeep b c) : SeqKeep a c := fun p o e ⟨xs, n, hd⟩ => by
  obtain ⟨o', e', hc', hk', hd'⟩ := x p o e ⟨xs, n, hd⟩
  obtain ⟨o'', e'', hc'', hk'', hd''⟩ := y p o' e' ⟨xs, n, hd'.trans hd⟩
  exact ⟨o'', e'', hc''.trans hc', hk''.trans hk', hd''.trans hd'⟩
theorem SeqKeep.of_keeps {h h' : Heap} (k : ∀ b o, h.get? b = some o → h'.get? b = some o) : SeqKeep h h' := fun a o e _ => ⟨o, k a o e, rfl, rfl, rfl⟩
theorem SeqKeep.of_slots {h h' : Heap} (k : h.UpToSlots h') : SeqKeep h h' := fun a o e ⟨xs, n, hd⟩ => by
  obtain ⟨sl, e'⟩ := k a o e (fun vs q => by rw [hd] at q; cases q)
  exact ⟨_, e', rfl, rfl, rfl⟩
theorem SeqKeep.of_sameBut {h h' : Heap} {L : Addr} (hs : Heap.SameBut L h h') (hL : ∀ o xs n, h.get? L = some o → o.data = .seq xs n → False) : SeqKeep h h' := fun a o e ⟨xs, n, hd⟩ => by
  by_cases q : a = L
  · subst q; exact (hL o xs n e hd).elim
  · exact ⟨o, (hs.2 a q).trans e, rfl, rfl, rfl⟩

theorem isList_seqKeep {h h' : Heap} (k : SeqKeep h h') {a : Addr} {xs : Array Value} (x : h.IsList a xs) : h'.IsList a xs := by
  obtain ⟨o, ho, hc, n, hd⟩ := x
  obtain ⟨o', e', hc', hk', hd'⟩ := k a o ho ⟨xs, n, hd⟩
  exact ⟨o', e', hc'.trans hc, n, hd'.trans hd⟩
theorem lstAt_seqKeep {h h' : Heap} (k : SeqKeep h h') {a : Addr} {xs : Array Value} (x : LstAt h a xs) : LstAt h' a xs := by
  obtain ⟨o, ho, hc, hdd, n, hd⟩ := x
  obtain ⟨o', e', hc', hk', hd'⟩ := k a o ho ⟨xs, n, hd⟩
  exact ⟨o', e', hc'.trans hc, hk'.trans hdd, n, hd'.trans hd⟩
theorem isTup_seqKeep {h h' : Heap} (k : SeqKeep h h') {a : Addr} {xs : Array Value} (x : IsTup h a xs) : IsTup h' a xs := by
  obtain ⟨o, ho, hc, n, hd⟩ := x
  obtain ⟨o', e', hc', hk', hd'⟩ := k a o ho ⟨xs, n, hd⟩
  exact ⟨o', e', hc'.trans hc, n, hd'.trans hd⟩
mutual
theorem Dt.mono {h h' : Heap} (k : SeqKeep h h') : ∀ {v : Value} {d : PyData}, Dt h v d → Dt h' v d
  | _, _, .none => .none
  | _, _, .bool b => .bool b
  | _, _, .int i t => .int i t
  | _, _, .str x t => .str x t
  | _, _, .list hl r => .list (lstAt_seqKeep k hl) (DtAll.mono k r)
  | _, _, .tup hl r => .tup (isTup_seqKeep k hl) (DtAll.mono k r)
theorem DtAll.mono {h h' : Heap} (k : SeqKeep h h') : ∀ {vs : List Value} {ds : List PyData}, DtAll h vs ds → DtAll h' vs ds
  | _, _, .nil => .nil
  | _, _, .cons x r => .cons (Dt.mono k x) (DtAll.mono k r)
end
mutual
theorem Dt.reads {h : Heap} : ∀ {v : Value} {d : PyData}, Dt h v d → ∃ as, Reads h v d as
  | _, _, .none => ⟨_, .none⟩
  | _, _, .bool b => ⟨_, .bool b⟩
  | _, _, .int i t => ⟨_, .int i t⟩
  | _, _, .str x t => ⟨_, .str x t⟩
  | _, _, .list ⟨o, ho, hc, _, n, hd⟩ r => by
    obtain ⟨as, q⟩ := DtAll.reads r
    exact ⟨_, .list ho hc hd q⟩
  | _, _, .tup ⟨o, ho, hc, n, hd⟩ r => by
    obtain ⟨as, q⟩ := DtAll.reads r
    exact ⟨_, .tuple ho hc hd q⟩
theorem DtAll.reads {h : Heap} : ∀ {vs : List Value} {ds : List PyData}, DtAll h vs ds → ∃ as, ReadsAll h vs ds as
  | _, _, .nil => ⟨_, .nil⟩
  | _, _, .cons x r => by
    obtain ⟨as, q⟩ := Dt.reads x
    obtain ⟨bs, p⟩ := DtAll.reads r
    exact ⟨_, .cons q p⟩
end
theorem DtAll.length {h : Heap} {vs : List Value} : ∀ {ds : List PyData}, DtAll h vs ds → vs.length = ds.length := by
  induction vs with
  | nil => intro ds x; cases x; rfl
  | cons v vs ih => intro ds x; cases x with | cons _ r => simp [ih r]
theorem DtAll.append {h : Heap} {vs ws : List Value} {es : List PyData} (y : DtAll h ws es) : ∀ {ds : List PyData}, DtAll h vs ds → DtAll h (vs ++ ws) (ds ++ es) := by
  induction vs with
  | nil => intro ds x; cases x; exact y
  | cons v vs ih => intro ds x; cases x with | cons q r => exact .cons q (ih r)
theorem DtAll.get {h : Heap} {vs : List Value} : ∀ {ds : List PyData} {k : Nat} {d : PyData}, DtAll h vs ds → ds[k]? = some d → ∃ v, vs[k]? = some v ∧ Dt h v d := by
  induction vs with
  | nil => intro ds k d x e; cases x; simp at e
  | cons v vs ih =>
    intro ds k d x e
    cases x with
    | cons q r => cases k with
      | zero => simp at e; subst e; exact ⟨v, rfl, q⟩
      | succ k => exact ih r (by simpa using e)
theorem DtAll.getV {h : Heap} {vs : List Value} : ∀ {ds : List PyData} {k : Nat} {v : Value}, DtAll h vs ds → vs[k]? = some v → ∃ d, ds[k]? = some d ∧ Dt h v d := by
  induction vs with
  | nil => intro ds k v x e; simp at e
  | cons u vs ih =>
    intro ds k v x e
    cases x with
    | cons q r => cases k with
      | zero => simp at e; subst e; exact ⟨_, rfl, q⟩
      | succ k =>
        obtain ⟨d, hd, hq⟩ := ih (k := k) (v := v) r (by simpa using e)
        exact ⟨d, by simpa using hd, hq⟩
theorem DtAll.drop {h : Heap} {vs : List Value} : ∀ {ds : List PyData} (k : Nat), DtAll h vs ds → DtAll h (vs.drop k) (ds.drop k) := by
  induction vs with
  | nil => intro ds k x; cases x; simpa using .nil
  | cons u vs ih =>
    intro ds k x
    cases x with
    | cons q r => cases k with
      | zero => exact .cons q r
      | succ k => exact ih k r
theorem DtAll.take {h : Heap} {vs : List Value} : ∀ {ds : List PyData} (k : Nat), DtAll h vs ds → DtAll h (vs.take k) (ds.take k) := by
  induction vs with
  | nil => intro ds k x; cases x; simpa using .nil
  | cons u vs ih =>
    intro ds k x
    cases x with
    | cons q r => cases k with
      | zero => exact .nil
      | succ k => exact .cons q (ih k r)
theorem DtAll.ints {h : Heap} {vs : List Value} : ∀ {ns : List Int}, DtAll h vs (ns.map .int) → IntsAre vs ns := by
  induction vs with
  | nil => intro ns x; cases ns with | nil => exact .nil | cons _ _ => cases x
  | cons v vs ih =>
    intro ns x
    cases ns with
    | nil => cases x
    | cons n ns => cases x with | cons q r => cases q; exact .cons _ _ (ih r)
theorem dtAll_of_ints {h : Heap} {vs : List Value} {ns : List Int} (x : IntsAre vs ns) : DtAll h vs (ns.map .int) := by
  induction x with
  | nil => exact .nil
  | cons _ _ _ ih => exact .cons (.int _ _) ih

theorem keeps_refl (s : Shared) : Keeps s s := ⟨s.heap, s.toks, rfl, fun _ _ e => e⟩
theorem keeps_tok (s : Shared) (t : Nat) : Keeps s { s with toks := t } := ⟨s.heap, t, rfl, fun _ _ e => e⟩
theorem keeps_heap (s : Shared) {h : Heap} (t : Nat) (k : ∀ b o, s.heap.get? b = some o → h.get? b = some o) : Keeps s { s with heap := h, toks := t } := ⟨h, t, rfl, k⟩
theorem keeps_push (s : Shared) (o : Obj) (t : Nat) : Keeps s { s with heap := s.heap.push o, toks := t } := ⟨_, t, rfl, fun _ _ e => Heap.get?_push_of_some _ e⟩
theorem keeps_trans {a b c : Shared} (x : Keeps a b) (y : Keeps b c) : Keeps a c := by
  obtain ⟨h, t, rfl, k⟩ := x
  obtain ⟨h', t', rfl, k'⟩ := y
  exact ⟨h', t', rfl, fun b o e => k' b o (k b o e)⟩
theorem keeps_seq {a b : Shared} (x : Keeps a b) : SeqKeep a.heap b.heap := by
  obtain ⟨h, t, rfl, k⟩ := x
  exact .of_keeps k
end Mine

namespace Mine
theorem wpAny_gen {α : Type} {M : Model} {A : Around} {m : Sem α} {Q : α → Shared → Prop} {E : Value → Shared → Prop} {s : Shared} (h : ∀ (G : α → Shared → Prop) (E' : Value → Shared → Prop), (∀ v s', Q v s' → G v s') → wpAny M A m G E' s) : wpAny M A m Q E s := h Q E fun _ _ x => x

noncomputable def Got (s : Shared) (d : PyData) : Value → Shared → Prop := fun v s' => Dt s'.heap v d ∧ Keeps s s'
theorem Got.tok {s : Shared} {d : PyData} {v : Value} {t : Nat} (h : Dt s.heap v d) : Got s d v { s with toks := t } := ⟨h, keeps_tok s t⟩
theorem Got.same {s : Shared} {d : PyData} {v : Value} (h : Dt s.heap v d) : Got s d v s := ⟨h, keeps_refl s⟩

noncomputable def intsOf : List PyData → Option (List Int)
  | [] => some []
  | .int i :: r => (intsOf r).map (i :: ·)
  | _ :: _ => none
theorem intsOf_map : ∀ (ns : List Int), intsOf (ns.map .int) = some ns
  | [] => rfl
  | n :: r => by simp [intsOf, intsOf_map r]
theorem intsOf_eq : ∀ {ds : List PyData} {ns : List Int}, intsOf ds = some ns → ds = ns.map .int
  | [], ns, h => by simp [intsOf] at h; subst h; rfl
  | .int i :: r, ns, h => by
    simp only [intsOf, Option.map_eq_some_iff] at h
    obtain ⟨ms, hm, rfl⟩ := h
    rw [intsOf_eq hm]; rfl
  | .none :: r, ns, h | .bool _ :: r, ns, h | .str _ :: r, ns, h | .list _ :: r, ns, h | .tuple _ :: r, ns, h | .dict _ :: r, ns, h => by simp [intsOf] at h

noncomputable def b2i' (b : Bool) : Int := if b then 1 else 0

noncomputable def least : Int → List Int → Int
  | m, [] => m
  | m, x :: r => least (if x < m then x else m) r

noncomputable def addD : PyData → PyData → Option PyData
  | .int a, .int b => some (.int (a + b))
  | .str x, .str y => if x.length + y.length ≤ 1048576 then some (.str (x ++ y)) else none
  | .list xs, .list ys => if xs.length + ys.length ≤ 1048576 then some (.list (xs ++ ys)) else none
  | _, _ => none
noncomputable def subD : PyData → PyData → Option PyData
  | .int a, .int b => some (.int (a - b))
  | .bool p, .bool q => some (.int (b2i' p - b2i' q))
  | _, _ => none
noncomputable def mulD : PyData → PyData → Option PyData
  | .int a, .int b => if -18446744073709551616 < a ∧ a < 18446744073709551616 then some (.int (a * b)) else none
  | .str x, .int n => if x.length ≤ 16 ∧ 0 ≤ n ∧ n ≤ 1048576 then some (.str (Txt.mul x n)) else none
  | _, _ => none
noncomputable def fdvD : PyData → PyData → Option PyData
  | .int a, .int b => if b ≠ 0 ∧ b.natAbs < 1073741824 then some (.int (a.fdiv b)) else none
  | _, _ => none
noncomputable def modD : PyData → PyData → Option PyData
  | .int a, .int b => if b ≠ 0 then some (.int (a.fmod b)) else none
  | _, _ => none
noncomputable def binD (op : Operator) (a b : PyData) : Option PyData := match op with
  | .Add => addD a b | .Sub => subD a b | .Mult => mulD a b | .FloorDiv => fdvD a b | .Mod => modD a b | _ => none

noncomputable def eqD : PyData → PyData → Option Bool
  | .int a, .int b => some (a == b)
  | .str x, .str y => some (x.cps.toList == y.cps.toList)
  | .list xs, .list ys => if SeqAt.shaped (.list xs) ∧ SeqAt.shaped (.list ys) then some (PyData.eqv (.list xs) (.list ys)) else none
  | .none, .none => some true
  | .str _, .none => some false
  | _, _ => none
noncomputable def neD : PyData → PyData → Option Bool
  | .int a, .int b => some (a != b)
  | .str x, .str y => some (x.cps.toList != y.cps.toList)
  | .list xs, .list ys => if SeqAt.shaped (.list xs) ∧ SeqAt.shaped (.list ys) then some (!PyData.eqv (.list xs) (.list ys)) else none
  | .tuple xs, .tuple ys => if SeqAt.shaped (.tuple xs) ∧ SeqAt.shaped (.tuple ys) then some (!PyData.eqv (.tuple xs) (.tuple ys)) else none
  | _, _ => none
noncomputable def ltD : PyData → PyData → Option Bool
  | .int a, .int b => some (decide (a < b))
  | .str x, .str y => some (decide (x.cps.toList < y.cps.toList))
  | _, _ => none
noncomputable def gtD : PyData → PyData → Option Bool
  | .int a, .int b => some (decide (b < a))
  | .str x, .str y => some (decide (y.cps.toList < x.cps.toList))
  | _, _ => none
noncomputable def leD : PyData → PyData → Option Bool
  | .int a, .int b => some (decide (a ≤ b))
  | _, _ => none
noncomputable def geD : PyData → PyData → Option Bool
  | .int a, .int b => some (decide (b ≤ a))
  | _, _ => none
noncomputable def inD : PyData → PyData → Option Bool
  | .str y, .str x => some (Txt.contains x y)
  | .int k, .list xs => (intsOf xs).map fun ns => ns.contains k
  | _, _ => none
noncomputable def isD : PyData → PyData → Option Bool
  | .none, .none => some true
  | .int _, .none => some false
  | .str _, .none => some false
  | _, _ => none
noncomputable def cmpD (op : CmpOp) (a b : PyData) : Option Bool := match op with
  | .Eq => eqD a b | .NotEq => neD a b | .Lt => ltD a b | .Gt => gtD a b | .LtE => leD a b | .GtE => geD a b | .In => inD a b | .Is => isD a b | _ => none

noncomputable def trD : PyData → Option Bool
  | .none => some false
  | .bool b => some b
  | .int i => some (i != 0)
  | .str x => if x.length ≤ 1048576 then some (decide (x.length ≠ 0)) else none
  | .list xs => if xs.length ≤ 1048576 then some (!xs.isEmpty) else none
  | _ => none

noncomputable def itemD : PyData → PyData → Option PyData
  | .list xs, .int k => if 0 ≤ k ∧ k < 1048576 then xs[k.toNat]? else none
  | .str x, .int k => if 0 ≤ k ∧ k < 1048576 then (x.cps[k.toNat]?).map fun c => .str ⟨#[c]⟩ else none
  | _, _ => none

section
variable {prog : Program} {w : World} {A : Around} {E : Value → Shared → Prop} {s : Shared} {v u : Value} {a b d : PyData}

theorem bin_ok {op : Operator} (hop : binD op a b = some d) (ha : Dt s.heap v a) (hb : Dt s.heap u b) :
    wpAny (model prog w) A (binaryOp op v u) (Got s d) E s := by
  cases op with
  | Add =>
    change addD a b = _ at hop
    unfold addD at hop
    split at hop
    · cases ha; cases hb; cases hop; exact add_int (.tok (.int _ _))
    · split at hop
      · cases ha; cases hb; cases hop
        rename_i h _ _
        exact SB.add (fun t' k => .tok (.str _ _)) (by unfold sizeLine; omega)
      · cases hop
    · split at hop
      · cases hop
        rename_i xs ys h
        cases ha with
        | list hl r =>
        cases hb with
        | list hl' r' =>
          obtain ⟨⟨cls, dd, data, sl⟩, ho, hc, hk, n, hd⟩ := id hl
          obtain ⟨⟨cls', dd', data', sl'⟩, ho', hc', hk', n', hd'⟩ := id hl'
          have e1 := DtAll.length r
          have e2 := DtAll.length r'
          rename_i lv vs rv ws
          simp only at hc hd hc' hd'
          subst hc hd hc' hd'
          have e : vs.toArray ++ ws.toArray = (vs ++ ws).toArray := by simp
          refine concat_meets ⟨_, ho, rfl⟩ ⟨_, ho', rfl⟩ noFill_list_add seq_list_add PySem.F.slot_list_add PySem.F.entry_list_add (PySem.F.args_list_add_2 _ _) (list_addW lv rv vs.toArray ws.toArray n n' dd dd' sl sl' (by unfold sizeLine; simp; omega)) ⟨ho, ho', ?_⟩
          rw [e]
          refine ⟨.list ⟨_, Heap.get?_push_size _ rfl, rfl, rfl, _, rfl⟩ ?_, ⟨_, _, rfl, fun _ _ e => Heap.get?_push_of_some _ e⟩⟩
          exact DtAll.append (DtAll.mono (.of_keeps fun _ _ e => Heap.get?_push_of_some _ e) r') (DtAll.mono (.of_keeps fun _ _ e => Heap.get?_push_of_some _ e) r)
      · cases hop
    · cases hop
  | Sub =>
    change subD a b = _ at hop
    unfold subD at hop
    split at hop
    · cases ha; cases hb; cases hop; exact sub_int (.tok (.int _ _))
    · cases ha; cases hb; cases hop; exact sub_bool (.tok (by rename_i p q; cases p <;> cases q <;> exact .int _ _))
    · cases hop
  | Mult =>
    change mulD a b = _ at hop
    unfold mulD at hop
    split at hop
    · split at hop
      · cases ha; cases hb; cases hop
        rename_i h _ _
        exact mul_int (.tok (.int _ _)) (IntMulOk.of_left (intBits_le_64 (by omega) (by omega)))
      · cases hop
    · split at hop
      · cases ha; cases hb; cases hop
        rename_i x n h _ _
        exact SB.mul (mulOk_of 16 1048576 (by omega) (by omega) (by omega) (by decide) (by decide)) fun t' k => .tok (.str _ _)
      · cases hop
    · cases hop
  | FloorDiv =>
    change fdvD a b = _ at hop
    unfold fdvD at hop
    split at hop
    · split at hop
      · cases ha; cases hb; cases hop
        rename_i h _ _
        exact floordiv_int h.1 (.tok (.int _ _)) (.inl (PyProof.noPylong_small h.2))
      · cases hop
    · cases hop
  | Mod =>
    change modD a b = _ at hop
    unfold modD at hop
    split at hop
    · split at hop
      · cases ha; cases hb; cases hop
        rename_i h _ _
        exact mod_int h (.tok (.int _ _))
      · cases hop
    · cases hop
  | _ => cases hop

theorem shaped_canLay {d : PyData} (h : SeqAt.shaped d = true) : d.canLay0 = true := SeqAt.canLay_of_shaped h

theorem cmp_ok {op : CmpOp} {c : Bool} (hop : cmpD op a b = some c) (ha : Dt s.heap v a) (hb : Dt s.heap u b) (hu : A.units + 64 < cLine) :
    wpAny (model prog w) A (compareOp op v u) (fun r s' => r = .bool c ∧ Keeps s s') E s := by
  cases op with
  | Eq =>
    change eqD a b = _ at hop
    unfold eqD at hop
    split at hop
    · cases ha; cases hb; cases hop; exact eq_int ⟨rfl, keeps_refl s⟩
    · cases ha; cases hb; cases hop; exact P.eq_str ⟨rfl, keeps_refl s⟩
    · split at hop
      · rename_i h; obtain ⟨as, ra⟩ := ha.reads; obtain ⟨bs, rb⟩ := hb.reads; cases hop
        exact eq_dataH ra rb h.1 h.2 hu ⟨rfl, keeps_refl s⟩
      · cases hop
    · cases ha; cases hb; cases hop; exact eq_dataH .none .none rfl rfl hu ⟨by simp [PyData.eqv], keeps_refl s⟩
    · cases ha; cases hb; cases hop; exact EqNone.eq_str_none ⟨rfl, keeps_refl s⟩
    · cases hop
  | NotEq =>
    change neD a b = _ at hop
    unfold neD at hop
    split at hop
    · cases ha; cases hb; cases hop; exact ne_int ⟨rfl, keeps_refl s⟩
    · cases ha; cases hb; cases hop; exact P.ne_str ⟨rfl, keeps_refl s⟩
    · split at hop
      · rename_i h; obtain ⟨as, ra⟩ := ha.reads; obtain ⟨bs, rb⟩ := hb.reads; cases hop
        exact ne_dataH ra rb h.1 h.2 hu ⟨rfl, keeps_refl s⟩
      · cases hop
    · split at hop
      · rename_i h; obtain ⟨as, ra⟩ := ha.reads; obtain ⟨bs, rb⟩ := hb.reads; cases hop
        exact ne_dataH ra rb h.1 h.2 hu ⟨rfl, keeps_refl s⟩
      · cases hop
    · cases hop
  | Lt =>
    change ltD a b = _ at hop
    unfold ltD at hop
    split at hop
    · cases ha; cases hb; cases hop; exact lt_int ⟨rfl, keeps_refl s⟩
    · cases ha; cases hb; cases hop; exact P.lt_str ⟨rfl, keeps_refl s⟩
    · cases hop
  | Gt =>
    change gtD a b = _ at hop
    unfold gtD at hop
    split at hop
    · cases ha; cases hb; cases hop; exact gt_int ⟨rfl, keeps_refl s⟩
    · cases ha; cases hb; cases hop; exact P.gt_str ⟨rfl, keeps_refl s⟩
    · cases hop
  | LtE =>
    change leD a b = _ at hop
    unfold leD at hop
    split at hop
    · cases ha; cases hb; cases hop; exact PyProof.Rows.le_int ⟨rfl, keeps_refl s⟩
    · cases hop
  | GtE =>
    change geD a b = _ at hop
    unfold geD at hop
    split at hop
    · cases ha; cases hb; cases hop; exact PyProof.Rows.ge_int ⟨rfl, keeps_refl s⟩
    · cases hop
  | In =>
    change inD a b = _ at hop
    unfold inD at hop
    split at hop
    · cases ha; cases hb; cases hop; exact SB.contains ⟨rfl, keeps_refl s⟩
    · simp only [Option.map_eq_some_iff] at hop
      obtain ⟨ns, hns, rfl⟩ := hop
      have e := intsOf_eq hns
      subst e
      cases ha
      cases hb with
      | list hl r =>
        have hi := DtAll.ints r
        refine PySem.SeqInW.in_listW (isInt _) (fun y hy => eq_isInt _ _ hi y (by simpa using hy)) hl.isList ⟨?_, keeps_refl s⟩
        congr 1
        clear hns r hl
        rename_i k t _ vs
        induction hi with
        | nil => simp
        | cons n u _ ih => simp only [List.any_toArray, List.any_cons, List.contains_cons] at ih ⊢; rw [ih]; simp [isInt, BEq.comm]
    · cases hop
  | Is =>
    change isD a b = _ at hop
    unfold isD at hop
    split at hop
    · cases ha; cases hb; cases hop; exact is_none_none ⟨rfl, keeps_refl s⟩
    · cases ha; cases hb; cases hop; exact is_int_none ⟨rfl, keeps_refl s⟩
    · cases ha; cases hb; cases hop; exact is_str_none ⟨rfl, keeps_refl s⟩
    · cases hop
  | _ => cases hop

theorem tr_ok {c : Bool} (hop : trD a = some c) (ha : Dt s.heap v a) : wpAny (model prog w) A (truthy v) (fun r s' => r = c ∧ Keeps s s') E s := by
  unfold trD at hop
  split at hop
  · cases ha; cases hop; exact wpAny_pure ⟨rfl, keeps_refl s⟩
  · cases ha; cases hop; exact wpAny_truthy_bool ⟨rfl, keeps_refl s⟩
  · cases ha; cases hop; exact P.truthy_int ⟨rfl, keeps_refl s⟩
  · split at hop
    · cases ha; cases hop; rename_i x t _
      refine P.truthy_str (by omega) ⟨?_, keeps_tok s _⟩
      rw [Bool.eq_iff_iff]; simp
    · cases hop
  · split at hop
    · cases hop
      cases ha with
      | list hl r =>
        have e := DtAll.length r
        refine wpAny_truthy_list hl.isList (by simp; omega) ⟨?_, keeps_tok s _⟩
        rename_i xs _ _ vs
        cases xs <;> cases vs <;> simp at e ⊢
    · cases hop
  · cases hop

theorem item_ok {value slice : Expr} (hop : itemD a b = some d) (ha : Dt s.heap v a) (hb : Dt s.heap u b)
    (hs : subscripted slice false v u = operate [v, u] (getItem v u)) :
    wpAny (model prog w) A (subscriptTail value slice v u) (Got s d) E s := by
  refine kba_turn (value' := .Name Str.empty default) (fun _ => rfl) ?_
  have hg : ∀ r, letTemporaryGo (.Name Str.empty default) v r = pure () := fun _ => rfl
  unfold itemD at hop
  split at hop
  · split at hop
    · cases hb
      cases ha with
      | list hl r =>
        obtain ⟨x, hx, hd⟩ := DtAll.get r hop
        exact subscriptTail_builtin hl.isList.typeIs slot_list_getitem.lookup (wpAny_getItem_list hl.isList (by omega) (by omega) (by simpa using hx) (Got.same hd)) hs hg
    · cases hop
  · split at hop
    · cases ha; cases hb
      simp only [Option.map_eq_some_iff] at hop
      obtain ⟨c, hc, rfl⟩ := hop
      rename_i x k h t t'
      refine subscriptTail_builtin (typeIs_str s x t) PySem.F.slot_str_getitem.lookup (P.getItem_str ?_ ?_ (.tok (.str _ _))) hs hg
      · rw [Bool.or_eq_false_iff]; exact ⟨decide_eq_false (by omega), decide_eq_false (by omega)⟩
      · have hlt : k.toNat < x.length := by
          show k.toNat < x.cps.size
          exact (Array.getElem?_eq_some_iff.mp hc).1
        have e : seqIndex? k x.length = some k.toNat := by
          unfold seqIndex?
          have h1 : ¬ k < 0 := by omega
          have h2 : (k < (x.length : Int)) := by omega
          simp [h1, h2, h.1]
        rw [e]; exact hc
    · cases hop
  · cases hop
end
end Mine

namespace Mine
section
variable {prog : Program} {w : World} {A : Around} {E : Value → Shared → Prop} {s : Shared} {v u : Value} {a b d : PyData}

theorem least_le (m : Int) : ∀ (l : List Int), least m l ≤ m ∧ (∀ x ∈ l, least m l ≤ x) ∧ (least m l = m ∨ least m l ∈ l) := by
  intro l
  induction l generalizing m with
  | nil => simp [least]
  | cons y r ih =>
    have h := ih (if y < m then y else m)
    simp only [least]
    by_cases c : y < m
    · rw [if_pos c] at h ⊢
      refine ⟨by omega, ?_, ?_⟩
      · intro x hx; rcases List.mem_cons.mp hx with rfl | hx
        · exact h.1
        · exact h.2.1 x hx
      · rcases h.2.2 with e | e
        · right; rw [e]; exact .head _
        · right; exact .tail _ e
    · rw [if_neg c] at h ⊢
      refine ⟨h.1, ?_, ?_⟩
      · intro x hx; rcases List.mem_cons.mp hx with rfl | hx
        · omega
        · exact h.2.1 x hx
      · rcases h.2.2 with e | e
        · left; exact e
        · right; exact .tail _ e

noncomputable def strsOf : List PyData → Option (List Str)
  | [] => some []
  | .str i :: r => (strsOf r).map (i :: ·)
  | _ :: _ => none
theorem strsOf_map : ∀ (ns : List Str), strsOf (ns.map .str) = some ns
  | [] => rfl
  | n :: r => by simp [strsOf, strsOf_map r]
theorem strsOf_eq : ∀ {ds : List PyData} {ns : List Str}, strsOf ds = some ns → ds = ns.map .str
  | [], ns, h => by simp [strsOf] at h; subst h; rfl
  | .str i :: r, ns, h => by
    simp only [strsOf, Option.map_eq_some_iff] at h
    obtain ⟨ms, hm, rfl⟩ := h
    rw [strsOf_eq hm]; rfl
  | .none :: r, ns, h | .bool _ :: r, ns, h | .int _ :: r, ns, h | .list _ :: r, ns, h | .tuple _ :: r, ns, h | .dict _ :: r, ns, h => by simp [strsOf] at h
theorem DtAll.strs {h : Heap} {vs : List Value} : ∀ {ns : List Str}, DtAll h vs (ns.map .str) → ∃ l : List (Str × Tok), vs = strValues l ∧ l.map (·.1) = ns := by
  induction vs with
  | nil => intro ns x; cases ns with | nil => exact ⟨[], rfl, rfl⟩ | cons _ _ => cases x
  | cons v vs ih =>
    intro ns x
    cases ns with
    | nil => cases x
    | cons n ns => cases x with | cons q r =>
      cases q
      obtain ⟨l, rfl, rfl⟩ := ih r
      rename_i t
      exact ⟨(n, t) :: l, rfl, rfl⟩

noncomputable def callD1 (f : String) : PyData → Option PyData
  | .list xs => if f = "len" then (if xs.length ≤ 1048576 then some (.int xs.length) else none)
      else if f = "sum" then (intsOf xs).map fun ns => .int ns.sum
      else if f = "min" then (match intsOf xs with | some (m :: r) => some (.int (least m r)) | _ => none) else none
  | .str x => if f = "len" then (if x.length ≤ 1048576 then some (.int x.length) else none) else none
  | _ => none

theorem call1_ok {f : String} (hop : callD1 f a = some d) (ha : Dt s.heap v a) (hh : A.handled = none) :
    wpAny (model prog w) A (call (.builtin f) [v]) (Got s d) E s := by
  unfold callD1 at hop
  split at hop
  · rename_i xs
    cases ha with
    | @list _ vs _ hl' r =>
      have hl := hl'.isList
      have e := DtAll.length r
      split at hop
      · subst_vars
        split at hop
        · cases hop
          refine PySem.Calls.call_len_list hl (by simp; omega) ?_
          simp only [List.size_toArray, e]
          exact .tok (.int _ _)
        · cases hop
      · split at hop
        · subst_vars
          simp only [Option.map_eq_some_iff] at hop
          obtain ⟨ns, hns, rfl⟩ := hop
          have e' := intsOf_eq hns; subst e'
          have hi := DtAll.ints r
          obtain ⟨xs, ex⟩ := hi.allInts.items
          have hn : (numsOf vs.toArray.toList).sum = ns.sum := by rw [show vs.toArray.toList = vs from rfl, hi.numsOf]
          rw [ex] at hl hn
          rw [nums_intItems] at hn
          refine sum_intListG hh hl fun h' tk t' hk => ?_
          rw [preSum_eq, List.take_of_length_le (by simp), hn]
          exact ⟨.int _ _, keeps_heap s _ hk⟩
        · split at hop
          · subst_vars
            split at hop
            · rename_i m r' hns
              cases hop
              have e' := intsOf_eq hns; subst e'
              have hi := DtAll.ints r
              obtain ⟨xs, ex⟩ := hi.allInts.items
              have hns' : (m :: r') = xs.toList.map (·.1) := by rw [← hi.numsOf, ← nums_intItems, ← ex]
              have hsz : 0 < xs.size := by
                have h3 := congrArg List.length hns'
                simp at h3; omega
              rw [ex] at hl
              refine min_intList hh hl hsz fun v h' tk hv hk => ?_
              obtain ⟨t, rfl⟩ := intItems_at hv
              obtain ⟨h1, h2⟩ := argBest_lt (numAt xs) (xs.size - 1)
              have hL := least_le m r'
              have q1 : numAt xs (argBest (fun i j => decide (numAt xs i < numAt xs j)) (xs.size - 1)) ∈ m :: r' := by
                rw [hns', numAt_eq]; exact getD_mem (by rw [List.length_map, Array.length_toList]; omega)
              have q2 : ∀ a ∈ m :: r', numAt xs (argBest (fun i j => decide (numAt xs i < numAt xs j)) (xs.size - 1)) ≤ a := by
                intro a ha
                rw [hns'] at ha
                obtain ⟨j, hj, rfl⟩ := mem_getD ha
                rw [List.length_map, Array.length_toList] at hj
                rw [← numAt_eq]; exact h2 j (by omega)
              have q3 : least m r' ∈ m :: r' := by
                rcases hL.2.2 with q | q
                · rw [q]; exact .head _
                · exact .tail _ q
              have q4 : ∀ a ∈ m :: r', least m r' ≤ a := by
                intro a ha; rcases List.mem_cons.mp ha with rfl | ha
                · exact hL.1
                · exact hL.2.1 a ha
              have q5 := q2 _ q3
              have q6 := q4 _ q1
              have q7 : numAt xs (argBest (fun i j => decide (numAt xs i < numAt xs j)) (xs.size - 1)) = least m r' := by omega
              rw [← q7]
              exact ⟨.int _ _, keeps_heap s _ hk⟩
            · cases hop
          · cases hop
  · cases ha
    split at hop
    · subst_vars
      split at hop
      · cases hop
        exact P.len_str (by omega) (.tok (.int _ _))
      · cases hop
    · cases hop
  · cases hop

theorem min2_ok {x y : Int} {t t' : Tok} (hh : A.handled = none) : wpAny (model prog w) A (call (.builtin "min") [.int x t, .int y t']) (Got s (.int (if y < x then y else x))) E s := by
  refine min_two_ints hh fun h' tk hk => ?_
  by_cases c : y < x
  · simp only [if_pos c]; exact ⟨.int _ _, keeps_heap s _ hk⟩
  · simp only [if_neg c]; exact ⟨.int _ _, keeps_heap s _ hk⟩

theorem index_ok {xs : List PyData} {ns : List Int} {k : Int} {l : Addr} {t : Tok} (hns : intsOf xs = some ns) (hl : Dt s.heap (.ref l) (.list xs)) (hlen : ns.length ≤ 1048576) (hk : k ∈ ns) :
    wpAny (model prog w) A (call (.builtin "list.index") [.ref l, .int k t]) (Got s (.int (ns.idxOf k : Nat))) E s := by
  have e := intsOf_eq hns; subst e
  cases hl with
  | list hl' r =>
  have hl := hl'.isList
  have hi := DtAll.ints r
  obtain ⟨⟨cls, dd, data, sl⟩, ho, hc, n, hd⟩ := id hl
  simp only at hc hd
  subst hc hd
  have hlen' := hi.length
  have hj : ns.idxOf k < ns.length := List.idxOf_lt_length_iff.mpr hk
  refine call_meets PySem.F.slot_list_index ⟨_, ho, rfl⟩ PySem.F.entry_list_index (PySem.F.args_list_index_2 _ _)
    (SeqAt.list_indexAt l _ n dd sl (.int k t) (isInt k) (ns.idxOf k) (by simpa [hlen'] using hj) (by omega) ?_ ?_) ⟨ho, fun y hy => (eq_isInt k t hi y (by simpa using hy)).at _ _, .tok (.int _ _)⟩
  · rename_i vs
    show isInt k vs[ns.idxOf k] = true
    rw [isInt_at k hi _ (by omega) hj]
    simp
  · intro j hjs hlt
    rename_i vs
    show isInt k vs[j] = false
    rw [isInt_at k hi j (by simpa using hjs) (by omega)]
    exact ne_of_lt_idxOf hlt _
end
end Mine

namespace Mine

noncomputable def NamesAt (env : Env) (h : Heap) (ρ : List (Str × PyData)) : Prop :=
  ∃ m, h.Ns env.locals m ∧ ∀ x d, ρ.lookup x = some d →
    (env.kindOf x = some .local ∧ ∃ v, m x = some v ∧ Dt h v d) ∨
    (env.kindOf x = some .cell ∧ ∃ c v, env.cells.lookup x = some c ∧ h.IsCell c (some v) ∧ Dt h v d)

theorem NamesAt.keeps {env : Env} {h h' : Heap} {ρ : List (Str × PyData)} (x : NamesAt env h ρ) (k : ∀ b o, h.get? b = some o → h'.get? b = some o) : NamesAt env h' ρ := by
  obtain ⟨m, hn, hx⟩ := x
  refine ⟨m, hn.keeps k, fun y d e => ?_⟩
  rcases hx y d e with ⟨a, v, b, c⟩ | ⟨a, c, v, b, hc, hd⟩
  · exact .inl ⟨a, v, b, c.mono (.of_keeps k)⟩
  · exact .inr ⟨a, c, v, b, hc.keeps k, hd.mono (.of_keeps k)⟩
theorem isCell_slots {h h' : Heap} {c : Addr} {v : Option Value} (x : h.IsCell c v) (k : h.UpToSlots h') : h'.IsCell c v := by
  obtain ⟨o, ho, hd⟩ := x
  obtain ⟨sl, e⟩ := k c o ho (fun vs q => by rw [hd] at q; cases q)
  exact ⟨_, e, hd⟩
theorem NamesAt.slots {env : Env} {h h' : Heap} {ρ : List (Str × PyData)} (x : NamesAt env h ρ) (k : h.UpToSlots h') : NamesAt env h' ρ := by
  obtain ⟨m, hn, hx⟩ := x
  refine ⟨m, k.ns hn, fun y d e => ?_⟩
  rcases hx y d e with ⟨a, v, b, c⟩ | ⟨a, c, v, b, hc, hd⟩
  · exact .inl ⟨a, v, b, c.mono (.of_slots k)⟩
  · exact .inr ⟨a, c, v, b, isCell_slots hc k, hd.mono (.of_slots k)⟩
theorem NamesAt.weaken {env : Env} {h : Heap} {ρ ρ' : List (Str × PyData)} (x : NamesAt env h ρ) (k : ∀ y d, ρ'.lookup y = some d → ρ.lookup y = some d) : NamesAt env h ρ' := by
  obtain ⟨m, hn, hx⟩ := x
  exact ⟨m, hn, fun y d e => hx y d (k y d e)⟩

structure Md (env : Env) (ρ : List (Str × PyData)) (J : Shared → Prop) (R : Shared → Shared → Prop) : Prop where
  kind : env.scope.kind = .function
  names : ∀ s, J s → NamesAt env s.heap ρ
  keeps : ∀ s s', J s → Keeps s s' → R s s'
  trans : ∀ a b c, R a b → R b c → R a c
  inv : ∀ s s', J s → R s s' → J s'
  seq : ∀ s s', R s s' → SeqKeep s.heap s'.heap

section
variable (prog : Program) (w : World) (A : Around)
noncomputable def EvP (env : Env) (J : Shared → Prop) (R : Shared → Shared → Prop) (e : Expr) (d : PyData) : Prop :=
  ∀ s E, J s → wpAny (model prog w) A (eval e env) (fun v s' => Dt s'.heap v d ∧ R s s') E s
noncomputable def EvT (env : Env) (J : Shared → Prop) (R : Shared → Shared → Prop) (e : Expr) (b : Bool) : Prop :=
  ∀ s E, J s → wpAny (model prog w) A (isTrue e env (eval e env)) (fun v s' => v = b ∧ R s s') E s
noncomputable def SpP (J : Shared → Prop) (R : Shared → Shared → Prop) (ts : List (Bool × Sem Value)) (ds : List PyData) : Prop :=
  ∀ s E, J s → wpAny (model prog w) A (spliced ts) (fun vs s' => DtAll s'.heap vs ds ∧ R s s') E s
noncomputable def NmP (env : Env) (J : Shared → Prop) (x : Str) (v : Value) : Prop :=
  ∀ pos s (Q : Value → Shared → Prop) E, J s → Q v s → wpAny (model prog w) A (eval (.Name x pos) env) Q E s
noncomputable def FnP (J : Shared → Prop) (R : Shared → Shared → Prop) (f : Addr) (ds : List PyData) (d : PyData) : Prop :=
  (∃ o fd, o.data = .func fd ∧ ∀ s, J s → s.heap.get? f = some o) ∧
  ∀ s E vs, J s → DtAll s.heap vs ds → wpAny (model prog w) A (call (.ref f) vs) (fun v s' => Dt s'.heap v d ∧ R s s') E s
end

section
variable {prog : Program} {w : World} {A : Around} {env : Env} {ρ : List (Str × PyData)} {J : Shared → Prop} {R : Shared → Shared → Prop} {a b d : PyData} {l r e : Expr} {pos p np : Pos}

theorem ev_name (md : Md env ρ J R) {x : Str} (hx : ρ.lookup x = some d) (hd : (x == ("__debug__" : Str)) = false) : EvP prog w A env J R (.Name x pos) d := by
  intro s E hJ
  obtain ⟨m, hn, hn'⟩ := md.names s hJ
  rcases hn' x d hx with ⟨hk, v, hv, hD⟩ | ⟨hk, c, v, hc, hv, hD⟩
  · exact wpAny_Name (wpAny_loadName_local md.kind hk hn hv ⟨hD, md.keeps s s hJ (keeps_refl s)⟩) hd
  · exact wpAny_Name (wpAny_loadName_cell md.kind hk hc hv ⟨hD, md.keeps s s hJ (keeps_refl s)⟩) hd
theorem ev_int (md : Md env ρ J R) {i : Int} {k : Nat} : EvP prog w A env J R (.Constant (.int i) k pos) (.int i) := fun s _ hJ =>
  wpAny_Constant_int ⟨.int _ _, md.keeps _ _ hJ (keeps_tok s _)⟩
theorem ev_str (md : Md env ρ J R) {x : Str} {k : Nat} : EvP prog w A env J R (.Constant (.str x) k pos) (.str x) := fun s _ hJ => by
  rw [eval_Constant]
  exact wpAny_mkText ⟨.str _ _, md.keeps _ _ hJ (keeps_tok s _)⟩
theorem ev_none (md : Md env ρ J R) {k : Nat} : EvP prog w A env J R (.Constant .none k pos) .none := fun s _ hJ => by
  rw [eval_Constant]
  exact wpAny_pure ⟨.none, md.keeps _ _ hJ (keeps_refl s)⟩
theorem ev_bool (md : Md env ρ J R) {c : Bool} {k : Nat} : EvP prog w A env J R (.Constant (.bool c) k pos) (.bool c) := fun s _ hJ => by
  rw [eval_Constant]
  exact wpAny_pure ⟨.bool _, md.keeps _ _ hJ (keeps_refl s)⟩
theorem ev_bin (md : Md env ρ J R) {op : Operator} (hl : EvP prog w A env J R l a) (hr : EvP prog w A env J R r b) (ho : binD op a b = some d) : EvP prog w A env J R (.BinOp l op r pos) d := by
  intro s E hJ
  refine wpAny_BinOp (wpAny_mono (hl s E hJ) (fun v s₁ h₁ => ?_) fun _ _ e => e)
  have J₁ := md.inv _ _ hJ h₁.2
  refine wpAny_mono (hr s₁ E J₁) (fun u s₂ h₂ => ?_) fun _ _ e => e
  have J₂ := md.inv _ _ J₁ h₂.2
  exact wpAny_mono (bin_ok ho (h₁.1.mono (md.seq _ _ h₂.2)) h₂.1) (fun x s₃ h₃ => ⟨h₃.1, md.trans _ _ _ (md.trans _ _ _ h₁.2 h₂.2) (md.keeps _ _ J₂ h₃.2)⟩) fun _ _ e => e
theorem ev_cmp (md : Md env ρ J R) (hu : A.units + 64 < cLine) {op : CmpOp} {c : Bool} (hl : EvP prog w A env J R l a) (hr : EvP prog w A env J R r b) (ho : cmpD op a b = some c) (hm : behindInMarks op r = false) : EvP prog w A env J R (.Compare l [op] [r] pos) (.bool c) := by
  intro s E hJ
  refine wpAny_Compare1 (wpAny_mono (hl s E hJ) (fun v s₁ h₁ => ?_) fun _ _ e => e) hm
  have J₁ := md.inv _ _ hJ h₁.2
  refine wpAny_mono (hr s₁ E J₁) (fun u s₂ h₂ => ?_) fun _ _ e => e
  have J₂ := md.inv _ _ J₁ h₂.2
  refine wpAny_mono (cmp_ok ho (h₁.1.mono (md.seq _ _ h₂.2)) h₂.1 hu) (fun x s₃ h₃ => ?_) fun _ _ e => e
  obtain ⟨rfl, h₃⟩ := h₃
  exact ⟨.bool _, md.trans _ _ _ (md.trans _ _ _ h₁.2 h₂.2) (md.keeps _ _ J₂ h₃)⟩
theorem ev_neg (md : Md env ρ J R) {i : Int} (hl : EvP prog w A env J R l (.int i)) : EvP prog w A env J R (.UnaryOp .USub l pos) (.int (-i)) := by
  intro s E hJ
  refine UnaryOp_ (wpAny_mono (hl s E hJ) (fun v s₁ h₁ => ?_) fun _ _ e => e)
  have J₁ := md.inv _ _ hJ h₁.2
  obtain ⟨hv, h₁⟩ := h₁
  cases hv
  exact PyProof.Rows.neg_int ⟨.int _ _, md.trans _ _ _ h₁ (md.keeps _ _ J₁ (keeps_tok _ _))⟩
theorem ev_item (md : Md env ρ J R) (hl : EvP prog w A env J R l a) (hr : EvP prog w A env J R r b) (ho : itemD a b = some d)
    (hs : ∀ v u, subscripted r false v u = operate [v, u] (getItem v u)) : EvP prog w A env J R (.Subscript l r pos) d := by
  intro s E hJ
  refine Subscript_ (wpAny_mono (hl s E hJ) (fun v s₁ h₁ => ?_) fun _ _ e => e)
  have J₁ := md.inv _ _ hJ h₁.2
  refine wpAny_mono (hr s₁ E J₁) (fun u s₂ h₂ => ?_) fun _ _ e => e
  have J₂ := md.inv _ _ J₁ h₂.2
  exact wpAny_mono (item_ok ho (h₁.1.mono (md.seq _ _ h₂.2)) h₂.1 (hs v u)) (fun x s₃ h₃ => ⟨h₃.1, md.trans _ _ _ (md.trans _ _ _ h₁.2 h₂.2) (md.keeps _ _ J₂ h₃.2)⟩) fun _ _ e => e

theorem tv_ok (md : Md env ρ J R) {c : Bool} (hl : EvP prog w A env J R l a) (ho : trD a = some c)
    (he : ∀ whole, isTrue l env whole = (do let v ← whole; standAt l.pos; holding [v] (truthy v))) : EvT prog w A env J R l c := by
  intro s E hJ
  refine wpAny_isTrue_value (wpAny_mono (hl s E hJ) (fun v s₁ h₁ => ?_) fun _ _ e => e) (he _)
  have J₁ := md.inv _ _ hJ h₁.2
  exact wpAny_mono (tr_ok ho h₁.1) (fun x s₃ h₃ => ⟨h₃.1, md.trans _ _ _ h₁.2 (md.keeps _ _ J₁ h₃.2)⟩) fun _ _ e => e
theorem tv_cmp (md : Md env ρ J R) (hu : A.units + 64 < cLine) {op : CmpOp} {c : Bool} (hl : EvP prog w A env J R l a) (hr : EvP prog w A env J R r b) (ho : cmpD op a b = some c) (hm : behindInMarks op r = false) : EvT prog w A env J R (.Compare l [op] [r] pos) c := by
  intro s E hJ
  refine wpAny_isTrue_Compare1 (wpAny_mono (hl s E hJ) (fun v s₁ h₁ => ?_) fun _ _ e => e) hm
  have J₁ := md.inv _ _ hJ h₁.2
  refine wpAny_mono (hr s₁ E J₁) (fun u s₂ h₂ => ?_) fun _ _ e => e
  have J₂ := md.inv _ _ J₁ h₂.2
  refine wpAny_mono (cmp_ok ho (h₁.1.mono (md.seq _ _ h₂.2)) h₂.1 hu) (fun x s₃ h₃ => ?_) fun _ _ e => e
  obtain ⟨rfl, h₃⟩ := h₃
  exact wpAny_truthy_bool ⟨rfl, md.trans _ _ _ (md.trans _ _ _ h₁.2 h₂.2) (md.keeps _ _ J₂ h₃)⟩
theorem tv_not {c : Bool} (hl : EvT prog w A env J R l c) : EvT prog w A env J R (.UnaryOp .Not l pos) (!c) := by
  intro s E hJ
  exact isTrue_not (wpAny_mono (hl s E hJ) (fun v s₁ h₁ => ⟨by rw [h₁.1], h₁.2⟩) fun _ _ e => e)
theorem tv_and_stop (hl : EvT prog w A env J R l false) {rest : List Expr} : EvT prog w A env J R (.BoolOp .And (l :: rest) pos) false := by
  intro s E hJ
  refine isTrue_and (wpAny_mono (hl s E hJ) (fun v s₁ h₁ => ?_) fun _ _ e => e)
  obtain ⟨rfl, h₁⟩ := h₁
  exact ⟨rfl, h₁⟩
theorem tv_and_go (md : Md env ρ J R) {c : Bool} (hl : EvT prog w A env J R l true) {rest : List Expr} (hr : EvT prog w A env J R (.BoolOp .And rest pos) c) : EvT prog w A env J R (.BoolOp .And (l :: rest) pos) c := by
  intro s E hJ
  refine isTrue_and (wpAny_mono (hl s E hJ) (fun v s₁ h₁ => ?_) fun _ _ e => e)
  obtain ⟨rfl, h₁⟩ := h₁
  exact wpAny_mono (hr s₁ E (md.inv _ _ hJ h₁)) (fun v s₂ h₂ => ⟨h₂.1, md.trans _ _ _ h₁ h₂.2⟩) fun _ _ e => e
theorem tv_and_nil (md : Md env ρ J R) : EvT prog w A env J R (.BoolOp .And [] pos) true := fun s _ hJ => isTrue_and_nil ⟨rfl, md.keeps _ _ hJ (keeps_refl s)⟩
theorem tv_or_stop (hl : EvT prog w A env J R l true) {rest : List Expr} : EvT prog w A env J R (.BoolOp .Or (l :: rest) pos) true := by
  intro s E hJ
  refine isTrue_or (wpAny_mono (hl s E hJ) (fun v s₁ h₁ => ?_) fun _ _ e => e)
  obtain ⟨rfl, h₁⟩ := h₁
  exact ⟨rfl, h₁⟩
theorem tv_or_go (md : Md env ρ J R) {c : Bool} (hl : EvT prog w A env J R l false) {rest : List Expr} (hr : EvT prog w A env J R (.BoolOp .Or rest pos) c) : EvT prog w A env J R (.BoolOp .Or (l :: rest) pos) c := by
  intro s E hJ
  refine isTrue_or (wpAny_mono (hl s E hJ) (fun v s₁ h₁ => ?_) fun _ _ e => e)
  obtain ⟨rfl, h₁⟩ := h₁
  exact wpAny_mono (hr s₁ E (md.inv _ _ hJ h₁)) (fun v s₂ h₂ => ⟨h₂.1, md.trans _ _ _ h₁ h₂.2⟩) fun _ _ e => e
theorem tv_or_nil (md : Md env ρ J R) : EvT prog w A env J R (.BoolOp .Or [] pos) false := fun s _ hJ => isTrue_or_nil ⟨rfl, md.keeps _ _ hJ (keeps_refl s)⟩
theorem ev_ifexp (md : Md env ρ J R) {c : Bool} {t x y : Expr} (ht : EvT prog w A env J R t c) (hx : c = true → EvP prog w A env J R x d) (hy : c = false → EvP prog w A env J R y d) : EvP prog w A env J R (.IfExp t x y pos) d := by
  intro s E hJ
  refine IfExp_ (wpAny_mono (ht s E hJ) (fun v s₁ h₁ => ?_) fun _ _ e => e)
  obtain ⟨rfl, h₁⟩ := h₁
  have J₁ := md.inv _ _ hJ h₁
  cases v with
  | true => exact wpAny_mono (hx rfl s₁ E J₁) (fun x s₃ h₃ => ⟨h₃.1, md.trans _ _ _ h₁ h₃.2⟩) fun _ _ e => e
  | false => exact wpAny_mono (hy rfl s₁ E J₁) (fun x s₃ h₃ => ⟨h₃.1, md.trans _ _ _ h₁ h₃.2⟩) fun _ _ e => e

theorem sp_nil (md : Md env ρ J R) : SpP prog w A J R [] [] := fun s _ hJ => Calls.spliced_nil ⟨.nil, md.keeps _ _ hJ (keeps_refl s)⟩
theorem sp_cons (md : Md env ρ J R) {rest : List (Bool × Sem Value)} {ds : List PyData} (hl : EvP prog w A env J R l d) (hr : SpP prog w A J R rest ds) : SpP prog w A J R ((false, eval l env) :: rest) (d :: ds) := by
  intro s E hJ
  refine Calls.spliced_cons (wpAny_mono (hl s E hJ) (fun v s₁ h₁ => ?_) fun _ _ e => e)
  have J₁ := md.inv _ _ hJ h₁.2
  exact wpAny_mono (hr s₁ E J₁) (fun vs s₂ h₂ => ⟨.cons (h₁.1.mono (md.seq _ _ h₂.2)) h₂.1, md.trans _ _ _ h₁.2 h₂.2⟩) fun _ _ e => e
theorem ev_list (md : Md env ρ J R) {es : List Expr} {ds : List PyData} (h : SpP prog w A J R (backTo pos (starEach es env)) ds) (hn : ds.length ≤ 1048576) : EvP prog w A env J R (.List es pos) (.list ds) := by
  intro s E hJ
  refine List_ (wpAny_mono (h s E hJ) (fun vs s₁ h₁ => ?_) fun _ _ e => e)
  have J₁ := md.inv _ _ hJ h₁.2
  have e := DtAll.length h₁.1
  refine wpAny_newObj_type ⟨.list ⟨_, Heap.get?_push_size _ rfl, rfl, rfl, _, rfl⟩ (h₁.1.mono (.of_keeps fun _ _ e => Heap.get?_push_of_some _ e)), md.trans _ _ _ h₁.2 (md.keeps _ _ J₁ (keeps_push _ _ _))⟩ ?_
  show vs.toArray.size ≤ sizeLine
  unfold sizeLine; simp; omega
theorem ev_tuple (md : Md env ρ J R) {es : List Expr} {k : Nat} {ds : List PyData} (h : SpP prog w A J R (backTo pos (starEach es env)) ds) (hn : ds.length ≤ 1048576) : EvP prog w A env J R (.Tuple es k pos) (.tuple ds) := by
  intro s E hJ
  refine Tuple_ (wpAny_mono (h s E hJ) (fun vs s₁ h₁ => ?_) fun _ _ e => e)
  have J₁ := md.inv _ _ hJ h₁.2
  have e := DtAll.length h₁.1
  refine wpAny_newObj_type ⟨.tup ⟨_, Heap.get?_push_size _ rfl, rfl, _, rfl⟩ (h₁.1.mono (.of_keeps fun _ _ e => Heap.get?_push_of_some _ e)), md.trans _ _ _ h₁.2 (md.keeps _ _ J₁ (keeps_push _ _ _))⟩ ?_
  show vs.toArray.size ≤ sizeLine
  unfold sizeLine; simp; omega
theorem ev_callB (md : Md env ρ J R) {x : Str} {id : String} {es : List Expr} {ds : List PyData} {t : Sem Value} {rest : List (Bool × Sem Value)} (hx : NmP prog w A env J x (.builtin id))
    (ht : backTo pos (starEach es env) = (false, t) :: rest) (hplain : rest.any (·.1) = false) (h : SpP prog w A J R ((false, t) :: rest) ds)
    (hc : ∀ s E vs, J s → DtAll s.heap vs ds → wpAny (model prog w) A (call (.builtin id) vs) (Got s d) E s) : EvP prog w A env J R (.Call (.Name x np) es [] pos) d := by
  intro s E hJ
  refine Call_Name ht (hx _ s _ E hJ ?_)
  refine Calls.callWith_builtin (by simpa using hplain) (Calls.evalArgs_plain (wpAny_mono (h s E hJ) (fun vs s₁ h₁ => ?_) fun _ _ e => e))
  have J₁ := md.inv _ _ hJ h₁.2
  exact wpAny_mono (hc s₁ E vs J₁ h₁.1) (fun v s₂ h₂ => ⟨h₂.1, md.trans _ _ _ h₁.2 (md.keeps _ _ J₁ h₂.2)⟩) fun _ _ e => e
theorem ev_call1 (md : Md env ρ J R) (hh : A.handled = none) {x : Str} {id : String} {e : Expr} (hx : NmP prog w A env J x (.builtin id)) (h : EvP prog w A env J R e a) (ho : callD1 id a = some d)
    (ht : backTo pos (starEach [e] env) = [(false, eval e env)]) : EvP prog w A env J R (.Call (.Name x np) [e] [] pos) d :=
  ev_callB md hx ht rfl (sp_cons md h (sp_nil md)) fun s E vs _ hv => by
    cases hv with | cons q r => cases r; exact call1_ok ho q hh
theorem ev_min2 (md : Md env ρ J R) (hh : A.handled = none) {x : Str} {e e' : Expr} {i j : Int} (hx : NmP prog w A env J x (.builtin "min")) (h : EvP prog w A env J R e (.int i)) (h' : EvP prog w A env J R e' (.int j))
    (ht : backTo pos (starEach [e, e'] env) = [(false, eval e env), (false, eval e' env)]) : EvP prog w A env J R (.Call (.Name x np) [e, e'] [] pos) (.int (if j < i then j else i)) :=
  ev_callB md hx ht rfl (sp_cons md h (sp_cons md h' (sp_nil md))) fun s E vs _ hv => by
    cases hv with | cons q r => cases r with | cons q' r' => cases r'; cases q; cases q'; exact min2_ok hh
theorem ev_callF (md : Md env ρ J R) {x : Str} {f : Addr} {es : List Expr} {ds : List PyData} {t : Sem Value} {rest : List (Bool × Sem Value)} (hx : NmP prog w A env J x (.ref f))
    (ht : backTo pos (starEach es env) = (false, t) :: rest) (h : SpP prog w A J R ((false, t) :: rest) ds)
    (hf : FnP prog w A J R f ds d) : EvP prog w A env J R (.Call (.Name x np) es [] pos) d := by
  intro s E hJ
  refine Call_Name ht (hx _ s _ E hJ ?_)
  obtain ⟨⟨o, fd, hd, ho⟩, hf⟩ := hf
  refine Calls.callWith_function (o := o) (fd := fd) (Calls.evalArgs_plain (wpAny_mono (h s E hJ) (fun vs s₁ h₁ => ?_) fun _ _ e => e))
  have J₁ := md.inv _ _ hJ h₁.2
  exact ⟨⟨ho s₁ J₁, hd⟩, wpAny_mono (hf s₁ E vs J₁ h₁.1) (fun v s₂ h₂ => ⟨h₂.1, md.trans _ _ _ h₁.2 h₂.2⟩) fun _ _ e => e⟩

noncomputable def sliceD : PyData → Option Int → Option Int → Option PyData
  | .str x, lo, hi => if x.length ≤ 1048576 then some (.str (Txt.slice x lo hi)) else none
  | .list xs, none, some n => if 0 ≤ n ∧ xs.length ≤ 1048576 then some (.list (xs.take n.toNat)) else none
  | _, _, _ => none
noncomputable def PtP (prog : Program) (w : World) (A : Around) (env : Env) (J : Shared → Prop) (R : Shared → Shared → Prop) : Option Expr → Option Int → Prop
  | none, none => True
  | some e, some i => EvP prog w A env J R e (.int i)
  | _, _ => False
theorem pt_ok (md : Md env ρ J R) {x : Option Expr} {i : Option Int} (h : PtP prog w A env J R x i) {s : Shared} {E : Value → Shared → Prop} (hJ : J s) :
    wpAny (model prog w) A (evalPart x env) (fun v s' => (∃ q : Option (Int × Tok), v = partValue q ∧ q.map (·.1) = i) ∧ R s s') E s := by
  match x, i, h with
  | none, none, _ => rw [evalPart_none]; exact wpAny_pure ⟨⟨none, rfl, rfl⟩, md.keeps _ _ hJ (keeps_refl s)⟩
  | some e, some i, h =>
    rw [evalPart_some]
    refine wpAny_mono (h s E hJ) (fun v s' hv => ⟨?_, hv.2⟩) fun _ _ e => e
    cases hv.1
    rename_i t
    exact ⟨some (i, t), rfl, rfl⟩
theorem isPart_of (q : Option (Int × Tok)) : IsPart (partValue q) (q.map (·.1)) := by
  cases q with
  | none => exact .none
  | some p => exact .int _ _
theorem ev_slice (md : Md env ρ J R) {lo hi : Option Expr} {i j : Option Int} (hl : EvP prog w A env J R l a) (h1 : PtP prog w A env J R lo i) (h2 : PtP prog w A env J R hi j) (ho : sliceD a i j = some d) :
    EvP prog w A env J R (.Subscript l (.Slice lo hi none p) pos) d := by
  intro s E hJ
  refine Subscript_ (wpAny_mono (hl s E hJ) (fun v s₁ h₁ => ?_) fun _ _ e => e)
  have J₁ := md.inv _ _ hJ h₁.2
  refine wpAny_Slice (wpAny_mono (pt_ok md h1 J₁) (fun u s₂ h₂ => ?_) fun _ _ e => e)
  have J₂ := md.inv _ _ J₁ h₂.2
  refine wpAny_mono (pt_ok md h2 J₂) (fun u' s₃ h₃ => ?_) fun _ _ e => e
  have J₃ := md.inv _ _ J₂ h₃.2
  obtain ⟨⟨q, rfl, hq⟩, hR2⟩ := h₂
  obtain ⟨⟨q', rfl, hq'⟩, hR3⟩ := h₃
  rw [evalPart_none]
  refine wpAny_pure ?_
  have hv := (h₁.1.mono (md.seq _ _ hR2)).mono (md.seq _ _ hR3)
  have hR : R s s₃ := md.trans _ _ _ (md.trans _ _ _ h₁.2 hR2) hR3
  refine kba_turn (value' := .Name Str.empty default) (fun _ => rfl) ?_
  subst hq hq'
  unfold sliceD at ho
  split at ho
  · rename_i x
    split at ho
    · rename_i hx
      cases ho
      cases hv
      rename_i t
      refine subscriptTail_ops (ops := [.ref s₃.heap.objs.size, .str x t]) (typeIs_str _ x t) PySem.F.slot_str_getitem.lookup
        (wpAny_getItem_str_slice (l := q) (u := q') (st := none) ⟨_, Heap.get?_push_size _ rfl, rfl, rfl⟩ rfl ?_) rfl (fun _ => rfl)
      refine post_val_or_str (y := x) (t := t) (c := _) ⟨Nat.le_trans (Txt.slice_le x _ _) (by unfold sizeLine; omega), fun t' k => ?_⟩
      exact ⟨.str _ _, md.trans _ _ _ hR (md.keeps _ _ J₃ (keeps_push _ _ _))⟩
    · cases ho
  · rename_i _ _ _ xs n hlo hhi
    split at ho
    · rename_i hx
      cases ho
      cases hv with
      | @list l vs _ hl r =>
        have hlen := DtAll.length r
        have pl := isPart_of q
        have pu := isPart_of q'
        rw [hlo] at pl
        rw [hhi] at pu
        refine subscriptTail_ops (ops := [.ref s₃.heap.objs.size, .ref l]) (Heap.IsList.typeIs (s := { s₃ with heap := _ }) (hl.isList.push _)) list_getitem_lookup
          (wpAny_getItem_list_slice (hl.isList.push _) (Heap.IsSliceOf.new ..) pl pu .none (by simp) ?_ (by unfold sizeLine; simp; omega)) rfl (fun _ => rfl)
        have e : slicePick vs.toArray none (some n) none = (vs.take n.toNat).toArray := by
          have en : n = ((n.toNat : Nat) : Int) := by omega
          generalize n.toNat = k at en
          subst en
          rw [slicePick_upto']
        rw [e]
        refine ⟨.list ⟨_, Heap.get?_push_size _ rfl, rfl, rfl, _, rfl⟩ ?_, md.trans _ _ _ hR (md.keeps _ _ J₃ ⟨_, _, rfl, fun _ _ e => Heap.get?_push_of_some _ (Heap.get?_push_of_some _ e)⟩)⟩
        exact (DtAll.take n.toNat r).mono (.of_keeps fun _ _ e => Heap.get?_push_of_some _ (Heap.get?_push_of_some _ e))
    · cases ho
  · cases ho

theorem ev_index (md : Md env ρ J R) {o e : Expr} {xs : List PyData} {ns : List Int} {k : Int} {apos : Pos} (hl : EvP prog w A env J R o (.list xs)) (he : EvP prog w A env J R e (.int k)) (hns : intsOf xs = some ns) (hlen : ns.length ≤ 1048576) (hk : k ∈ ns)
    (hbase : attributeBase o "index" env (eval o env) = eval o env) (hs : starEach [e] env = [(false, eval e env)]) (hline : (apos.endLine == pos.line) = true) :
    EvP prog w A env J R (.Call (.Attribute o "index" apos) [e] [] pos) (.int (ns.idxOf k : Nat)) := by
  intro s E hJ
  refine Call_method1 hbase hs hline (wpAny_mono (hl s E hJ) (fun v s₁ h₁ => ?_) fun _ _ e => e)
  have J₁ := md.inv _ _ hJ h₁.2
  obtain ⟨hv, hR⟩ := h₁
  cases hv with
  | @list l vs _ hl r =>
  refine ⟨"list", "list.index", PySem.F.plainAttrs_list, PySem.F.slot_list_index, PySem.F.type_list_index, hl.isList.typeIs, ?_, ?_⟩
  · intro b hb; cases hb; obtain ⟨o, ho, _, hd, _⟩ := hl; exact ⟨o, ho, hd⟩
  · refine Calls.callWith_builtin rfl (Calls.evalArgs_plain (Calls.spliced_cons (wpAny_mono (he s₁ E J₁) (fun u s₂ h₂ => Calls.spliced_nil ?_) fun _ _ e => e)))
    have J₂ := md.inv _ _ J₁ h₂.2
    obtain ⟨hu, hR2⟩ := h₂
    cases hu
    exact wpAny_mono (index_ok hns ((Dt.list hl r).mono (md.seq _ _ hR2)) hlen hk) (fun v s₃ h₃ => ⟨h₃.1, md.trans _ _ _ (md.trans _ _ _ hR hR2) (md.keeps _ _ J₂ h₃.2)⟩) fun _ _ e => e

noncomputable def joinD (sep : Str) (ss : List Str) : Str := Str.join sep ss
theorem join_len_le (sep : Str) : ∀ (ss : List Str), (Str.join sep ss).length ≤ (ss.map fun x => x.length + sep.length).sum
  | [] => Nat.zero_le _
  | [x] => by show x.length ≤ _; simp
  | x :: y :: r => by
    have ih := join_len_le sep (y :: r)
    show (x ++ sep ++ Str.join sep (y :: r)).length ≤ _
    rw [Str.length_append, Str.length_append, List.map_cons, List.sum_cons]
    omega
theorem join_ok {s : Shared} {E : Value → Shared → Prop} {sep : Str} {t : Tok} {l : Addr} {vs : List Value} {ss : List Str} (hl : LstAt s.heap l vs.toArray) (r : DtAll s.heap vs (ss.map .str))
    (hlen : ((ss.map fun x => x.length + sep.length).sum) ≤ 1048576) : wpAny (model prog w) A (call (.builtin "str.join") [.str sep t, .ref l]) (Got s (.str (Str.join sep ss))) E s := by
  obtain ⟨ps, rfl, hps⟩ := DtAll.strs r
  have key : ∀ (l : List (Str × Tok)) (a : Nat), (l.map (·.1)).toArray.foldl (· + ·.length + sep.length) a = a + ((l.map (·.1)).map fun x => x.length + sep.length).sum := by
    intro l
    induction l with
    | nil => intro a; simp
    | cons p r ih =>
      intro a
      simp only [List.foldl_toArray, List.map_cons, List.foldl_cons, List.sum_cons] at ih ⊢
      rw [ih]; omega
  refine call_meets PySem.F.slot_str_join (typeIs_str s sep t) PySem.F.entry_str_join (PySem.F.args_str_join_2 _ _) (meets_str_join_list sep t l ps (by rw [key, hps]; simp [Builtin.Str.tooLong, sizeLine]; omega)) ⟨hl.isList, ?_⟩
  subst hps
  match ps, hlen with
  | [], _ => exact ⟨Nat.zero_le _, ⟨.str _ _, keeps_tok s _⟩⟩
  | [p], _ => exact ⟨.str _ _, keeps_refl s⟩
  | p :: q :: r', hlen =>
    have e : Builtin.Str.glued sep ((p :: q :: r').map (·.1)) = Str.join sep ((p :: q :: r').map (·.1)) := StrLaws.glued_eq_join _ _
    have hj := join_len_le sep ((p :: q :: r').map (·.1))
    refine ⟨?_, ?_⟩
    · rw [e]; unfold sizeLine; omega
    · rw [e]; exact ⟨.str _ _, keeps_tok s _⟩
theorem ev_join (md : Md env ρ J R) {o e : Expr} {sep : Str} {ss : List Str} {apos : Pos} (hl : EvP prog w A env J R o (.str sep)) (he : EvP prog w A env J R e (.list (ss.map .str))) (hlen : ((ss.map fun x => x.length + sep.length).sum) ≤ 1048576)
    (hbase : attributeBase o "join" env (eval o env) = eval o env) (hs : starEach [e] env = [(false, eval e env)]) (hline : (apos.endLine == pos.line) = true) :
    EvP prog w A env J R (.Call (.Attribute o "join" apos) [e] [] pos) (.str (Str.join sep ss)) := by
  intro s E hJ
  refine Call_method1 hbase hs hline (wpAny_mono (hl s E hJ) (fun v s₁ h₁ => ?_) fun _ _ e => e)
  have J₁ := md.inv _ _ hJ h₁.2
  obtain ⟨hv, hR⟩ := h₁
  cases hv
  refine ⟨"str", "str.join", PySem.F.plainAttrs_str, PySem.F.slot_str_join, PySem.F.type_str_join, typeIs_str _ _ _, (fun _ e => nomatch e), ?_⟩
  refine Calls.callWith_builtin rfl (Calls.evalArgs_plain (Calls.spliced_cons (wpAny_mono (he s₁ E J₁) (fun u s₂ h₂ => Calls.spliced_nil ?_) fun _ _ e => e)))
  have J₂ := md.inv _ _ J₁ h₂.2
  obtain ⟨hu, hR2⟩ := h₂
  cases hu with
  | @list l vs _ hl r =>
  exact wpAny_mono (join_ok hl r hlen) (fun v s₃ h₃ => ⟨h₃.1, md.trans _ _ _ (md.trans _ _ _ hR hR2) (md.keeps _ _ J₂ h₃.2)⟩) fun _ _ e => e
end
end Mine

namespace Mine
noncomputable def NoName (o : Obj) : Prop := (∀ es n, o.data ≠ .dict es n) ∧ (∀ v, o.data ≠ .cell v) ∧ ¬ (o.cls = .none ∧ ∃ vs, o.data = .fields vs)
section
variable (prog : Program) (w : World) (A : Around)
noncomputable def WkI (s₁ : Shared) (ns : List Int) (it : Value) (s₂ : Shared) : Prop :=
  ∃ I fp wr P St, it = .ref I ∧ Walks prog w A I fp wr ns.length P St ∧ St 0 s₂.heap ∧ (∀ b ∈ fp, b < s₂.heap.objs.size) ∧ (∀ b ∈ wr, s₁.heap.get? b = none) ∧
      (∀ k h, St k h → ∀ b ∈ fp, ∃ o, h.get? b = some o ∧ NoName o) ∧ (∀ k h, St k h → ∀ b ∈ wr, ∃ o vs, h.get? b = some o ∧ o.data = .fields vs) ∧ (∀ i v, P i v → i < ns.length ∧ ∃ t, v = .int (ns.getD i 0) t)
noncomputable def ItI (env : Env) (J : Shared → Prop) (R : Shared → Shared → Prop) (iter : Expr) (ns : List Int) : Prop :=
  ∀ s E, J s → wpAny (model prog w) A (eval iter env) (fun xv s₁ => R s s₁ ∧ wpAny (model prog w) A (pyIter xv) (fun it s₂ => Keeps s₁ s₂ ∧ WkI prog w A s₁ ns it s₂) E s₁) E s
end
section
variable {prog : Program} {w : World} {A : Around} {env : Env} {ρ : List (Str × PyData)} {J : Shared → Prop} {R : Shared → Shared → Prop} {a b d : PyData} {l r e : Expr} {pos p np : Pos}

noncomputable def upFrom (a : Int) : Nat → List Int
  | 0 => []
  | n + 1 => a :: upFrom (a + 1) n
theorem upFrom_length (a : Int) (n : Nat) : (upFrom a n).length = n := by
  induction n generalizing a with
  | zero => rfl
  | succ n ih => simp [upFrom, ih]
theorem upFrom_getD (a : Int) (n i : Nat) (h : i < n) : (upFrom a n).getD i 0 = a + i := by
  induction n generalizing a i with
  | zero => omega
  | succ n ih =>
    cases i with
    | zero => simp [upFrom]
    | succ i =>
      have := ih (a + 1) i (by omega)
      simp [upFrom] at this ⊢
      rw [this]; omega
noncomputable def rangeI (a b : Int) : List Int := upFrom a (b - a).toNat

theorem walks_bounded {I : Addr} {fp wr : List Addr} {n : Nat} {P : Nat → Value → Prop} {St : Nat → Heap → Prop} (W : Walks prog w A I fp wr n P St) : Walks prog w A I fp wr n (fun i v => P i v ∧ i < n) St where
  sub := W.sub
  frame := W.frame
  item := fun i s Q E hi st hQ => W.item i s Q E hi st fun v h' tk hP => hQ v h' tk ⟨hP, hi⟩
  done := W.done
  self := W.self
theorem wk_range (hh : A.handled = none) {E : Value → Shared → Prop} {s : Shared} {r : Addr} {a n : Int} {t u v : Tok} (hr : IsRange s.heap r a n 1 t u v) (ha : -1048576 ≤ a ∧ a ≤ 1048576) (hn : -1048576 ≤ n ∧ n ≤ 1048576) :
    wpAny (model prog w) A (pyIter (.ref r)) (fun it s₂ => Keeps s s₂ ∧ WkI prog w A s (rangeI a n) it s₂) E s := by
  refine wpAny_pyIter_range hr (small_one (by omega) (by omega) (by omega) (by omega)) ?_
  have hsz : Builtin.Range.rangeSize a n 1 = ((n - a).toNat : Int) := by rw [rangeSize_one]; split <;> omega
  have hlen : (rangeI a n).length = (n - a).toNat := upFrom_length _ _
  refine ⟨keeps_push s _ _, s.heap.objs.size, _, _, _, _, rfl, walks_bounded (Walks.range hh _ a 1 (rangeI a n).length), ?_, ?_, ?_, ?_, ?_, ?_⟩
  · rw [hlen, hsz]
    have e1 : a + ((0 : Nat) : Int) * 1 = a := by simp
    have e2 : ((n - a).toNat : Int) - ((0 : Nat) : Int) = (n - a).toNat := by simp
    rw [e1, e2]
    exact Heap.get?_push_size _ rfl
  · intro b hb
    rw [List.mem_singleton.mp hb, Heap.size_push]; exact Nat.lt_succ_self _
  · intro b hb
    rw [List.mem_singleton.mp hb]
    cases e : s.heap.get? s.heap.objs.size with
    | none => rfl
    | some o => exact absurd (Heap.lt_size e) (Nat.lt_irrefl _)
  · intro k h st b hb
    rw [List.mem_singleton.mp hb]
    exact ⟨_, st, fun _ _ q => (by cases q), fun _ q => (by cases q), fun q => (by cases q.1)⟩
  · intro k h st b hb
    rw [List.mem_singleton.mp hb]
    exact ⟨_, _, st, rfl⟩
  · rintro i v ⟨⟨t, rfl⟩, hi⟩
    refine ⟨hi, ?_⟩
    rw [hlen] at hi
    rw [rangeI, upFrom_getD _ _ _ hi]
    exact ⟨t, by simp⟩

theorem it_range1 (md : Md env ρ J R) (hh : A.handled = none) {x : Str} {e : Expr} {n : Int} (hx : NmP prog w A env J x (.type "range")) (h : EvP prog w A env J R e (.int n)) (hn : -1048576 ≤ n ∧ n ≤ 1048576)
    (ht : backTo pos (starEach [e] env) = [(false, eval e env)]) : ItI prog w A env J R (.Call (.Name x np) [e] [] pos) (rangeI 0 n) := by
  intro s E hJ
  refine Call_Name ht (hx _ s _ E hJ ?_)
  refine PySem.callWith_type rfl (Calls.evalArgs_plain (Calls.spliced_cons (wpAny_mono (h s E hJ) (fun v s₁ h₁ => Calls.spliced_nil ?_) fun _ _ e => e)))
  have J₁ := md.inv _ _ hJ h₁.2
  obtain ⟨hv, hR⟩ := h₁
  cases hv
  refine call_range_1 ⟨md.trans _ _ _ hR (md.keeps _ _ J₁ (keeps_push _ _ _)), ?_⟩
  exact wk_range hh (IsRange.new ..) (by omega) hn
theorem it_range2 (md : Md env ρ J R) (hh : A.handled = none) {x : Str} {e e' : Expr} {m n : Int} (hx : NmP prog w A env J x (.type "range")) (h : EvP prog w A env J R e (.int m)) (h' : EvP prog w A env J R e' (.int n))
    (hm : -1048576 ≤ m ∧ m ≤ 1048576) (hn : -1048576 ≤ n ∧ n ≤ 1048576)
    (ht : backTo pos (starEach [e, e'] env) = [(false, eval e env), (false, eval e' env)]) : ItI prog w A env J R (.Call (.Name x np) [e, e'] [] pos) (rangeI m n) := by
  intro s E hJ
  refine Call_Name ht (hx _ s _ E hJ ?_)
  refine PySem.callWith_type rfl (Calls.evalArgs_plain (Calls.spliced_cons (wpAny_mono (h s E hJ) (fun v s₁ h₁ => Calls.spliced_cons ?_) fun _ _ e => e)))
  have J₁ := md.inv _ _ hJ h₁.2
  refine wpAny_mono (h' s₁ E J₁) (fun v' s₂ h₂ => Calls.spliced_nil ?_) fun _ _ e => e
  have J₂ := md.inv _ _ J₁ h₂.2
  obtain ⟨hv, hR⟩ := h₁
  obtain ⟨hv', hR'⟩ := h₂
  cases hv
  cases hv'
  refine call_range_2 ⟨md.trans _ _ _ (md.trans _ _ _ hR hR') (md.keeps _ _ J₂ (keeps_push _ _ _)), ?_⟩
  exact wk_range hh (IsRange.new ..) hm hn
theorem it_list (md : Md env ρ J R) (hh : A.handled = none) {e : Expr} {xs : List PyData} {ns : List Int} (h : EvP prog w A env J R e (.list xs)) (hns : intsOf xs = some ns) : ItI prog w A env J R e ns := by
  intro s E hJ
  refine wpAny_mono (h s E hJ) (fun v s₁ h₁ => ⟨h₁.2, ?_⟩) fun _ _ e => e
  have e := intsOf_eq hns; subst e
  obtain ⟨hv, hR⟩ := h₁
  cases hv with
  | @list l vs _ hl r =>
  have hi := DtAll.ints r
  have hax : l < s₁.heap.objs.size := by obtain ⟨_, e, _⟩ := hl; exact Heap.lt_size e
  refine wpAny_pyIter_list hl.isList ?_
  have W := Walks.list (prog := prog) (w := w) hh s₁.heap.objs.size l (Nat.ne_of_lt hax) vs.toArray
  rw [show vs.toArray.size = ns.length by simp [hi.length]] at W
  refine ⟨keeps_push s₁ _ _, s₁.heap.objs.size, _, _, _, _, rfl, walks_bounded W, ⟨⟨_, Heap.get?_push_size _ rfl, rfl, rfl⟩, hl.isList.push _⟩, ?_, ?_, ?_, ?_, ?_⟩
  · intro b hb
    rw [Heap.size_push]
    rcases List.mem_cons.mp hb with rfl | hb
    · exact Nat.lt_succ_self _
    · rw [List.mem_singleton.mp hb]; exact Nat.lt_succ_of_lt hax
  · intro b hb
    rw [List.mem_singleton.mp hb]
    cases e : s₁.heap.get? s₁.heap.objs.size with
    | none => rfl
    | some o => exact absurd (Heap.lt_size e) (Nat.lt_irrefl _)
  · intro k h st b hb
    rcases List.mem_cons.mp hb with rfl | hb
    · obtain ⟨o, ho, hc, hdt⟩ := st.1
      exact ⟨o, ho, fun _ _ q => (by rw [hdt] at q; cases q), fun _ q => (by rw [hdt] at q; cases q), fun q => (by rw [hc] at q; cases q.1)⟩
    · rw [List.mem_singleton.mp hb]
      obtain ⟨o, ho, hc, n, hdt⟩ := st.2
      exact ⟨o, ho, fun _ _ q => (by rw [hdt] at q; cases q), fun _ q => (by rw [hdt] at q; cases q), fun q => (by rw [hc] at q; cases q.1)⟩
  · intro k h st b hb
    rw [List.mem_singleton.mp hb]
    obtain ⟨o, ho, hc, hdt⟩ := st.1
    exact ⟨o, _, ho, hdt⟩
  · rintro i v ⟨hP, hlt⟩
    refine ⟨hlt, ?_⟩
    obtain ⟨t, hx⟩ := hi.get i ns[i] (by simp)
    have hP' : vs[i]? = some v := by simpa using hP
    rw [hx] at hP'
    exact ⟨t, by rw [← Option.some.inj hP']; simp [List.getD, hlt]⟩

inductive FlatV : Value → PyData → Prop
  | int (i : Int) (t : Tok) : FlatV (.int i t) (.int i)
  | str (x : Str) (t : Tok) : FlatV (.str x t) (.str x)
theorem FlatV.dt {v : Value} {d : PyData} (x : FlatV v d) (h : Heap) : Dt h v d := by cases x with | int i t => exact .int i t | str x t => exact .str x t
theorem flatV_of {h : Heap} {v : Value} {d : PyData} (x : Dt h v d) (hf : (∃ i, d = .int i) ∨ ∃ y, d = .str y) : FlatV v d := by
  rcases hf with ⟨i, rfl⟩ | ⟨y, rfl⟩ <;> cases x
  · exact .int _ _
  · exact .str _ _

noncomputable def CompJ (env : Env) (scope : Scope) (cl : List (Str × Addr)) (x : Str) (ρf : List (Str × PyData)) (C : Addr) (i : Int) : Shared → Prop :=
  fun s => NamesAt (compEnvC scope cl C env) s.heap ((x, .int i) :: ρf)
theorem compMd {env : Env} {scope : Scope} {cl : List (Str × Addr)} {x : Str} {ρf : List (Str × PyData)} {C : Addr} {i : Int} (hk : scope.kind = .function) :
    Md (compEnvC scope cl C env) ((x, .int i) :: ρf) (CompJ env scope cl x ρf C i) Keeps where
  kind := hk
  names := fun _ h => h
  keeps := fun _ _ _ k => k
  trans := fun _ _ _ => keeps_trans
  inv := fun s s' h k => by obtain ⟨h', t, rfl, kk⟩ := k; exact NamesAt.keeps h kk
  seq := fun _ _ => keeps_seq
noncomputable def FreeOk (env : Env) (scope : Scope) (cl : List (Str × Addr)) (ρ ρf : List (Str × PyData)) : Prop :=
  ∀ y d, ρf.lookup y = some d → ρ.lookup y = some d ∧ env.kindOf y = some .cell ∧ (relabel scope env).names.lookup y = some .cell ∧ cl.lookup y = env.cells.lookup y

theorem pairs_ints {pz : Int → Bool} {f : Int → PyData} : ∀ {vs : List Value} {ns : List Int} {ys : List Value}, IntsAre vs ns →
    Paired (fun v y => ∃ i t, v = Value.int i t ∧ FlatV y (f i)) (vs.filter fun v => match v with | .int i _ => pz i | _ => false) ys → ∀ h, DtAll h ys ((ns.filter pz).map f)
  | _, _, _, .nil, hp, h => by cases hp; exact .nil
  | _, _, ys, .cons n u r, hp, h => by
    by_cases c : pz n = true
    · simp only [List.filter_cons, c, if_true] at hp ⊢
      cases hp with
      | cons hy hp =>
        obtain ⟨i, t, e, hf⟩ := hy
        cases e
        exact .cons (hf.dt h) (pairs_ints r hp h)
    · simp only [List.filter_cons, c, if_false] at hp ⊢
      exact pairs_ints r hp h

theorem intsAre_of_places {ns : List Int} {P : Nat → Value → Prop} (hP : ∀ i v, i < ns.length → P i v → ∃ t, v = .int (ns.getD i 0) t) :
    ∀ (k : Nat) (vs : List Value), vs.length + k = ns.length → (∀ j v, vs[j]? = some v → P (k + j) v) → IntsAre vs (ns.drop k)
  | k, [], e, _ => by
    have : ns.drop k = [] := List.drop_eq_nil_of_le (by simp at e; omega)
    rw [this]; exact .nil
  | k, v :: vs, e, h => by
    simp only [List.length_cons] at e
    obtain ⟨t, rfl⟩ := hP k v (by omega) (by simpa using h 0 v rfl)
    have hd : ns.drop k = ns.getD k 0 :: ns.drop (k + 1) := by
      rw [List.drop_eq_getElem_cons (by omega)]
      simp [List.getD, show k < ns.length by omega]
    rw [hd]
    exact .cons _ _ (intsAre_of_places hP (k + 1) vs (by omega) fun j v hj => by
      have := h (j + 1) v (by simpa using hj)
      rw [show k + 1 + j = k + (j + 1) by omega]; exact this)

theorem ev_comp (md : Md env ρ J R) (hh : A.handled = none) {elt iter : Expr} {x : Str} {px : Pos} {ifs : List Expr} {scope : Scope} {cl : List (Str × Addr)} {ns : List Int} {ρf : List (Str × PyData)} (pz : Int → Bool) (f : Int → PyData)
    (hit : ItI prog w A env J R iter ns) (hlen : ns.length ≤ 1048576) (hclos : closureFor scope env = pure cl) (hcell : ∀ y ∈ scope.names, y.2 ≠ .cell) (hkind : scope.kind = .function)
    (hnames : ∀ y ∈ scope.names, y.2 = .local → scope.names.lookup y.1 = some .local) (hx : scope.names.lookup x = some .local) (hfree : FreeOk env scope cl ρ ρf) (hxf : ρf.lookup x = none)
    (htest : ∀ i ∈ ns, ∀ C, match ifs with
      | [] => pz i = true
      | [c] => EvT prog w A (compEnvC scope cl C env) (CompJ env scope cl x ρf C i) Keeps c (pz i)
      | _ => False)
    (helt : ∀ i ∈ ns, pz i = true → ∀ C, EvP prog w A (compEnvC scope cl C env) (CompJ env scope cl x ρf C i) Keeps elt (f i)) (hflat : ∀ i ∈ ns, pz i = true → (∃ j, f i = .int j) ∨ ∃ y, f i = .str y)
    (hs : ∀ x, foldedSetIterable iter env x = pure x) :
    EvP prog w A env J R (.ListComp elt [⟨.Name x px, iter, ifs, 0⟩] scope pos) (.list ((ns.filter pz).map f)) := by
  intro s E hJ
  refine wpAny_ListComp_free (fun v => match v with | .int i _ => pz i | _ => false) (fun v y => ∃ i t, v = Value.int i t ∧ FlatV y (f i)) hclos hcell hkind hnames hx ?_ hs
  refine wpAny_mono (hit s E hJ) (fun xv s₁ h₁ => ?_) fun _ _ e => e
  obtain ⟨hR, h₁⟩ := h₁
  have J₁ := md.inv _ _ hJ hR
  refine wpAny_mono h₁ (fun it s₂ h₂ => ?_) fun _ _ e => e
  obtain ⟨hK, I, fp, wr, P, St, rfl, W, hst, hfp, hwr, _, _, hP⟩ := h₂
  have N₁ := md.names _ J₁
  have asks : ∀ C i v s₃ m₃, P i v → s₃.heap.Ns C m₃ → m₃ x = some v → (∀ b o, b ∉ wr → s₂.heap.get? b = some o → s₃.heap.get? b = some o) → ∃ t, v = .int (ns.getD i 0) t ∧ CompJ env scope cl x ρf C (ns.getD i 0) s₃ := by
    intro C i v s₃ m₃ hPi hn hm hold
    obtain ⟨hi, t, rfl⟩ := hP i v hPi
    refine ⟨t, rfl, m₃, hn, fun y d hy => ?_⟩
    rw [List.lookup_cons] at hy
    split at hy
    · rename_i hyx
      have : y = x := by simpa using hyx
      subst this
      cases hy
      exact .inl ⟨lookup_relabel_local hx, _, hm, .int _ _⟩
    · obtain ⟨hρ, hcell', hrel, hcl⟩ := hfree y d hy
      obtain ⟨m, hnm, hnames'⟩ := N₁
      rcases hnames' y d hρ with ⟨hk, _⟩ | ⟨_, c, v', hc, hcv, hd⟩
      · rw [hcell'] at hk; cases hk
      · obtain ⟨h', t', e, kk⟩ := hK
        subst e
        have keep : ∀ b o, s₁.heap.get? b = some o → s₃.heap.get? b = some o := fun b o e => hold b o (fun hb => by rw [hwr b hb] at e; cases e) (kk b o e)
        exact .inr ⟨hrel, c, v', hcl.trans hc, hcv.keeps keep, hd.mono (.of_keeps keep)⟩
  refine ⟨I, fp, wr, ns.length, P, St, rfl, W, by unfold sizeLine; omega, hst, hfp, ⟨?_, ?_⟩, ?_⟩
  · intro C i v s₃ m₃ E' _ hPi hn hm hold _
    obtain ⟨hi, _⟩ := hP i v hPi
    obtain ⟨t, rfl, hJc⟩ := asks C i v s₃ m₃ hPi hn hm hold
    have hmem : ns.getD i 0 ∈ ns := by simp [List.getD, hi]
    have ht := htest _ hmem C
    match ifs, ht with
    | [], ht => exact wpAny_tests_nil ⟨ht.symm, keeps_refl _⟩
    | [c], ht => exact wpAny_tests_one (ht s₃ E' hJc)
  · intro C i v s₃ m₃ E' _ hPi hp hn hm hold _
    obtain ⟨hi, _⟩ := hP i v hPi
    obtain ⟨t, rfl, hJc⟩ := asks C i v s₃ m₃ hPi hn hm hold
    have hmem : ns.getD i 0 ∈ ns := by simp [List.getD, hi]
    exact wpAny_mono (helt _ hmem hp C s₃ E' hJc) (fun y s₄ h₄ => ⟨⟨_, _, rfl, flatV_of h₄.1 (hflat _ hmem hp)⟩, h₄.2⟩) fun _ _ e => e
  · intro D h' tk ys vs hnew hlD hplD hlen' hPs hF hk
    have hi : IntsAre vs ns := by
      have := intsAre_of_places (ns := ns) (P := P) (fun i v _ h => (hP i v h).2) 0 vs (by omega) (fun j v hj => by rw [Nat.zero_add]; exact hPs j v hj)
      simpa using this
    obtain ⟨nP, eP⟩ := hplD
    have hD := pairs_ints hi hF h'
    obtain ⟨h₂', t₂, e₂, kk⟩ := hK
    subst e₂
    have keep : ∀ b o, s₁.heap.get? b = some o → h'.get? b = some o := fun b o e => hk b o (fun hb => by rw [hwr b hb] at e; cases e) (kk b o e)
    refine ⟨.list (vs := ys.toList) ⟨_, eP, rfl, rfl, nP, by simp⟩ hD, md.trans _ _ _ hR (md.keeps _ _ J₁ ⟨h', tk, rfl, keep⟩)⟩
end
end Mine

namespace Mine

noncomputable def Tab (b : Addr) (o : Obj) : Prop := b = 767 ∧ o.cls = .none ∧ ∃ vs, o.data = .fields vs
noncomputable def KeepF (fs : List Addr) (h h' : Heap) : Prop := ∀ b o, h.get? b = some o → (b ∉ fs → ¬ Tab b o → h'.get? b = some o) ∧ (b ∈ fs → ¬ Tab b o → ∃ sl, h'.get? b = some { o with slots := sl }) ∧
  (∀ vs, b = 767 → o.cls = .none → o.data = .fields vs → ∃ more, h'.get? b = some { o with data := .fields (vs ++ more) } ∧ TriplesOk more.toList)
theorem triples_nil : TriplesOk (#[] : Array Value).toList := trivial
theorem triples_appL : ∀ (a b : List Value), TriplesOk a → TriplesOk b → TriplesOk (a ++ b)
  | [], _, _, y => y
  | .int _ _ :: .int _ _ :: _ :: rest, b, x, y => triples_appL rest b x y
theorem triples_app {a b : Array Value} (x : TriplesOk a.toList) (y : TriplesOk b.toList) : TriplesOk (a ++ b).toList := by
  rw [Array.toList_append]; exact triples_appL _ _ x y
theorem KeepF.of_keeps {fs : List Addr} {h h' : Heap} (k : ∀ b o, h.get? b = some o → h'.get? b = some o) : KeepF fs h h' := fun b o e => ⟨fun _ _ => k b o e, fun _ _ => ⟨o.slots, k b o e⟩, fun vs _ _ hd => ⟨#[], by
  rw [k b o e]; cases o; subst hd; simp, triples_nil⟩⟩
theorem KeepF.up {fs : List Addr} {h h' : Heap} (k : KeepF fs h h') {b : Addr} {o : Obj} (e : h.get? b = some o) (ht : ¬ Tab b o) : ∃ sl, h'.get? b = some { o with slots := sl } := by
  by_cases q : b ∈ fs
  · exact (k b o e).2.1 q ht
  · exact ⟨o.slots, (k b o e).1 q ht⟩
theorem noTab_data {b : Addr} {o : Obj} (h : ∀ vs, o.data ≠ .fields vs) : ¬ Tab b o := fun ⟨_, _, vs, hd⟩ => h vs hd
theorem noTab_cls {b : Addr} {o : Obj} (h : o.cls ≠ .none) : ¬ Tab b o := fun ⟨_, hc, _⟩ => h hc
theorem noTab_at {b : Addr} {o : Obj} (h : b ≠ 767) : ¬ Tab b o := fun ⟨hb, _⟩ => h hb
theorem KeepF.slots {fs : List Addr} {h h' : Heap} (k : KeepF fs h h') : h.UpToSlots h' := fun _ _ e hf => k.up e (noTab_data hf)
theorem KeepF.is {fs : List Addr} {h h' : Heap} (k : KeepF fs h h') {b : Addr} (e : ∃ o, h.get? b = some o) : ∃ o, h'.get? b = some o := by
  obtain ⟨o, e⟩ := e
  by_cases ht : Tab b o
  · obtain ⟨hb, hc, vs, hd⟩ := ht
    obtain ⟨more, e', _⟩ := (k b o e).2.2 vs hb hc hd
    exact ⟨_, e'⟩
  · obtain ⟨sl, e'⟩ := k.up e ht
    exact ⟨_, e'⟩
theorem KeepF.trans {fs : List Addr} {a b c : Heap} (x : KeepF fs a b) (y : KeepF fs b c) : KeepF fs a c := fun p o e =>
  ⟨fun q t => (y p o ((x p o e).1 q t)).1 q t, fun q t => by
    obtain ⟨sl, e'⟩ := (x p o e).2.1 q t
    obtain ⟨sl', e''⟩ := (y p _ e').2.1 q t
    exact ⟨sl', e''⟩, fun vs hb hc hd => by
    obtain ⟨m, e', q1⟩ := (x p o e).2.2 vs hb hc hd
    obtain ⟨m', e'', q2⟩ := (y p _ e').2.2 _ hb hc rfl
    exact ⟨m ++ m', by rw [e'', Array.append_assoc], triples_app q1 q2⟩⟩
theorem KeepF.ns {fs : List Addr} {h h' : Heap} (k : KeepF fs h h') {L : Addr} {m : Str → Option Value} (hn : h.Ns L m) : h'.Ns L m := k.slots.ns hn

theorem KeepF.but {fs : List Addr} {a h h' : Heap} {L : Addr} (x : KeepF fs a h) (kd : ∀ b o, h.get? b = some o → b ≠ L → h'.get? b = some o) (hL : a.get? L = none) : KeepF fs a h' := fun p o e => by
  have hp : p ≠ L := fun q => by rw [q, hL] at e; cases e
  refine ⟨fun q t => kd p o ((x p o e).1 q t) hp, fun q t => ?_, fun vs h1 h2 h3 => ?_⟩
  · obtain ⟨sl, e'⟩ := (x p o e).2.1 q t
    exact ⟨sl, kd p _ e' hp⟩
  · obtain ⟨m, e', q1⟩ := (x p o e).2.2 vs h1 h2 h3
    exact ⟨m, kd p _ e' hp, q1⟩
theorem KeepF.butL {fs wr : List Addr} {a h h' : Heap} (x : KeepF fs a h) (kd : ∀ b o, b ∉ wr → h.get? b = some o → h'.get? b = some o) (hL : ∀ b ∈ wr, a.get? b = none) : KeepF fs a h' := fun p o e => by
  have hp : p ∉ wr := fun q => by rw [hL p q] at e; cases e
  refine ⟨fun q t => kd p o hp ((x p o e).1 q t), fun q t => ?_, fun vs h1 h2 h3 => ?_⟩
  · obtain ⟨sl, e'⟩ := (x p o e).2.1 q t
    exact ⟨sl, kd p _ hp e'⟩
  · obtain ⟨m, e', q1⟩ := (x p o e).2.2 vs h1 h2 h3
    exact ⟨m, kd p _ hp e', q1⟩

noncomputable def fsOf (l : List Env) : List Addr := l.filterMap (·.frame)
noncomputable def GenX (g g' : Array GenState) : Prop := ∃ ex, g' = g ++ ex ∧ AllBare ex
theorem GenX.refl (g : Array GenState) : GenX g g := ⟨#[], by simp, .empty⟩
theorem GenX.trans {a b c : Array GenState} (x : GenX a b) (y : GenX b c) : GenX a c := by
  obtain ⟨e, rfl, h⟩ := x
  obtain ⟨e', rfl, h'⟩ := y
  refine ⟨e ++ e', by simp, fun z hz => ?_⟩
  rcases Array.mem_append.mp hz with q | q
  · exact h z q
  · exact h' z q
theorem GenX.bare {a b : Array GenState} (x : GenX a b) (h : AllBare a) : AllBare b := by
  obtain ⟨e, rfl, h'⟩ := x
  intro z hz
  rcases Array.mem_append.mp hz with q | q
  · exact h z q
  · exact h' z q
noncomputable def Go (fs : List Addr) (s s' : Shared) : Prop := ∃ h' tk g, s' = { s with heap := h', toks := tk, gens := g } ∧ KeepF fs s.heap h' ∧ GenX s.gens g
theorem Go.of_keeps {fs : List Addr} {s s' : Shared} (k : Keeps s s') : Go fs s s' := by
  obtain ⟨h', t, rfl, kk⟩ := k
  exact ⟨h', t, s.gens, rfl, .of_keeps kk, .refl _⟩
theorem Go.trans {fs : List Addr} {a b c : Shared} (x : Go fs a b) (y : Go fs b c) : Go fs a c := by
  obtain ⟨h, t, g, rfl, k, b⟩ := x
  obtain ⟨h', t', g', rfl, k', b'⟩ := y
  exact ⟨h', t', g', rfl, k.trans k', b.trans b'⟩
theorem Go.keep {fs : List Addr} {s s' : Shared} (x : Go fs s s') : KeepF fs s.heap s'.heap := by obtain ⟨h, t, g, rfl, k, _⟩ := x; exact k

structure Cx (base : Heap) (outer : List Env) (env : Env) (s₀ s : Shared) : Prop where
  stay : KeepF [] base s.heap
  frs : s.heap.FunFrames base (env :: outer)
  dicts : KtsDicts (fsOf outer) s.heap
  grew : Go (fsOf outer) s₀ s
  frame : env.frame = some env.locals
  new : s₀.heap.get? env.locals = none
  newC : ∀ n c, env.cells.lookup n = some c → s₀.heap.get? c = none ∧ base.get? c = none
  isC : ∀ n c, env.cells.lookup n = some c → ∃ v, s.heap.IsCell c v
  inj : ∀ x y c, env.cells.lookup x = some c → env.cells.lookup y = some c → x = y

theorem fs_base {base h : Heap} {l : List Env} (F : h.FunFrames base l) {b : Addr} (hb : b ∈ fsOf l) : base.get? b = none := (F.mem hb).1
theorem stay_keepF {base h h' : Heap} {l : List Env} (st : KeepF [] base h) (F : h.FunFrames base l) (k : KeepF (fsOf l) h h') : KeepF [] base h' := fun b o e => by
  have hb : b ∉ fsOf l := fun q => by rw [fs_base F q] at e; cases e
  refine ⟨fun q t => (k b o ((st b o e).1 q t)).1 hb t, (fun q => by cases q), fun vs h1 h2 h3 => ?_⟩
  obtain ⟨m, e', q1⟩ := (st b o e).2.2 vs h1 h2 h3
  obtain ⟨m', e'', q2⟩ := (k b _ e').2.2 _ h1 h2 rfl
  exact ⟨m ++ m', by rw [e'', Array.append_assoc], triples_app q1 q2⟩
theorem frs_keepF {base h h' : Heap} {fs : List Addr} {l : List Env} (F : h.FunFrames base l) (k : KeepF fs h h') : h'.FunFrames base l :=
  F.of_keeps fun b o e hf => let ⟨_, e'⟩ := k.up e (noTab_data hf); ⟨_, e', rfl⟩
theorem dicts_keepF {h h' : Heap} {fs fs' : List Addr} (D : KtsDicts fs h) (k : KeepF fs' h h') : KtsDicts fs h' := fun b m => by
  obtain ⟨o, es, n, ho, hd⟩ := D b m
  obtain ⟨sl, e⟩ := k.up ho (noTab_data fun vs q => by rw [hd] at q; cases q)
  exact ⟨_, es, n, e, hd⟩

noncomputable def FJ (base : Heap) (outer : List Env) (env : Env) (s₀ : Shared) (ρ : List (Str × PyData)) (s : Shared) : Prop := NamesAt env s.heap ρ ∧ Cx base outer env s₀ s

theorem Cx.go {base : Heap} {outer : List Env} {env : Env} {s₀ s s' : Shared} (x : Cx base outer env s₀ s) (g : Go (fsOf (env :: outer)) s s') : Cx base outer env s₀ s' where
  stay := stay_keepF x.stay x.frs g.keep
  frs := frs_keepF x.frs g.keep
  dicts := dicts_keepF x.dicts g.keep
  grew := by
    obtain ⟨h, t, g₁, rfl, k, b⟩ := x.grew
    obtain ⟨h', t', g', rfl, k', b'⟩ := g
    refine ⟨h', t', g', rfl, fun p o e => ?_, b.trans b'⟩
    have hp : p ≠ env.locals := fun q => by rw [q, x.new] at e; cases e
    have hm : ∀ (q : p ∉ fsOf outer), p ∉ fsOf (env :: outer) := fun q r => by
      unfold fsOf at r
      rw [List.filterMap_cons, x.frame] at r
      rcases List.mem_cons.mp r with r | r
      · exact hp r
      · exact q r
    have hm' : ∀ (q : p ∈ fsOf outer), p ∈ fsOf (env :: outer) := fun q => by
      unfold fsOf
      rw [List.filterMap_cons, x.frame]
      exact List.mem_cons_of_mem _ q
    refine ⟨fun q t => (k' p o ((k p o e).1 q t)).1 (hm q) t, fun q t => ?_, fun vs h1 h2 h3 => ?_⟩
    · obtain ⟨sl, e'⟩ := (k p o e).2.1 q t
      obtain ⟨sl', e''⟩ := (k' p _ e').2.1 (hm' q) t
      exact ⟨sl', e''⟩
    · obtain ⟨m, e', q1⟩ := (k p o e).2.2 vs h1 h2 h3
      obtain ⟨m', e'', q2⟩ := (k' p _ e').2.2 _ h1 h2 rfl
      exact ⟨m ++ m', by rw [e'', Array.append_assoc], triples_app q1 q2⟩
  frame := x.frame
  new := x.new
  newC := x.newC
  isC := fun n c e => let ⟨v, hv⟩ := x.isC n c e; ⟨v, isCell_slots hv g.keep.slots⟩
  inj := x.inj

theorem frMd {base : Heap} {outer : List Env} {env : Env} {s₀ : Shared} {ρ : List (Str × PyData)} (hk : env.scope.kind = .function) : Md env ρ (FJ base outer env s₀ ρ) (Go (fsOf (env :: outer))) where
  kind := hk
  names := fun _ h => h.1
  keeps := fun _ _ _ k => .of_keeps k
  trans := fun _ _ _ => .trans
  inv := fun s s' h g => ⟨h.1.slots g.keep.slots, h.2.go g⟩
  seq := fun _ _ g => .of_slots g.keep.slots

noncomputable def Mv (s s' : Shared) : Prop := ∀ b o, s.heap.get? b = some o → NoName o → s'.heap.get? b = some o
theorem Mv.refl (s : Shared) : Mv s s := fun _ _ e _ => e
theorem Mv.trans {a b c : Shared} (x : Mv a b) (y : Mv b c) : Mv a c := fun p o e n => y p o (x p o e n) n
theorem fs_dict {base : Heap} {outer : List Env} {env : Env} {s₀ s : Shared} {ρ : List (Str × PyData)} (x : FJ base outer env s₀ ρ s) {b : Addr} (hb : b ∈ fsOf (env :: outer)) : ∃ o es n, s.heap.get? b = some o ∧ o.data = .dict es n := by
  unfold fsOf at hb
  rw [List.filterMap_cons, x.2.frame] at hb
  rcases List.mem_cons.mp hb with rfl | hb
  · obtain ⟨m, ⟨o, es, ep, ho, hd, _⟩, _⟩ := x.1
    exact ⟨o, es, ep, ho, hd⟩
  · exact x.2.dicts b hb
theorem Mv.of_go {base : Heap} {outer : List Env} {env : Env} {s₀ s s' : Shared} {ρ : List (Str × PyData)} (x : FJ base outer env s₀ ρ s) (g : Go (fsOf (env :: outer)) s s') : Mv s s' := fun b o e n =>
  (g.keep b o e).1 (fun q => by
    obtain ⟨o', es, k, ho, hd⟩ := fs_dict x q
    rw [e] at ho; cases ho
    exact n.1 es k hd) (fun t => n.2.2 ⟨t.2.1, t.2.2⟩)

theorem seq_of_L {base : Heap} {outer : List Env} {env : Env} {s₀ s : Shared} {ρ : List (Str × PyData)} (x : FJ base outer env s₀ ρ s) {h' : Heap} (hs : Heap.SameBut env.locals s.heap h') : SeqKeep s.heap h' :=
  .of_sameBut hs fun o xs n e hd => by
    obtain ⟨m, ⟨o', es, ep, ho, hd', _⟩, _⟩ := x.1
    rw [e] at ho; cases ho; rw [hd] at hd'; cases hd'

theorem lookup_cons_ne {x y : Str} {d : PyData} {ρ : List (Str × PyData)} (h : y ≠ x) : ((x, d) :: ρ).lookup y = ρ.lookup y := by
  rw [List.lookup_cons]
  have : (y == x) = false := by simpa using h
  rw [this]

section
variable {prog : Program} {w : World} {A : Around} {base : Heap} {outer : List Env} {env : Env} {s₀ : Shared} {ρ : List (Str × PyData)}
theorem fj_store {s : Shared} {x : Str} {v : Value} {d : PyData} {m : Str → Option Value} {h' : Heap} {tk : Nat} (hJ : FJ base outer env s₀ ρ s) (hx : env.kindOf x = some .local) (hn : s.heap.Ns env.locals m) (hn' : h'.Ns env.locals (fun y => if y = x then some v else m y))
    (kd : ∀ b o, s.heap.get? b = some o → b ≠ env.locals → h'.get? b = some o) (hv : Dt h' v d) : FJ base outer env s₀ ((x, d) :: ρ) { s with heap := h', toks := tk } ∧ Mv s { s with heap := h', toks := tk } := by
  obtain ⟨⟨m', hm', hnm⟩, C⟩ := id hJ
  have em : ∀ y, m' y = m y := by
    obtain ⟨o, es, ep, a, b, c, e⟩ := hn
    obtain ⟨o', es', ep', a', b', c', e'⟩ := hm'
    rw [a] at a'; cases a'
    rw [b] at b'; cases b'
    intro y; rw [← e y, ← e' y]
  have sk : SeqKeep s.heap h' := fun p o e ⟨xs, n, hd⟩ => by
    refine ⟨o, kd p o e fun q => ?_, rfl, rfl, rfl⟩
    obtain ⟨o', es, ep, ho', hd', _⟩ := hn
    rw [q, ho'] at e; cases e; rw [hd] at hd'; cases hd'
  refine ⟨⟨⟨_, hn', fun y e hy => ?_⟩, ?_⟩, ?_⟩
  · by_cases q : y = x
    · subst q
      rw [List.lookup_cons_self] at hy
      cases hy
      exact .inl ⟨hx, v, by simp, hv⟩
    · rw [lookup_cons_ne q] at hy
      rcases hnm y e hy with ⟨a, u, b, c⟩ | ⟨a, c, u, b, hc, hd⟩
      · exact .inl ⟨a, u, by simpa [q, em] using b, c.mono sk⟩
      · refine .inr ⟨a, c, u, b, ?_, hd.mono sk⟩
        obtain ⟨o, ho, hd⟩ := hc
        refine ⟨o, kd c o ho fun e => ?_, hd⟩
        obtain ⟨o', es, ep, ho', hd', _⟩ := hn
        rw [e, ho'] at ho; cases ho; rw [hd'] at hd; cases hd
  · have nb : base.get? env.locals = none := fs_base C.frs (by unfold fsOf; rw [List.filterMap_cons, C.frame]; exact .head _)
    refine ⟨C.stay.but kd nb, ?_, ?_, ?_, C.frame, C.new, C.newC, ?_, C.inj⟩
    · obtain ⟨hk', ⟨L, o, hf, hn₀, ho, hd⟩, hr⟩ := C.frs
      obtain ⟨o', es', ep', ho', hd', _⟩ := hn'
      refine ⟨hk', ⟨env.locals, o', C.frame, nb, ho', fun vs q => by rw [hd'] at q; cases q⟩, ?_⟩
      clear hnm hJ
      have : ∀ l : List Env, s.heap.FunFrames base l → (Heap.FunFrames h' base l) := by
        intro l
        induction l with
        | nil => intro _; trivial
        | cons e r ih =>
          rintro ⟨a, ⟨L, o, b, c, d, f⟩, g⟩
          by_cases q : L = env.locals
          · exact ⟨a, ⟨L, o', b, c, by rw [q]; exact ho', fun vs q => by rw [hd'] at q; cases q⟩, ih g⟩
          · exact ⟨a, ⟨L, o, b, c, kd _ _ d q, f⟩, ih g⟩
      exact this outer hr
    · intro b hb
      obtain ⟨o, es, n, ho, hd⟩ := C.dicts b hb
      by_cases q : b = env.locals
      · obtain ⟨o', es', ep', ho', hd', _⟩ := hn'
        exact ⟨o', es', ep', by rw [q]; exact ho', hd'⟩
      · exact ⟨o, es, n, kd b o ho q, hd⟩
    · obtain ⟨h₁, t₁, g₁, rfl, k, b⟩ := C.grew
      exact ⟨h', _, g₁, rfl, k.but kd C.new, b⟩
    · intro n c e
      obtain ⟨v, o, ho, hd⟩ := C.isC n c e
      refine ⟨v, o, kd c o ho fun q => ?_, hd⟩
      obtain ⟨o', es, ep, ho', hd', _⟩ := hn
      rw [q, ho'] at ho; cases ho; rw [hd'] at hd; cases hd
  · intro b o e n
    refine kd b o e fun q => ?_
    obtain ⟨o', es, ep, ho', hd', _⟩ := hn
    rw [q, ho'] at e; cases e
    exact n.1 es ep hd'
theorem st_local {s : Shared} {x : Str} {v : Value} {d : PyData} {E : Value → Shared → Prop} {Q : Unit → Shared → Prop} (hJ : FJ base outer env s₀ ρ s) (hk : env.scope.kind = .function) (hx : env.kindOf x = some .local) (hv : Dt s.heap v d)
    (h : ∀ s', FJ base outer env s₀ ((x, d) :: ρ) s' → Mv s s' → Q () s') : wpAny (model prog w) A (storeName env x v) Q E s := by
  obtain ⟨m, hn, hnm⟩ := hJ.1
  refine wpAny_storeName_local hx hn (fun h' hn' hs => ?_) (by rw [hk]; rfl)
  have q := fj_store (tk := s.toks + 1) hJ hx hn hn' (fun b o e q => (hs.2 b q).trans e) (hv.mono (seq_of_L hJ hs))
  exact h _ q.1 q.2
theorem st_cell {s : Shared} {x : Str} {c : Addr} {v : Value} {d : PyData} {E : Value → Shared → Prop} {Q : Unit → Shared → Prop} (hJ : FJ base outer env s₀ ρ s) (hk : env.scope.kind = .function) (hx : env.kindOf x = some .cell)
    (hc : env.cells.lookup x = some c) (hv : Dt s.heap v d)
    (h : ∀ s', FJ base outer env s₀ ((x, d) :: ρ) s' → Mv s s' → Q () s') : wpAny (model prog w) A (storeName env x v) Q E s := by
  obtain ⟨⟨m, hn, hnm⟩, C⟩ := id hJ
  obtain ⟨v₀, hcv⟩ := C.isC x c hc
  have hinj : ∀ y, env.cells.lookup y = some c → y = x := fun y e => C.inj y x c e hc
  refine wpAny_storeName_cell hk hx hc hcv fun h' hc' hs => h _ ⟨⟨m, ?_, fun y e hy => ?_⟩, ?_⟩ ?_
  · refine hn.sameBut hs fun q => ?_
    obtain ⟨o, ho, hd⟩ := hcv
    obtain ⟨o', es, ep, ho', hd', _⟩ := hn
    rw [← q, ho'] at ho; cases ho; rw [hd'] at hd; cases hd
  · have sk : SeqKeep s.heap h' := .of_sameBut hs fun o xs n e hd => by
      obtain ⟨o', ho, hd'⟩ := hcv
      rw [e] at ho; cases ho; rw [hd] at hd'; cases hd'
    by_cases q : y = x
    · subst q
      rw [List.lookup_cons_self] at hy
      cases hy
      exact .inr ⟨hx, c, v, hc, hc', hv.mono sk⟩
    · rw [lookup_cons_ne q] at hy
      rcases hnm y e hy with ⟨a, u, b, c⟩ | ⟨a, c', u, b, hcu, hd⟩
      · exact .inl ⟨a, u, b, c.mono sk⟩
      · exact .inr ⟨a, c', u, b, hcu.sameBut hs fun e => q (hinj y (e ▸ b)), hd.mono sk⟩
  · have kd : ∀ b o, s.heap.get? b = some o → b ≠ c → h'.get? b = some o := fun b o e q => (hs.2 b q).trans e
    have cd : ∀ b o, s.heap.get? b = some o → (∃ es n, o.data = .dict es n) → h'.get? b = some o := fun b o e ⟨es, n, hd⟩ => kd b o e fun q => by
      obtain ⟨o', ho, hd'⟩ := hcv
      rw [q, ho] at e; cases e; rw [hd'] at hd; cases hd
    have dD : ∀ b ∈ fsOf (env :: outer), ∃ o es n, s.heap.get? b = some o ∧ o.data = .dict es n := fun b hb => fs_dict hJ hb
    refine ⟨C.stay.but kd (C.newC x c hc).2, ?_, ?_, ?_, C.frame, C.new, C.newC, ?_, C.inj⟩
    · have : ∀ l : List Env, (∀ b ∈ fsOf l, ∃ o es n, s.heap.get? b = some o ∧ o.data = .dict es n) → s.heap.FunFrames base l → (Heap.FunFrames h' base l) := by
        intro l
        induction l with
        | nil => intro _ _; trivial
        | cons e r ih =>
          rintro hD ⟨a, ⟨L, o, b, c', d, f⟩, g⟩
          obtain ⟨o', es, n, ho', hd'⟩ := hD L (by unfold fsOf; rw [List.filterMap_cons, b]; exact .head _)
          rw [d] at ho'; cases ho'
          refine ⟨a, ⟨L, o, b, c', cd _ _ d ⟨es, n, hd'⟩, f⟩, ih (fun p hp => hD p ?_) g⟩
          unfold fsOf; rw [List.filterMap_cons, b]; exact List.mem_cons_of_mem _ hp
      exact this (env :: outer) dD C.frs
    · intro b hb
      obtain ⟨o, es, n, ho, hd⟩ := C.dicts b hb
      exact ⟨o, es, n, cd b o ho ⟨es, n, hd⟩, hd⟩
    · obtain ⟨h₁, t₁, g₁, rfl, k, b⟩ := C.grew
      exact ⟨h', _, g₁, rfl, k.but kd (C.newC x c hc).1, b⟩
    · intro n c' e
      by_cases q : c' = c
      · exact ⟨_, q ▸ hc'⟩
      · obtain ⟨u, hu⟩ := C.isC n c' e
        exact ⟨u, hu.sameBut hs q⟩
  · intro b o e n
    refine (hs.2 b fun q => ?_).trans e
    obtain ⟨o', ho', hd'⟩ := hcv
    rw [q, ho'] at e; cases e
    exact n.2.1 _ hd'
noncomputable def StOk (env : Env) (x : Str) : Prop := env.kindOf x = some .local ∨ (env.kindOf x = some .cell ∧ (env.cells.lookup x).isSome = true)
theorem st_any {s : Shared} {x : Str} {v : Value} {d : PyData} {E : Value → Shared → Prop} {Q : Unit → Shared → Prop} (hJ : FJ base outer env s₀ ρ s) (hk : env.scope.kind = .function) (hx : StOk env x) (hv : Dt s.heap v d)
    (h : ∀ s', FJ base outer env s₀ ((x, d) :: ρ) s' → Mv s s' → Q () s') : wpAny (model prog w) A (storeName env x v) Q E s := by
  rcases hx with hx | ⟨hx, hc⟩
  · exact st_local hJ hk hx hv h
  · obtain ⟨c, hc⟩ := Option.isSome_iff_exists.mp hc
    exact st_cell hJ hk hx hc hv h
end
end Mine

namespace Mine

inductive FlD where
  | next | cont | brk
  | ret (d : PyData)
inductive FlowD (h : Heap) : Flow → FlD → Prop
  | next : FlowD h .next .next
  | cont : FlowD h .cont .cont
  | brk : FlowD h .brk .brk
  | ret {v : Value} {d : PyData} : Dt h v d → FlowD h (.ret v) (.ret d)
noncomputable abbrev Rho := List (Str × PyData)

section
variable (prog : Program) (w : World) (A : Around) (base : Heap) (outer : List Env) (env : Env) (s₀ : Shared)
noncomputable def Ends (Φ : FlD → Rho → Prop) (s : Shared) (f : Flow) (s' : Shared) : Prop := ∃ fd ρ', FlowD s'.heap f fd ∧ Φ fd ρ' ∧ FJ base outer env s₀ ρ' s' ∧ Mv s s'
noncomputable def ExP (ρ : Rho) (body : List Stmt) (Φ : FlD → Rho → Prop) : Prop :=
  ∀ s E, FJ base outer env s₀ ρ s → wpAny (model prog w) A (execs body env) (Ends base outer env s₀ Φ s) E s
noncomputable def Ex1 (ρ : Rho) (st : Stmt) (Φ : FlD → Rho → Prop) : Prop :=
  ∀ s E, FJ base outer env s₀ ρ s → wpAny (model prog w) A (exec st env) (Ends base outer env s₀ Φ s) E s
end

section
variable {prog : Program} {w : World} {A : Around} {base : Heap} {outer : List Env} {env : Env} {s₀ : Shared} {ρ : Rho} {Φ : FlD → Rho → Prop} {d a b : PyData} {e : Expr} {pos p np : Pos} {rest : List Stmt}

theorem ex_nil (h : Φ .next ρ) : ExP prog w A base outer env s₀ ρ [] Φ := fun s _ hJ => wpAny_execs_nil ⟨.next, ρ, .next, h, hJ, .refl s⟩
theorem ex_cons {st : Stmt} {Ψ : FlD → Rho → Prop} (h1 : Ex1 prog w A base outer env s₀ ρ st Ψ) (h2 : ∀ ρ', Ψ .next ρ' → ExP prog w A base outer env s₀ ρ' rest Φ) (h3 : ∀ fd ρ', fd ≠ .next → Ψ fd ρ' → Φ fd ρ') :
    ExP prog w A base outer env s₀ ρ (st :: rest) Φ := by
  intro s E hJ
  refine wpAny_execs_cons (wpAny_mono (h1 s E hJ) (fun f s₁ h₁ => ?_) fun _ _ e => e)
  obtain ⟨fd, ρ', hf, hΨ, hJ', hM⟩ := h₁
  cases hf with
  | next => exact wpAny_mono (h2 ρ' hΨ s₁ E hJ') (fun f s₂ ⟨fd, ρ₂, a, b, c, d⟩ => ⟨fd, ρ₂, a, b, c, hM.trans d⟩) fun _ _ e => e
  | cont => exact ⟨_, ρ', .cont, h3 _ _ (by simp) hΨ, hJ', hM⟩
  | brk => exact ⟨_, ρ', .brk, h3 _ _ (by simp) hΨ, hJ', hM⟩
  | ret hd => exact ⟨_, ρ', .ret hd, h3 _ _ (by simp) hΨ, hJ', hM⟩
noncomputable abbrev EvF (prog : Program) (w : World) (A : Around) (base : Heap) (outer : List Env) (env : Env) (s₀ : Shared) (ρ : Rho) (e : Expr) (d : PyData) : Prop := EvP prog w A env (FJ base outer env s₀ ρ) (Go (fsOf (env :: outer))) e d
noncomputable abbrev EtF (prog : Program) (w : World) (A : Around) (base : Heap) (outer : List Env) (env : Env) (s₀ : Shared) (ρ : Rho) (e : Expr) (b : Bool) : Prop := EvT prog w A env (FJ base outer env s₀ ρ) (Go (fsOf (env :: outer))) e b

theorem ex_assign (hk : env.scope.kind = .function) {x : Str} (he : EvF prog w A base outer env s₀ ρ e d) (hx : StOk env x) (hs : swapsWith e (some (.Name x np)) pos.line env = pure false)
    (h : ExP prog w A base outer env s₀ ((x, d) :: ρ) rest Φ) : ExP prog w A base outer env s₀ ρ (.Assign [.Name x np] e pos :: rest) Φ := by
  intro s E hJ
  refine wpAny_execs_cons (wpAny_Assign_Name (wpAny_mono (he s E hJ) (fun v s₁ h₁ => ?_) fun _ _ e => e) hs)
  have J₁ := (frMd hk).inv _ _ hJ h₁.2
  exact st_any J₁ hk hx h₁.1 fun s₂ J₂ M₂ => wpAny_mono (h s₂ E J₂) (fun f s₃ ⟨fd, ρ₂, a, b, c, d⟩ => ⟨fd, ρ₂, a, b, c, ((Mv.of_go hJ h₁.2).trans M₂).trans d⟩) fun _ _ e => e
theorem inpl_ok {op : Operator} {v u : Value} {s : Shared} {E : Value → Shared → Prop} (hop : binD op a b = some d) (hty : (∃ i j, a = .int i ∧ b = .int j ∧ (op = .Add ∨ op = .Sub)) ∨ ∃ x y, a = .str x ∧ b = .str y ∧ op = .Add) (ha : Dt s.heap v a) (hb : Dt s.heap u b) :
    wpAny (model prog w) A (inplaceOp op v u) (Got s d) E s := by
  rcases hty with ⟨i, j, rfl, rfl, rfl | rfl⟩ | ⟨x, y, rfl, rfl, rfl⟩
  · cases ha; cases hb; cases hop; exact P.iadd_int (.tok (.int _ _))
  · cases ha; cases hb; cases hop; exact P.isub_int (.tok (.int _ _))
  · cases ha; cases hb
    simp only [binD, addD, subD, mulD, fdvD, modD] at hop
    split at hop
    · cases hop
      exact P.iadd_str (SB.post_add (by unfold sizeLine; omega) fun t' k => .tok (.str _ _))
    · cases hop
theorem ex_aug (hk : env.scope.kind = .function) {x : Str} {op : Operator} (hold : ρ.lookup x = some a) (he : EvF prog w A base outer env s₀ ρ e b) (hop : binD op a b = some d)
    (hty : (∃ i j, a = .int i ∧ b = .int j ∧ (op = .Add ∨ op = .Sub)) ∨ ∃ x y, a = .str x ∧ b = .str y ∧ op = .Add) (hx : StOk env x)
    (h : ExP prog w A base outer env s₀ ((x, d) :: ρ) rest Φ) : ExP prog w A base outer env s₀ ρ (.AugAssign (.Name x np) op e pos :: rest) Φ := by
  intro s E hJ
  refine wpAny_execs_cons (wpAny_AugAssign_Name ?_)
  obtain ⟨m, hn, hnm⟩ := hJ.1
  have key : ∀ v, Dt s.heap v a → wpAny (model prog w) A (eval e env) (fun v_1 s₂ => wpAny (model prog w) A (inplaceOp op v v_1) (fun r s₃ => wpAny (model prog w) A (storeName env x r) (fun _ s' => wpAny (model prog w) A (execs rest env) (Ends base outer env s₀ Φ s) E s') E s₃) E s₂) E s := by
    intro v hv
    refine wpAny_mono (he s E hJ) (fun u s₁ h₁ => ?_) fun _ _ e => e
    have J₁ := (frMd hk).inv _ _ hJ h₁.2
    refine wpAny_mono (inpl_ok hop hty (hv.mono ((frMd (base := base) (outer := outer) (s₀ := s₀) (ρ := ρ) hk).seq _ _ h₁.2)) h₁.1) (fun r s₂ h₂ => ?_) fun _ _ e => e
    have J₂ := (frMd hk).inv _ _ J₁ (.of_keeps h₂.2)
    exact st_any J₂ hk hx h₂.1 fun s₃ J₃ M₃ => wpAny_mono (h s₃ E J₃) (fun f s₄ ⟨fd, ρ₂, a, b, c, d⟩ => ⟨fd, ρ₂, a, b, c, (((Mv.of_go hJ h₁.2).trans (Mv.of_go J₁ (.of_keeps h₂.2))).trans M₃).trans d⟩) fun _ _ e => e
  rcases hnm x a hold with ⟨hl, v, hv, hd⟩ | ⟨hl, c, v, hc, hv, hd⟩
  · exact wpAny_loadName_local hk hl hn hv (key v hd)
  · exact wpAny_loadName_cell hk hl hc hv (key v hd)
theorem ex_return (hk : env.scope.kind = .function) (he : EvF prog w A base outer env s₀ ρ e d) (h : Φ (.ret d) ρ) : ExP prog w A base outer env s₀ ρ (.Return (some e) pos :: rest) Φ := by
  intro s E hJ
  refine wpAny_execs_cons (wpAny_Return_some (wpAny_mono (he s E hJ) (fun v s₁ h₁ => ?_) fun _ _ e => e))
  exact ⟨_, ρ, .ret h₁.1, h, (frMd hk).inv _ _ hJ h₁.2, Mv.of_go hJ h₁.2⟩
theorem ex1_if (hk : env.scope.kind = .function) {c : Bool} {x y : List Stmt} (he : EtF prog w A base outer env s₀ ρ e c) (hx : c = true → ExP prog w A base outer env s₀ ρ x Φ) (hy : c = false → ExP prog w A base outer env s₀ ρ y Φ) :
    Ex1 prog w A base outer env s₀ ρ (.If e x y pos) Φ := by
  intro s E hJ
  refine wpAny_If (wpAny_mono (he s E hJ) (fun v s₁ h₁ => ?_) fun _ _ e => e)
  obtain ⟨rfl, h₁⟩ := h₁
  have J₁ := (frMd hk).inv _ _ hJ h₁
  cases v with
  | true => exact wpAny_mono (hx rfl s₁ E J₁) (fun f s₄ ⟨fd, ρ₂, a, b, c, d⟩ => ⟨fd, ρ₂, a, b, c, (Mv.of_go hJ h₁).trans d⟩) fun _ _ e => e
  | false => exact wpAny_mono (hy rfl s₁ E J₁) (fun f s₄ ⟨fd, ρ₂, a, b, c, d⟩ => ⟨fd, ρ₂, a, b, c, (Mv.of_go hJ h₁).trans d⟩) fun _ _ e => e
theorem ex_if_no (hk : env.scope.kind = .function) {x : List Stmt} (he : EtF prog w A base outer env s₀ ρ e false) (h : ExP prog w A base outer env s₀ ρ rest Φ) : ExP prog w A base outer env s₀ ρ (.If e x [] pos :: rest) Φ :=
  ex_cons (Ψ := fun fd ρ' => fd = .next ∧ ρ' = ρ) (ex1_if hk he (fun h => by cases h) (fun _ => ex_nil ⟨rfl, rfl⟩)) (fun ρ' h' => by obtain ⟨_, rfl⟩ := h'; exact h) (fun fd ρ' hn h' => absurd h'.1 hn)

theorem fj_iter {s : Shared} {wr : List Addr} {h' : Heap} {tk : Nat} (hJ : FJ base outer env s₀ ρ s) (hb : ∀ b ∈ wr, base.get? b = none ∧ s₀.heap.get? b = none) (hw : ∀ b ∈ wr, ∃ o vs, s.heap.get? b = some o ∧ o.data = .fields vs)
    (kd : ∀ b o, b ∉ wr → s.heap.get? b = some o → h'.get? b = some o) : FJ base outer env s₀ ρ { s with heap := h', toks := tk } := by
  obtain ⟨⟨m, hn, hnm⟩, C⟩ := id hJ
  have kq : ∀ b o, s.heap.get? b = some o → (∀ vs, o.data ≠ .fields vs) → h'.get? b = some o := fun b o e hf => kd b o (fun q => by
    obtain ⟨o', vs, ho, hd⟩ := hw b q
    rw [e] at ho; cases ho; exact hf vs hd) e
  have ks : s.heap.UpToSlots h' := fun b o e hf => ⟨o.slots, kq b o e hf⟩
  refine ⟨hJ.1.slots ks, C.stay.butL kd (fun b q => (hb b q).1), C.frs.of_keeps fun b o e hf => ⟨o, kq b o e hf, rfl⟩, fun b q => ?_, ?_, C.frame, C.new, C.newC, fun n c e => let ⟨v, hv⟩ := C.isC n c e; ⟨v, isCell_slots hv ks⟩, C.inj⟩
  · obtain ⟨o, es, n, ho, hd⟩ := C.dicts b q
    exact ⟨o, es, n, kq b o ho (fun vs q => by rw [hd] at q; cases q), hd⟩
  · obtain ⟨h₁, t₁, g₁, rfl, k, b⟩ := C.grew
    exact ⟨h', _, g₁, rfl, k.butL kd (fun b q => (hb b q).2), b⟩

theorem ex1_for (hk : env.scope.kind = .function) {x : Str} {iter : Expr} {body : List Stmt} {ns : List Int} (I : Nat → Rho → Prop) {Ψ : FlD → Rho → Prop}
    (hit : ItI prog w A env (FJ base outer env s₀ ρ) (Go (fsOf (env :: outer))) iter ns) (hx : StOk env x) (h0 : I 0 ρ)
    (turn : ∀ k ρ', k < ns.length → I k ρ' → ExP prog w A base outer env s₀ ((x, .int (ns.getD k 0)) :: ρ') body (fun fd ρ'' => match fd with
      | .next | .cont => I (k + 1) ρ''
      | .brk => Ψ .next ρ''
      | .ret d => Ψ (.ret d) ρ''))
    (done : ∀ ρ', I ns.length ρ' → Ψ .next ρ') (hs : ∀ x, foldedSetIterable iter env x = pure x) :
    Ex1 prog w A base outer env s₀ ρ (.For (.Name x np) iter body [] pos) Ψ := by
  intro s E hJ
  refine wpAny_For (wpAny_mono (hit s E hJ) (fun xv s₁ h₁ => ?_) fun _ _ e => e) hs
  have J₁ := (frMd hk).inv _ _ hJ h₁.1
  refine wpAny_mono h₁.2 (fun it s₂ h₂ => ?_) fun _ _ e => e
  obtain ⟨hK, Ia, fp, wr, P, St, rfl, W, hst, hfp, hwr, hfS, hwS, hP⟩ := h₂
  have J₂ := (frMd hk).inv _ _ J₁ (.of_keeps hK)
  have M₁ : Mv s s₁ := Mv.of_go hJ h₁.1
  have hbw : ∀ b ∈ wr, base.get? b = none ∧ s₀.heap.get? b = none := fun b hb => by
    have q := hwr b hb
    refine ⟨?_, ?_⟩
    · cases e : base.get? b with
      | none => rfl
      | some o => obtain ⟨o', h⟩ := J₁.2.stay.is ⟨o, e⟩; rw [q] at h; cases h
    · cases e : s₀.heap.get? b with
      | none => rfl
      | some o => obtain ⟨o', h⟩ := J₁.2.grew.keep.is ⟨o, e⟩; rw [q] at h; cases h
  have hsw : ∀ b ∈ wr, s.heap.get? b = none := fun b hb => by
    cases e : s.heap.get? b with
    | none => rfl
    | some o => obtain ⟨o', h⟩ := h₁.1.keep.is ⟨o, e⟩; rw [hwr b hb] at h; cases h
  -- kept of s: all but the walk's own, which is new
  let Mw : Shared → Prop := fun s' => ∀ b o, b ∉ wr → s₂.heap.get? b = some o → NoName o → s'.heap.get? b = some o
  have fin : ∀ s', Mw s' → Mv s s' := fun s' h b o e n => h b o (fun q => by rw [hsw b q] at e; cases e) ((Mv.of_go J₁ (.of_keeps hK)) b o (M₁ b o e n) n) n
  refine codeAny_forLoop (fun n s' => ∃ k ρ', n = ns.length + 1 - k ∧ k ≤ ns.length ∧ I k ρ' ∧ FJ base outer env s₀ ρ' s' ∧ St k s'.heap ∧ Mw s') ?_ (ns.length + 1)
    ⟨0, ρ, by simp, Nat.zero_le _, h0, J₂, hst, fun _ _ _ e _ => e⟩
  rintro n s' ⟨k, ρ', rfl, hk', hI, hJ', hst', hM'⟩
  by_cases hlt : k < ns.length
  · refine W.item k s' _ _ hlt hst' fun v h' tk hPv hst₁ hk₁ => ?_
    obtain ⟨_, t, rfl⟩ := hP k v hPv
    have J₃ := fj_iter (tk := tk) hJ' hbw (hwS k _ hst') hk₁
    refine wpAny_assign_Name (st_any J₃ hk hx (.int _ _) fun s₄ J₄ M₄ => ?_)
    have st₄ : St (k + 1) s₄.heap := W.frame _ _ _ hst₁ fun b hb o e => by
      obtain ⟨o', ho', hn'⟩ := hfS _ _ hst₁ b hb
      rw [e] at ho'; cases ho'
      exact M₄ b o e hn'
    refine wpAny_mono (turn k ρ' hlt hI s₄ _ J₄) (fun f s₅ h₅ => ?_) fun _ _ e => e
    obtain ⟨fd, ρ'', hf, hΦ, J₅, M₅⟩ := h₅
    have st₅ : St (k + 1) s₅.heap := W.frame _ _ _ st₄ fun b hb o e => by
      obtain ⟨o', ho', hn'⟩ := hfS _ _ st₄ b hb
      rw [e] at ho'; cases ho'
      exact M₅ b o e hn'
    have Mw₅ : Mw s₅ := fun b o q e n => M₅ b o (M₄ b o (hk₁ b o q (hM' b o q e n)) n) n
    cases hf with
    | next => exact ⟨ns.length + 1 - (k + 1), by omega, k + 1, ρ'', rfl, hlt, hΦ, J₅, st₅, Mw₅⟩
    | cont => exact ⟨ns.length + 1 - (k + 1), by omega, k + 1, ρ'', rfl, hlt, hΦ, J₅, st₅, Mw₅⟩
    | brk => exact ⟨_, ρ'', .next, hΦ, J₅, fin _ Mw₅⟩
    | ret hd => exact ⟨_, ρ'', .ret hd, hΦ, J₅, fin _ Mw₅⟩
  · have : k = ns.length := by omega
    subst this
    refine W.done s' _ _ hst' fun h' tk hk₁ => ?_
    have J₃ := fj_iter (tk := tk) hJ' hbw (hwS _ _ hst') hk₁
    exact wpAny_execs_nil ⟨_, ρ', .next, done ρ' hI, J₃, fin _ fun b o q e n => hk₁ b o q (hM' b o q e n)⟩

theorem ex1_while (hk : env.scope.kind = .function) {test : Expr} {body : List Stmt} (I : Rho → Prop) (μ : Rho → Nat) {Ψ : FlD → Rho → Prop} (h0 : I ρ)
    (turn : ∀ ρ', I ρ' → ∃ c, EtF prog w A base outer env s₀ ρ' test c ∧ (c = true → ExP prog w A base outer env s₀ ρ' body (fun fd ρ'' => match fd with
      | .next | .cont => I ρ'' ∧ μ ρ'' < μ ρ'
      | .brk => Ψ .next ρ''
      | .ret d => Ψ (.ret d) ρ'')) ∧ (c = false → Ψ .next ρ')) :
    Ex1 prog w A base outer env s₀ ρ (.While test body [] pos) Ψ := by
  intro s E hJ
  refine wpAny_While (codeAny_whileLoop (fun n s' => ∃ ρ', n = μ ρ' ∧ I ρ' ∧ FJ base outer env s₀ ρ' s' ∧ Mv s s') ?_ (μ ρ) ⟨ρ, rfl, h0, hJ, .refl s⟩)
  rintro n s' ⟨ρ', rfl, hI, hJ', hM'⟩
  obtain ⟨c, hc, ht, hf⟩ := turn ρ' hI
  refine wpAny_mono (hc s' _ hJ') (fun b s₁ h₁ => ?_) fun _ _ e => e
  obtain ⟨rfl, h₁⟩ := h₁
  have J₁ := (frMd hk).inv _ _ hJ' h₁
  have M₁ := hM'.trans (Mv.of_go hJ' h₁)
  cases b with
  | true =>
    refine wpAny_mono (ht rfl s₁ _ J₁) (fun f s₂ h₂ => ?_) fun _ _ e => e
    obtain ⟨fd, ρ'', hf', hΦ, J₅, M₅⟩ := h₂
    cases hf' with
    | next => exact ⟨μ ρ'', hΦ.2, ρ'', rfl, hΦ.1, J₅, M₁.trans M₅⟩
    | cont => exact ⟨μ ρ'', hΦ.2, ρ'', rfl, hΦ.1, J₅, M₁.trans M₅⟩
    | brk => exact ⟨_, ρ'', .next, hΦ, J₅, M₁.trans M₅⟩
    | ret hd => exact ⟨_, ρ'', .ret hd, hΦ, J₅, M₁.trans M₅⟩
  | false => exact wpAny_execs_nil ⟨_, ρ', .next, hf rfl, J₁, M₁⟩
end
end Mine

namespace Mine

structure Wd (K : Frag) (base : Heap) : Prop where
  X : K.In base
  T : ∃ p loose mg mb, TopRead p loose mg mb base
  notab : K.lookup 767 = none
  tab : base.get? 767 = some { cls := .none, data := .fields #[] }
  bmain : ∃ mg bm ob, base.Ns mainGlobals mg ∧ mg "__builtins__" = some (.ref bm) ∧ bm ≠ builtinsNs ∧ base.get? bm = some ob ∧ ob.cls = .type "module" ∧ ob.dict = some builtinsNs ∧ ob.data = .plain
theorem Wd.at {K : Frag} {base h : Heap} (W : Wd K base) (st : KeepF [] base h) {b : Addr} {o : Obj} (ho : K.lookup b = some o) : h.get? b = some o :=
  (st b o (W.X b o ho)).1 (fun q => by cases q) (noTab_at fun q => by rw [q, W.notab] at ho; cases ho)
theorem Wd.in {K : Frag} {base h : Heap} (W : Wd K base) (st : KeepF [] base h) : K.In h := fun _ _ ho => W.at st ho
theorem noLimit_keepF {h h' : Heap} (k : KeepF [] h h') (x : h.NoLimit) : h'.NoLimit := by
  obtain ⟨mc, hn, r⟩ := x
  exact ⟨mc, k.ns hn, r⟩
structure AOk (A : Around) (l : List Env) (n : Nat) : Prop where
  handled : A.handled = none
  frames : A.frames = some l
  depth : A.depth + n < recursionLimit
  units : A.units + 64 + 8 * n < cLine
theorem AOk.hu {A : Around} {l : List Env} {n : Nat} (h : AOk A l n) : A.units + 64 < cLine := by have := h.units; omega
theorem AOk.less {A : Around} {l : List Env} {n m : Nat} (h : AOk A l n) (hm : m ≤ n) : AOk A l m := ⟨h.handled, h.frames, by have := h.depth; omega, by have := h.units; omega⟩

section
variable (prog : Program) (w : World) (K : Frag)
noncomputable def Fn (f : Addr) (n : Nat) (ds : List PyData) (d : PyData) : Prop :=
  ∀ (base : Heap) (outer : List Env) (A : Around) (s : Shared) (E : Value → Shared → Prop) (vs : List Value), Wd K base → AOk A outer n → KeepF [] base s.heap → s.heap.FunFrames base outer → KtsDicts (fsOf outer) s.heap → DtAll s.heap vs ds →
    wpAny (model prog w) A (call (.ref f) vs) (fun v s' => Dt s'.heap v d ∧ Go (fsOf outer) s s') E s
end
section
variable {prog : Program} {w : World} {K : Frag} {A : Around} {base : Heap} {outer : List Env} {env : Env} {s₀ : Shared} {ρ : Rho}

theorem nm_global (W : Wd K base) (hk : env.scope.kind = .function) (hg : env.globals = mainGlobals) {x : Str} {v : Value} (hx : env.kindOf x = some .globalImplicit) (e : nsIn K mainGlobals x = some (some v)) (hd : (x == ("__debug__" : Str)) = false) :
    NmP prog w A env (FJ base outer env s₀ ρ) x v := by
  intro pos s Q E hJ hQ
  obtain ⟨p, loose, mg, mb, T⟩ := W.T
  exact Calls.Name_function_global hk hx (Calls.loadGlobal_global (by rw [hg]; exact hJ.2.stay.ns T.g) (mg_of W.X T.g e) hQ) hd
theorem nm_builtin (W : Wd K base) (hk : env.scope.kind = .function) (hg : env.globals = mainGlobals) (hb : env.builtins = builtinsNs) {x : Str} {v : Value} (hx : env.kindOf x = some .globalImplicit) (e : nsIn K mainGlobals x = some none)
    (hv : bootBuiltins x = some v) (hn : x ≠ "__name__") (hd : (x == ("__debug__" : Str)) = false) : NmP prog w A env (FJ base outer env s₀ ρ) x v := by
  intro pos s Q E hJ hQ
  obtain ⟨p, loose, mg, mb, T⟩ := W.T
  exact Calls.Name_function_global hk hx (Calls.loadGlobal_builtin (by rw [hg]; exact hJ.2.stay.ns T.g) (mg_none_of W.X T.g e) (by rw [hb]; exact hJ.2.stay.ns T.b) ((T.builtins x hn).trans hv) hQ) hd

theorem fnP_of {f : Addr} {n : Nat} {ds : List PyData} {d : PyData} (h : Fn prog w K f n ds d) (W : Wd K base) (a : AOk A (env :: outer) n) {o : Obj} {fd : FuncData} (ho : K.lookup f = some o) (hd : o.data = .func fd) :
    FnP prog w A (FJ base outer env s₀ ρ) (Go (fsOf (env :: outer))) f ds d := by
  refine ⟨⟨o, fd, hd, fun s hJ => W.at hJ.2.stay ho⟩, fun s E vs hJ hvs => ?_⟩
  refine h base (env :: outer) A s E vs W a hJ.2.stay hJ.2.frs (fun b hb => ?_) hvs
  exact fs_dict hJ hb

theorem bindL_at (kindOf : Str → Option NameKind) {h : Heap} : ∀ (ns : List Str) (vs : List Value) (ds : List PyData) (m : Str → Option Value) (x : Str) (d : PyData), ns.Nodup → DtAll h vs ds → (ns.zip ds).lookup x = some d → kindOf x = some .local →
    ∃ v, bindL kindOf (ns.zip vs) m x = some v ∧ Dt h v d
  | [], _, _, _, _, _, _, _, e, _ => by simp at e
  | n :: ns, _, _, _, _, _, _, .nil, e, _ => by simp at e
  | n :: ns, v :: vs, d' :: ds, m, x, d, nd, .cons hv r, e, hk => by
    have nd' := List.nodup_cons.mp nd
    have keep : ∀ (ns : List Str) (vs : List Value) (m : Str → Option Value), x ∉ ns → bindL kindOf (ns.zip vs) m x = m x := by
      intro ns
      induction ns with
      | nil => intro vs m _; rfl
      | cons y r ih =>
        intro vs m hx
        cases vs with
        | nil => rfl
        | cons u us =>
          have hx' : x ≠ y ∧ x ∉ r := by simpa using hx
          show bindL kindOf (r.zip us) _ x = m x
          rw [ih us _ hx'.2]
          split
          · simp [hx'.1]
          · rfl
    by_cases q : x = n
    · subst q
      simp only [List.zip_cons_cons, List.lookup_cons_self] at e
      cases e
      refine ⟨v, ?_, hv⟩
      show bindL kindOf (ns.zip vs) _ x = some v
      rw [keep ns vs _ nd'.1, if_pos hk]; simp
    · rw [List.zip_cons_cons, lookup_cons_ne q] at e
      exact bindL_at kindOf ns vs ds _ x d nd'.2 r e hk
theorem bindC_at (kindOf : Str → Option NameKind) {h : Heap} : ∀ (ns : List Str) (vs : List Value) (ds : List PyData) (m : Str → Option Value) (x : Str) (d : PyData), ns.Nodup → DtAll h vs ds → (ns.zip ds).lookup x = some d → kindOf x ≠ some .local →
    ∃ v, bindC kindOf (ns.zip vs) m x = some v ∧ Dt h v d
  | [], _, _, _, _, _, _, _, e, _ => by simp at e
  | n :: ns, _, _, _, _, _, _, .nil, e, _ => by simp at e
  | n :: ns, v :: vs, d' :: ds, m, x, d, nd, .cons hv r, e, hk => by
    have nd' := List.nodup_cons.mp nd
    have keep : ∀ (ns : List Str) (vs : List Value) (m : Str → Option Value), x ∉ ns → bindC kindOf (ns.zip vs) m x = m x := by
      intro ns
      induction ns with
      | nil => intro vs m _; rfl
      | cons y r ih =>
        intro vs m hx
        cases vs with
        | nil => rfl
        | cons u us =>
          have hx' : x ≠ y ∧ x ∉ r := by simpa using hx
          show bindC kindOf (r.zip us) _ x = m x
          rw [ih us _ hx'.2]
          split
          · rfl
          · simp [hx'.1]
    by_cases q : x = n
    · subst q
      simp only [List.zip_cons_cons, List.lookup_cons_self] at e
      cases e
      refine ⟨v, ?_, hv⟩
      show bindC kindOf (ns.zip vs) _ x = some v
      rw [keep ns vs _ nd'.1, if_neg hk]; simp
    · rw [List.zip_cons_cons, lookup_cons_ne q] at e
      exact bindC_at kindOf ns vs ds _ x d nd'.2 r e hk

theorem mem_of_lookup {x : Str} {c : Addr} : ∀ {l : List (Str × Addr)}, l.lookup x = some c → (x, c) ∈ l
  | [], h => by simp at h
  | (y, b) :: r, h => by
    rw [List.lookup_cons] at h
    split at h
    · rename_i q
      have : x = y := by simpa using q
      cases h; subst this; exact .head _
    · exact .tail _ (mem_of_lookup h)

noncomputable def Sub (ρ ρ' : Rho) : Prop := ∀ y d, ρ.lookup y = some d → ρ'.lookup y = some d
theorem Sub.nil {ρ : Rho} : Sub [] ρ := fun _ _ h => by simp at h
theorem Sub.cons {ρ ρ' : Rho} {x : Str} {d : PyData} (h : ρ'.lookup x = some d) (r : Sub ρ ρ') : Sub ((x, d) :: ρ) ρ' := fun y e hy => by
  by_cases q : y = x
  · subst q; rw [List.lookup_cons_self] at hy; cases hy; exact h
  · rw [lookup_cons_ne q] at hy; exact r y e hy
theorem Sub.refl (ρ : Rho) : Sub ρ ρ := fun _ _ h => h
theorem exp_weak {ρ ρ' : Rho} (h : Sub ρ ρ') {body : List Stmt} {Φ : FlD → Rho → Prop} (k : ExP prog w A base outer env s₀ ρ body Φ) : ExP prog w A base outer env s₀ ρ' body Φ :=
  fun s E hJ => k s E ⟨hJ.1.weaken h, hJ.2⟩
theorem exp_mono {ρ : Rho} {body : List Stmt} {Φ Ψ : FlD → Rho → Prop} (k : ExP prog w A base outer env s₀ ρ body Φ) (h : ∀ fd ρ', Φ fd ρ' → Ψ fd ρ') : ExP prog w A base outer env s₀ ρ body Ψ :=
  fun s E hJ => wpAny_mono (k s E hJ) (fun f s' ⟨fd, ρ', a, b, c, d⟩ => ⟨fd, ρ', a, h _ _ b, c, d⟩) fun _ _ e => e
theorem ev_weak {ρ ρ' : Rho} (h : Sub ρ ρ') {e : Expr} {d : PyData} (k : EvF prog w A base outer env s₀ ρ e d) : EvF prog w A base outer env s₀ ρ' e d :=
  fun s E hJ => wpAny_mono (k s E ⟨hJ.1.weaken h, hJ.2⟩) (fun _ _ x => x) fun _ _ e => e
theorem et_weak {ρ ρ' : Rho} (h : Sub ρ ρ') {e : Expr} {b : Bool} (k : EtF prog w A base outer env s₀ ρ e b) : EtF prog w A base outer env s₀ ρ' e b :=
  fun s E hJ => wpAny_mono (k s E ⟨hJ.1.weaken h, hJ.2⟩) (fun _ _ x => x) fun _ _ e => e
theorem int_eq {i j : Int} (h : i = j) : some (PyData.int i) = some (PyData.int j) := by rw [h]

theorem fn_intro0 {f : Addr} {n : Nat} {ds : List PyData} {d : PyData} {ns : List Str} {name qual : Str} {params : Arguments} {body : List Stmt} {scope : Scope} {dV kV doc pm cdv ct oc : Value} {an od : Option Addr} {osl : Array (Option Value)}
    (ho : K.lookup f = some ⟨oc, od, .func (fnOf name qual params body scope dV kV doc pm an cdv ct), osl⟩) (hcd : codeIn K cdv qual = true)
    (hlen : ns.length = ds.length) (hbind : ∀ vs : List Value, vs.length = ns.length → bindArgs (fnOf name qual params body scope dV kV doc pm an cdv ct) ⟨vs, []⟩ = pure (ns.zip vs))
    (hkind : (ns.all fun y => scope.names.lookup y == some .local || scope.names.lookup y == some .cell) = true) (hnd : ns.Nodup)
    (hco : scope.isCoroutine = false) (hgen : scope.isGenerator = false) (hk : scope.kind = .function)
    (hbody : ∀ (base : Heap) (outer : List Env) (A : Around) (s₀ : Shared) (L : Addr), Wd K base → AOk A (envOfC qual scope L f cdv :: outer) n →
      ∀ s E, FJ base outer (envOfC qual scope L f cdv) s₀ (ns.zip ds) s → wpAny (model prog w) A (execs body (envOfC qual scope L f cdv)) (fun fl s' => ∃ v ρ', fl = .ret v ∧ Dt s'.heap v d ∧ FJ base outer (envOfC qual scope L f cdv) s₀ ρ' s') E s) : Fn prog w K f (n + 1) ds d := by
  intro base outer A s E vs W a hst hfr hdc hvs
  obtain ⟨p, loose, mg, mb, T⟩ := W.T
  have hvl : vs.length = ns.length := by rw [hvs.length, hlen]
  refine wpAny_call ?_
  refine codeAny_call_function (fd := fnOf name qual params body scope dV kV doc pm an cdv ct) (by have := a.depth; omega) (W.at hst ho) rfl hco hgen rfl (codeRec_of (W.in hst) hcd) ((BindsTo.of_eq (s := s) (hbind vs hvl)) _ _ _ _ ?_)
  have hkinds : ((ns.zip vs).all fun y => scope.names.lookup y.1 == some .local || scope.names.lookup y.1 == some .cell) = true := by
    refine List.all_eq_true.mpr fun q hq => ?_
    exact List.all_eq_true.mp hkind q.1 (List.of_mem_zip hq).1
  refine wpAny_newFunctionEnv_cells hk (kindsX hkinds _) fun env' he s' x => ?_
  subst he
  refine ⟨(noLimit_keepF hst T.nolimit).keeps x.toInCall.keep, codeAny_func ?_⟩
  obtain ⟨h₁, tk, rfl, kk⟩ := x.done
  have a' : AOk (A.deeper (envOfC qual scope s.heap.objs.size f cdv)) (envOfC qual scope s.heap.objs.size f cdv :: outer) n := by
    refine ⟨a.handled, Around.frames_deeper a.frames, ?_, ?_⟩
    · have := a.depth; rw [depth_deeper]; omega
    · have := a.units; rw [units_deeper]; omega
  have noneS : ∀ b, s.heap.objs.size ≤ b → s.heap.get? b = none := fun b hb => by
    cases e : s.heap.get? b with
    | none => rfl
    | some o => exact absurd (Heap.lt_size e) (Nat.not_lt.mpr hb)
  have noneB : ∀ b, s.heap.objs.size ≤ b → base.get? b = none := fun b hb => by
    cases e : base.get? b with
    | none => rfl
    | some o => obtain ⟨o', h⟩ := hst.is ⟨o, e⟩; rw [noneS b hb] at h; cases h
  have cellLt : ∀ m c, (cellsFrom (s.heap.objs.size + 1) scope.names []).lookup m = some c → s.heap.objs.size < c := fun m c e => x.above m c (mem_of_lookup e)
  have J : FJ base outer (envOfC qual scope s.heap.objs.size f cdv) s (ns.zip ds) { s with heap := h₁, toks := tk } := by
    refine ⟨⟨_, x.toInCall.ns, fun y e hy => ?_⟩, hst.trans (.of_keeps kk), ?_, ?_, .of_keeps ⟨h₁, tk, rfl, kk⟩, rfl, noneS _ (Nat.le_refl _), ?_, ?_, ?_⟩
    · have hm : y ∈ ns := by
        have : ∀ (l : List (Str × PyData)), l.lookup y = some e → y ∈ l.map (·.1) := by
          intro l
          induction l with
          | nil => intro h; simp at h
          | cons q r ih =>
            intro h
            rw [List.lookup_cons] at h
            split at h
            · rename_i hq
              have : y = q.1 := by simpa using hq
              rw [this]; exact .head _
            · exact .tail _ (ih h)
        have h2 := this _ hy
        rw [List.map_fst_zip (by omega)] at h2; exact h2
      have hkd := List.all_eq_true.mp hkind y hm
      rcases Bool.or_eq_true_iff.mp hkd with q | q
      · have q' : scope.names.lookup y = some .local := by simpa using q
        obtain ⟨v, hv, hd⟩ := bindL_at (envOfC qual scope s.heap.objs.size f cdv).kindOf ns vs ds (fun _ => none) y e hnd hvs hy q'
        exact .inl ⟨q', v, hv, hd.mono (.of_keeps kk)⟩
      · have q' : scope.names.lookup y = some .cell := by simpa using q
        obtain ⟨v, hv, hd⟩ := bindC_at (envOfC qual scope s.heap.objs.size f cdv).kindOf ns vs ds (fun _ => none) y e hnd hvs hy (by show scope.names.lookup y ≠ _; rw [q']; simp)
        obtain ⟨c, hc⟩ := Option.isSome_iff_exists.mp (cellsFrom_some (x := y) scope.names (s.heap.objs.size + 1) [] (.inl q'))
        exact .inr ⟨q', c, v, hc, hv ▸ x.cell y c hc, hd.mono (.of_keeps kk)⟩
    · exact Heap.FunFrames.cons (by show scope.kind ≠ _; rw [hk]; simp) rfl x.toInCall.ns (noneB _ (Nat.le_refl _)) (hfr.of_keeps fun b o e _ => ⟨o, kk b o e, rfl⟩)
    · intro b hb
      obtain ⟨o, es, n, ho, hd⟩ := hdc b hb
      exact ⟨o, es, n, kk b o ho, hd⟩
    · intro m c e
      have := cellLt m c e
      exact ⟨noneS c (by omega), noneB c (by omega)⟩
    · intro m c e
      exact ⟨_, x.cell m c e⟩
    · intro y z c ey ez
      have hy := mem_of_lookup ey
      have hz := mem_of_lookup ez
      have : ∀ (l : List (Str × Addr)), (l.Pairwise fun x y => x.2 ≠ y.2) → (y, c) ∈ l → (z, c) ∈ l → y = z := by
        intro l
        induction l with
        | nil => intro _ h; cases h
        | cons q r ih =>
          intro hp h1 h2
          have hp' := List.pairwise_cons.mp hp
          rcases List.mem_cons.mp h1 with e1 | h1 <;> rcases List.mem_cons.mp h2 with e2 | h2
          · rw [← e1] at e2; cases e2; rfl
          · exact absurd (by rw [← e1]) (hp'.1 _ h2)
          · exact absurd (by rw [← e2]) (hp'.1 _ h1)
          · exact ih hp'.2 h1 h2
      exact this _ x.apart hy hz
  refine wpAny_mono (hbody base outer _ s _ W a' _ _ J) (fun fl s₂ h₂ => ?_) fun _ _ y => y
  obtain ⟨v, ρ', rfl, hd, J₂⟩ := h₂
  exact ⟨hd, J₂.2.grew⟩

theorem fn_intro {f : Addr} {n : Nat} {ds : List PyData} {d : PyData} {ns : List Str} {name qual : Str} {params : Arguments} {body : List Stmt} {scope : Scope} {dV kV doc pm cdv ct oc : Value} {an od : Option Addr} {osl : Array (Option Value)}
    (ho : K.lookup f = some ⟨oc, od, .func (fnOf name qual params body scope dV kV doc pm an cdv ct), osl⟩) (hcd : codeIn K cdv qual = true)
    (hlen : ns.length = ds.length) (hbind : ∀ vs : List Value, vs.length = ns.length → bindArgs (fnOf name qual params body scope dV kV doc pm an cdv ct) ⟨vs, []⟩ = pure (ns.zip vs))
    (hkind : (ns.all fun y => scope.names.lookup y == some .local || scope.names.lookup y == some .cell) = true) (hnd : ns.Nodup)
    (hco : scope.isCoroutine = false) (hgen : scope.isGenerator = false) (hk : scope.kind = .function)
    (hbody : ∀ (base : Heap) (outer : List Env) (A : Around) (s₀ : Shared) (L : Addr), Wd K base → AOk A (envOfC qual scope L f cdv :: outer) n →
      ExP prog w A base outer (envOfC qual scope L f cdv) s₀ (ns.zip ds) body (fun fd _ => fd = .ret d)) : Fn prog w K f (n + 1) ds d :=
  fn_intro0 ho hcd hlen hbind hkind hnd hco hgen hk fun base outer A s₀ L W a s E hJ => wpAny_mono (hbody base outer A s₀ L W a s E hJ) (fun fl s₂ h₂ => by
    obtain ⟨fd, ρ', hf, rfl, J₂, _⟩ := h₂
    cases hf with
    | ret hd => exact ⟨_, ρ', rfl, hd, J₂⟩) fun _ _ e => e
end
end Mine

namespace Mine
section
variable {prog : Program} {w : World} {A : Around} {base : Heap} {outer : List Env} {env : Env} {s₀ : Shared} {ρ : Rho} {Φ : FlD → Rho → Prop} {pos p np : Pos} {rest : List Stmt}
theorem ex_comp (hk : env.scope.kind = .function) (hh : A.handled = none) {elt iter : Expr} {x y : Str} {px py : Pos} {ifs : List Expr} {scope : Scope} {cl : List (Str × Addr)} {spos : Pos} {ns : List Int} {ρf : List (Str × PyData)} (pz : Int → Bool) (f : Int → PyData)
    (hsw : swapsWith (.ListComp elt [⟨.Name x px, iter, ifs, 0⟩] scope pos) (some (.Name y py)) spos.line env = pure true)
    (hit : ItI prog w A env (FJ base outer env s₀ ρ) (Go (fsOf (env :: outer))) iter ns) (hlen : ns.length ≤ 1048576) (hclos : closureFor scope env = pure cl) (hcell : ∀ y ∈ scope.names, y.2 ≠ .cell) (hkind : scope.kind = .function)
    (hnames : ∀ y ∈ scope.names, y.2 = .local → scope.names.lookup y.1 = some .local) (hx : scope.names.lookup x = some .local) (hfree : FreeOk env scope cl ρ ρf) (hxf : ρf.lookup x = none)
    (htest : ∀ i ∈ ns, ∀ C, match ifs with
      | [] => pz i = true
      | [c] => EvT prog w A (compEnvC scope cl C env) (CompJ env scope cl x ρf C i) Keeps c (pz i)
      | _ => False)
    (helt : ∀ i ∈ ns, pz i = true → ∀ C, EvP prog w A (compEnvC scope cl C env) (CompJ env scope cl x ρf C i) Keeps elt (f i)) (hflat : ∀ i ∈ ns, pz i = true → (∃ j, f i = .int j) ∨ ∃ y, f i = .str y)
    (hs : ∀ x, foldedSetIterable iter env x = pure x) (hy : env.kindOf y = some .local)
    (h : ExP prog w A base outer env s₀ ((y, .list ((ns.filter pz).map f)) :: ρ) rest Φ) :
    ExP prog w A base outer env s₀ ρ (.Assign [.Name y py] (.ListComp elt [⟨.Name x px, iter, ifs, 0⟩] scope pos) spos :: rest) Φ := by
  intro s E hJ
  have md := frMd (base := base) (outer := outer) (s₀ := s₀) (ρ := ρ) hk
  refine wpAny_execs_cons ?_
  refine wpAny_Assign_ListComp_free (fun v => match v with | .int i _ => pz i | _ => false) (fun v y => ∃ i t, v = Value.int i t ∧ FlatV y (f i)) hsw hclos hcell hkind hnames hx hy (by rw [hk]; rfl) ?_ hs
  refine wpAny_mono (hit s E hJ) (fun xv s₁ h₁ => ?_) fun _ _ e => e
  obtain ⟨hR, h₁⟩ := h₁
  have J₁ := md.inv _ _ hJ hR
  refine wpAny_mono h₁ (fun it s₂ h₂ => ?_) fun _ _ e => e
  obtain ⟨hK, I, fp, wr, P, St, rfl, W, hst, hfp, hwr, _, _, hP⟩ := h₂
  have N₁ := md.names _ J₁
  obtain ⟨m₁, hm₁, hnm₁⟩ := id N₁
  have hLwr : env.locals ∉ wr := fun q => by
    obtain ⟨o, es, ep, ho, hd, _⟩ := hm₁
    rw [hwr _ q] at ho; cases ho
  have asks : ∀ C i v s₃ m₃, P i v → s₃.heap.Ns C m₃ → m₃ x = some v → (∀ b o, b ∉ wr → s₂.heap.get? b = some o → s₃.heap.get? b = some o) → ∃ t, v = .int (ns.getD i 0) t ∧ CompJ env scope cl x ρf C (ns.getD i 0) s₃ := by
    intro C i v s₃ m₃ hPi hn hm hold
    obtain ⟨hi, t, rfl⟩ := hP i v hPi
    refine ⟨t, rfl, m₃, hn, fun y d hy => ?_⟩
    rw [List.lookup_cons] at hy
    split at hy
    · rename_i hyx
      have : y = x := by simpa using hyx
      subst this
      cases hy
      exact .inl ⟨lookup_relabel_local hx, _, hm, .int _ _⟩
    · obtain ⟨hρ, hcell', hrel, hcl⟩ := hfree y d hy
      obtain ⟨m, hnm, hnames'⟩ := N₁
      rcases hnames' y d hρ with ⟨hk, _⟩ | ⟨_, c, v', hc, hcv, hd⟩
      · rw [hcell'] at hk; cases hk
      · obtain ⟨h', t', e, kk⟩ := hK
        subst e
        have keep : ∀ b o, s₁.heap.get? b = some o → s₃.heap.get? b = some o := fun b o e => hold b o (fun hb => by rw [hwr b hb] at e; cases e) (kk b o e)
        exact .inr ⟨hrel, c, v', hcl.trans hc, hcv.keeps keep, hd.mono (.of_keeps keep)⟩
  have hn₂ : s₂.heap.Ns env.locals m₁ := by obtain ⟨h', t', e, kk⟩ := hK; subst e; exact hm₁.keeps kk
  refine ⟨I, fp, wr, ns.length, P, St, m₁, rfl, W, by unfold sizeLine; omega, hst, hfp, hLwr, hn₂, ⟨?_, ?_⟩, ?_⟩
  · intro C i v s₃ m₃ E' _ hPi hn hm hold _
    obtain ⟨hi, _⟩ := hP i v hPi
    obtain ⟨t, rfl, hJc⟩ := asks C i v s₃ m₃ hPi hn hm hold
    have hmem : ns.getD i 0 ∈ ns := by simp [List.getD, hi]
    have ht := htest _ hmem C
    match ifs, ht with
    | [], ht => exact wpAny_tests_nil ⟨ht.symm, keeps_refl _⟩
    | [c], ht => exact wpAny_tests_one (ht s₃ E' hJc)
  · intro C i v s₃ m₃ E' _ hPi hp hn hm hold _
    obtain ⟨hi, _⟩ := hP i v hPi
    obtain ⟨t, rfl, hJc⟩ := asks C i v s₃ m₃ hPi hn hm hold
    have hmem : ns.getD i 0 ∈ ns := by simp [List.getD, hi]
    exact wpAny_mono (helt _ hmem hp C s₃ E' hJc) (fun y s₄ h₄ => ⟨⟨_, _, rfl, flatV_of h₄.1 (hflat _ hmem hp)⟩, h₄.2⟩) fun _ _ e => e
  · intro D h' tk ys vs hnew hlD hplD hlen' hPs hF hNs hkp
    have hi : IntsAre vs ns := by
      have := intsAre_of_places (ns := ns) (P := P) (fun i v _ h => (hP i v h).2) 0 vs (by omega) (fun j v hj => by rw [Nat.zero_add]; exact hPs j v hj)
      simpa using this
    obtain ⟨nP, eP⟩ := hplD
    have hD := pairs_ints hi hF h'
    obtain ⟨h₂', t₂, e₂, kk⟩ := hK
    subst e₂
    have keep : ∀ b o, s₁.heap.get? b = some o → b ≠ env.locals → h'.get? b = some o := fun b o e hb => hkp b o hb (fun hb => by rw [hwr b hb] at e; cases e) (kk b o e)
    have q := fj_store (tk := tk) (d := .list ((ns.filter pz).map f)) (v := .ref D) J₁ hy hm₁ hNs keep (.list (vs := ys.toList) ⟨_, eP, rfl, rfl, nP, by simp⟩ hD)
    exact wpAny_mono (h _ E q.1) (fun fl s₃ ⟨fd, ρ₂, a, b, c, d⟩ => ⟨fd, ρ₂, a, b, c, ((Mv.of_go hJ hR).trans q.2).trans d⟩) fun _ _ e => e
end
end Mine

namespace Mine
structure AQ (A : Around) (n : Nat) : Prop where
  handled : A.handled = none
  depth : A.depth + n < recursionLimit
  units : A.units + 64 + 8 * n < cLine
theorem AQ.hu {A : Around} {n : Nat} (h : AQ A n) : A.units + 64 < cLine := by have := h.units; omega
noncomputable def KJ (base : Heap) (env : Env) (ρ : Rho) (s : Shared) : Prop := NamesAt env s.heap ρ ∧ KeepF [] base s.heap
theorem keMd {base : Heap} {env : Env} {ρ : Rho} (hk : env.scope.kind = .function) : Md env ρ (KJ base env ρ) Keeps where
  kind := hk
  names := fun _ h => h.1
  keeps := fun _ _ _ k => k
  trans := fun _ _ _ => keeps_trans
  inv := fun s s' h k => by obtain ⟨h', t, rfl, kk⟩ := k; exact ⟨h.1.keeps kk, h.2.trans (.of_keeps kk)⟩
  seq := fun _ _ => keeps_seq
section
variable (prog : Program) (w : World) (K : Frag)
noncomputable def FnK (f : Addr) (n : Nat) (ds : List PyData) (d : PyData) : Prop :=
  ∀ (base : Heap) (A : Around) (s : Shared) (E : Value → Shared → Prop) (vs : List Value), Wd K base → AQ A n → KeepF [] base s.heap → DtAll s.heap vs ds →
    wpAny (model prog w) A (call (.ref f) vs) (fun v s' => Dt s'.heap v d ∧ Keeps s s') E s
noncomputable def ExK (A : Around) (base : Heap) (env : Env) (ρ : Rho) (body : List Stmt) (d : PyData) : Prop :=
  ∀ s E, KJ base env ρ s → wpAny (model prog w) A (execs body env) (fun f s' => (∃ v, f = .ret v ∧ Dt s'.heap v d) ∧ Keeps s s') E s
end
section
variable {prog : Program} {w : World} {K : Frag} {A : Around} {base : Heap} {env : Env} {ρ : Rho} {e : Expr} {d : PyData} {pos : Pos} {rest x : List Stmt}
theorem nmK_global (W : Wd K base) (hk : env.scope.kind = .function) (hg : env.globals = mainGlobals) {x : Str} {v : Value} (hx : env.kindOf x = some .globalImplicit) (e : nsIn K mainGlobals x = some (some v)) (hd : (x == ("__debug__" : Str)) = false) :
    NmP prog w A env (KJ base env ρ) x v := by
  intro pos s Q E hJ hQ
  obtain ⟨p, loose, mg, mb, T⟩ := W.T
  exact Calls.Name_function_global hk hx (Calls.loadGlobal_global (by rw [hg]; exact hJ.2.ns T.g) (mg_of W.X T.g e) hQ) hd
theorem exk_return (hk : env.scope.kind = .function) (he : EvP prog w A env (KJ base env ρ) Keeps e d) : ExK prog w A base env ρ (.Return (some e) pos :: rest) d := by
  intro s E hJ
  refine wpAny_execs_cons (wpAny_Return_some (wpAny_mono (he s E hJ) (fun v s₁ h₁ => ?_) fun _ _ e => e))
  exact ⟨⟨_, rfl, h₁.1⟩, h₁.2⟩
theorem exk_if_no (hk : env.scope.kind = .function) (he : EvT prog w A env (KJ base env ρ) Keeps e false) (h : ExK prog w A base env ρ rest d) : ExK prog w A base env ρ (.If e x [] pos :: rest) d := by
  intro s E hJ
  refine wpAny_execs_cons (wpAny_If (wpAny_mono (he s E hJ) (fun v s₁ h₁ => ?_) fun _ _ e => e))
  obtain ⟨rfl, h₁⟩ := h₁
  refine wpAny_execs_nil ?_
  exact wpAny_mono (h s₁ E ((keMd hk).inv _ _ hJ h₁)) (fun f s₂ h₂ => ⟨h₂.1, keeps_trans h₁ h₂.2⟩) fun _ _ e => e
theorem fnK_P {J : Shared → Prop} {f : Addr} {n : Nat} {ds : List PyData} (h : FnK prog w K f n ds d) (W : Wd K base) (a : AQ A n) {o : Obj} {fd : FuncData} (ho : K.lookup f = some o) (hd : o.data = .func fd) (hJ : ∀ s, J s → KeepF [] base s.heap) :
    FnP prog w A J Keeps f ds d :=
  ⟨⟨o, fd, hd, fun s hs => W.at (hJ s hs) ho⟩, fun s E vs hs hvs => h base A s E vs W a (hJ s hs) hvs⟩
theorem fnK_intro {f : Addr} {n : Nat} {ds : List PyData} {d : PyData} {ns : List Str} {name qual : Str} {params : Arguments} {body : List Stmt} {scope : Scope} {dV kV doc pm cdv ct oc : Value} {an od : Option Addr} {osl : Array (Option Value)}
    (ho : K.lookup f = some ⟨oc, od, .func (fnOf name qual params body scope dV kV doc pm an cdv ct), osl⟩) (hcd : codeIn K cdv qual = true)
    (hlen : ns.length = ds.length) (hbind : ∀ vs : List Value, vs.length = ns.length → bindArgs (fnOf name qual params body scope dV kV doc pm an cdv ct) ⟨vs, []⟩ = pure (ns.zip vs))
    (hkind : (ns.all fun y => scope.names.lookup y == some .local || scope.names.lookup y == some .cell) = true) (hnd : ns.Nodup)
    (hco : scope.isCoroutine = false) (hgen : scope.isGenerator = false) (hk : scope.kind = .function)
    (hbody : ∀ (base : Heap) (A : Around) (L : Addr), Wd K base → AQ A n →
      ExK prog w A base (envOfC qual scope L f cdv) (ns.zip ds) body d) : FnK prog w K f (n + 1) ds d := by
  intro base A s E vs W a hst hvs
  obtain ⟨p, loose, mg, mb, T⟩ := W.T
  have hvl : vs.length = ns.length := by rw [hvs.length, hlen]
  refine wpAny_call ?_
  refine codeAny_call_function (fd := fnOf name qual params body scope dV kV doc pm an cdv ct) (by have := a.depth; omega) (W.at hst ho) rfl hco hgen rfl (codeRec_of (W.in hst) hcd) ((BindsTo.of_eq (s := s) (hbind vs hvl)) _ _ _ _ ?_)
  have hkinds : ((ns.zip vs).all fun y => scope.names.lookup y.1 == some .local || scope.names.lookup y.1 == some .cell) = true := by
    refine List.all_eq_true.mpr fun q hq => ?_
    exact List.all_eq_true.mp hkind q.1 (List.of_mem_zip hq).1
  refine wpAny_newFunctionEnv_cells hk (kindsX hkinds _) fun env' he s' x => ?_
  subst he
  refine ⟨(noLimit_keepF hst T.nolimit).keeps x.toInCall.keep, codeAny_func ?_⟩
  obtain ⟨h₁, tk, rfl, kk⟩ := x.done
  have a' : AQ (A.deeper (envOfC qual scope s.heap.objs.size f cdv)) n := by
    refine ⟨a.handled, ?_, ?_⟩
    · have := a.depth; rw [depth_deeper]; omega
    · have := a.units; rw [units_deeper]; omega
  have J : KJ base (envOfC qual scope s.heap.objs.size f cdv) (ns.zip ds) { s with heap := h₁, toks := tk } := by
    refine ⟨⟨_, x.toInCall.ns, fun y e hy => ?_⟩, hst.trans (.of_keeps kk)⟩
    have hm : y ∈ ns := by
      have : ∀ (l : List (Str × PyData)), l.lookup y = some e → y ∈ l.map (·.1) := by
        intro l
        induction l with
        | nil => intro h; simp at h
        | cons q r ih =>
          intro h
          rw [List.lookup_cons] at h
          split at h
          · rename_i hq
            have : y = q.1 := by simpa using hq
            rw [this]; exact .head _
          · exact .tail _ (ih h)
      have h2 := this _ hy
      rw [List.map_fst_zip (by omega)] at h2; exact h2
    have hkd := List.all_eq_true.mp hkind y hm
    rcases Bool.or_eq_true_iff.mp hkd with q | q
    · have q' : scope.names.lookup y = some .local := by simpa using q
      obtain ⟨v, hv, hd⟩ := bindL_at (envOfC qual scope s.heap.objs.size f cdv).kindOf ns vs ds (fun _ => none) y e hnd hvs hy q'
      exact .inl ⟨q', v, hv, hd.mono (.of_keeps kk)⟩
    · have q' : scope.names.lookup y = some .cell := by simpa using q
      obtain ⟨v, hv, hd⟩ := bindC_at (envOfC qual scope s.heap.objs.size f cdv).kindOf ns vs ds (fun _ => none) y e hnd hvs hy (by show scope.names.lookup y ≠ _; rw [q']; simp)
      obtain ⟨c, hc⟩ := Option.isSome_iff_exists.mp (cellsFrom_some (x := y) scope.names (s.heap.objs.size + 1) [] (.inl q'))
      exact .inr ⟨q', c, v, hc, hv ▸ x.cell y c hc, hd.mono (.of_keeps kk)⟩
  refine wpAny_mono (hbody base _ _ W a' _ _ J) (fun fl s₂ h₂ => ?_) fun _ _ y => y
  obtain ⟨⟨v, rfl, hv⟩, hk₂⟩ := h₂
  exact ⟨hv, keeps_trans ⟨h₁, tk, rfl, kk⟩ hk₂⟩
end
end Mine

namespace Mine.hd
 def q (s : Str) (t : Nat) : Value := .str s t
 def r (a : Nat) : Value := .ref a
 def ty (s : String) : Value := .type s
 def bi (s : String) : Value := .builtin s
 def de (P : Params) (k : Str) (t : Nat) (v : Value) : DictEntry := ⟨PyData.keyHash P k, .str k t, v⟩
 def ob (t : String) (d : Data) : Obj := { cls := .type t, data := d }
noncomputable def nd (o : Obj) (l r : BT) : BT := .node o l r
 def pE : Program := PySem.Challenge.rw_oy0388_01.row.toRowW.prog
 def defAt : List Nat → List Stmt → Option (Arguments × List Stmt × Scope)
  | [], _ => none
  | [i], l => match l[i]? with | some (.FunctionDef _ a b _ _ _ s _ _ _) => some (a, b, s) | _ => none
  | i :: j :: r, l => match l[i]? with | some (.ClassDef _ _ _ b _ _ _ _ _ _ _) => defAt (j :: r) b | some (.FunctionDef _ _ b _ _ _ _ _ _ _) => defAt (j :: r) b | _ => none
 def fd (path : List Nat) (name qual : Str) (globals : Addr) (closure : List (Str × Addr)) (defaults kwdefaults doc pyModule : Value) (annotations : Option Addr) (code closureTuple : Value) (builtins : Addr) : FuncData :=
  match defAt path pE.main.body with
  | some (a, b, s) => ⟨name, qual, a, .stmts b, s, globals, closure, defaults, kwdefaults, doc, pyModule, annotations, code, closureTuple, builtins⟩
  | none => default

noncomputable def o41 (P : Params) : Obj := ob "dict" (.dict #[(de P "__name__" 1 (q "builtins" 160)), (de P "__doc__" 2 (bi "builtins.__doc__:str#opaque")), (de P "__package__" 3 (bi "builtins.__package__:str#opaque")), (de P "__loader__" 4 (bi "builtins.__loader__:shared#opaque")), (de P "__spec__" 5 (bi "builtins.__spec__#opaque")), (de P "__build_class__" 6 (bi "__build_class__")), (de P "__import__" 7 (bi "__import__")), (de P "abs" 8 (bi "abs")), (de P "all" 9 (bi "all")), (de P "any" 10 (bi "any")), (de P "ascii" 11 (bi "ascii")), (de P "bin" 12 (bi "bin")), (de P "breakpoint" 13 (bi "breakpoint")), (de P "callable" 14 (bi "callable")), (de P "chr" 15 (bi "chr")), (de P "compile" 16 (bi "compile")), (de P "delattr" 17 (bi "delattr")), (de P "dir" 18 (bi "dir")), (de P "divmod" 19 (bi "divmod")), (de P "eval" 20 (bi "eval")), (de P "exec" 21 (bi "exec")), (de P "format" 22 (bi "format")), (de P "getattr" 23 (bi "getattr")), (de P "globals" 24 (bi "globals")), (de P "hasattr" 25 (bi "hasattr")), (de P "hash" 26 (bi "hash")), (de P "hex" 27 (bi "hex")), (de P "id" 28 (bi "id")), (de P "input" 29 (bi "input")), (de P "isinstance" 30 (bi "isinstance")), (de P "issubclass" 31 (bi "issubclass")), (de P "iter" 32 (bi "iter")), (de P "aiter" 33 (bi "aiter")), (de P "len" 34 (bi "len")), (de P "locals" 35 (bi "locals")), (de P "max" 36 (bi "max")), (de P "min" 37 (bi "min")), (de P "next" 38 (bi "next")), (de P "anext" 39 (bi "anext")), (de P "oct" 40 (bi "oct")), (de P "ord" 41 (bi "ord")), (de P "pow" 42 (bi "pow")), (de P "print" 43 (bi "print")), (de P "repr" 44 (bi "repr")), (de P "round" 45 (bi "round")), (de P "setattr" 46 (bi "setattr")), (de P "sorted" 47 (bi "sorted")), (de P "sum" 48 (bi "sum")), (de P "vars" 49 (bi "vars")), (de P "None" 50 .none), (de P "Ellipsis" 51 Value.ellipsis), (de P "NotImplemented" 52 Value.notImplemented), (de P "False" 53 (.bool false)), (de P "True" 54 (.bool true)), (de P "bool" 55 (ty "bool")), (de P "memoryview" 56 (ty "memoryview")), (de P "bytearray" 57 (ty "bytearray")), (de P "bytes" 58 (ty "bytes")), (de P "classmethod" 59 (ty "classmethod")), (de P "complex" 60 (ty "complex")), (de P "dict" 61 (ty "dict")), (de P "enumerate" 62 (ty "enumerate")), (de P "filter" 63 (ty "filter")), (de P "float" 64 (ty "float")), (de P "frozenset" 65 (ty "frozenset")), (de P "property" 66 (ty "property")), (de P "int" 67 (ty "int")), (de P "list" 68 (ty "list")), (de P "map" 69 (ty "map")), (de P "object" 70 (ty "object")), (de P "range" 71 (ty "range")), (de P "reversed" 72 (ty "reversed")), (de P "set" 73 (ty "set")), (de P "slice" 74 (ty "slice")), (de P "staticmethod" 75 (ty "staticmethod")), (de P "str" 76 (ty "str")), (de P "super" 77 (ty "super")), (de P "tuple" 78 (ty "tuple")), (de P "type" 79 (ty "type")), (de P "zip" 80 (ty "zip")), (de P "__debug__" 81 (.bool true)), (de P "BaseException" 82 (ty "BaseException")), (de P "BaseExceptionGroup" 83 (ty "BaseExceptionGroup")), (de P "Exception" 84 (ty "Exception")), (de P "GeneratorExit" 85 (ty "GeneratorExit")), (de P "KeyboardInterrupt" 86 (ty "KeyboardInterrupt")), (de P "SystemExit" 87 (ty "SystemExit")), (de P "ArithmeticError" 88 (ty "ArithmeticError")), (de P "AssertionError" 89 (ty "AssertionError")), (de P "AttributeError" 90 (ty "AttributeError")), (de P "BufferError" 91 (ty "BufferError")), (de P "EOFError" 92 (ty "EOFError")), (de P "ImportError" 93 (ty "ImportError")), (de P "LookupError" 94 (ty "LookupError")), (de P "MemoryError" 95 (ty "MemoryError")), (de P "NameError" 96 (ty "NameError")), (de P "OSError" 97 (ty "OSError")), (de P "ReferenceError" 98 (ty "ReferenceError")), (de P "RuntimeError" 99 (ty "RuntimeError")), (de P "StopAsyncIteration" 100 (ty "StopAsyncIteration")), (de P "StopIteration" 101 (ty "StopIteration")), (de P "SyntaxError" 102 (ty "SyntaxError")), (de P "SystemError" 103 (ty "SystemError")), (de P "TypeError" 104 (ty "TypeError")), (de P "ValueError" 105 (ty "ValueError")), (de P "Warning" 106 (ty "Warning")), (de P "FloatingPointError" 107 (ty "FloatingPointError")), (de P "OverflowError" 108 (ty "OverflowError")), (de P "ZeroDivisionError" 109 (ty "ZeroDivisionError")), (de P "BytesWarning" 110 (ty "BytesWarning")), (de P "DeprecationWarning" 111 (ty "DeprecationWarning")), (de P "EncodingWarning" 112 (ty "EncodingWarning")), (de P "FutureWarning" 113 (ty "FutureWarning")), (de P "ImportWarning" 114 (ty "ImportWarning")), (de P "PendingDeprecationWarning" 115 (ty "PendingDeprecationWarning")), (de P "ResourceWarning" 116 (ty "ResourceWarning")), (de P "RuntimeWarning" 117 (ty "RuntimeWarning")), (de P "SyntaxWarning" 118 (ty "SyntaxWarning")), (de P "UnicodeWarning" 119 (ty "UnicodeWarning")), (de P "UserWarning" 120 (ty "UserWarning")), (de P "BlockingIOError" 121 (ty "BlockingIOError")), (de P "ChildProcessError" 122 (ty "ChildProcessError")), (de P "ConnectionError" 123 (ty "ConnectionError")), (de P "FileExistsError" 124 (ty "FileExistsError")), (de P "FileNotFoundError" 125 (ty "FileNotFoundError")), (de P "InterruptedError" 126 (ty "InterruptedError")), (de P "IsADirectoryError" 127 (ty "IsADirectoryError")), (de P "NotADirectoryError" 128 (ty "NotADirectoryError")), (de P "PermissionError" 129 (ty "PermissionError")), (de P "ProcessLookupError" 130 (ty "ProcessLookupError")), (de P "TimeoutError" 131 (ty "TimeoutError")), (de P "IndentationError" 132 (ty "IndentationError")), (de P "_IncompleteInputError" 133 (ty "_IncompleteInputError")), (de P "IndexError" 134 (ty "IndexError")), (de P "KeyError" 135 (ty "KeyError")), (de P "ModuleNotFoundError" 136 (ty "ModuleNotFoundError")), (de P "NotImplementedError" 137 (ty "NotImplementedError")), (de P "PythonFinalizationError" 138 (ty "PythonFinalizationError")), (de P "RecursionError" 139 (ty "RecursionError")), (de P "UnboundLocalError" 140 (ty "UnboundLocalError")), (de P "UnicodeError" 141 (ty "UnicodeError")), (de P "BrokenPipeError" 142 (ty "BrokenPipeError")), (de P "ConnectionAbortedError" 143 (ty "ConnectionAbortedError")), (de P "ConnectionRefusedError" 144 (ty "ConnectionRefusedError")), (de P "ConnectionResetError" 145 (ty "ConnectionResetError")), (de P "TabError" 146 (ty "TabError")), (de P "UnicodeDecodeError" 147 (ty "UnicodeDecodeError")), (de P "UnicodeEncodeError" 148 (ty "UnicodeEncodeError")), (de P "UnicodeTranslateError" 149 (ty "UnicodeTranslateError")), (de P "ExceptionGroup" 150 (ty "ExceptionGroup")), (de P "EnvironmentError" 151 (ty "OSError")), (de P "IOError" 152 (ty "OSError")), (de P "open" 153 (bi "open")), (de P "quit" 154 (bi "builtins.quit#opaque")), (de P "exit" 155 (bi "builtins.exit#opaque")), (de P "copyright" 156 (bi "builtins.copyright#opaque")), (de P "credits" 157 (bi "builtins.credits#opaque")), (de P "license" 158 (bi "builtins.license#opaque")), (de P "help" 159 (bi "builtins.help#opaque"))] 159)
noncomputable def o42 (P : Params) : Obj := ob "dict" (.dict #[(de P "builtins" 162 (r 4)), (de P "__main__" 163 (r 5)), (de P "_sre" 244 (r 12)), (de P "_collections" 292 (r 30))] 4)
noncomputable def o130 (P : Params) : Obj := (Obj.mk .none none (Data.dict #[(de P "\x69mport.loaded._sre" 183 (.bool true)), (de P "class._frozen_importlib.BuiltinImporter" 185 (r 14)), (de P "watched.\x69mport" 206 (r 18)), (de P "class._frozen_importlib.ModuleSpec" 216 (r 22)), (de P "sys.modules.booked-epoch" 245 (.int 4 0)), (de P "\x69mport.later-laid._sre" 270 (.bool true)), (de P "watched.library" 272 (r 27)), (de P "watched.library-objects" 0 (q "\x0c\x1e" 0)), (de P "watched.library-deep._sre" 273 (q "\x04\x00\x00\x0b\x04\x00\x00\x0b\x04\x00\x00\x03\x04\x00\x00\x0b\x08\x04dict\x02" 0)), (de P "\x69mport.loaded._collections" 280 (.bool true)), (de P "sys.modules.landed._collections" 294 (.bool true)), (de P "\x69mport.later-laid._collections" 309 (.bool true)), (de P "watched.library-deep._collections" 311 (q "\x04\x00\x00\x1d\x04\x00\x00\x1d\x04\x00\x00\x03\x04\x00\x00\x1d\x08\x04dict\x02" 0)), (de P "type.__subclasses__.OSError.0" 438 (.int 94 0)), (de P "type.__subclasses__.OSError.n" 439 (.int 1 0))] 15) #[])
noncomputable def o1367 (P : Params) : Obj := ob "dict" (.dict #[(de P "__name__" 165 (q "law_oy0388_01" 1310)), (de P "__doc__" 166 .none), (de P "__package__" 167 .none), (de P "__loader__" 168 (bi "__main__.__loader__#opaque")), (de P "__spec__" 169 .none), (de P "__annotations__" 170 (r 6)), (de P "__builtins__" 171 (r 4)), (de P "__file__" 173 (q "/claim/cut.py" 172)), (de P "__cached__" 174 .none), (de P "_sre" 275 (r 12)), (de P "deque" 317 (ty "collections.deque")), (de P "_wall" 330 (r 44)), (de P "_strcoll" 340 (r 51)), (de P "CHAR_MAX" 342 (.int 127 341)), (de P "_grouping_intervals" 351 (r 58)), (de P "_strip_padding" 361 (r 65)), (de P "_twin_re_1" 401 (r 70)), (de P "_whence" 411 (r 77)), (de P "_index" 419 (r 84)), (de P "UnsupportedOperation" 441 (r 94)), (de P "IOBase" 473 (r 114)), (de P "BufferedIOBase" 491 (r 129)), (de P "TextIOBase" 509 (r 141)), (de P "BytesIO" 771 (r 371)), (de P "StringIO" 1058 (r 618)), (de P "_kind" 1069 (r 627)), (de P "_fspath" 1078 (r 634)), (de P "_check_arg_types" 1088 (r 641)), (de P "isabs" 1095 (r 648)), (de P "join" 1106 (r 772)), (de P "join_path" 1107 (r 655)), (de P "dirname" 1117 (r 662)), (de P "shlex" 1258 (r 753)), (de P "split" 1268 (r 765)), (de P "join_shlex" 1276 (r 772)), (de P "_find_unsafe" 1278 (r 773)), (de P "quote" 1285 (r 780)), (de P "sorted_list_difference" 1301 (r 787)), (de P "three_way_cmp" 1309 (r 794)), (de P "_law_marks" 1322 (r 801)), (de P "_law_ticked" 1335 (r 808)), (de P "_law_ordered" 1346 (r 815)), (de P "_law_places" 1352 (r 820)), (de P "_law_moved" 1358 (r 825)), (de P "_law_read" 1364 (r 830)), (de P "_law_held" 1370 (r 835)), (de P "law" 1376 (r 840))] 47)
noncomputable def o45 : Obj := (Obj.mk (ty "module") (some 0) Data.plain #[])
noncomputable def o46 : Obj := (Obj.mk (ty "module") (some 3) Data.plain #[])
noncomputable def o47 : Obj := ob "dict" (.dict #[] 0)
noncomputable def o48 : Obj := ob "tuple" (.seq #[] 0)
noncomputable def o49 : Obj := (Obj.mk .none none (Data.fields #[]) #[])
noncomputable def o50 : Obj := ob "code" (.fields #[(q "<module>" 176), (q "<module>" 177), (q "/claim/cut.py" 178), (.int 1 0), (.int 0 0), (.int 0 0), (.int 0 0), (.int 0 0), (r 7), (.bool false), (.int 175 0), (r 8), .none, .none, .none, .none, (.int 179 0), (.int 1 0), (q "/claim/cut.py" 180)])
noncomputable def o51 : Obj := (Obj.mk (ty "frame") none Data.plain #[(some (r 9)), (some (r 3)), (some (r 3)), none, (some (q "__main__" 164)), none, (some (r 0))])
noncomputable def o52 (P : Params) : Obj := ob "dict" (.dict #[(de P "__name__" 247 (q "_sre" 246)), (de P "__doc__" 248 .none), (de P "__package__" 250 (q "" 249)), (de P "__loader__" 251 (bi "off-the-table:_sre.__loader__:shared#opaque")), (de P "__spec__" 252 (bi "off-the-table:_sre.__spec__:shared#opaque")), (de P "compile" 253 (bi "_sre.compile")), (de P "template" 254 (bi "off-the-table:_sre.template:shared#opaque")), (de P "getcodesize" 255 (bi "off-the-table:_sre.getcodesize:shared#opaque")), (de P "ascii_iscased" 256 (bi "off-the-table:_sre.ascii_iscased:shared#opaque")), (de P "unicode_iscased" 257 (bi "off-the-table:_sre.unicode_iscased:shared#opaque")), (de P "ascii_tolower" 258 (bi "off-the-table:_sre.ascii_tolower:shared#opaque")), (de P "unicode_tolower" 259 (bi "off-the-table:_sre.unicode_tolower:shared#opaque")), (de P "MAGIC" 261 (.int 20230612 260)), (de P "CODESIZE" 263 (.int 4 262)), (de P "MAXREPEAT" 265 (.int 4294967295 264)), (de P "MAXGROUPS" 267 (.int 1073741823 266)), (de P "copyright" 269 (q " SRE 2.2.2 Copyright (c) 1997-2002 by Secret Labs AB " 268))] 17)
noncomputable def o53 : Obj := (Obj.mk (ty "module") (some 11) Data.plain #[])
noncomputable def o54 (P : Params) : Obj := ob "dict" (.dict #[(de P "__module__" 189 (q "_frozen_importlib" 186)), (de P "__firstlineno__" 190 (.int 971 187)), (de P "__doc__" 191 (bi "_frozen_importlib.BuiltinImporter.__doc__:str#opaque")), (de P "_ORIGIN" 192 (q "built-in" 188)), (de P "find_spec" 193 (bi "_frozen_importlib.BuiltinImporter.find_spec#opaque")), (de P "create_module" 194 (bi "_frozen_importlib.BuiltinImporter.create_module#opaque")), (de P "exec_module" 195 (bi "_frozen_importlib.BuiltinImporter.exec_module#opaque")), (de P "get_code" 196 (bi "_frozen_importlib.BuiltinImporter.get_code#opaque")), (de P "get_source" 197 (bi "_frozen_importlib.BuiltinImporter.get_source#opaque")), (de P "is_package" 198 (bi "_frozen_importlib.BuiltinImporter.is_package#opaque")), (de P "load_module" 199 (bi "_frozen_importlib.BuiltinImporter.load_module#opaque")), (de P "__static_attributes__" 200 (r 15)), (de P "__dict__" 202 (r 16)), (de P "__weakref__" 204 (r 17))] 14)
noncomputable def o55 : Obj := ob "type" (.cls (ClassData.mk "BuiltinImporter" [(ty "object")] [(r 14), (ty "object")] 13 "BuiltinImporter" true [] [] false none false))
noncomputable def o56 : Obj := ob "tuple" (.seq #[] 0)
noncomputable def o57 : Obj := ob "getset_descriptor" (.fields #[(q "__dict__" 201), (r 14), (bi "function.__dict__"), (bi "function.__dict__#set")])
noncomputable def o58 : Obj := ob "getset_descriptor" (.fields #[(q "__weakref__" 203), (r 14), (bi "ExceptionGroup.__weakref__"), .none])
noncomputable def o59 : Obj := (Obj.mk .none none (Data.seq #[(.int 13 0), (q (Str.mk #[6, 189, 10, 95, 95, 109, 111, 100, 117, 108, 101, 95, 95, 6, 186, 17, 95, 102, 114, 111, 122, 101, 110, 95, 105, 109, 112, 111, 114, 116, 108, 105, 98, 6, 190, 15, 95, 95, 102, 105, 114, 115, 116, 108, 105, 110, 101, 110, 111, 95, 95, 4, 187, 0, 971, 6, 191, 7, 95, 95, 100, 111, 99, 95, 95, 9, 52, 95, 102, 114, 111, 122, 101, 110, 95, 105, 109, 112, 111, 114, 116, 108, 105, 98, 46, 66, 117, 105, 108, 116, 105, 110, 73, 109, 112, 111, 114, 116, 101, 114, 46, 95, 95, 100, 111, 99, 95, 95, 58, 115, 116, 114, 35, 111, 112, 97, 113, 117, 101, 6, 192, 7, 95, 79, 82, 73, 71, 73, 78, 6, 188, 8, 98, 117, 105, 108, 116, 45, 105, 110, 6, 193, 9, 102, 105, 110, 100, 95, 115, 112, 101, 99, 9, 50, 95, 102, 114, 111, 122, 101, 110, 95, 105, 109, 112, 111, 114, 116, 108, 105, 98, 46, 66, 117, 105, 108, 116, 105, 110, 73, 109, 112, 111, 114, 116, 101, 114, 46, 102, 105, 110, 100, 95, 115, 112, 101, 99, 35, 111, 112, 97, 113, 117, 101, 6, 194, 13, 99, 114, 101, 97, 116, 101, 95, 109, 111, 100, 117, 108, 101, 9, 54, 95, 102, 114, 111, 122, 101, 110, 95, 105, 109, 112, 111, 114, 116, 108, 105, 98, 46, 66, 117, 105, 108, 116, 105, 110, 73, 109, 112, 111, 114, 116, 101, 114, 46, 99, 114, 101, 97, 116, 101, 95, 109, 111, 100, 117, 108, 101, 35, 111, 112, 97, 113, 117, 101, 6, 195, 11, 101, 120, 101, 99, 95, 109, 111, 100, 117, 108, 101, 9, 52, 95, 102, 114, 111, 122, 101, 110, 95, 105, 109, 112, 111, 114, 116, 108, 105, 98, 46, 66, 117, 105, 108, 116, 105, 110, 73, 109, 112, 111, 114, 116, 101, 114, 46, 101, 120, 101, 99, 95, 109, 111, 100, 117, 108, 101, 35, 111, 112, 97, 113, 117, 101, 6, 196, 8, 103, 101, 116, 95, 99, 111, 100, 101, 9, 49, 95, 102, 114, 111, 122, 101, 110, 95, 105, 109, 112, 111, 114, 116, 108, 105, 98, 46, 66, 117, 105, 108, 116, 105, 110, 73, 109, 112, 111, 114, 116, 101, 114, 46, 103, 101, 116, 95, 99, 111, 100, 101, 35, 111, 112, 97, 113, 117, 101, 6, 197, 10, 103, 101, 116, 95, 115, 111, 117, 114, 99, 101, 9, 51, 95, 102, 114, 111, 122, 101, 110, 95, 105, 109, 112, 111, 114, 116, 108, 105, 98, 46, 66, 117, 105, 108, 116, 105, 110, 73, 109, 112, 111, 114, 116, 101, 114, 46, 103, 101, 116, 95, 115, 111, 117, 114, 99, 101, 35, 111, 112, 97, 113, 117, 101, 6, 198, 10, 105, 115, 95, 112, 97, 99, 107, 97, 103, 101, 9, 51, 95, 102, 114, 111, 122, 101, 110, 95, 105, 109, 112, 111, 114, 116, 108, 105, 98, 46, 66, 117, 105, 108, 116, 105, 110, 73, 109, 112, 111, 114, 116, 101, 114, 46, 105, 115, 95, 112, 97, 99, 107, 97, 103, 101, 35, 111, 112, 97, 113, 117, 101, 6, 199, 11, 108, 111, 97, 100, 95, 109, 111, 100, 117, 108, 101, 9, 52, 95, 102, 114, 111, 122, 101, 110, 95, 105, 109, 112, 111, 114, 116, 108, 105, 98, 46, 66, 117, 105, 108, 116, 105, 110, 73, 109, 112, 111, 114, 116, 101, 114, 46, 108, 111, 97, 100, 95, 109, 111, 100, 117, 108, 101, 35, 111, 112, 97, 113, 117, 101, 6, 200, 21, 95, 95, 115, 116, 97, 116, 105, 99, 95, 97, 116, 116, 114, 105, 98, 117, 116, 101, 115, 95, 95, 4, 0, 0, 15, 6, 202, 8, 95, 95, 100, 105, 99, 116, 95, 95, 4, 0, 0, 16, 6, 204, 11, 95, 95, 119, 101, 97, 107, 114, 101, 102, 95, 95, 4, 0, 0, 17]) 0), (.bool true), (.bool true), (q "" 205), (.int 21 0), (q (Str.mk #[6, 227, 10, 95, 95, 109, 111, 100, 117, 108, 101, 95, 95, 6, 217, 17, 95, 102, 114, 111, 122, 101, 110, 95, 105, 109, 112, 111, 114, 116, 108, 105, 98, 6, 228, 15, 95, 95, 102, 105, 114, 115, 116, 108, 105, 110, 101, 110, 111, 95, 95, 4, 218, 0, 562, 6, 229, 7, 95, 95, 100, 111, 99, 95, 95, 9, 47, 95, 102, 114, 111, 122, 101, 110, 95, 105, 109, 112, 111, 114, 116, 108, 105, 98, 46, 77, 111, 100, 117, 108, 101, 83, 112, 101, 99, 46, 95, 95, 100, 111, 99, 95, 95, 58, 115, 116, 114, 35, 111, 112, 97, 113, 117, 101, 6, 230, 8, 95, 95, 105, 110, 105, 116, 95, 95, 9, 44, 95, 102, 114, 111, 122, 101, 110, 95, 105, 109, 112, 111, 114, 116, 108, 105, 98, 46, 77, 111, 100, 117, 108, 101, 83, 112, 101, 99, 46, 95, 95, 105, 110, 105, 116, 95, 95, 35, 111, 112, 97, 113, 117, 101, 6, 231, 8, 95, 95, 114, 101, 112, 114, 95, 95, 9, 44, 95, 102, 114, 111, 122, 101, 110, 95, 105, 109, 112, 111, 114, 116, 108, 105, 98, 46, 77, 111, 100, 117, 108, 101, 83, 112, 101, 99, 46, 95, 95, 114, 101, 112, 114, 95, 95, 35, 111, 112, 97, 113, 117, 101, 6, 232, 6, 95, 95, 101, 113, 95, 95, 9, 42, 95, 102, 114, 111, 122, 101, 110, 95, 105, 109, 112, 111, 114, 116, 108, 105, 98, 46, 77, 111, 100, 117, 108, 101, 83, 112, 101, 99, 46, 95, 95, 101, 113, 95, 95, 35, 111, 112, 97, 113, 117, 101, 6, 233, 6, 99, 97, 99, 104, 101, 100, 9, 42, 95, 102, 114, 111, 122, 101, 110, 95, 105, 109, 112, 111, 114, 116, 108, 105, 98, 46, 77, 111, 100, 117, 108, 101, 83, 112, 101, 99, 46, 99, 97, 99, 104, 101, 100, 35, 111, 112, 97, 113, 117, 101, 6, 234, 6, 112, 97, 114, 101, 110, 116, 9, 42, 95, 102, 114, 111, 122, 101, 110, 95, 105, 109, 112, 111, 114, 116, 108, 105, 98, 46, 77, 111, 100, 117, 108, 101, 83, 112, 101, 99, 46, 112, 97, 114, 101, 110, 116, 35, 111, 112, 97, 113, 117, 101, 6, 235, 12, 104, 97, 115, 95, 108, 111, 99, 97, 116, 105, 111, 110, 9, 48, 95, 102, 114, 111, 122, 101, 110, 95, 105, 109, 112, 111, 114, 116, 108, 105, 98, 46, 77, 111, 100, 117, 108, 101, 83, 112, 101, 99, 46, 104, 97, 115, 95, 108, 111, 99, 97, 116, 105, 111, 110, 35, 111, 112, 97, 113, 117, 101, 6, 236, 21, 95, 95, 115, 116, 97, 116, 105, 99, 95, 97, 116, 116, 114, 105, 98, 117, 116, 101, 115, 95, 95, 4, 0, 0, 23, 6, 238, 8, 95, 95, 100, 105, 99, 116, 95, 95, 4, 0, 0, 24, 6, 240, 11, 95, 95, 119, 101, 97, 107, 114, 101, 102, 95, 95, 4, 0, 0, 25, 6, 241, 8, 95, 95, 104, 97, 115, 104, 95, 95, 0]) 0), (.bool true), (.bool true), (q "" 242)] 1) #[])
noncomputable def o60 : Obj := ob "list" (.seq #[] 0)
noncomputable def o61 (P : Params) : Obj := ob "dict" (.dict #[(de P "name" 208 (q "_sre" 207)), (de P "loader" 209 (r 14)), (de P "origin" 210 (q "built-in" 184)), (de P "loader_state" 211 .none), (de P "submodule_search_locations" 212 .none), (de P "_uninitialized_submodules" 213 (r 19)), (de P "_set_fileattr" 214 (.bool false)), (de P "_cached" 215 .none), (de P "_initializing" 243 (.bool false))] 9)
noncomputable def o62 (P : Params) : Obj := ob "dict" (.dict #[(de P "__module__" 227 (q "_frozen_importlib" 217)), (de P "__firstlineno__" 228 (.int 562 218)), (de P "__doc__" 229 (bi "_frozen_importlib.ModuleSpec.__doc__:str#opaque")), (de P "__init__" 230 (bi "_frozen_importlib.ModuleSpec.__init__#opaque")), (de P "__repr__" 231 (bi "_frozen_importlib.ModuleSpec.__repr__#opaque")), (de P "__eq__" 232 (bi "_frozen_importlib.ModuleSpec.__eq__#opaque")), (de P "cached" 233 (bi "_frozen_importlib.ModuleSpec.cached#opaque")), (de P "parent" 234 (bi "_frozen_importlib.ModuleSpec.parent#opaque")), (de P "has_location" 235 (bi "_frozen_importlib.ModuleSpec.has_location#opaque")), (de P "__static_attributes__" 236 (r 23)), (de P "__dict__" 238 (r 24)), (de P "__weakref__" 240 (r 25)), (de P "__hash__" 241 .none)] 13)
noncomputable def o63 : Obj := ob "type" (.cls (ClassData.mk "ModuleSpec" [(ty "object")] [(r 22), (ty "object")] 21 "ModuleSpec" true [] [] false none false))
noncomputable def o64 : Obj := ob "tuple" (.seq #[(q "_cached" 219), (q "_set_fileattr" 220), (q "_uninitialized_submodules" 221), (q "loader" 222), (q "loader_state" 223), (q "name" 224), (q "origin" 225), (q "submodule_search_locations" 226)] 0)
noncomputable def o65 : Obj := ob "getset_descriptor" (.fields #[(q "__dict__" 237), (r 22), (bi "function.__dict__"), (bi "function.__dict__#set")])
noncomputable def o66 : Obj := ob "getset_descriptor" (.fields #[(q "__weakref__" 239), (r 22), (bi "ExceptionGroup.__weakref__"), .none])
noncomputable def o67 : Obj := (Obj.mk (r 22) (some 20) Data.plain #[])
noncomputable def o68 : Obj := (Obj.mk .none none (Data.seq #[(.int 11 0), (q (Str.mk #[6, 247, 8, 95, 95, 110, 97, 109, 101, 95, 95, 6, 246, 4, 95, 115, 114, 101, 6, 248, 7, 95, 95, 100, 111, 99, 95, 95, 0, 6, 250, 11, 95, 95, 112, 97, 99, 107, 97, 103, 101, 95, 95, 6, 249, 0, 6, 251, 10, 95, 95, 108, 111, 97, 100, 101, 114, 95, 95, 4, 0, 0, 14, 6, 252, 8, 95, 95, 115, 112, 101, 99, 95, 95, 4, 0, 0, 26, 6, 253, 7, 99, 111, 109, 112, 105, 108, 101, 9, 12, 95, 115, 114, 101, 46, 99, 111, 109, 112, 105, 108, 101, 6, 254, 8, 116, 101, 109, 112, 108, 97, 116, 101, 9, 13, 95, 115, 114, 101, 46, 116, 101, 109, 112, 108, 97, 116, 101, 6, 255, 11, 103, 101, 116, 99, 111, 100, 101, 115, 105, 122, 101, 9, 16, 95, 115, 114, 101, 46, 103, 101, 116, 99, 111, 100, 101, 115, 105, 122, 101, 6, 256, 13, 97, 115, 99, 105, 105, 95, 105, 115, 99, 97, 115, 101, 100, 9, 18, 95, 115, 114, 101, 46, 97, 115, 99, 105, 105, 95, 105, 115, 99, 97, 115, 101, 100, 6, 257, 15, 117, 110, 105, 99, 111, 100, 101, 95, 105, 115, 99, 97, 115, 101, 100, 9, 20, 95, 115, 114, 101, 46, 117, 110, 105, 99, 111, 100, 101, 95, 105, 115, 99, 97, 115, 101, 100, 6, 258, 13, 97, 115, 99, 105, 105, 95, 116, 111, 108, 111, 119, 101, 114, 9, 18, 95, 115, 114, 101, 46, 97, 115, 99, 105, 105, 95, 116, 111, 108, 111, 119, 101, 114, 6, 259, 15, 117, 110, 105, 99, 111, 100, 101, 95, 116, 111, 108, 111, 119, 101, 114, 9, 20, 95, 115, 114, 101, 46, 117, 110, 105, 99, 111, 100, 101, 95, 116, 111, 108, 111, 119, 101, 114, 6, 261, 5, 77, 65, 71, 73, 67, 4, 260, 0, 20230612, 6, 263, 8, 67, 79, 68, 69, 83, 73, 90, 69, 4, 262, 0, 4, 6, 265, 9, 77, 65, 88, 82, 69, 80, 69, 65, 84, 4, 264, 0, 4294967295, 6, 267, 9, 77, 65, 88, 71, 82, 79, 85, 80, 83, 4, 266, 0, 1073741823, 6, 269, 9, 99, 111, 112, 121, 114, 105, 103, 104, 116, 6, 268, 53, 32, 83, 82, 69, 32, 50, 46, 50, 46, 50, 32, 67, 111, 112, 121, 114, 105, 103, 104, 116, 32, 40, 99, 41, 32, 49, 57, 57, 55, 45, 50, 48, 48, 50, 32, 98, 121, 32, 83, 101, 99, 114, 101, 116, 32, 76, 97, 98, 115, 32, 65, 66, 32]) 0), (.bool true), (.bool false), (q "_sre" 271), (.int 29 0), (q (Str.mk #[6, 296, 8, 95, 95, 110, 97, 109, 101, 95, 95, 6, 295, 12, 95, 99, 111, 108, 108, 101, 99, 116, 105, 111, 110, 115, 6, 297, 7, 95, 95, 100, 111, 99, 95, 95, 9, 31, 95, 99, 111, 108, 108, 101, 99, 116, 105, 111, 110, 115, 46, 95, 95, 100, 111, 99, 95, 95, 58, 115, 116, 114, 35, 111, 112, 97, 113, 117, 101, 6, 299, 11, 95, 95, 112, 97, 99, 107, 97, 103, 101, 95, 95, 6, 298, 0, 6, 300, 10, 95, 95, 108, 111, 97, 100, 101, 114, 95, 95, 4, 0, 0, 14, 6, 301, 8, 95, 95, 115, 112, 101, 99, 95, 95, 4, 0, 0, 33, 6, 302, 15, 95, 99, 111, 117, 110, 116, 95, 101, 108, 101, 109, 101, 110, 116, 115, 9, 28, 95, 99, 111, 108, 108, 101, 99, 116, 105, 111, 110, 115, 46, 95, 99, 111, 117, 110, 116, 95, 101, 108, 101, 109, 101, 110, 116, 115, 6, 303, 5, 100, 101, 113, 117, 101, 8, 17, 99, 111, 108, 108, 101, 99, 116, 105, 111, 110, 115, 46, 100, 101, 113, 117, 101, 6, 304, 11, 100, 101, 102, 97, 117, 108, 116, 100, 105, 99, 116, 8, 23, 99, 111, 108, 108, 101, 99, 116, 105, 111, 110, 115, 46, 100, 101, 102, 97, 117, 108, 116, 100, 105, 99, 116, 6, 305, 15, 95, 100, 101, 113, 117, 101, 95, 105, 116, 101, 114, 97, 116, 111, 114, 8, 27, 99, 111, 108, 108, 101, 99, 116, 105, 111, 110, 115, 46, 95, 100, 101, 113, 117, 101, 95, 105, 116, 101, 114, 97, 116, 111, 114, 6, 306, 23, 95, 100, 101, 113, 117, 101, 95, 114, 101, 118, 101, 114, 115, 101, 95, 105, 116, 101, 114, 97, 116, 111, 114, 8, 35, 99, 111, 108, 108, 101, 99, 116, 105, 111, 110, 115, 46, 95, 100, 101, 113, 117, 101, 95, 114, 101, 118, 101, 114, 115, 101, 95, 105, 116, 101, 114, 97, 116, 111, 114, 6, 307, 12, 95, 116, 117, 112, 108, 101, 103, 101, 116, 116, 101, 114, 8, 24, 99, 111, 108, 108, 101, 99, 116, 105, 111, 110, 115, 46, 95, 116, 117, 112, 108, 101, 103, 101, 116, 116, 101, 114, 6, 308, 11, 79, 114, 100, 101, 114, 101, 100, 68, 105, 99, 116, 8, 23, 99, 111, 108, 108, 101, 99, 116, 105, 111, 110, 115, 46, 79, 114, 100, 101, 114, 101, 100, 68, 105, 99, 116]) 0), (.bool true), (.bool false), (q "_collections" 310)] 1) #[])
noncomputable def o69 : Obj := ob "tuple" (.seq #[(q "deque" 277)] 0)
noncomputable def o70 (P : Params) : Obj := ob "dict" (.dict #[(de P "__name__" 296 (q "_collections" 295)), (de P "__doc__" 297 (bi "off-the-table:_collections.__doc__:shared#opaque")), (de P "__package__" 299 (q "" 298)), (de P "__loader__" 300 (bi "off-the-table:_collections.__loader__:shared#opaque")), (de P "__spec__" 301 (bi "off-the-table:_collections.__spec__:shared#opaque")), (de P "_count_elements" 302 (bi "_collections._count_elements")), (de P "deque" 303 (ty "collections.deque")), (de P "defaultdict" 304 (ty "collections.defaultdict")), (de P "_deque_iterator" 305 (bi "off-the-table:_collections._deque_iterator:shared#opaque")), (de P "_deque_reverse_iterator" 306 (bi "off-the-table:_collections._deque_reverse_iterator:shared#opaque")), (de P "_tuplegetter" 307 (ty "collections._tuplegetter")), (de P "OrderedDict" 308 (ty "collections.OrderedDict"))] 12)
noncomputable def o71 : Obj := (Obj.mk (ty "module") (some 29) Data.plain #[])
noncomputable def o72 : Obj := ob "list" (.seq #[] 0)
noncomputable def o73 (P : Params) : Obj := ob "dict" (.dict #[(de P "name" 283 (q "_collections" 282)), (de P "loader" 284 (r 14)), (de P "origin" 285 (q "built-in" 281)), (de P "loader_state" 286 .none), (de P "submodule_search_locations" 287 .none), (de P "_uninitialized_submodules" 288 (r 31)), (de P "_set_fileattr" 289 (.bool false)), (de P "_cached" 290 .none), (de P "_initializing" 291 (.bool false))] 9)
noncomputable def o74 : Obj := (Obj.mk (r 22) (some 32) Data.plain #[])
noncomputable def o75 : Obj := ob "tuple" (.seq #[] 0)
noncomputable def o1368 : Obj := (Obj.mk .none none (Data.fields #[(.int 3 0), (.int 0 0), (r 43), (.int 7 0), (.int 0 0), (r 50), (.int 10 0), (.int 0 0), (r 57), (.int 22 0), (.int 0 0), (r 64), (.int 34 0), (.int 0 0), (r 76), (.int 39 0), (.int 0 0), (r 83), (.int 46 0), (.int 0 0), (r 90), (.int 48 0), (.int 0 0), (r 103), (.int 55 0), (.int 0 0), (r 125), (.int 57 0), (.int 0 0), (r 137), (.int 59 0), (.int 0 0), (r 149), (.int 229 0), (.int 0 0), (r 379), (.int 435 0), (.int 0 0), (r 626), (.int 456 0), (.int 0 0), (r 633), (.int 461 0), (.int 0 0), (r 640), (.int 466 0), (.int 0 0), (r 647), (.int 469 0), (.int 0 0), (r 654), (.int 490 0), (.int 0 0), (r 661), (.int 499 0), (.int 0 0), (r 668), (.int 751 0), (.int 0 0), (r 764), (.int 759 0), (.int 0 0), (r 771), (.int 763 0), (.int 0 0), (r 779), (.int 770 0), (.int 0 0), (r 786), (.int 802 0), (.int 0 0), (r 793), (.int 805 0), (.int 0 0), (r 800), (.int 814 0), (.int 0 0), (r 807), (.int 824 0), (.int 0 0), (r 814), (.int 833 0), (.int 0 0), (r 819), (.int 835 0), (.int 0 0), (r 824), (.int 846 0), (.int 0 0), (r 829), (.int 858 0), (.int 0 0), (r 834), (.int 874 0), (.int 0 0), (r 839)]) #[])
noncomputable def o77 : Obj := ob "code" (.fields #[(q "<module>" 319), (q "<module>" 320), (q "/claim/cut.py" 321), (.int 1 0), (.int 0 0), (.int 0 0), (.int 0 0), (.int 0 0), (r 34), (.bool false), (.int 318 0), (r 35), .none, .none, .none, .none, (.int 322 0), (.int 1 0), (q "/claim/cut.py" 323)])
noncomputable def o78 : Obj := (Obj.mk (ty "frame") none Data.plain #[(some (r 36)), (some (r 3)), (some (r 3)), none, (some (q "__main__" 164)), none, (some (r 0))])
noncomputable def o83 : Obj := ob "tuple" (.seq #[] 0)
noncomputable def o84 : Obj := (Obj.mk .none none (Data.fields #[]) #[])
noncomputable def o85 : Obj := ob "tuple" (.seq #[(q "k" 327)] 0)
noncomputable def o86 : Obj := ob "tuple" (.seq #[] 0)
noncomputable def o87 : Obj := (Obj.mk .none none (Data.func (fd [2] "_wall" "_wall" 0 [] .none .none .none .none none .none .none 0)) #[])
noncomputable def o88 : Obj := ob "code" (.fields #[(q "_wall" 324), (q "_wall" 325), (q "/claim/cut.py" 326), (.int 3 0), (.int 1 0), (.int 0 0), (.int 0 0), (.int 3 0), (r 38), (.bool true), (.int 318 0), (r 39), .none, (r 40), (r 41), (r 42), (.int 328 0), (.int 3 0), (q "/claim/cut.py" 329)])
noncomputable def o89 : Obj := ob "function" (.func (fd [2] "_wall" "_wall" 3 [] .none .none .none (q "__main__" 164) none (r 43) .none 0))
noncomputable def o90 : Obj := ob "tuple" (.seq #[] 0)
noncomputable def o91 : Obj := (Obj.mk .none none (Data.fields #[]) #[])
noncomputable def o92 : Obj := ob "tuple" (.seq #[(q "a" 336), (q "b" 337)] 0)
noncomputable def o93 : Obj := ob "tuple" (.seq #[] 0)
noncomputable def o94 : Obj := (Obj.mk .none none (Data.func (fd [4] "_strcoll" "_strcoll" 0 [] .none .none .none .none none .none .none 0)) #[])
noncomputable def o95 : Obj := ob "code" (.fields #[(q "_strcoll" 333), (q "_strcoll" 334), (q "/claim/cut.py" 335), (.int 7 0), (.int 2 0), (.int 0 0), (.int 0 0), (.int 3 0), (r 45), (.bool true), (.int 318 0), (r 46), .none, (r 47), (r 48), (r 49), (.int 338 0), (.int 7 0), (q "/claim/cut.py" 339)])
noncomputable def o96 : Obj := ob "function" (.func (fd [4] "_strcoll" "_strcoll" 3 [] .none .none .none (q "cpy313.locale" 331) none (r 50) .none 0))
noncomputable def o97 : Obj := ob "tuple" (.seq #[] 0)
noncomputable def o98 : Obj := (Obj.mk .none none (Data.fields #[]) #[])
noncomputable def o99 : Obj := ob "tuple" (.seq #[(q "grouping" 346), (q "last_interval" 347), (q "interval" 348)] 0)
noncomputable def o100 : Obj := ob "tuple" (.seq #[] 0)
noncomputable def o101 : Obj := (Obj.mk .none none (Data.func (fd [6] "_grouping_intervals" "_grouping_intervals" 0 [] .none .none .none .none none .none .none 0)) #[])
noncomputable def o102 : Obj := ob "code" (.fields #[(q "_grouping_intervals" 343), (q "_grouping_intervals" 344), (q "/claim/cut.py" 345), (.int 10 0), (.int 1 0), (.int 0 0), (.int 0 0), (.int 35 0), (r 52), (.bool true), (.int 318 0), (r 53), .none, (r 54), (r 55), (r 56), (.int 349 0), (.int 10 0), (q "/claim/cut.py" 350)])
noncomputable def o103 : Obj := ob "function" (.func (fd [6] "_grouping_intervals" "_grouping_intervals" 3 [] .none .none .none (q "cpy313.locale" 331) none (r 57) .none 0))
noncomputable def o104 : Obj := ob "tuple" (.seq #[] 0)
noncomputable def o105 : Obj := (Obj.mk .none none (Data.fields #[]) #[])
noncomputable def o106 : Obj := ob "tuple" (.seq #[(q "s" 355), (q "amount" 356), (q "lpos" 357), (q "rpos" 358)] 0)
noncomputable def o107 : Obj := ob "tuple" (.seq #[] 0)
noncomputable def o108 : Obj := (Obj.mk .none none (Data.func (fd [7] "_strip_padding" "_strip_padding" 0 [] .none .none .none .none none .none .none 0)) #[])
noncomputable def o109 : Obj := ob "code" (.fields #[(q "_strip_padding" 352), (q "_strip_padding" 353), (q "/claim/cut.py" 354), (.int 22 0), (.int 2 0), (.int 0 0), (.int 0 0), (.int 3 0), (r 59), (.bool true), (.int 318 0), (r 60), .none, (r 61), (r 62), (r 63), (.int 359 0), (.int 22 0), (q "/claim/cut.py" 360)])
noncomputable def o110 : Obj := ob "function" (.func (fd [7] "_strip_padding" "_strip_padding" 3 [] .none .none .none (q "cpy313.locale" 331) none (r 64) .none 0))
noncomputable def o111 : Obj := ob "list" (.seq #[(.int 14 365), (.int 17 366), (.int 4 367), (.int 1 368), (.int 1 369), (.int 21 370), (.int 9 371), (.int 0 372), (.int 604043296 373), (.int 1 374), (.int 0 375), (.int 0 376), (.int 0 377), (.int 0 378), (.int 0 379), (.int 8 380), (.int 4 381), (.int 0 382), (.int 13 383), (.int 14 384), (.int 21 385), (.int 9 386), (.int 0 387), (.int 604043296 388), (.int 1 389), (.int 0 390), (.int 0 391), (.int 0 392), (.int 0 393), (.int 0 394), (.int 8 395), (.int 4 396), (.int 0 397), (.int 1 398)] 0)
noncomputable def o112 : Obj := ob "dict" (.dict #[] 0)
noncomputable def o113 : Obj := ob "tuple" (.seq #[.none] 0)
noncomputable def o114 : Obj := ob "tuple" (.seq #[(.int 14 0), (.int 17 0), (.int 4 0), (.int 1 0), (.int 1 0), (.int 21 0), (.int 9 0), (.int 0 0), (.int 604043296 0), (.int 1 0), (.int 0 0), (.int 0 0), (.int 0 0), (.int 0 0), (.int 0 0), (.int 8 0), (.int 4 0), (.int 0 0), (.int 13 0), (.int 14 0), (.int 21 0), (.int 9 0), (.int 0 0), (.int 604043296 0), (.int 1 0), (.int 0 0), (.int 0 0), (.int 0 0), (.int 0 0), (.int 0 0), (.int 8 0), (.int 4 0), (.int 0 0), (.int 1 0)] 0)
noncomputable def o115 : Obj := ob "re.Pattern" (.fields #[(q "[^\\w@%+=:,./-]" 363), (.int 256 400), (.int 0 0), .none, .none, (r 69), (.int 0 0)])
noncomputable def o116 : Obj := ob "tuple" (.seq #[] 0)
noncomputable def o117 : Obj := (Obj.mk .none none (Data.fields #[]) #[])
noncomputable def o118 : Obj := ob "tuple" (.seq #[(q "n" 407), (q "what" 408)] 0)
noncomputable def o119 : Obj := ob "tuple" (.seq #[] 0)
noncomputable def o120 : Obj := (Obj.mk .none none (Data.func (fd [10] "_whence" "_whence" 0 [] .none .none .none .none none .none .none 0)) #[])
noncomputable def o121 : Obj := ob "code" (.fields #[(q "_whence" 404), (q "_whence" 405), (q "/claim/cut.py" 406), (.int 34 0), (.int 2 0), (.int 0 0), (.int 0 0), (.int 3 0), (r 71), (.bool true), (.int 318 0), (r 72), .none, (r 73), (r 74), (r 75), (.int 409 0), (.int 34 0), (q "/claim/cut.py" 410)])
noncomputable def o122 : Obj := ob "function" (.func (fd [10] "_whence" "_whence" 3 [] .none .none .none (q "io" 402) none (r 76) .none 0))
noncomputable def o123 : Obj := ob "tuple" (.seq #[] 0)
noncomputable def o124 : Obj := (Obj.mk .none none (Data.fields #[]) #[])
noncomputable def o125 : Obj := ob "tuple" (.seq #[(q "n" 415), (q "what" 416)] 0)
noncomputable def o126 : Obj := ob "tuple" (.seq #[] 0)
noncomputable def o127 : Obj := (Obj.mk .none none (Data.func (fd [11] "_index" "_index" 0 [] .none .none .none .none none .none .none 0)) #[])
noncomputable def o128 : Obj := ob "code" (.fields #[(q "_index" 412), (q "_index" 413), (q "/claim/cut.py" 414), (.int 39 0), (.int 2 0), (.int 0 0), (.int 0 0), (.int 3 0), (r 78), (.bool true), (.int 318 0), (r 79), .none, (r 80), (r 81), (r 82), (.int 417 0), (.int 39 0), (q "/claim/cut.py" 418)])
noncomputable def o129 : Obj := ob "function" (.func (fd [11] "_index" "_index" 3 [] .none .none .none (q "io" 402) none (r 83) .none 0))
noncomputable def o133 : Obj := ob "tuple" (.seq #[(ty "OSError"), (ty "ValueError")] 0)
noncomputable def o134 : Obj := ob "builtin_function_or_method" (.fields #[(bi "type.__prepare__"), (ty "type")])
noncomputable def o135 (P : Params) : Obj := ob "dict" (.dict #[(de P "__module__" 427 (q "io" 432)), (de P "__qualname__" 429 (q "UnsupportedOperation" 428)), (de P "__firstlineno__" 431 (.int 46 430)), (de P "__static_attributes__" 434 (r 92))] 4)
noncomputable def o136 : Obj := ob "tuple" (.seq #[] 0)
noncomputable def o137 : Obj := (Obj.mk .none none (Data.fields #[]) #[])
noncomputable def o138 : Obj := ob "code" (.fields #[(q "UnsupportedOperation" 422), (q "UnsupportedOperation" 423), (q "/claim/cut.py" 424), (.int 46 0), (.int 0 0), (.int 0 0), (.int 0 0), (.int 0 0), (r 88), (.bool false), (.int 318 0), (r 89), .none, .none, .none, .none, (.int 425 0), (.int 46 0), (q "/claim/cut.py" 426)])
noncomputable def o139 : Obj := (Obj.mk (ty "frame") none Data.plain #[(some (r 90)), (some (r 3)), (some (r 87)), none, (some (q "io" 402)), none, (some (r 0))])
noncomputable def o140 : Obj := ob "tuple" (.seq #[] 0)
noncomputable def o141 (P : Params) : Obj := ob "dict" (.dict #[(de P "__module__" 427 (q "io" 432)), (de P "__firstlineno__" 431 (.int 46 430)), (de P "__static_attributes__" 434 (r 92)), (de P "__weakref__" 436 (r 95)), (de P "__doc__" 437 .none)] 3)
noncomputable def o142 : Obj := (Obj.mk (ty "type") none (Data.cls (ClassData.mk "UnsupportedOperation" [(ty "OSError"), (ty "ValueError")] [(r 94), (ty "OSError"), (ty "ValueError"), (ty "Exception"), (ty "BaseException"), (ty "object")] 93 "UnsupportedOperation" true [] [] false none false)) #[(some (r 85)), none, (some (q "UnsupportedOperation" 420)), (some (q "UnsupportedOperation" 428)), (some (bi "OSError.__new__")), (some (.bool true))])
noncomputable def o143 : Obj := ob "getset_descriptor" (.fields #[(q "__weakref__" 435), (r 94), (bi "ExceptionGroup.__weakref__"), .none])
noncomputable def o144 : Obj := ob "super" (.fields #[(r 94), (r 94), (r 94)])
noncomputable def o145 : Obj := ob "builtin_function_or_method" (.fields #[(bi "object.__init_subclass__"), (r 94)])
noncomputable def o148 : Obj := ob "tuple" (.seq #[] 0)
noncomputable def o149 : Obj := ob "builtin_function_or_method" (.fields #[(bi "type.__prepare__"), (ty "type")])
noncomputable def o150 (P : Params) : Obj := ob "dict" (.dict #[(de P "__module__" 449 (q "io" 454)), (de P "__qualname__" 451 (q "IOBase" 450)), (de P "__firstlineno__" 453 (.int 48 452)), (de P "__new__" 464 (r 111)), (de P "__static_attributes__" 465 (r 112))] 5)
noncomputable def o151 : Obj := ob "tuple" (.seq #[] 0)
noncomputable def o152 : Obj := (Obj.mk .none none (Data.fields #[(.int 51 0), (.int 4 0), (r 110)]) #[])
noncomputable def o153 : Obj := ob "code" (.fields #[(q "IOBase" 444), (q "IOBase" 445), (q "/claim/cut.py" 446), (.int 48 0), (.int 0 0), (.int 0 0), (.int 0 0), (.int 0 0), (r 101), (.bool false), (.int 318 0), (r 102), .none, .none, .none, .none, (.int 447 0), (.int 48 0), (q "/claim/cut.py" 448)])
noncomputable def o154 : Obj := (Obj.mk (ty "frame") none Data.plain #[(some (r 103)), (some (r 3)), (some (r 100)), none, (some (q "io" 402)), none, (some (r 0))])
noncomputable def o155 : Obj := ob "tuple" (.seq #[] 0)
noncomputable def o156 : Obj := (Obj.mk .none none (Data.fields #[]) #[])
noncomputable def o157 : Obj := ob "tuple" (.seq #[(q "cls" 459), (q "args" 460), (q "kwargs" 461)] 0)
noncomputable def o158 : Obj := ob "tuple" (.seq #[] 0)
noncomputable def o159 : Obj := (Obj.mk .none none (Data.func (fd [13, 1] "__new__" "IOBase.__new__" 0 [] .none .none .none .none none .none .none 0)) #[])
noncomputable def o160 : Obj := ob "code" (.fields #[(q "__new__" 456), (q "IOBase.__new__" 457), (q "/claim/cut.py" 458), (.int 51 0), (.int 1 0), (.int 1 0), (.int 0 0), (.int 15 0), (r 105), (.bool true), (.int 318 0), (r 106), .none, (r 107), (r 108), (r 109), (.int 462 0), (.int 51 0), (q "/claim/cut.py" 463)])
noncomputable def o161 : Obj := ob "function" (.func (fd [13, 1] "__new__" "IOBase.__new__" 3 [] .none .none .none (q "io" 402) none (r 110) .none 0))
noncomputable def o162 : Obj := ob "tuple" (.seq #[] 0)
noncomputable def o163 (P : Params) : Obj := ob "dict" (.dict #[(de P "__module__" 449 (q "io" 454)), (de P "__firstlineno__" 453 (.int 48 452)), (de P "__new__" 464 (r 115)), (de P "__static_attributes__" 465 (r 112)), (de P "__dict__" 468 (r 116)), (de P "__weakref__" 470 (r 117)), (de P "__doc__" 471 .none)] 4)
noncomputable def o187 : Obj := (Obj.mk (ty "type") none (Data.cls (ClassData.mk "IOBase" [(ty "object")] [(r 114), (ty "object")] 113 "IOBase" true [] [(r 129), (r 141)] false none false)) #[none, none, (some (q "IOBase" 442)), (some (q "IOBase" 450)), (some .none), (some (.bool true))])
noncomputable def o165 : Obj := ob "staticmethod" (.fields #[(r 111)])
noncomputable def o166 : Obj := ob "getset_descriptor" (.fields #[(q "__dict__" 467), (r 114), (bi "function.__dict__"), (bi "function.__dict__#set")])
noncomputable def o167 : Obj := ob "getset_descriptor" (.fields #[(q "__weakref__" 469), (r 114), (bi "ExceptionGroup.__weakref__"), .none])
noncomputable def o168 : Obj := ob "super" (.fields #[(r 114), (r 114), (r 114)])
noncomputable def o169 : Obj := ob "builtin_function_or_method" (.fields #[(bi "object.__init_subclass__"), (r 114)])
noncomputable def o173 : Obj := ob "tuple" (.seq #[(r 114)] 0)
noncomputable def o174 : Obj := ob "builtin_function_or_method" (.fields #[(bi "type.__prepare__"), (ty "type")])
noncomputable def o175 (P : Params) : Obj := ob "dict" (.dict #[(de P "__module__" 481 (q "io" 486)), (de P "__qualname__" 483 (q "BufferedIOBase" 482)), (de P "__firstlineno__" 485 (.int 55 484)), (de P "__static_attributes__" 488 (r 127))] 4)
noncomputable def o176 : Obj := ob "tuple" (.seq #[] 0)
noncomputable def o177 : Obj := (Obj.mk .none none (Data.fields #[]) #[])
noncomputable def o178 : Obj := ob "code" (.fields #[(q "BufferedIOBase" 476), (q "BufferedIOBase" 477), (q "/claim/cut.py" 478), (.int 55 0), (.int 0 0), (.int 0 0), (.int 0 0), (.int 0 0), (r 123), (.bool false), (.int 318 0), (r 124), .none, .none, .none, .none, (.int 479 0), (.int 55 0), (q "/claim/cut.py" 480)])
noncomputable def o179 : Obj := (Obj.mk (ty "frame") none Data.plain #[(some (r 125)), (some (r 3)), (some (r 122)), none, (some (q "io" 402)), none, (some (r 0))])
noncomputable def o180 : Obj := ob "tuple" (.seq #[] 0)
noncomputable def o181 (P : Params) : Obj := ob "dict" (.dict #[(de P "__module__" 481 (q "io" 486)), (de P "__firstlineno__" 485 (.int 55 484)), (de P "__static_attributes__" 488 (r 127)), (de P "__doc__" 489 .none)] 2)
noncomputable def o202 : Obj := (Obj.mk (ty "type") none (Data.cls (ClassData.mk "BufferedIOBase" [(r 114)] [(r 129), (r 114), (ty "object")] 128 "BufferedIOBase" true [] [(r 371)] false none false)) #[(some (r 120)), none, (some (q "BufferedIOBase" 474)), (some (q "BufferedIOBase" 482)), (some .none), (some (.bool true))])
noncomputable def o183 : Obj := ob "super" (.fields #[(r 129), (r 129), (r 129)])
noncomputable def o184 : Obj := ob "builtin_function_or_method" (.fields #[(bi "object.__init_subclass__"), (r 129)])
noncomputable def o188 : Obj := ob "tuple" (.seq #[(r 114)] 0)
noncomputable def o189 : Obj := ob "builtin_function_or_method" (.fields #[(bi "type.__prepare__"), (ty "type")])
noncomputable def o190 (P : Params) : Obj := ob "dict" (.dict #[(de P "__module__" 499 (q "io" 504)), (de P "__qualname__" 501 (q "TextIOBase" 500)), (de P "__firstlineno__" 503 (.int 57 502)), (de P "__static_attributes__" 506 (r 139))] 4)
noncomputable def o191 : Obj := ob "tuple" (.seq #[] 0)
noncomputable def o192 : Obj := (Obj.mk .none none (Data.fields #[]) #[])
noncomputable def o193 : Obj := ob "code" (.fields #[(q "TextIOBase" 494), (q "TextIOBase" 495), (q "/claim/cut.py" 496), (.int 57 0), (.int 0 0), (.int 0 0), (.int 0 0), (.int 0 0), (r 135), (.bool false), (.int 318 0), (r 136), .none, .none, .none, .none, (.int 497 0), (.int 57 0), (q "/claim/cut.py" 498)])
noncomputable def o194 : Obj := (Obj.mk (ty "frame") none Data.plain #[(some (r 137)), (some (r 3)), (some (r 134)), none, (some (q "io" 402)), none, (some (r 0))])
noncomputable def o195 : Obj := ob "tuple" (.seq #[] 0)
noncomputable def o196 (P : Params) : Obj := ob "dict" (.dict #[(de P "__module__" 499 (q "io" 504)), (de P "__firstlineno__" 503 (.int 57 502)), (de P "__static_attributes__" 506 (r 139)), (de P "__doc__" 507 .none)] 2)
noncomputable def o605 : Obj := (Obj.mk (ty "type") none (Data.cls (ClassData.mk "TextIOBase" [(r 114)] [(r 141), (r 114), (ty "object")] 140 "TextIOBase" true [] [(r 618)] false none false)) #[(some (r 132)), none, (some (q "TextIOBase" 492)), (some (q "TextIOBase" 500)), (some .none), (some (.bool true))])
noncomputable def o198 : Obj := ob "super" (.fields #[(r 141), (r 141), (r 141)])
noncomputable def o199 : Obj := ob "builtin_function_or_method" (.fields #[(bi "object.__init_subclass__"), (r 141)])
noncomputable def o203 : Obj := ob "tuple" (.seq #[(r 129)] 0)
noncomputable def o204 : Obj := ob "builtin_function_or_method" (.fields #[(bi "type.__prepare__"), (ty "type")])
noncomputable def o205 (P : Params) : Obj := ob "dict" (.dict #[(de P "__module__" 517 (q "_io" 522)), (de P "__qualname__" 519 (q "BytesIO" 518)), (de P "__firstlineno__" 521 (.int 59 520)), (de P "__init__" 531 (r 158)), (de P "_BytesIO__check" 538 (r 165)), (de P "_BytesIO__line" 549 (r 172)), (de P "closed" 557 (r 180)), (de P "close" 564 (r 187)), (de P "__enter__" 571 (r 194)), (de P "__exit__" 579 (r 201)), (de P "readable" 586 (r 208)), (de P "writable" 593 (r 215)), (de P "seekable" 600 (r 222)), (de P "isatty" 607 (r 229)), (de P "flush" 614 (r 236)), (de P "fileno" 621 (r 243)), (de P "detach" 628 (r 250)), (de P "getvalue" 635 (r 257)), (de P "getbuffer" 642 (r 264)), (de P "tell" 649 (r 271)), (de P "seek" 659 (r 279)), (de P "truncate" 667 (r 287)), (de P "read" 679 (r 295)), (de P "read1" 689 (r 303)), (de P "readinto" 699 (r 310)), (de P "readinto1" 707 (r 317)), (de P "readline" 717 (r 325)), (de P "readlines" 725 (r 333)), (de P "__iter__" 732 (r 340)), (de P "__next__" 740 (r 347)), (de P "write" 750 (r 354)), (de P "writelines" 758 (r 361)), (de P "__repr__" 765 (r 368)), (de P "__static_attributes__" 768 (r 369))] 34)
noncomputable def o206 : Obj := ob "tuple" (.seq #[] 0)
noncomputable def o207 : Obj := (Obj.mk .none none (Data.fields #[(.int 62 0), (.int 4 0), (r 157), (.int 68 0), (.int 4 0), (r 164), (.int 72 0), (.int 4 0), (r 171), (.int 86 0), (.int 4 0), (r 178), (.int 89 0), (.int 4 0), (r 186), (.int 92 0), (.int 4 0), (r 193), (.int 96 0), (.int 4 0), (r 200), (.int 99 0), (.int 4 0), (r 207), (.int 103 0), (.int 4 0), (r 214), (.int 107 0), (.int 4 0), (r 221), (.int 111 0), (.int 4 0), (r 228), (.int 115 0), (.int 4 0), (r 235), (.int 118 0), (.int 4 0), (r 242), (.int 121 0), (.int 4 0), (r 249), (.int 124 0), (.int 4 0), (r 256), (.int 127 0), (.int 4 0), (r 263), (.int 130 0), (.int 4 0), (r 270), (.int 134 0), (.int 4 0), (r 278), (.int 151 0), (.int 4 0), (r 286), (.int 154 0), (.int 4 0), (r 294), (.int 168 0), (.int 4 0), (r 302), (.int 171 0), (.int 4 0), (r 309), (.int 185 0), (.int 4 0), (r 316), (.int 188 0), (.int 4 0), (r 324), (.int 195 0), (.int 4 0), (r 332), (.int 198 0), (.int 4 0), (r 339), (.int 201 0), (.int 4 0), (r 346), (.int 208 0), (.int 4 0), (r 353), (.int 224 0), (.int 4 0), (r 360), (.int 227 0), (.int 4 0), (r 367)]) #[])
noncomputable def o208 : Obj := ob "code" (.fields #[(q "BytesIO" 512), (q "BytesIO" 513), (q "/claim/cut.py" 514), (.int 59 0), (.int 0 0), (.int 0 0), (.int 0 0), (.int 0 0), (r 147), (.bool false), (.int 318 0), (r 148), .none, .none, .none, .none, (.int 515 0), (.int 59 0), (q "/claim/cut.py" 516)])
noncomputable def o209 : Obj := (Obj.mk (ty "frame") none Data.plain #[(some (r 149)), (some (r 3)), (some (r 146)), none, (some (q "io" 402)), none, (some (r 0))])
noncomputable def o210 : Obj := ob "tuple" (.seq #[.none] 0)
noncomputable def o211 : Obj := ob "tuple" (.seq #[] 0)
noncomputable def o212 : Obj := (Obj.mk .none none (Data.fields #[]) #[])
noncomputable def o213 : Obj := ob "tuple" (.seq #[(q "self" 527), (q "initial_bytes" 528)] 0)
noncomputable def o214 : Obj := ob "tuple" (.seq #[] 0)
noncomputable def o215 : Obj := (Obj.mk .none none (Data.func (fd [16, 1] "__init__" "BytesIO.__init__" 0 [] .none .none .none .none none .none .none 0)) #[])
noncomputable def o216 : Obj := ob "code" (.fields #[(q "__init__" 524), (q "BytesIO.__init__" 525), (q "/claim/cut.py" 526), (.int 62 0), (.int 2 0), (.int 0 0), (.int 0 0), (.int 3 0), (r 152), (.bool true), (.int 318 0), (r 153), .none, (r 154), (r 155), (r 156), (.int 529 0), (.int 62 0), (q "/claim/cut.py" 530)])
noncomputable def o217 : Obj := ob "function" (.func (fd [16, 1] "__init__" "BytesIO.__init__" 3 [] (r 151) .none .none (q "io" 402) none (r 157) .none 0))
noncomputable def o218 : Obj := ob "tuple" (.seq #[] 0)
noncomputable def o219 : Obj := (Obj.mk .none none (Data.fields #[]) #[])
noncomputable def o220 : Obj := ob "tuple" (.seq #[(q "self" 535)] 0)
noncomputable def o221 : Obj := ob "tuple" (.seq #[] 0)
noncomputable def o222 : Obj := (Obj.mk .none none (Data.func (fd [16, 2] "__check" "BytesIO.__check" 0 [] .none .none .none .none none .none .none 0)) #[])
noncomputable def o223 : Obj := ob "code" (.fields #[(q "__check" 532), (q "BytesIO.__check" 533), (q "/claim/cut.py" 534), (.int 68 0), (.int 1 0), (.int 0 0), (.int 0 0), (.int 3 0), (r 159), (.bool true), (.int 318 0), (r 160), .none, (r 161), (r 162), (r 163), (.int 536 0), (.int 68 0), (q "/claim/cut.py" 537)])
noncomputable def o224 : Obj := ob "function" (.func (fd [16, 2] "__check" "BytesIO.__check" 3 [] .none .none .none (q "io" 402) none (r 164) .none 0))
noncomputable def o225 : Obj := ob "tuple" (.seq #[] 0)
noncomputable def o226 : Obj := (Obj.mk .none none (Data.fields #[]) #[])
noncomputable def o227 : Obj := ob "tuple" (.seq #[(q "self" 542), (q "limit" 543), (q "start" 544), (q "stop" 545), (q "i" 546)] 0)
noncomputable def o228 : Obj := ob "tuple" (.seq #[] 0)
noncomputable def o229 : Obj := (Obj.mk .none none (Data.func (fd [16, 3] "__line" "BytesIO.__line" 0 [] .none .none .none .none none .none .none 0)) #[])
noncomputable def o230 : Obj := ob "code" (.fields #[(q "__line" 539), (q "BytesIO.__line" 540), (q "/claim/cut.py" 541), (.int 72 0), (.int 2 0), (.int 0 0), (.int 0 0), (.int 3 0), (r 166), (.bool true), (.int 318 0), (r 167), .none, (r 168), (r 169), (r 170), (.int 547 0), (.int 72 0), (q "/claim/cut.py" 548)])
noncomputable def o231 : Obj := ob "function" (.func (fd [16, 3] "__line" "BytesIO.__line" 3 [] .none .none .none (q "io" 402) none (r 171) .none 0))
noncomputable def o232 : Obj := ob "tuple" (.seq #[] 0)
noncomputable def o233 : Obj := (Obj.mk .none none (Data.fields #[]) #[])
noncomputable def o234 : Obj := ob "tuple" (.seq #[(q "self" 553)] 0)
noncomputable def o235 : Obj := ob "tuple" (.seq #[] 0)
noncomputable def o236 : Obj := (Obj.mk .none none (Data.func (fd [16, 4] "closed" "BytesIO.closed" 0 [] .none .none .none .none none .none .none 0)) #[])
noncomputable def o237 : Obj := ob "code" (.fields #[(q "closed" 550), (q "BytesIO.closed" 551), (q "/claim/cut.py" 552), (.int 85 0), (.int 1 0), (.int 0 0), (.int 0 0), (.int 3 0), (r 173), (.bool true), (.int 318 0), (r 174), .none, (r 175), (r 176), (r 177), (.int 554 0), (.int 85 0), (q "/claim/cut.py" 555)])
noncomputable def o238 : Obj := ob "function" (.func (fd [16, 4] "closed" "BytesIO.closed" 3 [] .none .none .none (q "io" 402) none (r 178) .none 0))
noncomputable def o239 : Obj := ob "property" (.fields #[(r 179), .none, .none, .none, (q "closed" 557), (.bool false)])
noncomputable def o240 : Obj := ob "tuple" (.seq #[] 0)
noncomputable def o241 : Obj := (Obj.mk .none none (Data.fields #[]) #[])
noncomputable def o242 : Obj := ob "tuple" (.seq #[(q "self" 561)] 0)
noncomputable def o243 : Obj := ob "tuple" (.seq #[] 0)
noncomputable def o244 : Obj := (Obj.mk .none none (Data.func (fd [16, 5] "close" "BytesIO.close" 0 [] .none .none .none .none none .none .none 0)) #[])
noncomputable def o245 : Obj := ob "code" (.fields #[(q "close" 558), (q "BytesIO.close" 559), (q "/claim/cut.py" 560), (.int 89 0), (.int 1 0), (.int 0 0), (.int 0 0), (.int 3 0), (r 181), (.bool true), (.int 318 0), (r 182), .none, (r 183), (r 184), (r 185), (.int 562 0), (.int 89 0), (q "/claim/cut.py" 563)])
noncomputable def o246 : Obj := ob "function" (.func (fd [16, 5] "close" "BytesIO.close" 3 [] .none .none .none (q "io" 402) none (r 186) .none 0))
noncomputable def o247 : Obj := ob "tuple" (.seq #[] 0)
noncomputable def o248 : Obj := (Obj.mk .none none (Data.fields #[]) #[])
noncomputable def o249 : Obj := ob "tuple" (.seq #[(q "self" 568)] 0)
noncomputable def o250 : Obj := ob "tuple" (.seq #[] 0)
noncomputable def o251 : Obj := (Obj.mk .none none (Data.func (fd [16, 6] "__enter__" "BytesIO.__enter__" 0 [] .none .none .none .none none .none .none 0)) #[])
noncomputable def o252 : Obj := ob "code" (.fields #[(q "__enter__" 565), (q "BytesIO.__enter__" 566), (q "/claim/cut.py" 567), (.int 92 0), (.int 1 0), (.int 0 0), (.int 0 0), (.int 3 0), (r 188), (.bool true), (.int 318 0), (r 189), .none, (r 190), (r 191), (r 192), (.int 569 0), (.int 92 0), (q "/claim/cut.py" 570)])
noncomputable def o253 : Obj := ob "function" (.func (fd [16, 6] "__enter__" "BytesIO.__enter__" 3 [] .none .none .none (q "io" 402) none (r 193) .none 0))
noncomputable def o254 : Obj := ob "tuple" (.seq #[] 0)
noncomputable def o255 : Obj := (Obj.mk .none none (Data.fields #[]) #[])
noncomputable def o256 : Obj := ob "tuple" (.seq #[(q "self" 575), (q "args" 576)] 0)
noncomputable def o257 : Obj := ob "tuple" (.seq #[] 0)
noncomputable def o258 : Obj := (Obj.mk .none none (Data.func (fd [16, 7] "__exit__" "BytesIO.__exit__" 0 [] .none .none .none .none none .none .none 0)) #[])
noncomputable def o259 : Obj := ob "code" (.fields #[(q "__exit__" 572), (q "BytesIO.__exit__" 573), (q "/claim/cut.py" 574), (.int 96 0), (.int 1 0), (.int 0 0), (.int 0 0), (.int 7 0), (r 195), (.bool true), (.int 318 0), (r 196), .none, (r 197), (r 198), (r 199), (.int 577 0), (.int 96 0), (q "/claim/cut.py" 578)])
noncomputable def o260 : Obj := ob "function" (.func (fd [16, 7] "__exit__" "BytesIO.__exit__" 3 [] .none .none .none (q "io" 402) none (r 200) .none 0))
noncomputable def o261 : Obj := ob "tuple" (.seq #[] 0)
noncomputable def o262 : Obj := (Obj.mk .none none (Data.fields #[]) #[])
noncomputable def o263 : Obj := ob "tuple" (.seq #[(q "self" 583)] 0)
noncomputable def o264 : Obj := ob "tuple" (.seq #[] 0)
noncomputable def o265 : Obj := (Obj.mk .none none (Data.func (fd [16, 8] "readable" "BytesIO.readable" 0 [] .none .none .none .none none .none .none 0)) #[])
noncomputable def o266 : Obj := ob "code" (.fields #[(q "readable" 580), (q "BytesIO.readable" 581), (q "/claim/cut.py" 582), (.int 99 0), (.int 1 0), (.int 0 0), (.int 0 0), (.int 3 0), (r 202), (.bool true), (.int 318 0), (r 203), .none, (r 204), (r 205), (r 206), (.int 584 0), (.int 99 0), (q "/claim/cut.py" 585)])
noncomputable def o267 : Obj := ob "function" (.func (fd [16, 8] "readable" "BytesIO.readable" 3 [] .none .none .none (q "io" 402) none (r 207) .none 0))
noncomputable def o268 : Obj := ob "tuple" (.seq #[] 0)
noncomputable def o269 : Obj := (Obj.mk .none none (Data.fields #[]) #[])
noncomputable def o270 : Obj := ob "tuple" (.seq #[(q "self" 590)] 0)
noncomputable def o271 : Obj := ob "tuple" (.seq #[] 0)
noncomputable def o272 : Obj := (Obj.mk .none none (Data.func (fd [16, 9] "writable" "BytesIO.writable" 0 [] .none .none .none .none none .none .none 0)) #[])
noncomputable def o273 : Obj := ob "code" (.fields #[(q "writable" 587), (q "BytesIO.writable" 588), (q "/claim/cut.py" 589), (.int 103 0), (.int 1 0), (.int 0 0), (.int 0 0), (.int 3 0), (r 209), (.bool true), (.int 318 0), (r 210), .none, (r 211), (r 212), (r 213), (.int 591 0), (.int 103 0), (q "/claim/cut.py" 592)])
noncomputable def o274 : Obj := ob "function" (.func (fd [16, 9] "writable" "BytesIO.writable" 3 [] .none .none .none (q "io" 402) none (r 214) .none 0))
noncomputable def o275 : Obj := ob "tuple" (.seq #[] 0)
noncomputable def o276 : Obj := (Obj.mk .none none (Data.fields #[]) #[])
noncomputable def o277 : Obj := ob "tuple" (.seq #[(q "self" 597)] 0)
noncomputable def o278 : Obj := ob "tuple" (.seq #[] 0)
noncomputable def o279 : Obj := (Obj.mk .none none (Data.func (fd [16, 10] "seekable" "BytesIO.seekable" 0 [] .none .none .none .none none .none .none 0)) #[])
noncomputable def o280 : Obj := ob "code" (.fields #[(q "seekable" 594), (q "BytesIO.seekable" 595), (q "/claim/cut.py" 596), (.int 107 0), (.int 1 0), (.int 0 0), (.int 0 0), (.int 3 0), (r 216), (.bool true), (.int 318 0), (r 217), .none, (r 218), (r 219), (r 220), (.int 598 0), (.int 107 0), (q "/claim/cut.py" 599)])
noncomputable def o281 : Obj := ob "function" (.func (fd [16, 10] "seekable" "BytesIO.seekable" 3 [] .none .none .none (q "io" 402) none (r 221) .none 0))
noncomputable def o282 : Obj := ob "tuple" (.seq #[] 0)
noncomputable def o283 : Obj := (Obj.mk .none none (Data.fields #[]) #[])
noncomputable def o284 : Obj := ob "tuple" (.seq #[(q "self" 604)] 0)
noncomputable def o285 : Obj := ob "tuple" (.seq #[] 0)
noncomputable def o286 : Obj := (Obj.mk .none none (Data.func (fd [16, 11] "isatty" "BytesIO.isatty" 0 [] .none .none .none .none none .none .none 0)) #[])
noncomputable def o287 : Obj := ob "code" (.fields #[(q "isatty" 601), (q "BytesIO.isatty" 602), (q "/claim/cut.py" 603), (.int 111 0), (.int 1 0), (.int 0 0), (.int 0 0), (.int 3 0), (r 223), (.bool true), (.int 318 0), (r 224), .none, (r 225), (r 226), (r 227), (.int 605 0), (.int 111 0), (q "/claim/cut.py" 606)])
noncomputable def o288 : Obj := ob "function" (.func (fd [16, 11] "isatty" "BytesIO.isatty" 3 [] .none .none .none (q "io" 402) none (r 228) .none 0))
noncomputable def o289 : Obj := ob "tuple" (.seq #[] 0)
noncomputable def o290 : Obj := (Obj.mk .none none (Data.fields #[]) #[])
noncomputable def o291 : Obj := ob "tuple" (.seq #[(q "self" 611)] 0)
noncomputable def o292 : Obj := ob "tuple" (.seq #[] 0)
noncomputable def o293 : Obj := (Obj.mk .none none (Data.func (fd [16, 12] "flush" "BytesIO.flush" 0 [] .none .none .none .none none .none .none 0)) #[])
noncomputable def o294 : Obj := ob "code" (.fields #[(q "flush" 608), (q "BytesIO.flush" 609), (q "/claim/cut.py" 610), (.int 115 0), (.int 1 0), (.int 0 0), (.int 0 0), (.int 3 0), (r 230), (.bool true), (.int 318 0), (r 231), .none, (r 232), (r 233), (r 234), (.int 612 0), (.int 115 0), (q "/claim/cut.py" 613)])
noncomputable def o295 : Obj := ob "function" (.func (fd [16, 12] "flush" "BytesIO.flush" 3 [] .none .none .none (q "io" 402) none (r 235) .none 0))
noncomputable def o296 : Obj := ob "tuple" (.seq #[] 0)
noncomputable def o297 : Obj := (Obj.mk .none none (Data.fields #[]) #[])
noncomputable def o298 : Obj := ob "tuple" (.seq #[(q "self" 618)] 0)
noncomputable def o299 : Obj := ob "tuple" (.seq #[] 0)
noncomputable def o300 : Obj := (Obj.mk .none none (Data.func (fd [16, 13] "fileno" "BytesIO.fileno" 0 [] .none .none .none .none none .none .none 0)) #[])
noncomputable def o301 : Obj := ob "code" (.fields #[(q "fileno" 615), (q "BytesIO.fileno" 616), (q "/claim/cut.py" 617), (.int 118 0), (.int 1 0), (.int 0 0), (.int 0 0), (.int 3 0), (r 237), (.bool true), (.int 318 0), (r 238), .none, (r 239), (r 240), (r 241), (.int 619 0), (.int 118 0), (q "/claim/cut.py" 620)])
noncomputable def o302 : Obj := ob "function" (.func (fd [16, 13] "fileno" "BytesIO.fileno" 3 [] .none .none .none (q "io" 402) none (r 242) .none 0))
noncomputable def o303 : Obj := ob "tuple" (.seq #[] 0)
noncomputable def o304 : Obj := (Obj.mk .none none (Data.fields #[]) #[])
noncomputable def o305 : Obj := ob "tuple" (.seq #[(q "self" 625)] 0)
noncomputable def o306 : Obj := ob "tuple" (.seq #[] 0)
noncomputable def o307 : Obj := (Obj.mk .none none (Data.func (fd [16, 14] "detach" "BytesIO.detach" 0 [] .none .none .none .none none .none .none 0)) #[])
noncomputable def o308 : Obj := ob "code" (.fields #[(q "detach" 622), (q "BytesIO.detach" 623), (q "/claim/cut.py" 624), (.int 121 0), (.int 1 0), (.int 0 0), (.int 0 0), (.int 3 0), (r 244), (.bool true), (.int 318 0), (r 245), .none, (r 246), (r 247), (r 248), (.int 626 0), (.int 121 0), (q "/claim/cut.py" 627)])
noncomputable def o309 : Obj := ob "function" (.func (fd [16, 14] "detach" "BytesIO.detach" 3 [] .none .none .none (q "io" 402) none (r 249) .none 0))
noncomputable def o310 : Obj := ob "tuple" (.seq #[] 0)
noncomputable def o311 : Obj := (Obj.mk .none none (Data.fields #[]) #[])
noncomputable def o312 : Obj := ob "tuple" (.seq #[(q "self" 632)] 0)
noncomputable def o313 : Obj := ob "tuple" (.seq #[] 0)
noncomputable def o314 : Obj := (Obj.mk .none none (Data.func (fd [16, 15] "getvalue" "BytesIO.getvalue" 0 [] .none .none .none .none none .none .none 0)) #[])
noncomputable def o315 : Obj := ob "code" (.fields #[(q "getvalue" 629), (q "BytesIO.getvalue" 630), (q "/claim/cut.py" 631), (.int 124 0), (.int 1 0), (.int 0 0), (.int 0 0), (.int 3 0), (r 251), (.bool true), (.int 318 0), (r 252), .none, (r 253), (r 254), (r 255), (.int 633 0), (.int 124 0), (q "/claim/cut.py" 634)])
noncomputable def o316 : Obj := ob "function" (.func (fd [16, 15] "getvalue" "BytesIO.getvalue" 3 [] .none .none .none (q "io" 402) none (r 256) .none 0))
noncomputable def o317 : Obj := ob "tuple" (.seq #[] 0)
noncomputable def o318 : Obj := (Obj.mk .none none (Data.fields #[]) #[])
noncomputable def o319 : Obj := ob "tuple" (.seq #[(q "self" 639)] 0)
noncomputable def o320 : Obj := ob "tuple" (.seq #[] 0)
noncomputable def o321 : Obj := (Obj.mk .none none (Data.func (fd [16, 16] "getbuffer" "BytesIO.getbuffer" 0 [] .none .none .none .none none .none .none 0)) #[])
noncomputable def o322 : Obj := ob "code" (.fields #[(q "getbuffer" 636), (q "BytesIO.getbuffer" 637), (q "/claim/cut.py" 638), (.int 127 0), (.int 1 0), (.int 0 0), (.int 0 0), (.int 3 0), (r 258), (.bool true), (.int 318 0), (r 259), .none, (r 260), (r 261), (r 262), (.int 640 0), (.int 127 0), (q "/claim/cut.py" 641)])
noncomputable def o323 : Obj := ob "function" (.func (fd [16, 16] "getbuffer" "BytesIO.getbuffer" 3 [] .none .none .none (q "io" 402) none (r 263) .none 0))
noncomputable def o324 : Obj := ob "tuple" (.seq #[] 0)
noncomputable def o325 : Obj := (Obj.mk .none none (Data.fields #[]) #[])
noncomputable def o326 : Obj := ob "tuple" (.seq #[(q "self" 646)] 0)
noncomputable def o327 : Obj := ob "tuple" (.seq #[] 0)
noncomputable def o328 : Obj := (Obj.mk .none none (Data.func (fd [16, 17] "tell" "BytesIO.tell" 0 [] .none .none .none .none none .none .none 0)) #[])
noncomputable def o329 : Obj := ob "code" (.fields #[(q "tell" 643), (q "BytesIO.tell" 644), (q "/claim/cut.py" 645), (.int 130 0), (.int 1 0), (.int 0 0), (.int 0 0), (.int 3 0), (r 265), (.bool true), (.int 318 0), (r 266), .none, (r 267), (r 268), (r 269), (.int 647 0), (.int 130 0), (q "/claim/cut.py" 648)])
noncomputable def o330 : Obj := ob "function" (.func (fd [16, 17] "tell" "BytesIO.tell" 3 [] .none .none .none (q "io" 402) none (r 270) .none 0))
noncomputable def o331 : Obj := ob "tuple" (.seq #[(.int 0 650)] 0)
noncomputable def o332 : Obj := ob "tuple" (.seq #[] 0)
noncomputable def o333 : Obj := (Obj.mk .none none (Data.fields #[]) #[])
noncomputable def o334 : Obj := ob "tuple" (.seq #[(q "self" 654), (q "pos" 655), (q "whence" 656)] 0)
noncomputable def o335 : Obj := ob "tuple" (.seq #[] 0)
noncomputable def o336 : Obj := (Obj.mk .none none (Data.func (fd [16, 18] "seek" "BytesIO.seek" 0 [] .none .none .none .none none .none .none 0)) #[])
noncomputable def o337 : Obj := ob "code" (.fields #[(q "seek" 651), (q "BytesIO.seek" 652), (q "/claim/cut.py" 653), (.int 134 0), (.int 3 0), (.int 3 0), (.int 0 0), (.int 3 0), (r 273), (.bool true), (.int 318 0), (r 274), .none, (r 275), (r 276), (r 277), (.int 657 0), (.int 134 0), (q "/claim/cut.py" 658)])
noncomputable def o338 : Obj := ob "function" (.func (fd [16, 18] "seek" "BytesIO.seek" 3 [] (r 272) .none .none (q "io" 402) none (r 278) .none 0))
noncomputable def o339 : Obj := ob "tuple" (.seq #[.none] 0)
noncomputable def o340 : Obj := ob "tuple" (.seq #[] 0)
noncomputable def o341 : Obj := (Obj.mk .none none (Data.fields #[]) #[])
noncomputable def o342 : Obj := ob "tuple" (.seq #[(q "self" 663), (q "size" 664)] 0)
noncomputable def o343 : Obj := ob "tuple" (.seq #[] 0)
noncomputable def o344 : Obj := (Obj.mk .none none (Data.func (fd [16, 19] "truncate" "BytesIO.truncate" 0 [] .none .none .none .none none .none .none 0)) #[])
noncomputable def o345 : Obj := ob "code" (.fields #[(q "truncate" 660), (q "BytesIO.truncate" 661), (q "/claim/cut.py" 662), (.int 151 0), (.int 2 0), (.int 2 0), (.int 0 0), (.int 3 0), (r 281), (.bool true), (.int 318 0), (r 282), .none, (r 283), (r 284), (r 285), (.int 665 0), (.int 151 0), (q "/claim/cut.py" 666)])
noncomputable def o346 : Obj := ob "function" (.func (fd [16, 19] "truncate" "BytesIO.truncate" 3 [] (r 280) .none .none (q "io" 402) none (r 286) .none 0))
noncomputable def o347 : Obj := ob "tuple" (.seq #[(.int (-1) 669)] 0)
noncomputable def o348 : Obj := ob "tuple" (.seq #[] 0)
noncomputable def o349 : Obj := (Obj.mk .none none (Data.fields #[]) #[])
noncomputable def o350 : Obj := ob "tuple" (.seq #[(q "self" 673), (q "size" 674), (q "start" 675), (q "stop" 676)] 0)
noncomputable def o351 : Obj := ob "tuple" (.seq #[] 0)
noncomputable def o352 : Obj := (Obj.mk .none none (Data.func (fd [16, 20] "read" "BytesIO.read" 0 [] .none .none .none .none none .none .none 0)) #[])
noncomputable def o353 : Obj := ob "code" (.fields #[(q "read" 670), (q "BytesIO.read" 671), (q "/claim/cut.py" 672), (.int 154 0), (.int 2 0), (.int 2 0), (.int 0 0), (.int 3 0), (r 289), (.bool true), (.int 318 0), (r 290), .none, (r 291), (r 292), (r 293), (.int 677 0), (.int 154 0), (q "/claim/cut.py" 678)])
noncomputable def o354 : Obj := ob "function" (.func (fd [16, 20] "read" "BytesIO.read" 3 [] (r 288) .none .none (q "io" 402) none (r 294) .none 0))
noncomputable def o355 : Obj := ob "tuple" (.seq #[(.int (-1) 681)] 0)
noncomputable def o356 : Obj := ob "tuple" (.seq #[] 0)
noncomputable def o357 : Obj := (Obj.mk .none none (Data.fields #[]) #[])
noncomputable def o358 : Obj := ob "tuple" (.seq #[(q "self" 685), (q "size" 686)] 0)
noncomputable def o359 : Obj := ob "tuple" (.seq #[] 0)
noncomputable def o360 : Obj := (Obj.mk .none none (Data.func (fd [16, 21] "read1" "BytesIO.read1" 0 [] .none .none .none .none none .none .none 0)) #[])
noncomputable def o361 : Obj := ob "code" (.fields #[(q "read1" 682), (q "BytesIO.read1" 683), (q "/claim/cut.py" 684), (.int 168 0), (.int 2 0), (.int 2 0), (.int 0 0), (.int 3 0), (r 297), (.bool true), (.int 318 0), (r 298), .none, (r 299), (r 300), (r 301), (.int 687 0), (.int 168 0), (q "/claim/cut.py" 688)])
noncomputable def o362 : Obj := ob "function" (.func (fd [16, 21] "read1" "BytesIO.read1" 3 [] (r 296) .none .none (q "io" 402) none (r 302) .none 0))
noncomputable def o363 : Obj := ob "tuple" (.seq #[] 0)
noncomputable def o364 : Obj := (Obj.mk .none none (Data.fields #[]) #[])
noncomputable def o365 : Obj := ob "tuple" (.seq #[(q "self" 693), (q "buffer" 694), (q "start" 695), (q "n" 696)] 0)
noncomputable def o366 : Obj := ob "tuple" (.seq #[] 0)
noncomputable def o367 : Obj := (Obj.mk .none none (Data.func (fd [16, 22] "readinto" "BytesIO.readinto" 0 [] .none .none .none .none none .none .none 0)) #[])
noncomputable def o368 : Obj := ob "code" (.fields #[(q "readinto" 690), (q "BytesIO.readinto" 691), (q "/claim/cut.py" 692), (.int 171 0), (.int 2 0), (.int 2 0), (.int 0 0), (.int 3 0), (r 304), (.bool true), (.int 318 0), (r 305), .none, (r 306), (r 307), (r 308), (.int 697 0), (.int 171 0), (q "/claim/cut.py" 698)])
noncomputable def o369 : Obj := ob "function" (.func (fd [16, 22] "readinto" "BytesIO.readinto" 3 [] .none .none .none (q "io" 402) none (r 309) .none 0))
noncomputable def o370 : Obj := ob "tuple" (.seq #[] 0)
noncomputable def o371 : Obj := (Obj.mk .none none (Data.fields #[]) #[])
noncomputable def o372 : Obj := ob "tuple" (.seq #[(q "self" 703), (q "buffer" 704)] 0)
noncomputable def o373 : Obj := ob "tuple" (.seq #[] 0)
noncomputable def o374 : Obj := (Obj.mk .none none (Data.func (fd [16, 23] "readinto1" "BytesIO.readinto1" 0 [] .none .none .none .none none .none .none 0)) #[])
noncomputable def o375 : Obj := ob "code" (.fields #[(q "readinto1" 700), (q "BytesIO.readinto1" 701), (q "/claim/cut.py" 702), (.int 185 0), (.int 2 0), (.int 2 0), (.int 0 0), (.int 3 0), (r 311), (.bool true), (.int 318 0), (r 312), .none, (r 313), (r 314), (r 315), (.int 705 0), (.int 185 0), (q "/claim/cut.py" 706)])
noncomputable def o376 : Obj := ob "function" (.func (fd [16, 23] "readinto1" "BytesIO.readinto1" 3 [] .none .none .none (q "io" 402) none (r 316) .none 0))
noncomputable def o377 : Obj := ob "tuple" (.seq #[(.int (-1) 709)] 0)
noncomputable def o378 : Obj := ob "tuple" (.seq #[] 0)
noncomputable def o379 : Obj := (Obj.mk .none none (Data.fields #[]) #[])
noncomputable def o380 : Obj := ob "tuple" (.seq #[(q "self" 713), (q "size" 714)] 0)
noncomputable def o381 : Obj := ob "tuple" (.seq #[] 0)
noncomputable def o382 : Obj := (Obj.mk .none none (Data.func (fd [16, 24] "readline" "BytesIO.readline" 0 [] .none .none .none .none none .none .none 0)) #[])
noncomputable def o383 : Obj := ob "code" (.fields #[(q "readline" 710), (q "BytesIO.readline" 711), (q "/claim/cut.py" 712), (.int 188 0), (.int 2 0), (.int 2 0), (.int 0 0), (.int 3 0), (r 319), (.bool true), (.int 318 0), (r 320), .none, (r 321), (r 322), (r 323), (.int 715 0), (.int 188 0), (q "/claim/cut.py" 716)])
noncomputable def o384 : Obj := ob "function" (.func (fd [16, 24] "readline" "BytesIO.readline" 3 [] (r 318) .none .none (q "io" 402) none (r 324) .none 0))
noncomputable def o385 : Obj := ob "tuple" (.seq #[.none] 0)
noncomputable def o386 : Obj := ob "tuple" (.seq #[] 0)
noncomputable def o387 : Obj := (Obj.mk .none none (Data.fields #[]) #[])
noncomputable def o388 : Obj := ob "tuple" (.seq #[(q "self" 721), (q "size" 722)] 0)
noncomputable def o389 : Obj := ob "tuple" (.seq #[] 0)
noncomputable def o390 : Obj := (Obj.mk .none none (Data.func (fd [16, 25] "readlines" "BytesIO.readlines" 0 [] .none .none .none .none none .none .none 0)) #[])
noncomputable def o391 : Obj := ob "code" (.fields #[(q "readlines" 718), (q "BytesIO.readlines" 719), (q "/claim/cut.py" 720), (.int 195 0), (.int 2 0), (.int 2 0), (.int 0 0), (.int 3 0), (r 327), (.bool true), (.int 318 0), (r 328), .none, (r 329), (r 330), (r 331), (.int 723 0), (.int 195 0), (q "/claim/cut.py" 724)])
noncomputable def o392 : Obj := ob "function" (.func (fd [16, 25] "readlines" "BytesIO.readlines" 3 [] (r 326) .none .none (q "io" 402) none (r 332) .none 0))
noncomputable def o393 : Obj := ob "tuple" (.seq #[] 0)
noncomputable def o394 : Obj := (Obj.mk .none none (Data.fields #[]) #[])
noncomputable def o395 : Obj := ob "tuple" (.seq #[(q "self" 729)] 0)
noncomputable def o396 : Obj := ob "tuple" (.seq #[] 0)
noncomputable def o397 : Obj := (Obj.mk .none none (Data.func (fd [16, 26] "__iter__" "BytesIO.__iter__" 0 [] .none .none .none .none none .none .none 0)) #[])
noncomputable def o398 : Obj := ob "code" (.fields #[(q "__iter__" 726), (q "BytesIO.__iter__" 727), (q "/claim/cut.py" 728), (.int 198 0), (.int 1 0), (.int 0 0), (.int 0 0), (.int 3 0), (r 334), (.bool true), (.int 318 0), (r 335), .none, (r 336), (r 337), (r 338), (.int 730 0), (.int 198 0), (q "/claim/cut.py" 731)])
noncomputable def o399 : Obj := ob "function" (.func (fd [16, 26] "__iter__" "BytesIO.__iter__" 3 [] .none .none .none (q "io" 402) none (r 339) .none 0))
noncomputable def o400 : Obj := ob "tuple" (.seq #[] 0)
noncomputable def o401 : Obj := (Obj.mk .none none (Data.fields #[]) #[])
noncomputable def o402 : Obj := ob "tuple" (.seq #[(q "self" 736), (q "line" 737)] 0)
noncomputable def o403 : Obj := ob "tuple" (.seq #[] 0)
noncomputable def o404 : Obj := (Obj.mk .none none (Data.func (fd [16, 27] "__next__" "BytesIO.__next__" 0 [] .none .none .none .none none .none .none 0)) #[])
noncomputable def o405 : Obj := ob "code" (.fields #[(q "__next__" 733), (q "BytesIO.__next__" 734), (q "/claim/cut.py" 735), (.int 201 0), (.int 1 0), (.int 0 0), (.int 0 0), (.int 3 0), (r 341), (.bool true), (.int 318 0), (r 342), .none, (r 343), (r 344), (r 345), (.int 738 0), (.int 201 0), (q "/claim/cut.py" 739)])
noncomputable def o406 : Obj := ob "function" (.func (fd [16, 27] "__next__" "BytesIO.__next__" 3 [] .none .none .none (q "io" 402) none (r 346) .none 0))
noncomputable def o407 : Obj := ob "tuple" (.seq #[] 0)
noncomputable def o408 : Obj := (Obj.mk .none none (Data.fields #[]) #[])
noncomputable def o409 : Obj := ob "tuple" (.seq #[(q "self" 744), (q "b" 745), (q "n" 746), (q "start" 747)] 0)
noncomputable def o410 : Obj := ob "tuple" (.seq #[] 0)
noncomputable def o411 : Obj := (Obj.mk .none none (Data.func (fd [16, 28] "write" "BytesIO.write" 0 [] .none .none .none .none none .none .none 0)) #[])
noncomputable def o412 : Obj := ob "code" (.fields #[(q "write" 741), (q "BytesIO.write" 742), (q "/claim/cut.py" 743), (.int 208 0), (.int 2 0), (.int 2 0), (.int 0 0), (.int 3 0), (r 348), (.bool true), (.int 318 0), (r 349), .none, (r 350), (r 351), (r 352), (.int 748 0), (.int 208 0), (q "/claim/cut.py" 749)])
noncomputable def o413 : Obj := ob "function" (.func (fd [16, 28] "write" "BytesIO.write" 3 [] .none .none .none (q "io" 402) none (r 353) .none 0))
noncomputable def o414 : Obj := ob "tuple" (.seq #[] 0)
noncomputable def o415 : Obj := (Obj.mk .none none (Data.fields #[]) #[])
noncomputable def o416 : Obj := ob "tuple" (.seq #[(q "self" 754), (q "lines" 755)] 0)
noncomputable def o417 : Obj := ob "tuple" (.seq #[] 0)
noncomputable def o418 : Obj := (Obj.mk .none none (Data.func (fd [16, 29] "writelines" "BytesIO.writelines" 0 [] .none .none .none .none none .none .none 0)) #[])
noncomputable def o419 : Obj := ob "code" (.fields #[(q "writelines" 751), (q "BytesIO.writelines" 752), (q "/claim/cut.py" 753), (.int 224 0), (.int 2 0), (.int 2 0), (.int 0 0), (.int 3 0), (r 355), (.bool true), (.int 318 0), (r 356), .none, (r 357), (r 358), (r 359), (.int 756 0), (.int 224 0), (q "/claim/cut.py" 757)])
noncomputable def o420 : Obj := ob "function" (.func (fd [16, 29] "writelines" "BytesIO.writelines" 3 [] .none .none .none (q "io" 402) none (r 360) .none 0))
noncomputable def o421 : Obj := ob "tuple" (.seq #[] 0)
noncomputable def o422 : Obj := (Obj.mk .none none (Data.fields #[]) #[])
noncomputable def o423 : Obj := ob "tuple" (.seq #[(q "self" 762)] 0)
noncomputable def o424 : Obj := ob "tuple" (.seq #[] 0)
noncomputable def o425 : Obj := (Obj.mk .none none (Data.func (fd [16, 30] "__repr__" "BytesIO.__repr__" 0 [] .none .none .none .none none .none .none 0)) #[])
noncomputable def o426 : Obj := ob "code" (.fields #[(q "__repr__" 759), (q "BytesIO.__repr__" 760), (q "/claim/cut.py" 761), (.int 227 0), (.int 1 0), (.int 0 0), (.int 0 0), (.int 3 0), (r 362), (.bool true), (.int 318 0), (r 363), .none, (r 364), (r 365), (r 366), (.int 763 0), (.int 227 0), (q "/claim/cut.py" 764)])
noncomputable def o427 : Obj := ob "function" (.func (fd [16, 30] "__repr__" "BytesIO.__repr__" 3 [] .none .none .none (q "io" 402) none (r 367) .none 0))
noncomputable def o428 : Obj := ob "tuple" (.seq #[(q "__buf" 766), (q "__pos" 767)] 0)
noncomputable def o429 (P : Params) : Obj := ob "dict" (.dict #[(de P "__module__" 517 (q "_io" 522)), (de P "__firstlineno__" 521 (.int 59 520)), (de P "__init__" 531 (r 158)), (de P "_BytesIO__check" 538 (r 165)), (de P "_BytesIO__line" 549 (r 172)), (de P "closed" 557 (r 180)), (de P "close" 564 (r 187)), (de P "__enter__" 571 (r 194)), (de P "__exit__" 579 (r 201)), (de P "readable" 586 (r 208)), (de P "writable" 593 (r 215)), (de P "seekable" 600 (r 222)), (de P "isatty" 607 (r 229)), (de P "flush" 614 (r 236)), (de P "fileno" 621 (r 243)), (de P "detach" 628 (r 250)), (de P "getvalue" 635 (r 257)), (de P "getbuffer" 642 (r 264)), (de P "tell" 649 (r 271)), (de P "seek" 659 (r 279)), (de P "truncate" 667 (r 287)), (de P "read" 679 (r 295)), (de P "read1" 689 (r 303)), (de P "readinto" 699 (r 310)), (de P "readinto1" 707 (r 317)), (de P "readline" 717 (r 325)), (de P "readlines" 725 (r 333)), (de P "__iter__" 732 (r 340)), (de P "__next__" 740 (r 347)), (de P "write" 750 (r 354)), (de P "writelines" 758 (r 361)), (de P "__repr__" 765 (r 368)), (de P "__static_attributes__" 768 (r 369)), (de P "__doc__" 769 .none)] 2)
noncomputable def o430 : Obj := (Obj.mk (ty "type") none (Data.cls (ClassData.mk "BytesIO" [(r 129)] [(r 371), (r 129), (r 114), (ty "object")] 370 "BytesIO" true [] [] false none false)) #[(some (r 144)), none, (some (q "BytesIO" 510)), (some (q "BytesIO" 518)), (some .none), (some (.bool true))])
noncomputable def o431 : Obj := ob "super" (.fields #[(r 371), (r 371), (r 371)])
noncomputable def o432 : Obj := ob "builtin_function_or_method" (.fields #[(bi "object.__init_subclass__"), (r 371)])
noncomputable def o606 : Obj := ob "tuple" (.seq #[(r 141)] 0)
noncomputable def o607 : Obj := ob "builtin_function_or_method" (.fields #[(bi "type.__prepare__"), (ty "type")])
noncomputable def o608 (P : Params) : Obj := ob "dict" (.dict #[(de P "__module__" 779 (q "_io" 784)), (de P "__qualname__" 781 (q "StringIO" 780)), (de P "__firstlineno__" 783 (.int 229 782)), (de P "__init__" 796 (r 388)), (de P "_StringIO__translated" 805 (r 395)), (de P "_StringIO__check" 812 (r 402)), (de P "_StringIO__check_dot" 819 (r 409)), (de P "_StringIO__line" 834 (r 416)), (de P "closed" 842 (r 424)), (de P "line_buffering" 850 (r 432)), (de P "newlines" 858 (r 440)), (de P "encoding" 866 (r 448)), (de P "errors" 874 (r 456)), (de P "close" 881 (r 463)), (de P "__enter__" 888 (r 470)), (de P "__exit__" 896 (r 477)), (de P "readable" 903 (r 484)), (de P "writable" 910 (r 491)), (de P "seekable" 917 (r 498)), (de P "isatty" 924 (r 505)), (de P "flush" 931 (r 512)), (de P "fileno" 938 (r 519)), (de P "detach" 945 (r 526)), (de P "getvalue" 952 (r 533)), (de P "tell" 959 (r 540)), (de P "seek" 969 (r 548)), (de P "truncate" 977 (r 556)), (de P "read" 989 (r 564)), (de P "readline" 999 (r 572)), (de P "readlines" 1009 (r 580)), (de P "__iter__" 1016 (r 587)), (de P "__next__" 1024 (r 594)), (de P "write" 1036 (r 601)), (de P "writelines" 1044 (r 608)), (de P "__repr__" 1051 (r 615)), (de P "__static_attributes__" 1055 (r 616))] 36)
noncomputable def o609 : Obj := ob "tuple" (.seq #[] 0)
noncomputable def o610 : Obj := (Obj.mk .none none (Data.fields #[(.int 232 0), (.int 4 0), (r 387), (.int 245 0), (.int 4 0), (r 394), (.int 253 0), (.int 4 0), (r 401), (.int 257 0), (.int 4 0), (r 408), (.int 261 0), (.int 4 0), (r 415), (.int 294 0), (.int 4 0), (r 422), (.int 298 0), (.int 4 0), (r 430), (.int 302 0), (.int 4 0), (r 438), (.int 306 0), (.int 4 0), (r 446), (.int 310 0), (.int 4 0), (r 454), (.int 313 0), (.int 4 0), (r 462), (.int 316 0), (.int 4 0), (r 469), (.int 320 0), (.int 4 0), (r 476), (.int 323 0), (.int 4 0), (r 483), (.int 327 0), (.int 4 0), (r 490), (.int 331 0), (.int 4 0), (r 497), (.int 335 0), (.int 4 0), (r 504), (.int 339 0), (.int 4 0), (r 511), (.int 342 0), (.int 4 0), (r 518), (.int 345 0), (.int 4 0), (r 525), (.int 348 0), (.int 4 0), (r 532), (.int 351 0), (.int 4 0), (r 539), (.int 355 0), (.int 4 0), (r 547), (.int 372 0), (.int 4 0), (r 555), (.int 375 0), (.int 4 0), (r 563), (.int 389 0), (.int 4 0), (r 571), (.int 396 0), (.int 4 0), (r 579), (.int 399 0), (.int 4 0), (r 586), (.int 403 0), (.int 4 0), (r 593), (.int 410 0), (.int 4 0), (r 600), (.int 429 0), (.int 4 0), (r 607), (.int 432 0), (.int 4 0), (r 614)]) #[])
noncomputable def o611 : Obj := ob "code" (.fields #[(q "StringIO" 774), (q "StringIO" 775), (q "/claim/cut.py" 776), (.int 229 0), (.int 0 0), (.int 0 0), (.int 0 0), (.int 0 0), (r 377), (.bool false), (.int 318 0), (r 378), .none, .none, .none, .none, (.int 777 0), (.int 229 0), (q "/claim/cut.py" 778)])
noncomputable def o612 : Obj := (Obj.mk (ty "frame") none Data.plain #[(some (r 379)), (some (r 3)), (some (r 376)), none, (some (q "io" 402)), none, (some (r 0))])
noncomputable def o613 : Obj := ob "tuple" (.seq #[(q "" 786), (q "\n" 787)] 0)
noncomputable def o614 : Obj := ob "tuple" (.seq #[] 0)
noncomputable def o615 : Obj := (Obj.mk .none none (Data.fields #[]) #[])
noncomputable def o616 : Obj := ob "tuple" (.seq #[(q "self" 791), (q "initial_value" 792), (q "newline" 793)] 0)
noncomputable def o617 : Obj := ob "tuple" (.seq #[] 0)
noncomputable def o618 : Obj := (Obj.mk .none none (Data.func (fd [17, 1] "__init__" "StringIO.__init__" 0 [] .none .none .none .none none .none .none 0)) #[])
noncomputable def o619 : Obj := ob "code" (.fields #[(q "__init__" 788), (q "StringIO.__init__" 789), (q "/claim/cut.py" 790), (.int 232 0), (.int 3 0), (.int 0 0), (.int 0 0), (.int 3 0), (r 382), (.bool true), (.int 318 0), (r 383), .none, (r 384), (r 385), (r 386), (.int 794 0), (.int 232 0), (q "/claim/cut.py" 795)])
noncomputable def o620 : Obj := ob "function" (.func (fd [17, 1] "__init__" "StringIO.__init__" 3 [] (r 381) .none .none (q "io" 402) none (r 387) .none 0))
noncomputable def o621 : Obj := ob "tuple" (.seq #[] 0)
noncomputable def o622 : Obj := (Obj.mk .none none (Data.fields #[]) #[])
noncomputable def o623 : Obj := ob "tuple" (.seq #[(q "self" 800), (q "s" 801), (q "newline" 802)] 0)
noncomputable def o624 : Obj := ob "tuple" (.seq #[] 0)
noncomputable def o625 : Obj := (Obj.mk .none none (Data.func (fd [17, 2] "__translated" "StringIO.__translated" 0 [] .none .none .none .none none .none .none 0)) #[])
noncomputable def o626 : Obj := ob "code" (.fields #[(q "__translated" 797), (q "StringIO.__translated" 798), (q "/claim/cut.py" 799), (.int 245 0), (.int 2 0), (.int 0 0), (.int 0 0), (.int 3 0), (r 389), (.bool true), (.int 318 0), (r 390), .none, (r 391), (r 392), (r 393), (.int 803 0), (.int 245 0), (q "/claim/cut.py" 804)])
noncomputable def o627 : Obj := ob "function" (.func (fd [17, 2] "__translated" "StringIO.__translated" 3 [] .none .none .none (q "io" 402) none (r 394) .none 0))
noncomputable def o628 : Obj := ob "tuple" (.seq #[] 0)
noncomputable def o629 : Obj := (Obj.mk .none none (Data.fields #[]) #[])
noncomputable def o630 : Obj := ob "tuple" (.seq #[(q "self" 809)] 0)
noncomputable def o631 : Obj := ob "tuple" (.seq #[] 0)
noncomputable def o632 : Obj := (Obj.mk .none none (Data.func (fd [17, 3] "__check" "StringIO.__check" 0 [] .none .none .none .none none .none .none 0)) #[])
noncomputable def o633 : Obj := ob "code" (.fields #[(q "__check" 806), (q "StringIO.__check" 807), (q "/claim/cut.py" 808), (.int 253 0), (.int 1 0), (.int 0 0), (.int 0 0), (.int 3 0), (r 396), (.bool true), (.int 318 0), (r 397), .none, (r 398), (r 399), (r 400), (.int 810 0), (.int 253 0), (q "/claim/cut.py" 811)])
noncomputable def o634 : Obj := ob "function" (.func (fd [17, 3] "__check" "StringIO.__check" 3 [] .none .none .none (q "io" 402) none (r 401) .none 0))
noncomputable def o635 : Obj := ob "tuple" (.seq #[] 0)
noncomputable def o636 : Obj := (Obj.mk .none none (Data.fields #[]) #[])
noncomputable def o637 : Obj := ob "tuple" (.seq #[(q "self" 816)] 0)
noncomputable def o638 : Obj := ob "tuple" (.seq #[] 0)
noncomputable def o639 : Obj := (Obj.mk .none none (Data.func (fd [17, 4] "__check_dot" "StringIO.__check_dot" 0 [] .none .none .none .none none .none .none 0)) #[])
noncomputable def o640 : Obj := ob "code" (.fields #[(q "__check_dot" 813), (q "StringIO.__check_dot" 814), (q "/claim/cut.py" 815), (.int 257 0), (.int 1 0), (.int 0 0), (.int 0 0), (.int 3 0), (r 403), (.bool true), (.int 318 0), (r 404), .none, (r 405), (r 406), (r 407), (.int 817 0), (.int 257 0), (q "/claim/cut.py" 818)])
noncomputable def o641 : Obj := ob "function" (.func (fd [17, 4] "__check_dot" "StringIO.__check_dot" 3 [] .none .none .none (q "io" 402) none (r 408) .none 0))
noncomputable def o642 : Obj := ob "tuple" (.seq #[] 0)
noncomputable def o643 : Obj := (Obj.mk .none none (Data.fields #[]) #[])
noncomputable def o644 : Obj := ob "tuple" (.seq #[(q "self" 823), (q "limit" 824), (q "start" 825), (q "stop" 826), (q "cut" 827), (q "newline" 828), (q "i" 829), (q "j" 830), (q "end" 831)] 0)
noncomputable def o645 : Obj := ob "tuple" (.seq #[] 0)
noncomputable def o646 : Obj := (Obj.mk .none none (Data.func (fd [17, 5] "__line" "StringIO.__line" 0 [] .none .none .none .none none .none .none 0)) #[])
noncomputable def o647 : Obj := ob "code" (.fields #[(q "__line" 820), (q "StringIO.__line" 821), (q "/claim/cut.py" 822), (.int 261 0), (.int 2 0), (.int 0 0), (.int 0 0), (.int 3 0), (r 410), (.bool true), (.int 318 0), (r 411), .none, (r 412), (r 413), (r 414), (.int 832 0), (.int 261 0), (q "/claim/cut.py" 833)])
noncomputable def o648 : Obj := ob "function" (.func (fd [17, 5] "__line" "StringIO.__line" 3 [] .none .none .none (q "io" 402) none (r 415) .none 0))
noncomputable def o649 : Obj := ob "tuple" (.seq #[] 0)
noncomputable def o650 : Obj := (Obj.mk .none none (Data.fields #[]) #[])
noncomputable def o651 : Obj := ob "tuple" (.seq #[(q "self" 838)] 0)
noncomputable def o652 : Obj := ob "tuple" (.seq #[] 0)
noncomputable def o653 : Obj := (Obj.mk .none none (Data.func (fd [17, 6] "closed" "StringIO.closed" 0 [] .none .none .none .none none .none .none 0)) #[])
noncomputable def o654 : Obj := ob "code" (.fields #[(q "closed" 835), (q "StringIO.closed" 836), (q "/claim/cut.py" 837), (.int 293 0), (.int 1 0), (.int 0 0), (.int 0 0), (.int 3 0), (r 417), (.bool true), (.int 318 0), (r 418), .none, (r 419), (r 420), (r 421), (.int 839 0), (.int 293 0), (q "/claim/cut.py" 840)])
noncomputable def o655 : Obj := ob "function" (.func (fd [17, 6] "closed" "StringIO.closed" 3 [] .none .none .none (q "io" 402) none (r 422) .none 0))
noncomputable def o656 : Obj := ob "property" (.fields #[(r 423), .none, .none, .none, (q "closed" 842), (.bool false)])
noncomputable def o657 : Obj := ob "tuple" (.seq #[] 0)
noncomputable def o658 : Obj := (Obj.mk .none none (Data.fields #[]) #[])
noncomputable def o659 : Obj := ob "tuple" (.seq #[(q "self" 846)] 0)
noncomputable def o660 : Obj := ob "tuple" (.seq #[] 0)
noncomputable def o661 : Obj := (Obj.mk .none none (Data.func (fd [17, 7] "line_buffering" "StringIO.line_buffering" 0 [] .none .none .none .none none .none .none 0)) #[])
noncomputable def o662 : Obj := ob "code" (.fields #[(q "line_buffering" 843), (q "StringIO.line_buffering" 844), (q "/claim/cut.py" 845), (.int 297 0), (.int 1 0), (.int 0 0), (.int 0 0), (.int 3 0), (r 425), (.bool true), (.int 318 0), (r 426), .none, (r 427), (r 428), (r 429), (.int 847 0), (.int 297 0), (q "/claim/cut.py" 848)])
noncomputable def o663 : Obj := ob "function" (.func (fd [17, 7] "line_buffering" "StringIO.line_buffering" 3 [] .none .none .none (q "io" 402) none (r 430) .none 0))
noncomputable def o664 : Obj := ob "property" (.fields #[(r 431), .none, .none, .none, (q "line_buffering" 850), (.bool false)])
noncomputable def o665 : Obj := ob "tuple" (.seq #[] 0)
noncomputable def o666 : Obj := (Obj.mk .none none (Data.fields #[]) #[])
noncomputable def o667 : Obj := ob "tuple" (.seq #[(q "self" 854)] 0)
noncomputable def o668 : Obj := ob "tuple" (.seq #[] 0)
noncomputable def o669 : Obj := (Obj.mk .none none (Data.func (fd [17, 8] "newlines" "StringIO.newlines" 0 [] .none .none .none .none none .none .none 0)) #[])
noncomputable def o670 : Obj := ob "code" (.fields #[(q "newlines" 851), (q "StringIO.newlines" 852), (q "/claim/cut.py" 853), (.int 301 0), (.int 1 0), (.int 0 0), (.int 0 0), (.int 3 0), (r 433), (.bool true), (.int 318 0), (r 434), .none, (r 435), (r 436), (r 437), (.int 855 0), (.int 301 0), (q "/claim/cut.py" 856)])
noncomputable def o671 : Obj := ob "function" (.func (fd [17, 8] "newlines" "StringIO.newlines" 3 [] .none .none .none (q "io" 402) none (r 438) .none 0))
noncomputable def o672 : Obj := ob "property" (.fields #[(r 439), .none, .none, .none, (q "newlines" 858), (.bool false)])
noncomputable def o673 : Obj := ob "tuple" (.seq #[] 0)
noncomputable def o674 : Obj := (Obj.mk .none none (Data.fields #[]) #[])
noncomputable def o675 : Obj := ob "tuple" (.seq #[(q "self" 862)] 0)
noncomputable def o676 : Obj := ob "tuple" (.seq #[] 0)
noncomputable def o677 : Obj := (Obj.mk .none none (Data.func (fd [17, 9] "encoding" "StringIO.encoding" 0 [] .none .none .none .none none .none .none 0)) #[])
noncomputable def o678 : Obj := ob "code" (.fields #[(q "encoding" 859), (q "StringIO.encoding" 860), (q "/claim/cut.py" 861), (.int 305 0), (.int 1 0), (.int 0 0), (.int 0 0), (.int 3 0), (r 441), (.bool true), (.int 318 0), (r 442), .none, (r 443), (r 444), (r 445), (.int 863 0), (.int 305 0), (q "/claim/cut.py" 864)])
noncomputable def o679 : Obj := ob "function" (.func (fd [17, 9] "encoding" "StringIO.encoding" 3 [] .none .none .none (q "io" 402) none (r 446) .none 0))
noncomputable def o680 : Obj := ob "property" (.fields #[(r 447), .none, .none, .none, (q "encoding" 866), (.bool false)])
noncomputable def o681 : Obj := ob "tuple" (.seq #[] 0)
noncomputable def o682 : Obj := (Obj.mk .none none (Data.fields #[]) #[])
noncomputable def o683 : Obj := ob "tuple" (.seq #[(q "self" 870)] 0)
noncomputable def o684 : Obj := ob "tuple" (.seq #[] 0)
noncomputable def o685 : Obj := (Obj.mk .none none (Data.func (fd [17, 10] "errors" "StringIO.errors" 0 [] .none .none .none .none none .none .none 0)) #[])
noncomputable def o686 : Obj := ob "code" (.fields #[(q "errors" 867), (q "StringIO.errors" 868), (q "/claim/cut.py" 869), (.int 309 0), (.int 1 0), (.int 0 0), (.int 0 0), (.int 3 0), (r 449), (.bool true), (.int 318 0), (r 450), .none, (r 451), (r 452), (r 453), (.int 871 0), (.int 309 0), (q "/claim/cut.py" 872)])
noncomputable def o687 : Obj := ob "function" (.func (fd [17, 10] "errors" "StringIO.errors" 3 [] .none .none .none (q "io" 402) none (r 454) .none 0))
noncomputable def o688 : Obj := ob "property" (.fields #[(r 455), .none, .none, .none, (q "errors" 874), (.bool false)])
noncomputable def o689 : Obj := ob "tuple" (.seq #[] 0)
noncomputable def o690 : Obj := (Obj.mk .none none (Data.fields #[]) #[])
noncomputable def o691 : Obj := ob "tuple" (.seq #[(q "self" 878)] 0)
noncomputable def o692 : Obj := ob "tuple" (.seq #[] 0)
noncomputable def o693 : Obj := (Obj.mk .none none (Data.func (fd [17, 11] "close" "StringIO.close" 0 [] .none .none .none .none none .none .none 0)) #[])
noncomputable def o694 : Obj := ob "code" (.fields #[(q "close" 875), (q "StringIO.close" 876), (q "/claim/cut.py" 877), (.int 313 0), (.int 1 0), (.int 0 0), (.int 0 0), (.int 3 0), (r 457), (.bool true), (.int 318 0), (r 458), .none, (r 459), (r 460), (r 461), (.int 879 0), (.int 313 0), (q "/claim/cut.py" 880)])
noncomputable def o695 : Obj := ob "function" (.func (fd [17, 11] "close" "StringIO.close" 3 [] .none .none .none (q "io" 402) none (r 462) .none 0))
noncomputable def o696 : Obj := ob "tuple" (.seq #[] 0)
noncomputable def o697 : Obj := (Obj.mk .none none (Data.fields #[]) #[])
noncomputable def o698 : Obj := ob "tuple" (.seq #[(q "self" 885)] 0)
noncomputable def o699 : Obj := ob "tuple" (.seq #[] 0)
noncomputable def o700 : Obj := (Obj.mk .none none (Data.func (fd [17, 12] "__enter__" "StringIO.__enter__" 0 [] .none .none .none .none none .none .none 0)) #[])
noncomputable def o701 : Obj := ob "code" (.fields #[(q "__enter__" 882), (q "StringIO.__enter__" 883), (q "/claim/cut.py" 884), (.int 316 0), (.int 1 0), (.int 0 0), (.int 0 0), (.int 3 0), (r 464), (.bool true), (.int 318 0), (r 465), .none, (r 466), (r 467), (r 468), (.int 886 0), (.int 316 0), (q "/claim/cut.py" 887)])
noncomputable def o702 : Obj := ob "function" (.func (fd [17, 12] "__enter__" "StringIO.__enter__" 3 [] .none .none .none (q "io" 402) none (r 469) .none 0))
noncomputable def o703 : Obj := ob "tuple" (.seq #[] 0)
noncomputable def o704 : Obj := (Obj.mk .none none (Data.fields #[]) #[])
noncomputable def o705 : Obj := ob "tuple" (.seq #[(q "self" 892), (q "args" 893)] 0)
noncomputable def o706 : Obj := ob "tuple" (.seq #[] 0)
noncomputable def o707 : Obj := (Obj.mk .none none (Data.func (fd [17, 13] "__exit__" "StringIO.__exit__" 0 [] .none .none .none .none none .none .none 0)) #[])
noncomputable def o708 : Obj := ob "code" (.fields #[(q "__exit__" 889), (q "StringIO.__exit__" 890), (q "/claim/cut.py" 891), (.int 320 0), (.int 1 0), (.int 0 0), (.int 0 0), (.int 7 0), (r 471), (.bool true), (.int 318 0), (r 472), .none, (r 473), (r 474), (r 475), (.int 894 0), (.int 320 0), (q "/claim/cut.py" 895)])
noncomputable def o709 : Obj := ob "function" (.func (fd [17, 13] "__exit__" "StringIO.__exit__" 3 [] .none .none .none (q "io" 402) none (r 476) .none 0))
noncomputable def o710 : Obj := ob "tuple" (.seq #[] 0)
noncomputable def o711 : Obj := (Obj.mk .none none (Data.fields #[]) #[])
noncomputable def o712 : Obj := ob "tuple" (.seq #[(q "self" 900)] 0)
noncomputable def o713 : Obj := ob "tuple" (.seq #[] 0)
noncomputable def o714 : Obj := (Obj.mk .none none (Data.func (fd [17, 14] "readable" "StringIO.readable" 0 [] .none .none .none .none none .none .none 0)) #[])
noncomputable def o715 : Obj := ob "code" (.fields #[(q "readable" 897), (q "StringIO.readable" 898), (q "/claim/cut.py" 899), (.int 323 0), (.int 1 0), (.int 0 0), (.int 0 0), (.int 3 0), (r 478), (.bool true), (.int 318 0), (r 479), .none, (r 480), (r 481), (r 482), (.int 901 0), (.int 323 0), (q "/claim/cut.py" 902)])
noncomputable def o716 : Obj := ob "function" (.func (fd [17, 14] "readable" "StringIO.readable" 3 [] .none .none .none (q "io" 402) none (r 483) .none 0))
noncomputable def o717 : Obj := ob "tuple" (.seq #[] 0)
noncomputable def o718 : Obj := (Obj.mk .none none (Data.fields #[]) #[])
noncomputable def o719 : Obj := ob "tuple" (.seq #[(q "self" 907)] 0)
noncomputable def o720 : Obj := ob "tuple" (.seq #[] 0)
noncomputable def o721 : Obj := (Obj.mk .none none (Data.func (fd [17, 15] "writable" "StringIO.writable" 0 [] .none .none .none .none none .none .none 0)) #[])
noncomputable def o722 : Obj := ob "code" (.fields #[(q "writable" 904), (q "StringIO.writable" 905), (q "/claim/cut.py" 906), (.int 327 0), (.int 1 0), (.int 0 0), (.int 0 0), (.int 3 0), (r 485), (.bool true), (.int 318 0), (r 486), .none, (r 487), (r 488), (r 489), (.int 908 0), (.int 327 0), (q "/claim/cut.py" 909)])
noncomputable def o723 : Obj := ob "function" (.func (fd [17, 15] "writable" "StringIO.writable" 3 [] .none .none .none (q "io" 402) none (r 490) .none 0))
noncomputable def o724 : Obj := ob "tuple" (.seq #[] 0)
noncomputable def o725 : Obj := (Obj.mk .none none (Data.fields #[]) #[])
noncomputable def o726 : Obj := ob "tuple" (.seq #[(q "self" 914)] 0)
noncomputable def o727 : Obj := ob "tuple" (.seq #[] 0)
noncomputable def o728 : Obj := (Obj.mk .none none (Data.func (fd [17, 16] "seekable" "StringIO.seekable" 0 [] .none .none .none .none none .none .none 0)) #[])
noncomputable def o729 : Obj := ob "code" (.fields #[(q "seekable" 911), (q "StringIO.seekable" 912), (q "/claim/cut.py" 913), (.int 331 0), (.int 1 0), (.int 0 0), (.int 0 0), (.int 3 0), (r 492), (.bool true), (.int 318 0), (r 493), .none, (r 494), (r 495), (r 496), (.int 915 0), (.int 331 0), (q "/claim/cut.py" 916)])
noncomputable def o730 : Obj := ob "function" (.func (fd [17, 16] "seekable" "StringIO.seekable" 3 [] .none .none .none (q "io" 402) none (r 497) .none 0))
noncomputable def o731 : Obj := ob "tuple" (.seq #[] 0)
noncomputable def o732 : Obj := (Obj.mk .none none (Data.fields #[]) #[])
noncomputable def o733 : Obj := ob "tuple" (.seq #[(q "self" 921)] 0)
noncomputable def o734 : Obj := ob "tuple" (.seq #[] 0)
noncomputable def o735 : Obj := (Obj.mk .none none (Data.func (fd [17, 17] "isatty" "StringIO.isatty" 0 [] .none .none .none .none none .none .none 0)) #[])
noncomputable def o736 : Obj := ob "code" (.fields #[(q "isatty" 918), (q "StringIO.isatty" 919), (q "/claim/cut.py" 920), (.int 335 0), (.int 1 0), (.int 0 0), (.int 0 0), (.int 3 0), (r 499), (.bool true), (.int 318 0), (r 500), .none, (r 501), (r 502), (r 503), (.int 922 0), (.int 335 0), (q "/claim/cut.py" 923)])
noncomputable def o737 : Obj := ob "function" (.func (fd [17, 17] "isatty" "StringIO.isatty" 3 [] .none .none .none (q "io" 402) none (r 504) .none 0))
noncomputable def o738 : Obj := ob "tuple" (.seq #[] 0)
noncomputable def o739 : Obj := (Obj.mk .none none (Data.fields #[]) #[])
noncomputable def o740 : Obj := ob "tuple" (.seq #[(q "self" 928)] 0)
noncomputable def o741 : Obj := ob "tuple" (.seq #[] 0)
noncomputable def o742 : Obj := (Obj.mk .none none (Data.func (fd [17, 18] "flush" "StringIO.flush" 0 [] .none .none .none .none none .none .none 0)) #[])
noncomputable def o743 : Obj := ob "code" (.fields #[(q "flush" 925), (q "StringIO.flush" 926), (q "/claim/cut.py" 927), (.int 339 0), (.int 1 0), (.int 0 0), (.int 0 0), (.int 3 0), (r 506), (.bool true), (.int 318 0), (r 507), .none, (r 508), (r 509), (r 510), (.int 929 0), (.int 339 0), (q "/claim/cut.py" 930)])
noncomputable def o744 : Obj := ob "function" (.func (fd [17, 18] "flush" "StringIO.flush" 3 [] .none .none .none (q "io" 402) none (r 511) .none 0))
noncomputable def o745 : Obj := ob "tuple" (.seq #[] 0)
noncomputable def o746 : Obj := (Obj.mk .none none (Data.fields #[]) #[])
noncomputable def o747 : Obj := ob "tuple" (.seq #[(q "self" 935)] 0)
noncomputable def o748 : Obj := ob "tuple" (.seq #[] 0)
noncomputable def o749 : Obj := (Obj.mk .none none (Data.func (fd [17, 19] "fileno" "StringIO.fileno" 0 [] .none .none .none .none none .none .none 0)) #[])
noncomputable def o750 : Obj := ob "code" (.fields #[(q "fileno" 932), (q "StringIO.fileno" 933), (q "/claim/cut.py" 934), (.int 342 0), (.int 1 0), (.int 0 0), (.int 0 0), (.int 3 0), (r 513), (.bool true), (.int 318 0), (r 514), .none, (r 515), (r 516), (r 517), (.int 936 0), (.int 342 0), (q "/claim/cut.py" 937)])
noncomputable def o751 : Obj := ob "function" (.func (fd [17, 19] "fileno" "StringIO.fileno" 3 [] .none .none .none (q "io" 402) none (r 518) .none 0))
noncomputable def o752 : Obj := ob "tuple" (.seq #[] 0)
noncomputable def o753 : Obj := (Obj.mk .none none (Data.fields #[]) #[])
noncomputable def o754 : Obj := ob "tuple" (.seq #[(q "self" 942)] 0)
noncomputable def o755 : Obj := ob "tuple" (.seq #[] 0)
noncomputable def o756 : Obj := (Obj.mk .none none (Data.func (fd [17, 20] "detach" "StringIO.detach" 0 [] .none .none .none .none none .none .none 0)) #[])
noncomputable def o757 : Obj := ob "code" (.fields #[(q "detach" 939), (q "StringIO.detach" 940), (q "/claim/cut.py" 941), (.int 345 0), (.int 1 0), (.int 0 0), (.int 0 0), (.int 3 0), (r 520), (.bool true), (.int 318 0), (r 521), .none, (r 522), (r 523), (r 524), (.int 943 0), (.int 345 0), (q "/claim/cut.py" 944)])
noncomputable def o758 : Obj := ob "function" (.func (fd [17, 20] "detach" "StringIO.detach" 3 [] .none .none .none (q "io" 402) none (r 525) .none 0))
noncomputable def o759 : Obj := ob "tuple" (.seq #[] 0)
noncomputable def o760 : Obj := (Obj.mk .none none (Data.fields #[]) #[])
noncomputable def o761 : Obj := ob "tuple" (.seq #[(q "self" 949)] 0)
noncomputable def o762 : Obj := ob "tuple" (.seq #[] 0)
noncomputable def o763 : Obj := (Obj.mk .none none (Data.func (fd [17, 21] "getvalue" "StringIO.getvalue" 0 [] .none .none .none .none none .none .none 0)) #[])
noncomputable def o764 : Obj := ob "code" (.fields #[(q "getvalue" 946), (q "StringIO.getvalue" 947), (q "/claim/cut.py" 948), (.int 348 0), (.int 1 0), (.int 0 0), (.int 0 0), (.int 3 0), (r 527), (.bool true), (.int 318 0), (r 528), .none, (r 529), (r 530), (r 531), (.int 950 0), (.int 348 0), (q "/claim/cut.py" 951)])
noncomputable def o765 : Obj := ob "function" (.func (fd [17, 21] "getvalue" "StringIO.getvalue" 3 [] .none .none .none (q "io" 402) none (r 532) .none 0))
noncomputable def o766 : Obj := ob "tuple" (.seq #[] 0)
noncomputable def o767 : Obj := (Obj.mk .none none (Data.fields #[]) #[])
noncomputable def o768 : Obj := ob "tuple" (.seq #[(q "self" 956)] 0)
noncomputable def o769 : Obj := ob "tuple" (.seq #[] 0)
noncomputable def o770 : Obj := (Obj.mk .none none (Data.func (fd [17, 22] "tell" "StringIO.tell" 0 [] .none .none .none .none none .none .none 0)) #[])
noncomputable def o771 : Obj := ob "code" (.fields #[(q "tell" 953), (q "StringIO.tell" 954), (q "/claim/cut.py" 955), (.int 351 0), (.int 1 0), (.int 0 0), (.int 0 0), (.int 3 0), (r 534), (.bool true), (.int 318 0), (r 535), .none, (r 536), (r 537), (r 538), (.int 957 0), (.int 351 0), (q "/claim/cut.py" 958)])
noncomputable def o772 : Obj := ob "function" (.func (fd [17, 22] "tell" "StringIO.tell" 3 [] .none .none .none (q "io" 402) none (r 539) .none 0))
noncomputable def o773 : Obj := ob "tuple" (.seq #[(.int 0 960)] 0)
noncomputable def o774 : Obj := ob "tuple" (.seq #[] 0)
noncomputable def o775 : Obj := (Obj.mk .none none (Data.fields #[]) #[])
noncomputable def o776 : Obj := ob "tuple" (.seq #[(q "self" 964), (q "pos" 965), (q "whence" 966)] 0)
noncomputable def o777 : Obj := ob "tuple" (.seq #[] 0)
noncomputable def o778 : Obj := (Obj.mk .none none (Data.func (fd [17, 23] "seek" "StringIO.seek" 0 [] .none .none .none .none none .none .none 0)) #[])
noncomputable def o779 : Obj := ob "code" (.fields #[(q "seek" 961), (q "StringIO.seek" 962), (q "/claim/cut.py" 963), (.int 355 0), (.int 3 0), (.int 3 0), (.int 0 0), (.int 3 0), (r 542), (.bool true), (.int 318 0), (r 543), .none, (r 544), (r 545), (r 546), (.int 967 0), (.int 355 0), (q "/claim/cut.py" 968)])
noncomputable def o780 : Obj := ob "function" (.func (fd [17, 23] "seek" "StringIO.seek" 3 [] (r 541) .none .none (q "io" 402) none (r 547) .none 0))
noncomputable def o781 : Obj := ob "tuple" (.seq #[.none] 0)
noncomputable def o782 : Obj := ob "tuple" (.seq #[] 0)
noncomputable def o783 : Obj := (Obj.mk .none none (Data.fields #[]) #[])
noncomputable def o784 : Obj := ob "tuple" (.seq #[(q "self" 973), (q "pos" 974)] 0)
noncomputable def o785 : Obj := ob "tuple" (.seq #[] 0)
noncomputable def o786 : Obj := (Obj.mk .none none (Data.func (fd [17, 24] "truncate" "StringIO.truncate" 0 [] .none .none .none .none none .none .none 0)) #[])
noncomputable def o787 : Obj := ob "code" (.fields #[(q "truncate" 970), (q "StringIO.truncate" 971), (q "/claim/cut.py" 972), (.int 372 0), (.int 2 0), (.int 2 0), (.int 0 0), (.int 3 0), (r 550), (.bool true), (.int 318 0), (r 551), .none, (r 552), (r 553), (r 554), (.int 975 0), (.int 372 0), (q "/claim/cut.py" 976)])
noncomputable def o788 : Obj := ob "function" (.func (fd [17, 24] "truncate" "StringIO.truncate" 3 [] (r 549) .none .none (q "io" 402) none (r 555) .none 0))
noncomputable def o789 : Obj := ob "tuple" (.seq #[(.int (-1) 979)] 0)
noncomputable def o790 : Obj := ob "tuple" (.seq #[] 0)
noncomputable def o791 : Obj := (Obj.mk .none none (Data.fields #[]) #[])
noncomputable def o792 : Obj := ob "tuple" (.seq #[(q "self" 983), (q "size" 984), (q "start" 985), (q "stop" 986)] 0)
noncomputable def o793 : Obj := ob "tuple" (.seq #[] 0)
noncomputable def o794 : Obj := (Obj.mk .none none (Data.func (fd [17, 25] "read" "StringIO.read" 0 [] .none .none .none .none none .none .none 0)) #[])
noncomputable def o795 : Obj := ob "code" (.fields #[(q "read" 980), (q "StringIO.read" 981), (q "/claim/cut.py" 982), (.int 375 0), (.int 2 0), (.int 2 0), (.int 0 0), (.int 3 0), (r 558), (.bool true), (.int 318 0), (r 559), .none, (r 560), (r 561), (r 562), (.int 987 0), (.int 375 0), (q "/claim/cut.py" 988)])
noncomputable def o796 : Obj := ob "function" (.func (fd [17, 25] "read" "StringIO.read" 3 [] (r 557) .none .none (q "io" 402) none (r 563) .none 0))
noncomputable def o797 : Obj := ob "tuple" (.seq #[(.int (-1) 991)] 0)
noncomputable def o798 : Obj := ob "tuple" (.seq #[] 0)
noncomputable def o799 : Obj := (Obj.mk .none none (Data.fields #[]) #[])
noncomputable def o800 : Obj := ob "tuple" (.seq #[(q "self" 995), (q "size" 996)] 0)
noncomputable def o801 : Obj := ob "tuple" (.seq #[] 0)
noncomputable def o802 : Obj := (Obj.mk .none none (Data.func (fd [17, 26] "readline" "StringIO.readline" 0 [] .none .none .none .none none .none .none 0)) #[])
noncomputable def o803 : Obj := ob "code" (.fields #[(q "readline" 992), (q "StringIO.readline" 993), (q "/claim/cut.py" 994), (.int 389 0), (.int 2 0), (.int 2 0), (.int 0 0), (.int 3 0), (r 566), (.bool true), (.int 318 0), (r 567), .none, (r 568), (r 569), (r 570), (.int 997 0), (.int 389 0), (q "/claim/cut.py" 998)])
noncomputable def o804 : Obj := ob "function" (.func (fd [17, 26] "readline" "StringIO.readline" 3 [] (r 565) .none .none (q "io" 402) none (r 571) .none 0))
noncomputable def o805 : Obj := ob "tuple" (.seq #[(.int (-1) 1001)] 0)
noncomputable def o806 : Obj := ob "tuple" (.seq #[] 0)
noncomputable def o807 : Obj := (Obj.mk .none none (Data.fields #[]) #[])
noncomputable def o808 : Obj := ob "tuple" (.seq #[(q "self" 1005), (q "hint" 1006)] 0)
noncomputable def o809 : Obj := ob "tuple" (.seq #[] 0)
noncomputable def o810 : Obj := (Obj.mk .none none (Data.func (fd [17, 27] "readlines" "StringIO.readlines" 0 [] .none .none .none .none none .none .none 0)) #[])
noncomputable def o811 : Obj := ob "code" (.fields #[(q "readlines" 1002), (q "StringIO.readlines" 1003), (q "/claim/cut.py" 1004), (.int 396 0), (.int 2 0), (.int 2 0), (.int 0 0), (.int 3 0), (r 574), (.bool true), (.int 318 0), (r 575), .none, (r 576), (r 577), (r 578), (.int 1007 0), (.int 396 0), (q "/claim/cut.py" 1008)])
noncomputable def o812 : Obj := ob "function" (.func (fd [17, 27] "readlines" "StringIO.readlines" 3 [] (r 573) .none .none (q "io" 402) none (r 579) .none 0))
noncomputable def o813 : Obj := ob "tuple" (.seq #[] 0)
noncomputable def o814 : Obj := (Obj.mk .none none (Data.fields #[]) #[])
noncomputable def o815 : Obj := ob "tuple" (.seq #[(q "self" 1013)] 0)
noncomputable def o816 : Obj := ob "tuple" (.seq #[] 0)
noncomputable def o817 : Obj := (Obj.mk .none none (Data.func (fd [17, 28] "__iter__" "StringIO.__iter__" 0 [] .none .none .none .none none .none .none 0)) #[])
noncomputable def o818 : Obj := ob "code" (.fields #[(q "__iter__" 1010), (q "StringIO.__iter__" 1011), (q "/claim/cut.py" 1012), (.int 399 0), (.int 1 0), (.int 0 0), (.int 0 0), (.int 3 0), (r 581), (.bool true), (.int 318 0), (r 582), .none, (r 583), (r 584), (r 585), (.int 1014 0), (.int 399 0), (q "/claim/cut.py" 1015)])
noncomputable def o819 : Obj := ob "function" (.func (fd [17, 28] "__iter__" "StringIO.__iter__" 3 [] .none .none .none (q "io" 402) none (r 586) .none 0))
noncomputable def o820 : Obj := ob "tuple" (.seq #[] 0)
noncomputable def o821 : Obj := (Obj.mk .none none (Data.fields #[]) #[])
noncomputable def o822 : Obj := ob "tuple" (.seq #[(q "self" 1020), (q "line" 1021)] 0)
noncomputable def o823 : Obj := ob "tuple" (.seq #[] 0)
noncomputable def o824 : Obj := (Obj.mk .none none (Data.func (fd [17, 29] "__next__" "StringIO.__next__" 0 [] .none .none .none .none none .none .none 0)) #[])
noncomputable def o825 : Obj := ob "code" (.fields #[(q "__next__" 1017), (q "StringIO.__next__" 1018), (q "/claim/cut.py" 1019), (.int 403 0), (.int 1 0), (.int 0 0), (.int 0 0), (.int 3 0), (r 588), (.bool true), (.int 318 0), (r 589), .none, (r 590), (r 591), (r 592), (.int 1022 0), (.int 403 0), (q "/claim/cut.py" 1023)])
noncomputable def o826 : Obj := ob "function" (.func (fd [17, 29] "__next__" "StringIO.__next__" 3 [] .none .none .none (q "io" 402) none (r 593) .none 0))
noncomputable def o827 : Obj := ob "tuple" (.seq #[] 0)
noncomputable def o828 : Obj := (Obj.mk .none none (Data.fields #[]) #[])
noncomputable def o829 : Obj := ob "tuple" (.seq #[(q "self" 1028), (q "s" 1029), (q "n" 1030), (q "m" 1031), (q "start" 1032), (q "buf" 1033)] 0)
noncomputable def o830 : Obj := ob "tuple" (.seq #[] 0)
noncomputable def o831 : Obj := (Obj.mk .none none (Data.func (fd [17, 30] "write" "StringIO.write" 0 [] .none .none .none .none none .none .none 0)) #[])
noncomputable def o832 : Obj := ob "code" (.fields #[(q "write" 1025), (q "StringIO.write" 1026), (q "/claim/cut.py" 1027), (.int 410 0), (.int 2 0), (.int 2 0), (.int 0 0), (.int 3 0), (r 595), (.bool true), (.int 318 0), (r 596), .none, (r 597), (r 598), (r 599), (.int 1034 0), (.int 410 0), (q "/claim/cut.py" 1035)])
noncomputable def o833 : Obj := ob "function" (.func (fd [17, 30] "write" "StringIO.write" 3 [] .none .none .none (q "io" 402) none (r 600) .none 0))
noncomputable def o834 : Obj := ob "tuple" (.seq #[] 0)
noncomputable def o835 : Obj := (Obj.mk .none none (Data.fields #[]) #[])
noncomputable def o836 : Obj := ob "tuple" (.seq #[(q "self" 1040), (q "lines" 1041)] 0)
noncomputable def o837 : Obj := ob "tuple" (.seq #[] 0)
noncomputable def o838 : Obj := (Obj.mk .none none (Data.func (fd [17, 31] "writelines" "StringIO.writelines" 0 [] .none .none .none .none none .none .none 0)) #[])
noncomputable def o839 : Obj := ob "code" (.fields #[(q "writelines" 1037), (q "StringIO.writelines" 1038), (q "/claim/cut.py" 1039), (.int 429 0), (.int 2 0), (.int 2 0), (.int 0 0), (.int 3 0), (r 602), (.bool true), (.int 318 0), (r 603), .none, (r 604), (r 605), (r 606), (.int 1042 0), (.int 429 0), (q "/claim/cut.py" 1043)])
noncomputable def o840 : Obj := ob "function" (.func (fd [17, 31] "writelines" "StringIO.writelines" 3 [] .none .none .none (q "io" 402) none (r 607) .none 0))
noncomputable def o841 : Obj := ob "tuple" (.seq #[] 0)
noncomputable def o842 : Obj := (Obj.mk .none none (Data.fields #[]) #[])
noncomputable def o843 : Obj := ob "tuple" (.seq #[(q "self" 1048)] 0)
noncomputable def o844 : Obj := ob "tuple" (.seq #[] 0)
noncomputable def o845 : Obj := (Obj.mk .none none (Data.func (fd [17, 32] "__repr__" "StringIO.__repr__" 0 [] .none .none .none .none none .none .none 0)) #[])
noncomputable def o846 : Obj := ob "code" (.fields #[(q "__repr__" 1045), (q "StringIO.__repr__" 1046), (q "/claim/cut.py" 1047), (.int 432 0), (.int 1 0), (.int 0 0), (.int 0 0), (.int 3 0), (r 609), (.bool true), (.int 318 0), (r 610), .none, (r 611), (r 612), (r 613), (.int 1049 0), (.int 432 0), (q "/claim/cut.py" 1050)])
noncomputable def o847 : Obj := ob "function" (.func (fd [17, 32] "__repr__" "StringIO.__repr__" 3 [] .none .none .none (q "io" 402) none (r 614) .none 0))
noncomputable def o848 : Obj := ob "tuple" (.seq #[(q "__buf" 1052), (q "__newline" 1053), (q "__pos" 1054)] 0)
noncomputable def o849 (P : Params) : Obj := ob "dict" (.dict #[(de P "__module__" 779 (q "_io" 784)), (de P "__firstlineno__" 783 (.int 229 782)), (de P "__init__" 796 (r 388)), (de P "_StringIO__translated" 805 (r 395)), (de P "_StringIO__check" 812 (r 402)), (de P "_StringIO__check_dot" 819 (r 409)), (de P "_StringIO__line" 834 (r 416)), (de P "closed" 842 (r 424)), (de P "line_buffering" 850 (r 432)), (de P "newlines" 858 (r 440)), (de P "encoding" 866 (r 448)), (de P "errors" 874 (r 456)), (de P "close" 881 (r 463)), (de P "__enter__" 888 (r 470)), (de P "__exit__" 896 (r 477)), (de P "readable" 903 (r 484)), (de P "writable" 910 (r 491)), (de P "seekable" 917 (r 498)), (de P "isatty" 924 (r 505)), (de P "flush" 931 (r 512)), (de P "fileno" 938 (r 519)), (de P "detach" 945 (r 526)), (de P "getvalue" 952 (r 533)), (de P "tell" 959 (r 540)), (de P "seek" 969 (r 548)), (de P "truncate" 977 (r 556)), (de P "read" 989 (r 564)), (de P "readline" 999 (r 572)), (de P "readlines" 1009 (r 580)), (de P "__iter__" 1016 (r 587)), (de P "__next__" 1024 (r 594)), (de P "write" 1036 (r 601)), (de P "writelines" 1044 (r 608)), (de P "__repr__" 1051 (r 615)), (de P "__static_attributes__" 1055 (r 616)), (de P "__doc__" 1056 .none)] 2)
noncomputable def o850 : Obj := (Obj.mk (ty "type") none (Data.cls (ClassData.mk "StringIO" [(r 141)] [(r 618), (r 141), (r 114), (ty "object")] 617 "StringIO" true [] [] false none false)) #[(some (r 374)), none, (some (q "StringIO" 772)), (some (q "StringIO" 780)), (some .none), (some (.bool true))])
noncomputable def o851 : Obj := ob "super" (.fields #[(r 618), (r 618), (r 618)])
noncomputable def o852 : Obj := ob "builtin_function_or_method" (.fields #[(bi "object.__init_subclass__"), (r 618)])
noncomputable def o1075 : Obj := ob "tuple" (.seq #[] 0)
noncomputable def o1076 : Obj := (Obj.mk .none none (Data.fields #[]) #[])
noncomputable def o1077 : Obj := ob "tuple" (.seq #[(q "name" 1064), (q "x" 1065), (q "t" 1066)] 0)
noncomputable def o1078 : Obj := ob "tuple" (.seq #[] 0)
noncomputable def o1079 : Obj := (Obj.mk .none none (Data.func (fd [19] "_kind" "_kind" 0 [] .none .none .none .none none .none .none 0)) #[])
noncomputable def o1080 : Obj := ob "code" (.fields #[(q "_kind" 1061), (q "_kind" 1062), (q "/claim/cut.py" 1063), (.int 435 0), (.int 2 0), (.int 0 0), (.int 0 0), (.int 3 0), (r 621), (.bool true), (.int 318 0), (r 622), .none, (r 623), (r 624), (r 625), (.int 1067 0), (.int 435 0), (q "/claim/cut.py" 1068)])
noncomputable def o1081 : Obj := ob "function" (.func (fd [19] "_kind" "_kind" 3 [] .none .none .none (q "os.path" 1059) none (r 626) .none 0))
noncomputable def o1082 : Obj := ob "tuple" (.seq #[] 0)
noncomputable def o1083 : Obj := (Obj.mk .none none (Data.fields #[]) #[])
noncomputable def o1084 : Obj := ob "tuple" (.seq #[(q "name" 1073), (q "x" 1074), (q "k" 1075)] 0)
noncomputable def o1085 : Obj := ob "tuple" (.seq #[] 0)
noncomputable def o1086 : Obj := (Obj.mk .none none (Data.func (fd [20] "_fspath" "_fspath" 0 [] .none .none .none .none none .none .none 0)) #[])
noncomputable def o1087 : Obj := ob "code" (.fields #[(q "_fspath" 1070), (q "_fspath" 1071), (q "/claim/cut.py" 1072), (.int 456 0), (.int 2 0), (.int 0 0), (.int 0 0), (.int 3 0), (r 628), (.bool true), (.int 318 0), (r 629), .none, (r 630), (r 631), (r 632), (.int 1076 0), (.int 456 0), (q "/claim/cut.py" 1077)])
noncomputable def o1088 : Obj := ob "function" (.func (fd [20] "_fspath" "_fspath" 3 [] .none .none .none (q "os.path" 1059) none (r 633) .none 0))
noncomputable def o1089 : Obj := ob "tuple" (.seq #[] 0)
noncomputable def o1090 : Obj := (Obj.mk .none none (Data.fields #[]) #[])
noncomputable def o1091 : Obj := ob "tuple" (.seq #[(q "funcname" 1082), (q "args" 1083), (q "s" 1084), (q "k" 1085)] 0)
noncomputable def o1092 : Obj := ob "tuple" (.seq #[] 0)
noncomputable def o1093 : Obj := (Obj.mk .none none (Data.func (fd [21] "_check_arg_types" "_check_arg_types" 0 [] .none .none .none .none none .none .none 0)) #[])
noncomputable def o1094 : Obj := ob "code" (.fields #[(q "_check_arg_types" 1079), (q "_check_arg_types" 1080), (q "/claim/cut.py" 1081), (.int 461 0), (.int 1 0), (.int 0 0), (.int 0 0), (.int 7 0), (r 635), (.bool true), (.int 318 0), (r 636), .none, (r 637), (r 638), (r 639), (.int 1086 0), (.int 461 0), (q "/claim/cut.py" 1087)])
noncomputable def o1095 : Obj := ob "function" (.func (fd [21] "_check_arg_types" "_check_arg_types" 3 [] .none .none .none (q "os.path" 1059) none (r 640) .none 0))
noncomputable def o1096 : Obj := ob "tuple" (.seq #[] 0)
noncomputable def o1097 : Obj := (Obj.mk .none none (Data.fields #[]) #[])
noncomputable def o1098 : Obj := ob "tuple" (.seq #[(q "s" 1092)] 0)
noncomputable def o1099 : Obj := ob "tuple" (.seq #[] 0)
noncomputable def o1100 : Obj := (Obj.mk .none none (Data.func (fd [22] "isabs" "isabs" 0 [] .none .none .none .none none .none .none 0)) #[])
noncomputable def o1101 : Obj := ob "code" (.fields #[(q "isabs" 1089), (q "isabs" 1090), (q "/claim/cut.py" 1091), (.int 466 0), (.int 1 0), (.int 0 0), (.int 0 0), (.int 3 0), (r 642), (.bool true), (.int 318 0), (r 643), .none, (r 644), (r 645), (r 646), (.int 1093 0), (.int 466 0), (q "/claim/cut.py" 1094)])
noncomputable def o1102 : Obj := ob "function" (.func (fd [22] "isabs" "isabs" 3 [] .none .none .none (q "os.path" 1059) none (r 647) .none 0))
noncomputable def o1103 : Obj := ob "tuple" (.seq #[] 0)
noncomputable def o1104 : Obj := (Obj.mk .none none (Data.fields #[]) #[])
noncomputable def o1105 : Obj := ob "tuple" (.seq #[(q "a" 1099), (q "p" 1100), (q "b" 1101), (q "sep" 1102), (q "path" 1103)] 0)
noncomputable def o1106 : Obj := ob "tuple" (.seq #[] 0)
noncomputable def o1107 : Obj := (Obj.mk .none none (Data.func (fd [23] "join" "join" 0 [] .none .none .none .none none .none .none 0)) #[])
noncomputable def o1108 : Obj := ob "code" (.fields #[(q "join" 1096), (q "join" 1097), (q "/claim/cut.py" 1098), (.int 469 0), (.int 1 0), (.int 0 0), (.int 0 0), (.int 7 0), (r 649), (.bool true), (.int 318 0), (r 650), .none, (r 651), (r 652), (r 653), (.int 1104 0), (.int 469 0), (q "/claim/cut.py" 1105)])
noncomputable def o1109 : Obj := ob "function" (.func (fd [23] "join" "join" 3 [] .none .none .none (q "os.path" 1059) none (r 654) .none 0))
noncomputable def o1110 : Obj := ob "tuple" (.seq #[] 0)
noncomputable def o1111 : Obj := (Obj.mk .none none (Data.fields #[]) #[])
noncomputable def o1112 : Obj := ob "tuple" (.seq #[(q "p" 1111), (q "sep" 1112), (q "i" 1113), (q "head" 1114)] 0)
noncomputable def o1113 : Obj := ob "tuple" (.seq #[] 0)
noncomputable def o1114 : Obj := (Obj.mk .none none (Data.func (fd [25] "dirname" "dirname" 0 [] .none .none .none .none none .none .none 0)) #[])
noncomputable def o1115 : Obj := ob "code" (.fields #[(q "dirname" 1108), (q "dirname" 1109), (q "/claim/cut.py" 1110), (.int 490 0), (.int 1 0), (.int 0 0), (.int 0 0), (.int 3 0), (r 656), (.bool true), (.int 318 0), (r 657), .none, (r 658), (r 659), (r 660), (.int 1115 0), (.int 490 0), (q "/claim/cut.py" 1116)])
noncomputable def o1116 : Obj := ob "function" (.func (fd [25] "dirname" "dirname" 3 [] .none .none .none (q "os.path" 1059) none (r 661) .none 0))
noncomputable def o1119 : Obj := ob "tuple" (.seq #[] 0)
noncomputable def o1120 : Obj := ob "builtin_function_or_method" (.fields #[(bi "type.__prepare__"), (ty "type")])
noncomputable def o1121 (P : Params) : Obj := ob "dict" (.dict #[(de P "__module__" 1127 (q "cpy313.shlex" 1118)), (de P "__qualname__" 1129 (q "shlex" 1128)), (de P "__firstlineno__" 1131 (.int 499 1130)), (de P "__init__" 1143 (r 677)), (de P "punctuation_chars" 1151 (r 685)), (de P "push_token" 1159 (r 692)), (de P "push_source" 1168 (r 700)), (de P "pop_source" 1175 (r 707)), (de P "get_token" 1187 (r 714)), (de P "read_token" 1198 (r 721)), (de P "sourcehook" 1206 (r 728)), (de P "error_leader" 1215 (r 736)), (de P "__iter__" 1222 (r 743)), (de P "__next__" 1230 (r 750)), (de P "__static_attributes__" 1251 (r 751))] 15)
noncomputable def o1122 : Obj := ob "tuple" (.seq #[] 0)
noncomputable def o1123 : Obj := (Obj.mk .none none (Data.fields #[(.int 501 0), (.int 4 0), (r 676), (.int 543 0), (.int 4 0), (r 683), (.int 546 0), (.int 4 0), (r 691), (.int 549 0), (.int 4 0), (r 699), (.int 562 0), (.int 4 0), (r 706), (.int 569 0), (.int 4 0), (r 713), (.int 596 0), (.int 4 0), (r 720), (.int 733 0), (.int 4 0), (r 727), (.int 740 0), (.int 4 0), (r 735), (.int 743 0), (.int 4 0), (r 742), (.int 746 0), (.int 4 0), (r 749)]) #[])
noncomputable def o1124 : Obj := ob "code" (.fields #[(q "shlex" 1122), (q "shlex" 1123), (q "/claim/cut.py" 1124), (.int 499 0), (.int 0 0), (.int 0 0), (.int 0 0), (.int 0 0), (r 666), (.bool false), (.int 318 0), (r 667), .none, .none, .none, .none, (.int 1125 0), (.int 499 0), (q "/claim/cut.py" 1126)])
noncomputable def o1125 : Obj := (Obj.mk (ty "frame") none Data.plain #[(some (r 668)), (some (r 3)), (some (r 665)), none, (some (q "cpy313.shlex" 1118)), none, (some (r 0))])
noncomputable def o1126 : Obj := ob "tuple" (.seq #[.none, .none, (.bool false), (.bool false)] 0)
noncomputable def o1127 : Obj := ob "tuple" (.seq #[] 0)
noncomputable def o1128 : Obj := (Obj.mk .none none (Data.fields #[]) #[])
noncomputable def o1129 : Obj := ob "tuple" (.seq #[(q "self" 1135), (q "instream" 1136), (q "infile" 1137), (q "posix" 1138), (q "punctuation_chars" 1139), (q "t" 1140)] 0)
noncomputable def o1130 : Obj := ob "tuple" (.seq #[] 0)
noncomputable def o1131 : Obj := (Obj.mk .none none (Data.func (fd [27, 0] "__init__" "shlex.__init__" 0 [] .none .none .none .none none .none .none 0)) #[])
noncomputable def o1132 : Obj := ob "code" (.fields #[(q "__init__" 1132), (q "shlex.__init__" 1133), (q "/claim/cut.py" 1134), (.int 501 0), (.int 5 0), (.int 0 0), (.int 0 0), (.int 3 0), (r 671), (.bool true), (.int 318 0), (r 672), .none, (r 673), (r 674), (r 675), (.int 1141 0), (.int 501 0), (q "/claim/cut.py" 1142)])
noncomputable def o1133 : Obj := ob "function" (.func (fd [27, 0] "__init__" "shlex.__init__" 3 [] (r 670) .none .none (q "cpy313.shlex" 1118) none (r 676) .none 0))
noncomputable def o1134 : Obj := ob "tuple" (.seq #[] 0)
noncomputable def o1135 : Obj := (Obj.mk .none none (Data.fields #[]) #[])
noncomputable def o1136 : Obj := ob "tuple" (.seq #[(q "self" 1147)] 0)
noncomputable def o1137 : Obj := ob "tuple" (.seq #[] 0)
noncomputable def o1138 : Obj := (Obj.mk .none none (Data.func (fd [27, 1] "punctuation_chars" "shlex.punctuation_chars" 0 [] .none .none .none .none none .none .none 0)) #[])
noncomputable def o1139 : Obj := ob "code" (.fields #[(q "punctuation_chars" 1144), (q "shlex.punctuation_chars" 1145), (q "/claim/cut.py" 1146), (.int 542 0), (.int 1 0), (.int 0 0), (.int 0 0), (.int 3 0), (r 678), (.bool true), (.int 318 0), (r 679), .none, (r 680), (r 681), (r 682), (.int 1148 0), (.int 542 0), (q "/claim/cut.py" 1149)])
noncomputable def o1140 : Obj := ob "function" (.func (fd [27, 1] "punctuation_chars" "shlex.punctuation_chars" 3 [] .none .none .none (q "cpy313.shlex" 1118) none (r 683) .none 0))
noncomputable def o1141 : Obj := ob "property" (.fields #[(r 684), .none, .none, .none, (q "punctuation_chars" 1151), (.bool false)])
noncomputable def o1142 : Obj := ob "tuple" (.seq #[] 0)
noncomputable def o1143 : Obj := (Obj.mk .none none (Data.fields #[]) #[])
noncomputable def o1144 : Obj := ob "tuple" (.seq #[(q "self" 1155), (q "tok" 1156)] 0)
noncomputable def o1145 : Obj := ob "tuple" (.seq #[] 0)
noncomputable def o1146 : Obj := (Obj.mk .none none (Data.func (fd [27, 2] "push_token" "shlex.push_token" 0 [] .none .none .none .none none .none .none 0)) #[])
noncomputable def o1147 : Obj := ob "code" (.fields #[(q "push_token" 1152), (q "shlex.push_token" 1153), (q "/claim/cut.py" 1154), (.int 546 0), (.int 2 0), (.int 0 0), (.int 0 0), (.int 3 0), (r 686), (.bool true), (.int 318 0), (r 687), .none, (r 688), (r 689), (r 690), (.int 1157 0), (.int 546 0), (q "/claim/cut.py" 1158)])
noncomputable def o1148 : Obj := ob "function" (.func (fd [27, 2] "push_token" "shlex.push_token" 3 [] .none .none .none (q "cpy313.shlex" 1118) none (r 691) .none 0))
noncomputable def o1149 : Obj := ob "tuple" (.seq #[.none] 0)
noncomputable def o1150 : Obj := ob "tuple" (.seq #[] 0)
noncomputable def o1151 : Obj := (Obj.mk .none none (Data.fields #[]) #[])
noncomputable def o1152 : Obj := ob "tuple" (.seq #[(q "self" 1163), (q "newstream" 1164), (q "newfile" 1165)] 0)
noncomputable def o1153 : Obj := ob "tuple" (.seq #[] 0)
noncomputable def o1154 : Obj := (Obj.mk .none none (Data.func (fd [27, 3] "push_source" "shlex.push_source" 0 [] .none .none .none .none none .none .none 0)) #[])
noncomputable def o1155 : Obj := ob "code" (.fields #[(q "push_source" 1160), (q "shlex.push_source" 1161), (q "/claim/cut.py" 1162), (.int 549 0), (.int 3 0), (.int 0 0), (.int 0 0), (.int 3 0), (r 694), (.bool true), (.int 318 0), (r 695), .none, (r 696), (r 697), (r 698), (.int 1166 0), (.int 549 0), (q "/claim/cut.py" 1167)])
noncomputable def o1156 : Obj := ob "function" (.func (fd [27, 3] "push_source" "shlex.push_source" 3 [] (r 693) .none .none (q "cpy313.shlex" 1118) none (r 699) .none 0))
noncomputable def o1157 : Obj := ob "tuple" (.seq #[] 0)
noncomputable def o1158 : Obj := (Obj.mk .none none (Data.fields #[]) #[])
noncomputable def o1159 : Obj := ob "tuple" (.seq #[(q "self" 1172)] 0)
noncomputable def o1160 : Obj := ob "tuple" (.seq #[] 0)
noncomputable def o1161 : Obj := (Obj.mk .none none (Data.func (fd [27, 4] "pop_source" "shlex.pop_source" 0 [] .none .none .none .none none .none .none 0)) #[])
noncomputable def o1162 : Obj := ob "code" (.fields #[(q "pop_source" 1169), (q "shlex.pop_source" 1170), (q "/claim/cut.py" 1171), (.int 562 0), (.int 1 0), (.int 0 0), (.int 0 0), (.int 3 0), (r 701), (.bool true), (.int 318 0), (r 702), .none, (r 703), (r 704), (r 705), (.int 1173 0), (.int 562 0), (q "/claim/cut.py" 1174)])
noncomputable def o1163 : Obj := ob "function" (.func (fd [27, 4] "pop_source" "shlex.pop_source" 3 [] .none .none .none (q "cpy313.shlex" 1118) none (r 706) .none 0))
noncomputable def o1164 : Obj := ob "tuple" (.seq #[] 0)
noncomputable def o1165 : Obj := (Obj.mk .none none (Data.fields #[]) #[])
noncomputable def o1166 : Obj := ob "tuple" (.seq #[(q "self" 1179), (q "tok" 1180), (q "raw" 1181), (q "spec" 1182), (q "newfile" 1183), (q "newstream" 1184)] 0)
noncomputable def o1167 : Obj := ob "tuple" (.seq #[] 0)
noncomputable def o1168 : Obj := (Obj.mk .none none (Data.func (fd [27, 5] "get_token" "shlex.get_token" 0 [] .none .none .none .none none .none .none 0)) #[])
noncomputable def o1169 : Obj := ob "code" (.fields #[(q "get_token" 1176), (q "shlex.get_token" 1177), (q "/claim/cut.py" 1178), (.int 569 0), (.int 1 0), (.int 0 0), (.int 0 0), (.int 3 0), (r 708), (.bool true), (.int 318 0), (r 709), .none, (r 710), (r 711), (r 712), (.int 1185 0), (.int 569 0), (q "/claim/cut.py" 1186)])
noncomputable def o1170 : Obj := ob "function" (.func (fd [27, 5] "get_token" "shlex.get_token" 3 [] .none .none .none (q "cpy313.shlex" 1118) none (r 713) .none 0))
noncomputable def o1171 : Obj := ob "tuple" (.seq #[] 0)
noncomputable def o1172 : Obj := (Obj.mk .none none (Data.fields #[]) #[])
noncomputable def o1173 : Obj := ob "tuple" (.seq #[(q "self" 1191), (q "quoted" 1192), (q "escapedstate" 1193), (q "nextchar" 1194), (q "result" 1195)] 0)
noncomputable def o1174 : Obj := ob "tuple" (.seq #[] 0)
noncomputable def o1175 : Obj := (Obj.mk .none none (Data.func (fd [27, 6] "read_token" "shlex.read_token" 0 [] .none .none .none .none none .none .none 0)) #[])
noncomputable def o1176 : Obj := ob "code" (.fields #[(q "read_token" 1188), (q "shlex.read_token" 1189), (q "/claim/cut.py" 1190), (.int 596 0), (.int 1 0), (.int 0 0), (.int 0 0), (.int 3 0), (r 715), (.bool true), (.int 318 0), (r 716), .none, (r 717), (r 718), (r 719), (.int 1196 0), (.int 596 0), (q "/claim/cut.py" 1197)])
noncomputable def o1177 : Obj := ob "function" (.func (fd [27, 6] "read_token" "shlex.read_token" 3 [] .none .none .none (q "cpy313.shlex" 1118) none (r 720) .none 0))
noncomputable def o1178 : Obj := ob "tuple" (.seq #[] 0)
noncomputable def o1179 : Obj := (Obj.mk .none none (Data.fields #[]) #[])
noncomputable def o1180 : Obj := ob "tuple" (.seq #[(q "self" 1202), (q "newfile" 1203)] 0)
noncomputable def o1181 : Obj := ob "tuple" (.seq #[] 0)
noncomputable def o1182 : Obj := (Obj.mk .none none (Data.func (fd [27, 7] "sourcehook" "shlex.sourcehook" 0 [] .none .none .none .none none .none .none 0)) #[])
noncomputable def o1183 : Obj := ob "code" (.fields #[(q "sourcehook" 1199), (q "shlex.sourcehook" 1200), (q "/claim/cut.py" 1201), (.int 733 0), (.int 2 0), (.int 0 0), (.int 0 0), (.int 3 0), (r 722), (.bool true), (.int 318 0), (r 723), .none, (r 724), (r 725), (r 726), (.int 1204 0), (.int 733 0), (q "/claim/cut.py" 1205)])
noncomputable def o1184 : Obj := ob "function" (.func (fd [27, 7] "sourcehook" "shlex.sourcehook" 3 [] .none .none .none (q "cpy313.shlex" 1118) none (r 727) .none 0))
noncomputable def o1185 : Obj := ob "tuple" (.seq #[.none, .none] 0)
noncomputable def o1186 : Obj := ob "tuple" (.seq #[] 0)
noncomputable def o1187 : Obj := (Obj.mk .none none (Data.fields #[]) #[])
noncomputable def o1188 : Obj := ob "tuple" (.seq #[(q "self" 1210), (q "infile" 1211), (q "lineno" 1212)] 0)
noncomputable def o1189 : Obj := ob "tuple" (.seq #[] 0)
noncomputable def o1190 : Obj := (Obj.mk .none none (Data.func (fd [27, 8] "error_leader" "shlex.error_leader" 0 [] .none .none .none .none none .none .none 0)) #[])
noncomputable def o1191 : Obj := ob "code" (.fields #[(q "error_leader" 1207), (q "shlex.error_leader" 1208), (q "/claim/cut.py" 1209), (.int 740 0), (.int 3 0), (.int 0 0), (.int 0 0), (.int 3 0), (r 730), (.bool true), (.int 318 0), (r 731), .none, (r 732), (r 733), (r 734), (.int 1213 0), (.int 740 0), (q "/claim/cut.py" 1214)])
noncomputable def o1192 : Obj := ob "function" (.func (fd [27, 8] "error_leader" "shlex.error_leader" 3 [] (r 729) .none .none (q "cpy313.shlex" 1118) none (r 735) .none 0))
noncomputable def o1193 : Obj := ob "tuple" (.seq #[] 0)
noncomputable def o1194 : Obj := (Obj.mk .none none (Data.fields #[]) #[])
noncomputable def o1195 : Obj := ob "tuple" (.seq #[(q "self" 1219)] 0)
noncomputable def o1196 : Obj := ob "tuple" (.seq #[] 0)
noncomputable def o1197 : Obj := (Obj.mk .none none (Data.func (fd [27, 9] "__iter__" "shlex.__iter__" 0 [] .none .none .none .none none .none .none 0)) #[])
noncomputable def o1198 : Obj := ob "code" (.fields #[(q "__iter__" 1216), (q "shlex.__iter__" 1217), (q "/claim/cut.py" 1218), (.int 743 0), (.int 1 0), (.int 0 0), (.int 0 0), (.int 3 0), (r 737), (.bool true), (.int 318 0), (r 738), .none, (r 739), (r 740), (r 741), (.int 1220 0), (.int 743 0), (q "/claim/cut.py" 1221)])
noncomputable def o1199 : Obj := ob "function" (.func (fd [27, 9] "__iter__" "shlex.__iter__" 3 [] .none .none .none (q "cpy313.shlex" 1118) none (r 742) .none 0))
noncomputable def o1200 : Obj := ob "tuple" (.seq #[] 0)
noncomputable def o1201 : Obj := (Obj.mk .none none (Data.fields #[]) #[])
noncomputable def o1202 : Obj := ob "tuple" (.seq #[(q "self" 1226), (q "token" 1227)] 0)
noncomputable def o1203 : Obj := ob "tuple" (.seq #[] 0)
noncomputable def o1204 : Obj := (Obj.mk .none none (Data.func (fd [27, 10] "__next__" "shlex.__next__" 0 [] .none .none .none .none none .none .none 0)) #[])
noncomputable def o1205 : Obj := ob "code" (.fields #[(q "__next__" 1223), (q "shlex.__next__" 1224), (q "/claim/cut.py" 1225), (.int 746 0), (.int 1 0), (.int 0 0), (.int 0 0), (.int 3 0), (r 744), (.bool true), (.int 318 0), (r 745), .none, (r 746), (r 747), (r 748), (.int 1228 0), (.int 746 0), (q "/claim/cut.py" 1229)])
noncomputable def o1206 : Obj := ob "function" (.func (fd [27, 10] "__next__" "shlex.__next__" 3 [] .none .none .none (q "cpy313.shlex" 1118) none (r 749) .none 0))
noncomputable def o1207 : Obj := ob "tuple" (.seq #[(q "_punctuation_chars" 1231), (q "_pushback_chars" 1232), (q "commenters" 1233), (q "debug" 1234), (q "eof" 1235), (q "escape" 1236), (q "escapedquotes" 1237), (q "filestack" 1238), (q "infile" 1239), (q "instream" 1240), (q "lineno" 1241), (q "posix" 1242), (q "pushback" 1243), (q "quotes" 1244), (q "source" 1245), (q "state" 1246), (q "token" 1247), (q "whitespace" 1248), (q "whitespace_split" 1249), (q "wordchars" 1250)] 0)
noncomputable def o1208 (P : Params) : Obj := ob "dict" (.dict #[(de P "__module__" 1127 (q "cpy313.shlex" 1118)), (de P "__firstlineno__" 1131 (.int 499 1130)), (de P "__init__" 1143 (r 677)), (de P "punctuation_chars" 1151 (r 685)), (de P "push_token" 1159 (r 692)), (de P "push_source" 1168 (r 700)), (de P "pop_source" 1175 (r 707)), (de P "get_token" 1187 (r 714)), (de P "read_token" 1198 (r 721)), (de P "sourcehook" 1206 (r 728)), (de P "error_leader" 1215 (r 736)), (de P "__iter__" 1222 (r 743)), (de P "__next__" 1230 (r 750)), (de P "__static_attributes__" 1251 (r 751)), (de P "__dict__" 1253 (r 754)), (de P "__weakref__" 1255 (r 755)), (de P "__doc__" 1256 .none)] 4)
noncomputable def o1209 : Obj := (Obj.mk (ty "type") none (Data.cls (ClassData.mk "shlex" [(ty "object")] [(r 753), (ty "object")] 752 "shlex" true [] [] false none false)) #[none, none, (some (q "shlex" 1120)), (some (q "shlex" 1128)), (some (bi "object.__new__")), (some (.bool true))])
noncomputable def o1210 : Obj := ob "getset_descriptor" (.fields #[(q "__dict__" 1252), (r 753), (bi "function.__dict__"), (bi "function.__dict__#set")])
noncomputable def o1211 : Obj := ob "getset_descriptor" (.fields #[(q "__weakref__" 1254), (r 753), (bi "ExceptionGroup.__weakref__"), .none])
noncomputable def o1212 : Obj := ob "super" (.fields #[(r 753), (r 753), (r 753)])
noncomputable def o1213 : Obj := ob "builtin_function_or_method" (.fields #[(bi "object.__init_subclass__"), (r 753)])
noncomputable def o1294 : Obj := ob "tuple" (.seq #[(.bool false), (.bool true)] 0)
noncomputable def o1295 : Obj := ob "tuple" (.seq #[] 0)
noncomputable def o1296 : Obj := (Obj.mk .none none (Data.fields #[]) #[])
noncomputable def o1297 : Obj := ob "tuple" (.seq #[(q "s" 1262), (q "comments" 1263), (q "posix" 1264), (q "lex" 1265)] 0)
noncomputable def o1298 : Obj := ob "tuple" (.seq #[] 0)
noncomputable def o1299 : Obj := (Obj.mk .none none (Data.func (fd [28] "split" "split" 0 [] .none .none .none .none none .none .none 0)) #[])
noncomputable def o1300 : Obj := ob "code" (.fields #[(q "split" 1259), (q "split" 1260), (q "/claim/cut.py" 1261), (.int 751 0), (.int 3 0), (.int 0 0), (.int 0 0), (.int 3 0), (r 759), (.bool true), (.int 318 0), (r 760), .none, (r 761), (r 762), (r 763), (.int 1266 0), (.int 751 0), (q "/claim/cut.py" 1267)])
noncomputable def o1301 : Obj := ob "function" (.func (fd [28] "split" "split" 3 [] (r 758) .none .none (q "cpy313.shlex" 1118) none (r 764) .none 0))
noncomputable def o1302 : Obj := ob "tuple" (.seq #[] 0)
noncomputable def o1303 : Obj := (Obj.mk .none none (Data.fields #[]) #[])
noncomputable def o1304 : Obj := ob "tuple" (.seq #[(q "split_command" 1272)] 0)
noncomputable def o1305 : Obj := ob "tuple" (.seq #[] 0)
noncomputable def o1306 : Obj := (Obj.mk .none none (Data.func (fd [29] "join" "join" 0 [] .none .none .none .none none .none .none 0)) #[])
noncomputable def o1307 : Obj := ob "code" (.fields #[(q "join" 1269), (q "join" 1270), (q "/claim/cut.py" 1271), (.int 759 0), (.int 1 0), (.int 0 0), (.int 0 0), (.int 3 0), (r 766), (.bool true), (.int 318 0), (r 767), .none, (r 768), (r 769), (r 770), (.int 1273 0), (.int 759 0), (q "/claim/cut.py" 1274)])
noncomputable def o1308 : Obj := ob "function" (.func (fd [29] "join" "join" 3 [] .none .none .none (q "cpy313.shlex" 1118) none (r 771) .none 0))
noncomputable def o1309 : Obj := ob "builtin_function_or_method" (.fields #[(bi "re.Pattern.search"), (r 70)])
noncomputable def o1310 : Obj := ob "tuple" (.seq #[] 0)
noncomputable def o1311 : Obj := (Obj.mk .none none (Data.fields #[]) #[])
noncomputable def o1312 : Obj := ob "tuple" (.seq #[(q "s" 1282)] 0)
noncomputable def o1313 : Obj := ob "tuple" (.seq #[] 0)
noncomputable def o1314 : Obj := (Obj.mk .none none (Data.func (fd [32] "quote" "quote" 0 [] .none .none .none .none none .none .none 0)) #[])
noncomputable def o1315 : Obj := ob "code" (.fields #[(q "quote" 1279), (q "quote" 1280), (q "/claim/cut.py" 1281), (.int 763 0), (.int 1 0), (.int 0 0), (.int 0 0), (.int 3 0), (r 774), (.bool true), (.int 318 0), (r 775), .none, (r 776), (r 777), (r 778), (.int 1283 0), (.int 763 0), (q "/claim/cut.py" 1284)])
noncomputable def o1316 : Obj := ob "function" (.func (fd [32] "quote" "quote" 3 [] .none .none .none (q "cpy313.shlex" 1118) none (r 779) .none 0))
noncomputable def o1317 : Obj := ob "tuple" (.seq #[] 0)
noncomputable def o1318 : Obj := (Obj.mk .none none (Data.fields #[]) #[])
noncomputable def o1319 : Obj := ob "tuple" (.seq #[(q "expected" 1291), (q "actual" 1292), (q "i" 1293), (q "j" 1294), (q "missing" 1295), (q "unexpected" 1296), (q "e" 1297), (q "a" 1298)] 0)
noncomputable def o1320 : Obj := ob "tuple" (.seq #[] 0)
noncomputable def o1321 : Obj := (Obj.mk .none none (Data.func (fd [34] "sorted_list_difference" "sorted_list_difference" 0 [] .none .none .none .none none .none .none 0)) #[])
noncomputable def o1322 : Obj := ob "code" (.fields #[(q "sorted_list_difference" 1288), (q "sorted_list_difference" 1289), (q "/claim/cut.py" 1290), (.int 770 0), (.int 2 0), (.int 0 0), (.int 0 0), (.int 3 0), (r 781), (.bool true), (.int 318 0), (r 782), .none, (r 783), (r 784), (r 785), (.int 1299 0), (.int 770 0), (q "/claim/cut.py" 1300)])
noncomputable def o1323 : Obj := ob "function" (.func (fd [34] "sorted_list_difference" "sorted_list_difference" 3 [] .none .none .none (q "cpy313.unittest.util" 1286) none (r 786) .none 0))
noncomputable def o1324 : Obj := ob "tuple" (.seq #[] 0)
noncomputable def o1325 : Obj := (Obj.mk .none none (Data.fields #[]) #[])
noncomputable def o1326 : Obj := ob "tuple" (.seq #[(q "x" 1305), (q "y" 1306)] 0)
noncomputable def o1327 : Obj := ob "tuple" (.seq #[] 0)
noncomputable def o1328 : Obj := (Obj.mk .none none (Data.func (fd [35] "three_way_cmp" "three_way_cmp" 0 [] .none .none .none .none none .none .none 0)) #[])
noncomputable def o1329 : Obj := ob "code" (.fields #[(q "three_way_cmp" 1302), (q "three_way_cmp" 1303), (q "/claim/cut.py" 1304), (.int 802 0), (.int 2 0), (.int 0 0), (.int 0 0), (.int 3 0), (r 788), (.bool true), (.int 318 0), (r 789), .none, (r 790), (r 791), (r 792), (.int 1307 0), (.int 802 0), (q "/claim/cut.py" 1308)])
noncomputable def o1330 : Obj := ob "function" (.func (fd [35] "three_way_cmp" "three_way_cmp" 3 [] .none .none .none (q "cpy313.unittest.util" 1286) none (r 793) .none 0))
noncomputable def o1331 : Obj := ob "tuple" (.seq #[] 0)
noncomputable def o1332 : Obj := (Obj.mk .none none (Data.fields #[]) #[])
noncomputable def o1333 : Obj := ob "tuple" (.seq #[(q "size" 1315), (q "end" 1316), (q "marks" 1317), (q "mark" 1318), (q "step" 1319)] 0)
noncomputable def o1334 : Obj := ob "tuple" (.seq #[] 0)
noncomputable def o1335 : Obj := (Obj.mk .none none (Data.func (fd [37] "_law_marks" "_law_marks" 0 [] .none .none .none .none none .none .none 0)) #[])
noncomputable def o1336 : Obj := ob "code" (.fields #[(q "_law_marks" 1312), (q "_law_marks" 1313), (q "/claim/cut.py" 1314), (.int 805 0), (.int 2 0), (.int 0 0), (.int 0 0), (.int 3 0), (r 795), (.bool true), (.int 318 0), (r 796), .none, (r 797), (r 798), (r 799), (.int 1320 0), (.int 805 0), (q "/claim/cut.py" 1321)])
noncomputable def o1337 : Obj := ob "function" (.func (fd [37] "_law_marks" "_law_marks" 3 [] .none .none .none (q "law_oy0388_01" 1310) none (r 800) .none 0))
noncomputable def o1338 : Obj := ob "tuple" (.seq #[] 0)
noncomputable def o1339 : Obj := (Obj.mk .none none (Data.fields #[]) #[])
noncomputable def o1340 : Obj := ob "tuple" (.seq #[(q "wide" 1326), (q "near" 1327), (q "ink" 1328), (q "inks" 1329), (q "blanks" 1330), (q "text" 1331), (q "moment" 1332)] 0)
noncomputable def o1341 : Obj := ob "tuple" (.seq #[] 0)
noncomputable def o1342 : Obj := (Obj.mk .none none (Data.func (fd [38] "_law_ticked" "_law_ticked" 0 [] .none .none .none .none none .none .none 0)) #[])
noncomputable def o1343 : Obj := ob "code" (.fields #[(q "_law_ticked" 1323), (q "_law_ticked" 1324), (q "/claim/cut.py" 1325), (.int 814 0), (.int 3 0), (.int 0 0), (.int 0 0), (.int 3 0), (r 802), (.bool true), (.int 318 0), (r 803), .none, (r 804), (r 805), (r 806), (.int 1333 0), (.int 814 0), (q "/claim/cut.py" 1334)])
noncomputable def o1344 : Obj := ob "function" (.func (fd [38] "_law_ticked" "_law_ticked" 3 [] .none .none .none (q "law_oy0388_01" 1310) none (r 807) .none 0))
noncomputable def o1345 : Obj := ob "tuple" (.seq #[] 0)
noncomputable def o1346 : Obj := (Obj.mk .none none (Data.fields #[]) #[])
noncomputable def o1347 : Obj := ob "tuple" (.seq #[(q "words" 1339), (q "ranks" 1340), (q "i" 1341), (q "k" 1342), (q "due" 1343)] 0)
noncomputable def o1348 : Obj := ob "tuple" (.seq #[] 0)
noncomputable def o1349 : Obj := (Obj.mk .none none (Data.func (fd [39] "_law_ordered" "_law_ordered" 0 [] .none .none .none .none none .none .none 0)) #[])
noncomputable def o1350 : Obj := ob "code" (.fields #[(q "_law_ordered" 1336), (q "_law_ordered" 1337), (q "/claim/cut.py" 1338), (.int 824 0), (.int 2 0), (.int 0 0), (.int 0 0), (.int 3 0), (r 809), (.bool true), (.int 318 0), (r 810), .none, (r 811), (r 812), (r 813), (.int 1344 0), (.int 824 0), (q "/claim/cut.py" 1345)])
noncomputable def o1351 : Obj := ob "function" (.func (fd [39] "_law_ordered" "_law_ordered" 3 [] .none .none .none (q "law_oy0388_01" 1310) none (r 814) .none 0))
noncomputable def o1352 : Obj := ob "tuple" (.seq #[] 0)
noncomputable def o1353 : Obj := (Obj.mk .none none (Data.fields #[]) #[])
noncomputable def o1354 : Obj := (Obj.mk .none none (Data.func (fd [40] "_law_places" "_law_places" 0 [] .none .none .none .none none .none .none 0)) #[])
noncomputable def o1355 : Obj := ob "code" (.fields #[(q "_law_places" 1347), (q "_law_places" 1348), (q "/claim/cut.py" 1349), (.int 833 0), (.int 2 0), (.int 0 0), (.int 0 0), (.int 3 0), (r 816), (.bool true), (.int 318 0), (r 817), .none, .none, .none, (r 818), (.int 1350 0), (.int 833 0), (q "/claim/cut.py" 1351)])
noncomputable def o1356 : Obj := ob "function" (.func (fd [40] "_law_places" "_law_places" 3 [] .none .none .none (q "law_oy0388_01" 1310) none (r 819) .none 0))
noncomputable def o1357 : Obj := ob "tuple" (.seq #[] 0)
noncomputable def o1358 : Obj := (Obj.mk .none none (Data.fields #[]) #[])
noncomputable def o1359 : Obj := (Obj.mk .none none (Data.func (fd [41] "_law_moved" "_law_moved" 0 [] .none .none .none .none none .none .none 0)) #[])
noncomputable def o1360 : Obj := ob "code" (.fields #[(q "_law_moved" 1353), (q "_law_moved" 1354), (q "/claim/cut.py" 1355), (.int 835 0), (.int 4 0), (.int 0 0), (.int 0 0), (.int 3 0), (r 821), (.bool true), (.int 318 0), (r 822), .none, .none, .none, (r 823), (.int 1356 0), (.int 835 0), (q "/claim/cut.py" 1357)])
noncomputable def o1361 : Obj := ob "function" (.func (fd [41] "_law_moved" "_law_moved" 3 [] .none .none .none (q "law_oy0388_01" 1310) none (r 824) .none 0))
noncomputable def o1362 : Obj := ob "tuple" (.seq #[] 0)
noncomputable def o1363 : Obj := (Obj.mk .none none (Data.fields #[]) #[])
noncomputable def o1364 : Obj := (Obj.mk .none none (Data.func (fd [42] "_law_read" "_law_read" 0 [] .none .none .none .none none .none .none 0)) #[])
noncomputable def o1365 : Obj := ob "code" (.fields #[(q "_law_read" 1359), (q "_law_read" 1360), (q "/claim/cut.py" 1361), (.int 846 0), (.int 5 0), (.int 0 0), (.int 0 0), (.int 3 0), (r 826), (.bool true), (.int 318 0), (r 827), .none, .none, .none, (r 828), (.int 1362 0), (.int 846 0), (q "/claim/cut.py" 1363)])
noncomputable def o1366 : Obj := ob "function" (.func (fd [42] "_law_read" "_law_read" 3 [] .none .none .none (q "law_oy0388_01" 1310) none (r 829) .none 0))
noncomputable def o1369 : Obj := ob "tuple" (.seq #[] 0)
noncomputable def o1370 : Obj := (Obj.mk .none none (Data.fields #[]) #[])
noncomputable def o1371 : Obj := (Obj.mk .none none (Data.func (fd [43] "_law_held" "_law_held" 0 [] .none .none .none .none none .none .none 0)) #[])
noncomputable def o1372 : Obj := ob "code" (.fields #[(q "_law_held" 1365), (q "_law_held" 1366), (q "/claim/cut.py" 1367), (.int 858 0), (.int 4 0), (.int 0 0), (.int 0 0), (.int 3 0), (r 831), (.bool true), (.int 318 0), (r 832), .none, .none, .none, (r 833), (.int 1368 0), (.int 858 0), (q "/claim/cut.py" 1369)])
noncomputable def o1373 : Obj := ob "function" (.func (fd [43] "_law_held" "_law_held" 3 [] .none .none .none (q "law_oy0388_01" 1310) none (r 834) .none 0))
noncomputable def o1374 : Obj := ob "tuple" (.seq #[] 0)
noncomputable def o1375 : Obj := (Obj.mk .none none (Data.fields #[]) #[])
noncomputable def o1376 : Obj := (Obj.mk .none none (Data.func (fd [44] "law" "law" 0 [] .none .none .none .none none .none .none 0)) #[])
noncomputable def o1377 : Obj := ob "code" (.fields #[(q "law" 1371), (q "law" 1372), (q "/claim/cut.py" 1373), (.int 874 0), (.int 1 0), (.int 0 0), (.int 0 0), (.int 3 0), (r 836), (.bool true), (.int 318 0), (r 837), .none, .none, .none, (r 838), (.int 1374 0), (.int 874 0), (q "/claim/cut.py" 1375)])
noncomputable def o1378 : Obj := ob "function" (.func (fd [44] "law" "law" 3 [] .none .none .none (q "law_oy0388_01" 1310) none (r 839) .none 0))
noncomputable def o43 (P : Params) : Obj := (Obj.mk .none none (Data.dict #[(de P "\x69mport.loaded._sre" 183 (.bool true)), (de P "class._frozen_importlib.BuiltinImporter" 185 (r 14)), (de P "watched.\x69mport" 206 (r 18)), (de P "class._frozen_importlib.ModuleSpec" 216 (r 22)), (de P "sys.modules.booked-epoch" 245 (.int 4 0)), (de P "\x69mport.later-laid._sre" 270 (.bool true)), (de P "watched.library" 272 (r 27)), (de P "watched.library-objects" 0 (q "\x0c\x1e" 0)), (de P "watched.library-deep._sre" 273 (q "\x04\x00\x00\x0b\x04\x00\x00\x0b\x04\x00\x00\x03\x04\x00\x00\x0b\x08\x04dict\x02" 0)), (de P "\x69mport.loaded._collections" 280 (.bool true)), (de P "sys.modules.landed._collections" 294 (.bool true)), (de P "\x69mport.later-laid._collections" 309 (.bool true)), (de P "watched.library-deep._collections" 311 (q "\x04\x00\x00\x1d\x04\x00\x00\x1d\x04\x00\x00\x03\x04\x00\x00\x1d\x08\x04dict\x02" 0))] 13) #[])
noncomputable def o44 (P : Params) : Obj := ob "dict" (.dict #[(de P "__name__" 165 (q "__main__" 164)), (de P "__doc__" 166 .none), (de P "__package__" 167 .none), (de P "__loader__" 168 (bi "__main__.__loader__#opaque")), (de P "__spec__" 169 .none), (de P "__annotations__" 170 (r 6)), (de P "__builtins__" 171 (r 4)), (de P "__file__" 173 (q "/claim/cut.py" 172)), (de P "__cached__" 174 .none), (de P "_sre" 275 (r 12)), (de P "deque" 317 (ty "collections.deque"))] 11)
noncomputable def o76 : Obj := (Obj.mk .none none (Data.fields #[]) #[])
noncomputable def o20003 (P : Params) : Obj := ob "dict" (.dict #[(de P "__name__" 165 (q "io" 402)), (de P "__doc__" 166 .none), (de P "__package__" 167 .none), (de P "__loader__" 168 (bi "__main__.__loader__#opaque")), (de P "__spec__" 169 .none), (de P "__annotations__" 170 (r 6)), (de P "__builtins__" 171 (r 4)), (de P "__file__" 173 (q "/claim/cut.py" 172)), (de P "__cached__" 174 .none), (de P "_sre" 275 (r 12)), (de P "deque" 317 (ty "collections.deque")), (de P "_wall" 330 (r 44)), (de P "_strcoll" 340 (r 51)), (de P "CHAR_MAX" 342 (.int 127 341)), (de P "_grouping_intervals" 351 (r 58)), (de P "_strip_padding" 361 (r 65)), (de P "_twin_re_1" 401 (r 70)), (de P "_whence" 411 (r 77)), (de P "_index" 419 (r 84)), (de P "UnsupportedOperation" 441 (r 94)), (de P "IOBase" 473 (r 114)), (de P "BufferedIOBase" 491 (r 129)), (de P "TextIOBase" 509 (r 141))] 23)
noncomputable def o20035 : Obj := (Obj.mk .none none (Data.fields #[(.int 3 0), (.int 0 0), (r 43), (.int 7 0), (.int 0 0), (r 50), (.int 10 0), (.int 0 0), (r 57), (.int 22 0), (.int 0 0), (r 64), (.int 34 0), (.int 0 0), (r 76), (.int 39 0), (.int 0 0), (r 83), (.int 46 0), (.int 0 0), (r 90), (.int 48 0), (.int 0 0), (r 103), (.int 55 0), (.int 0 0), (r 125), (.int 57 0), (.int 0 0), (r 137)]) #[])
noncomputable def o20129 : Obj := (Obj.mk (ty "type") none (Data.cls (ClassData.mk "BufferedIOBase" [(r 114)] [(r 129), (r 114), (ty "object")] 128 "BufferedIOBase" true [] [] false none false)) #[(some (r 120)), none, (some (q "BufferedIOBase" 474)), (some (q "BufferedIOBase" 482)), (some .none), (some (.bool true))])
noncomputable def o20141 : Obj := (Obj.mk (ty "type") none (Data.cls (ClassData.mk "TextIOBase" [(r 114)] [(r 141), (r 114), (ty "object")] 140 "TextIOBase" true [] [] false none false)) #[(some (r 132)), none, (some (q "TextIOBase" 492)), (some (q "TextIOBase" 500)), (some .none), (some (.bool true))])
noncomputable def o30003 (P : Params) : Obj := ob "dict" (.dict #[(de P "__name__" 165 (q "io" 402)), (de P "__doc__" 166 .none), (de P "__package__" 167 .none), (de P "__loader__" 168 (bi "__main__.__loader__#opaque")), (de P "__spec__" 169 .none), (de P "__annotations__" 170 (r 6)), (de P "__builtins__" 171 (r 4)), (de P "__file__" 173 (q "/claim/cut.py" 172)), (de P "__cached__" 174 .none), (de P "_sre" 275 (r 12)), (de P "deque" 317 (ty "collections.deque")), (de P "_wall" 330 (r 44)), (de P "_strcoll" 340 (r 51)), (de P "CHAR_MAX" 342 (.int 127 341)), (de P "_grouping_intervals" 351 (r 58)), (de P "_strip_padding" 361 (r 65)), (de P "_twin_re_1" 401 (r 70)), (de P "_whence" 411 (r 77)), (de P "_index" 419 (r 84)), (de P "UnsupportedOperation" 441 (r 94)), (de P "IOBase" 473 (r 114)), (de P "BufferedIOBase" 491 (r 129)), (de P "TextIOBase" 509 (r 141)), (de P "BytesIO" 771 (r 371))] 24)
noncomputable def o30035 : Obj := (Obj.mk .none none (Data.fields #[(.int 3 0), (.int 0 0), (r 43), (.int 7 0), (.int 0 0), (r 50), (.int 10 0), (.int 0 0), (r 57), (.int 22 0), (.int 0 0), (r 64), (.int 34 0), (.int 0 0), (r 76), (.int 39 0), (.int 0 0), (r 83), (.int 46 0), (.int 0 0), (r 90), (.int 48 0), (.int 0 0), (r 103), (.int 55 0), (.int 0 0), (r 125), (.int 57 0), (.int 0 0), (r 137), (.int 59 0), (.int 0 0), (r 149)]) #[])
noncomputable def o40003 (P : Params) : Obj := ob "dict" (.dict #[(de P "__name__" 165 (q "io" 402)), (de P "__doc__" 166 .none), (de P "__package__" 167 .none), (de P "__loader__" 168 (bi "__main__.__loader__#opaque")), (de P "__spec__" 169 .none), (de P "__annotations__" 170 (r 6)), (de P "__builtins__" 171 (r 4)), (de P "__file__" 173 (q "/claim/cut.py" 172)), (de P "__cached__" 174 .none), (de P "_sre" 275 (r 12)), (de P "deque" 317 (ty "collections.deque")), (de P "_wall" 330 (r 44)), (de P "_strcoll" 340 (r 51)), (de P "CHAR_MAX" 342 (.int 127 341)), (de P "_grouping_intervals" 351 (r 58)), (de P "_strip_padding" 361 (r 65)), (de P "_twin_re_1" 401 (r 70)), (de P "_whence" 411 (r 77)), (de P "_index" 419 (r 84)), (de P "UnsupportedOperation" 441 (r 94)), (de P "IOBase" 473 (r 114)), (de P "BufferedIOBase" 491 (r 129)), (de P "TextIOBase" 509 (r 141)), (de P "BytesIO" 771 (r 371)), (de P "StringIO" 1058 (r 618))] 25)
noncomputable def o40035 : Obj := (Obj.mk .none none (Data.fields #[(.int 3 0), (.int 0 0), (r 43), (.int 7 0), (.int 0 0), (r 50), (.int 10 0), (.int 0 0), (r 57), (.int 22 0), (.int 0 0), (r 64), (.int 34 0), (.int 0 0), (r 76), (.int 39 0), (.int 0 0), (r 83), (.int 46 0), (.int 0 0), (r 90), (.int 48 0), (.int 0 0), (r 103), (.int 55 0), (.int 0 0), (r 125), (.int 57 0), (.int 0 0), (r 137), (.int 59 0), (.int 0 0), (r 149), (.int 229 0), (.int 0 0), (r 379)]) #[])
noncomputable def o50011 (P : Params) : Obj := ob "dict" (.dict #[(de P "__name__" 247 (q "_sre" 246)), (de P "__doc__" 248 .none), (de P "__package__" 250 (q "" 249)), (de P "__loader__" 251 (r 14)), (de P "__spec__" 252 (r 26)), (de P "compile" 253 (bi "_sre.compile")), (de P "template" 254 (bi "_sre.template")), (de P "getcodesize" 255 (bi "_sre.getcodesize")), (de P "ascii_iscased" 256 (bi "_sre.ascii_iscased")), (de P "unicode_iscased" 257 (bi "_sre.unicode_iscased")), (de P "ascii_tolower" 258 (bi "_sre.ascii_tolower")), (de P "unicode_tolower" 259 (bi "_sre.unicode_tolower")), (de P "MAGIC" 261 (.int 20230612 260)), (de P "CODESIZE" 263 (.int 4 262)), (de P "MAXREPEAT" 265 (.int 4294967295 264)), (de P "MAXGROUPS" 267 (.int 1073741823 266)), (de P "copyright" 269 (q " SRE 2.2.2 Copyright (c) 1997-2002 by Secret Labs AB " 268))] 17)
noncomputable def o50029 (P : Params) : Obj := ob "dict" (.dict #[(de P "__name__" 296 (q "_collections" 295)), (de P "__doc__" 297 (bi "_collections.__doc__:str#opaque")), (de P "__package__" 299 (q "" 298)), (de P "__loader__" 300 (r 14)), (de P "__spec__" 301 (r 33)), (de P "_count_elements" 302 (bi "_collections._count_elements")), (de P "deque" 303 (ty "collections.deque")), (de P "defaultdict" 304 (ty "collections.defaultdict")), (de P "_deque_iterator" 305 (ty "collections._deque_iterator")), (de P "_deque_reverse_iterator" 306 (ty "collections._deque_reverse_iterator")), (de P "_tuplegetter" 307 (ty "collections._tuplegetter")), (de P "OrderedDict" 308 (ty "collections.OrderedDict"))] 12)
noncomputable def heap_74 (P : Params) : Heap := { objs := ⟨[o41 P, o42 P, o43 P, o44 P, o45, o46, o47, o48, o49, o50, o51, o52 P, o53, o54 P, o55, o56, o57, o58, o59, o60, o61 P, o62 P, o63, o64, o65, o66, o67, o68, o69, o70 P, o71, o72, o73 P, o74]⟩ }
noncomputable def heap_78 (P : Params) : Heap := { objs := ⟨[o41 P, o42 P, o43 P, o44 P, o45, o46, o47, o48, o49, o50, o51, o52 P, o53, o54 P, o55, o56, o57, o58, o59, o60, o61 P, o62 P, o63, o64, o65, o66, o67, o68, o69, o70 P, o71, o72, o73 P, o74, o75, o76, o77, o78]⟩ }
noncomputable def heap_1379 (P : Params) : Heap := { objs := ⟨[o41 P, o42 P, o130 P, o1367 P, o45, o46, o47, o48, o49, o50, o51, o52 P, o53, o54 P, o55, o56, o57, o58, o59, o60, o61 P, o62 P, o63, o64, o65, o66, o67, o68, o69, o70 P, o71, o72, o73 P, o74, o75, o1368, o77, o78, o83, o84, o85, o86, o87, o88, o89, o90, o91, o92, o93, o94, o95, o96, o97, o98, o99, o100, o101, o102, o103, o104, o105, o106, o107, o108, o109, o110, o111, o112, o113, o114, o115, o116, o117, o118, o119, o120, o121, o122, o123, o124, o125, o126, o127, o128, o129, o133, o134, o135 P, o136, o137, o138, o139, o140, o141 P, o142, o143, o144, o145, o148, o149, o150 P, o151, o152, o153, o154, o155, o156, o157, o158, o159, o160, o161, o162, o163 P, o187, o165, o166, o167, o168, o169, o173, o174, o175 P, o176, o177, o178, o179, o180, o181 P, o202, o183, o184, o188, o189, o190 P, o191, o192, o193, o194, o195, o196 P, o605, o198, o199, o203, o204, o205 P, o206, o207, o208, o209, o210, o211, o212, o213, o214, o215, o216, o217, o218, o219, o220, o221, o222, o223, o224, o225, o226, o227, o228, o229, o230, o231, o232, o233, o234, o235, o236, o237, o238, o239, o240, o241, o242, o243, o244, o245, o246, o247, o248, o249, o250, o251, o252, o253, o254, o255, o256, o257, o258, o259, o260, o261, o262, o263, o264, o265, o266, o267, o268, o269, o270, o271, o272, o273, o274, o275, o276, o277, o278, o279, o280, o281, o282, o283, o284, o285, o286, o287, o288, o289, o290, o291, o292, o293, o294, o295, o296, o297, o298, o299, o300, o301, o302, o303, o304, o305, o306, o307, o308, o309, o310, o311, o312, o313, o314, o315, o316, o317, o318, o319, o320, o321, o322, o323, o324, o325, o326, o327, o328, o329, o330, o331, o332, o333, o334, o335, o336, o337, o338, o339, o340, o341, o342, o343, o344, o345, o346, o347, o348, o349, o350, o351, o352, o353, o354, o355, o356, o357, o358, o359, o360, o361, o362, o363, o364, o365, o366, o367, o368, o369, o370, o371, o372, o373, o374, o375, o376, o377, o378, o379, o380, o381, o382, o383, o384, o385, o386, o387, o388, o389, o390, o391, o392, o393, o394, o395, o396, o397, o398, o399, o400, o401, o402, o403, o404, o405, o406, o407, o408, o409, o410, o411, o412, o413, o414, o415, o416, o417, o418, o419, o420, o421, o422, o423, o424, o425, o426, o427, o428, o429 P, o430, o431, o432, o606, o607, o608 P, o609, o610, o611, o612, o613, o614, o615, o616, o617, o618, o619, o620, o621, o622, o623, o624, o625, o626, o627, o628, o629, o630, o631, o632, o633, o634, o635, o636, o637, o638, o639, o640, o641, o642, o643, o644, o645, o646, o647, o648, o649, o650, o651, o652, o653, o654, o655, o656, o657, o658, o659, o660, o661, o662, o663, o664, o665, o666, o667, o668, o669, o670, o671, o672, o673, o674, o675, o676, o677, o678, o679, o680, o681, o682, o683, o684, o685, o686, o687, o688, o689, o690, o691, o692, o693, o694, o695, o696, o697, o698, o699, o700, o701, o702, o703, o704, o705, o706, o707, o708, o709, o710, o711, o712, o713, o714, o715, o716, o717, o718, o719, o720, o721, o722, o723, o724, o725, o726, o727, o728, o729, o730, o731, o732, o733, o734, o735, o736, o737, o738, o739, o740, o741, o742, o743, o744, o745, o746, o747, o748, o749, o750, o751, o752, o753, o754, o755, o756, o757, o758, o759, o760, o761, o762, o763, o764, o765, o766, o767, o768, o769, o770, o771, o772, o773, o774, o775, o776, o777, o778, o779, o780, o781, o782, o783, o784, o785, o786, o787, o788, o789, o790, o791, o792, o793, o794, o795, o796, o797, o798, o799, o800, o801, o802, o803, o804, o805, o806, o807, o808, o809, o810, o811, o812, o813, o814, o815, o816, o817, o818, o819, o820, o821, o822, o823, o824, o825, o826, o827, o828, o829, o830, o831, o832, o833, o834, o835, o836, o837, o838, o839, o840, o841, o842, o843, o844, o845, o846, o847, o848, o849 P, o850, o851, o852, o1075, o1076, o1077, o1078, o1079, o1080, o1081, o1082, o1083, o1084, o1085, o1086, o1087, o1088, o1089, o1090, o1091, o1092, o1093, o1094, o1095, o1096, o1097, o1098, o1099, o1100, o1101, o1102, o1103, o1104, o1105, o1106, o1107, o1108, o1109, o1110, o1111, o1112, o1113, o1114, o1115, o1116, o1119, o1120, o1121 P, o1122, o1123, o1124, o1125, o1126, o1127, o1128, o1129, o1130, o1131, o1132, o1133, o1134, o1135, o1136, o1137, o1138, o1139, o1140, o1141, o1142, o1143, o1144, o1145, o1146, o1147, o1148, o1149, o1150, o1151, o1152, o1153, o1154, o1155, o1156, o1157, o1158, o1159, o1160, o1161, o1162, o1163, o1164, o1165, o1166, o1167, o1168, o1169, o1170, o1171, o1172, o1173, o1174, o1175, o1176, o1177, o1178, o1179, o1180, o1181, o1182, o1183, o1184, o1185, o1186, o1187, o1188, o1189, o1190, o1191, o1192, o1193, o1194, o1195, o1196, o1197, o1198, o1199, o1200, o1201, o1202, o1203, o1204, o1205, o1206, o1207, o1208 P, o1209, o1210, o1211, o1212, o1213, o1294, o1295, o1296, o1297, o1298, o1299, o1300, o1301, o1302, o1303, o1304, o1305, o1306, o1307, o1308, o1309, o1310, o1311, o1312, o1313, o1314, o1315, o1316, o1317, o1318, o1319, o1320, o1321, o1322, o1323, o1324, o1325, o1326, o1327, o1328, o1329, o1330, o1331, o1332, o1333, o1334, o1335, o1336, o1337, o1338, o1339, o1340, o1341, o1342, o1343, o1344, o1345, o1346, o1347, o1348, o1349, o1350, o1351, o1352, o1353, o1354, o1355, o1356, o1357, o1358, o1359, o1360, o1361, o1362, o1363, o1364, o1365, o1366, o1369, o1370, o1371, o1372, o1373, o1374, o1375, o1376, o1377, o1378]⟩ }
noncomputable def tree_79 (P : Params) : BT := (nd (o41 P) (nd (o42 P) (nd (o44 P) (nd o48 (nd o56 (nd o72 .nil .nil) .nil) (nd o64 .nil .nil)) (nd (o52 P) (nd o60 (nd o76 .nil .nil) .nil) (nd o68 .nil .nil))) (nd o46 (nd o50 (nd o58 (nd o74 .nil .nil) .nil) (nd o66 .nil .nil)) (nd (o54 P) (nd (o62 P) (nd o78 .nil .nil) .nil) (nd (o70 P) .nil .nil)))) (nd (o43 P) (nd o45 (nd o49 (nd o57 (nd (o73 P) .nil .nil) .nil) (nd o65 .nil .nil)) (nd o53 (nd (o61 P) (nd o77 .nil .nil) .nil) (nd o69 .nil .nil))) (nd o47 (nd o51 (nd o59 (nd o75 .nil .nil) .nil) (nd o67 .nil .nil)) (nd o55 (nd o63 .nil .nil) (nd o71 .nil .nil)))))
noncomputable def tree_c13 (P : Params) : BT := (nd (o41 P) (nd (o42 P) (nd (o20003 P) (nd o48 (nd o56 (nd o72 (nd o108 (nd o180 .nil .nil) .nil) (nd o143 .nil .nil)) (nd o92 (nd o124 (nd o199 .nil .nil) .nil) (nd o161 .nil .nil))) (nd o64 (nd o84 (nd o116 (nd o191 .nil .nil) .nil) (nd o153 .nil .nil)) (nd o100 (nd (o135 P) .nil .nil) (nd o169 .nil .nil)))) (nd (o52 P) (nd o60 (nd o20035 (nd o112 (nd o184 .nil .nil) .nil) (nd o149 .nil .nil)) (nd o96 (nd o128 .nil .nil) (nd o165 .nil .nil))) (nd o68 (nd o88 (nd o120 (nd o195 .nil .nil) .nil) (nd o157 .nil .nil)) (nd o104 (nd o139 .nil .nil) (nd o176 .nil .nil))))) (nd o46 (nd o50 (nd o58 (nd o74 (nd o110 (nd o20129 .nil .nil) .nil) (nd o145 .nil .nil)) (nd o94 (nd o126 .nil .nil) (nd (o163 P) .nil .nil))) (nd o66 (nd o86 (nd o118 (nd o193 .nil .nil) .nil) (nd o155 .nil .nil)) (nd o102 (nd o137 .nil .nil) (nd o174 .nil .nil)))) (nd (o54 P) (nd (o62 P) (nd o78 (nd o114 (nd o189 .nil .nil) .nil) (nd o151 .nil .nil)) (nd o98 (nd o133 .nil .nil) (nd o167 .nil .nil))) (nd (o70 P) (nd o90 (nd o122 (nd o20141 .nil .nil) .nil) (nd o159 .nil .nil)) (nd o106 (nd (o141 P) .nil .nil) (nd o178 .nil .nil)))))) (nd (o130 P) (nd o45 (nd o49 (nd o57 (nd (o73 P) (nd o109 (nd (o181 P) .nil .nil) .nil) (nd o144 .nil .nil)) (nd o93 (nd o125 .nil .nil) (nd o162 .nil .nil))) (nd o65 (nd o85 (nd o117 (nd o192 .nil .nil) .nil) (nd o154 .nil .nil)) (nd o101 (nd o136 .nil .nil) (nd o173 .nil .nil)))) (nd o53 (nd (o61 P) (nd o77 (nd o113 (nd o188 .nil .nil) .nil) (nd (o150 P) .nil .nil)) (nd o97 (nd o129 .nil .nil) (nd o166 .nil .nil))) (nd o69 (nd o89 (nd o121 (nd (o196 P) .nil .nil) .nil) (nd o158 .nil .nil)) (nd o105 (nd o140 .nil .nil) (nd o177 .nil .nil))))) (nd o47 (nd o51 (nd o59 (nd o75 (nd o111 (nd o183 .nil .nil) .nil) (nd o148 .nil .nil)) (nd o95 (nd o127 .nil .nil) (nd o187 .nil .nil))) (nd o67 (nd o87 (nd o119 (nd o194 .nil .nil) .nil) (nd o156 .nil .nil)) (nd o103 (nd o138 .nil .nil) (nd (o175 P) .nil .nil)))) (nd o55 (nd o63 (nd o83 (nd o115 (nd (o190 P) .nil .nil) .nil) (nd o152 .nil .nil)) (nd o99 (nd o134 .nil .nil) (nd o168 .nil .nil))) (nd o71 (nd o91 (nd o123 (nd o198 .nil .nil) .nil) (nd o160 .nil .nil)) (nd o107 (nd o142 .nil .nil) (nd o179 .nil .nil)))))))
noncomputable def tree_c14 (P : Params) : BT := (nd (o41 P) (nd (o42 P) (nd (o30003 P) (nd o48 (nd o56 (nd o72 (nd o108 (nd o180 (nd o314 .nil .nil) .nil) (nd o250 (nd o378 .nil .nil) .nil)) (nd o143 (nd o218 (nd o346 .nil .nil) .nil) (nd o282 (nd o410 .nil .nil) .nil))) (nd o92 (nd o124 (nd o199 (nd o330 .nil .nil) .nil) (nd o266 (nd o394 .nil .nil) .nil)) (nd o161 (nd o234 (nd o362 .nil .nil) .nil) (nd o298 (nd o426 .nil .nil) .nil)))) (nd o64 (nd o84 (nd o116 (nd o191 (nd o322 .nil .nil) .nil) (nd o258 (nd o386 .nil .nil) .nil)) (nd o153 (nd o226 (nd o354 .nil .nil) .nil) (nd o290 (nd o418 .nil .nil) .nil))) (nd o100 (nd (o135 P) (nd o210 (nd o338 .nil .nil) .nil) (nd o274 (nd o402 .nil .nil) .nil)) (nd o169 (nd o242 (nd o370 .nil .nil) .nil) (nd o306 .nil .nil))))) (nd (o52 P) (nd o60 (nd o30035 (nd o112 (nd o184 (nd o318 .nil .nil) .nil) (nd o254 (nd o382 .nil .nil) .nil)) (nd o149 (nd o222 (nd o350 .nil .nil) .nil) (nd o286 (nd o414 .nil .nil) .nil))) (nd o96 (nd o128 (nd o206 (nd o334 .nil .nil) .nil) (nd o270 (nd o398 .nil .nil) .nil)) (nd o165 (nd o238 (nd o366 .nil .nil) .nil) (nd o302 (nd o430 .nil .nil) .nil)))) (nd o68 (nd o88 (nd o120 (nd o195 (nd o326 .nil .nil) .nil) (nd o262 (nd o390 .nil .nil) .nil)) (nd o157 (nd o230 (nd o358 .nil .nil) .nil) (nd o294 (nd o422 .nil .nil) .nil))) (nd o104 (nd o139 (nd o214 (nd o342 .nil .nil) .nil) (nd o278 (nd o406 .nil .nil) .nil)) (nd o176 (nd o246 (nd o374 .nil .nil) .nil) (nd o310 .nil .nil)))))) (nd o46 (nd o50 (nd o58 (nd o74 (nd o110 (nd o202 (nd o316 .nil .nil) .nil) (nd o252 (nd o380 .nil .nil) .nil)) (nd o145 (nd o220 (nd o348 .nil .nil) .nil) (nd o284 (nd o412 .nil .nil) .nil))) (nd o94 (nd o126 (nd o204 (nd o332 .nil .nil) .nil) (nd o268 (nd o396 .nil .nil) .nil)) (nd (o163 P) (nd o236 (nd o364 .nil .nil) .nil) (nd o300 (nd o428 .nil .nil) .nil)))) (nd o66 (nd o86 (nd o118 (nd o193 (nd o324 .nil .nil) .nil) (nd o260 (nd o388 .nil .nil) .nil)) (nd o155 (nd o228 (nd o356 .nil .nil) .nil) (nd o292 (nd o420 .nil .nil) .nil))) (nd o102 (nd o137 (nd o212 (nd o340 .nil .nil) .nil) (nd o276 (nd o404 .nil .nil) .nil)) (nd o174 (nd o244 (nd o372 .nil .nil) .nil) (nd o308 .nil .nil))))) (nd (o54 P) (nd (o62 P) (nd o78 (nd o114 (nd o189 (nd o320 .nil .nil) .nil) (nd o256 (nd o384 .nil .nil) .nil)) (nd o151 (nd o224 (nd o352 .nil .nil) .nil) (nd o288 (nd o416 .nil .nil) .nil))) (nd o98 (nd o133 (nd o208 (nd o336 .nil .nil) .nil) (nd o272 (nd o400 .nil .nil) .nil)) (nd o167 (nd o240 (nd o368 .nil .nil) .nil) (nd o304 (nd o432 .nil .nil) .nil)))) (nd (o70 P) (nd o90 (nd o122 (nd o20141 (nd o328 .nil .nil) .nil) (nd o264 (nd o392 .nil .nil) .nil)) (nd o159 (nd o232 (nd o360 .nil .nil) .nil) (nd o296 (nd o424 .nil .nil) .nil))) (nd o106 (nd (o141 P) (nd o216 (nd o344 .nil .nil) .nil) (nd o280 (nd o408 .nil .nil) .nil)) (nd o178 (nd o248 (nd o376 .nil .nil) .nil) (nd o312 .nil .nil))))))) (nd (o130 P) (nd o45 (nd o49 (nd o57 (nd (o73 P) (nd o109 (nd (o181 P) (nd o315 .nil .nil) .nil) (nd o251 (nd o379 .nil .nil) .nil)) (nd o144 (nd o219 (nd o347 .nil .nil) .nil) (nd o283 (nd o411 .nil .nil) .nil))) (nd o93 (nd o125 (nd o203 (nd o331 .nil .nil) .nil) (nd o267 (nd o395 .nil .nil) .nil)) (nd o162 (nd o235 (nd o363 .nil .nil) .nil) (nd o299 (nd o427 .nil .nil) .nil)))) (nd o65 (nd o85 (nd o117 (nd o192 (nd o323 .nil .nil) .nil) (nd o259 (nd o387 .nil .nil) .nil)) (nd o154 (nd o227 (nd o355 .nil .nil) .nil) (nd o291 (nd o419 .nil .nil) .nil))) (nd o101 (nd o136 (nd o211 (nd o339 .nil .nil) .nil) (nd o275 (nd o403 .nil .nil) .nil)) (nd o173 (nd o243 (nd o371 .nil .nil) .nil) (nd o307 .nil .nil))))) (nd o53 (nd (o61 P) (nd o77 (nd o113 (nd o188 (nd o319 .nil .nil) .nil) (nd o255 (nd o383 .nil .nil) .nil)) (nd (o150 P) (nd o223 (nd o351 .nil .nil) .nil) (nd o287 (nd o415 .nil .nil) .nil))) (nd o97 (nd o129 (nd o207 (nd o335 .nil .nil) .nil) (nd o271 (nd o399 .nil .nil) .nil)) (nd o166 (nd o239 (nd o367 .nil .nil) .nil) (nd o303 (nd o431 .nil .nil) .nil)))) (nd o69 (nd o89 (nd o121 (nd (o196 P) (nd o327 .nil .nil) .nil) (nd o263 (nd o391 .nil .nil) .nil)) (nd o158 (nd o231 (nd o359 .nil .nil) .nil) (nd o295 (nd o423 .nil .nil) .nil))) (nd o105 (nd o140 (nd o215 (nd o343 .nil .nil) .nil) (nd o279 (nd o407 .nil .nil) .nil)) (nd o177 (nd o247 (nd o375 .nil .nil) .nil) (nd o311 .nil .nil)))))) (nd o47 (nd o51 (nd o59 (nd o75 (nd o111 (nd o183 (nd o317 .nil .nil) .nil) (nd o253 (nd o381 .nil .nil) .nil)) (nd o148 (nd o221 (nd o349 .nil .nil) .nil) (nd o285 (nd o413 .nil .nil) .nil))) (nd o95 (nd o127 (nd (o205 P) (nd o333 .nil .nil) .nil) (nd o269 (nd o397 .nil .nil) .nil)) (nd o187 (nd o237 (nd o365 .nil .nil) .nil) (nd o301 (nd (o429 P) .nil .nil) .nil)))) (nd o67 (nd o87 (nd o119 (nd o194 (nd o325 .nil .nil) .nil) (nd o261 (nd o389 .nil .nil) .nil)) (nd o156 (nd o229 (nd o357 .nil .nil) .nil) (nd o293 (nd o421 .nil .nil) .nil))) (nd o103 (nd o138 (nd o213 (nd o341 .nil .nil) .nil) (nd o277 (nd o405 .nil .nil) .nil)) (nd (o175 P) (nd o245 (nd o373 .nil .nil) .nil) (nd o309 .nil .nil))))) (nd o55 (nd o63 (nd o83 (nd o115 (nd (o190 P) (nd o321 .nil .nil) .nil) (nd o257 (nd o385 .nil .nil) .nil)) (nd o152 (nd o225 (nd o353 .nil .nil) .nil) (nd o289 (nd o417 .nil .nil) .nil))) (nd o99 (nd o134 (nd o209 (nd o337 .nil .nil) .nil) (nd o273 (nd o401 .nil .nil) .nil)) (nd o168 (nd o241 (nd o369 .nil .nil) .nil) (nd o305 .nil .nil)))) (nd o71 (nd o91 (nd o123 (nd o198 (nd o329 .nil .nil) .nil) (nd o265 (nd o393 .nil .nil) .nil)) (nd o160 (nd o233 (nd o361 .nil .nil) .nil) (nd o297 (nd o425 .nil .nil) .nil))) (nd o107 (nd o142 (nd o217 (nd o345 .nil .nil) .nil) (nd o281 (nd o409 .nil .nil) .nil)) (nd o179 (nd o249 (nd o377 .nil .nil) .nil) (nd o313 .nil .nil))))))))
noncomputable def tree_c15 (P : Params) : BT := (nd (o41 P) (nd (o42 P) (nd (o40003 P) (nd o48 (nd o56 (nd o72 (nd o108 (nd o180 (nd o314 (nd o743 .nil .nil) .nil) (nd o615 .nil .nil)) (nd o250 (nd o378 (nd o807 .nil .nil) .nil) (nd o679 .nil .nil))) (nd o143 (nd o218 (nd o346 (nd o775 .nil .nil) .nil) (nd o647 .nil .nil)) (nd o282 (nd o410 (nd o839 .nil .nil) .nil) (nd o711 .nil .nil)))) (nd o92 (nd o124 (nd o199 (nd o330 (nd o759 .nil .nil) .nil) (nd o631 .nil .nil)) (nd o266 (nd o394 (nd o823 .nil .nil) .nil) (nd o695 .nil .nil))) (nd o161 (nd o234 (nd o362 (nd o791 .nil .nil) .nil) (nd o663 .nil .nil)) (nd o298 (nd o426 .nil .nil) (nd o727 .nil .nil))))) (nd o64 (nd o84 (nd o116 (nd o191 (nd o322 (nd o751 .nil .nil) .nil) (nd o623 .nil .nil)) (nd o258 (nd o386 (nd o815 .nil .nil) .nil) (nd o687 .nil .nil))) (nd o153 (nd o226 (nd o354 (nd o783 .nil .nil) .nil) (nd o655 .nil .nil)) (nd o290 (nd o418 (nd o847 .nil .nil) .nil) (nd o719 .nil .nil)))) (nd o100 (nd (o135 P) (nd o210 (nd o338 (nd o767 .nil .nil) .nil) (nd o639 .nil .nil)) (nd o274 (nd o402 (nd o831 .nil .nil) .nil) (nd o703 .nil .nil))) (nd o169 (nd o242 (nd o370 (nd o799 .nil .nil) .nil) (nd o671 .nil .nil)) (nd o306 (nd o607 .nil .nil) (nd o735 .nil .nil)))))) (nd (o52 P) (nd o60 (nd o40035 (nd o112 (nd o184 (nd o318 (nd o747 .nil .nil) .nil) (nd o619 .nil .nil)) (nd o254 (nd o382 (nd o811 .nil .nil) .nil) (nd o683 .nil .nil))) (nd o149 (nd o222 (nd o350 (nd o779 .nil .nil) .nil) (nd o651 .nil .nil)) (nd o286 (nd o414 (nd o843 .nil .nil) .nil) (nd o715 .nil .nil)))) (nd o96 (nd o128 (nd o206 (nd o334 (nd o763 .nil .nil) .nil) (nd o635 .nil .nil)) (nd o270 (nd o398 (nd o827 .nil .nil) .nil) (nd o699 .nil .nil))) (nd o165 (nd o238 (nd o366 (nd o795 .nil .nil) .nil) (nd o667 .nil .nil)) (nd o302 (nd o430 .nil .nil) (nd o731 .nil .nil))))) (nd o68 (nd o88 (nd o120 (nd o195 (nd o326 (nd o755 .nil .nil) .nil) (nd o627 .nil .nil)) (nd o262 (nd o390 (nd o819 .nil .nil) .nil) (nd o691 .nil .nil))) (nd o157 (nd o230 (nd o358 (nd o787 .nil .nil) .nil) (nd o659 .nil .nil)) (nd o294 (nd o422 (nd o851 .nil .nil) .nil) (nd o723 .nil .nil)))) (nd o104 (nd o139 (nd o214 (nd o342 (nd o771 .nil .nil) .nil) (nd o643 .nil .nil)) (nd o278 (nd o406 (nd o835 .nil .nil) .nil) (nd o707 .nil .nil))) (nd o176 (nd o246 (nd o374 (nd o803 .nil .nil) .nil) (nd o675 .nil .nil)) (nd o310 (nd o611 .nil .nil) (nd o739 .nil .nil))))))) (nd o46 (nd o50 (nd o58 (nd o74 (nd o110 (nd o202 (nd o316 (nd o745 .nil .nil) .nil) (nd o617 .nil .nil)) (nd o252 (nd o380 (nd o809 .nil .nil) .nil) (nd o681 .nil .nil))) (nd o145 (nd o220 (nd o348 (nd o777 .nil .nil) .nil) (nd o649 .nil .nil)) (nd o284 (nd o412 (nd o841 .nil .nil) .nil) (nd o713 .nil .nil)))) (nd o94 (nd o126 (nd o204 (nd o332 (nd o761 .nil .nil) .nil) (nd o633 .nil .nil)) (nd o268 (nd o396 (nd o825 .nil .nil) .nil) (nd o697 .nil .nil))) (nd (o163 P) (nd o236 (nd o364 (nd o793 .nil .nil) .nil) (nd o665 .nil .nil)) (nd o300 (nd o428 .nil .nil) (nd o729 .nil .nil))))) (nd o66 (nd o86 (nd o118 (nd o193 (nd o324 (nd o753 .nil .nil) .nil) (nd o625 .nil .nil)) (nd o260 (nd o388 (nd o817 .nil .nil) .nil) (nd o689 .nil .nil))) (nd o155 (nd o228 (nd o356 (nd o785 .nil .nil) .nil) (nd o657 .nil .nil)) (nd o292 (nd o420 (nd (o849 P) .nil .nil) .nil) (nd o721 .nil .nil)))) (nd o102 (nd o137 (nd o212 (nd o340 (nd o769 .nil .nil) .nil) (nd o641 .nil .nil)) (nd o276 (nd o404 (nd o833 .nil .nil) .nil) (nd o705 .nil .nil))) (nd o174 (nd o244 (nd o372 (nd o801 .nil .nil) .nil) (nd o673 .nil .nil)) (nd o308 (nd o609 .nil .nil) (nd o737 .nil .nil)))))) (nd (o54 P) (nd (o62 P) (nd o78 (nd o114 (nd o189 (nd o320 (nd o749 .nil .nil) .nil) (nd o621 .nil .nil)) (nd o256 (nd o384 (nd o813 .nil .nil) .nil) (nd o685 .nil .nil))) (nd o151 (nd o224 (nd o352 (nd o781 .nil .nil) .nil) (nd o653 .nil .nil)) (nd o288 (nd o416 (nd o845 .nil .nil) .nil) (nd o717 .nil .nil)))) (nd o98 (nd o133 (nd o208 (nd o336 (nd o765 .nil .nil) .nil) (nd o637 .nil .nil)) (nd o272 (nd o400 (nd o829 .nil .nil) .nil) (nd o701 .nil .nil))) (nd o167 (nd o240 (nd o368 (nd o797 .nil .nil) .nil) (nd o669 .nil .nil)) (nd o304 (nd o432 .nil .nil) (nd o733 .nil .nil))))) (nd (o70 P) (nd o90 (nd o122 (nd o605 (nd o328 (nd o757 .nil .nil) .nil) (nd o629 .nil .nil)) (nd o264 (nd o392 (nd o821 .nil .nil) .nil) (nd o693 .nil .nil))) (nd o159 (nd o232 (nd o360 (nd o789 .nil .nil) .nil) (nd o661 .nil .nil)) (nd o296 (nd o424 .nil .nil) (nd o725 .nil .nil)))) (nd o106 (nd (o141 P) (nd o216 (nd o344 (nd o773 .nil .nil) .nil) (nd o645 .nil .nil)) (nd o280 (nd o408 (nd o837 .nil .nil) .nil) (nd o709 .nil .nil))) (nd o178 (nd o248 (nd o376 (nd o805 .nil .nil) .nil) (nd o677 .nil .nil)) (nd o312 (nd o613 .nil .nil) (nd o741 .nil .nil)))))))) (nd (o130 P) (nd o45 (nd o49 (nd o57 (nd (o73 P) (nd o109 (nd (o181 P) (nd o315 (nd o744 .nil .nil) .nil) (nd o616 .nil .nil)) (nd o251 (nd o379 (nd o808 .nil .nil) .nil) (nd o680 .nil .nil))) (nd o144 (nd o219 (nd o347 (nd o776 .nil .nil) .nil) (nd o648 .nil .nil)) (nd o283 (nd o411 (nd o840 .nil .nil) .nil) (nd o712 .nil .nil)))) (nd o93 (nd o125 (nd o203 (nd o331 (nd o760 .nil .nil) .nil) (nd o632 .nil .nil)) (nd o267 (nd o395 (nd o824 .nil .nil) .nil) (nd o696 .nil .nil))) (nd o162 (nd o235 (nd o363 (nd o792 .nil .nil) .nil) (nd o664 .nil .nil)) (nd o299 (nd o427 .nil .nil) (nd o728 .nil .nil))))) (nd o65 (nd o85 (nd o117 (nd o192 (nd o323 (nd o752 .nil .nil) .nil) (nd o624 .nil .nil)) (nd o259 (nd o387 (nd o816 .nil .nil) .nil) (nd o688 .nil .nil))) (nd o154 (nd o227 (nd o355 (nd o784 .nil .nil) .nil) (nd o656 .nil .nil)) (nd o291 (nd o419 (nd o848 .nil .nil) .nil) (nd o720 .nil .nil)))) (nd o101 (nd o136 (nd o211 (nd o339 (nd o768 .nil .nil) .nil) (nd o640 .nil .nil)) (nd o275 (nd o403 (nd o832 .nil .nil) .nil) (nd o704 .nil .nil))) (nd o173 (nd o243 (nd o371 (nd o800 .nil .nil) .nil) (nd o672 .nil .nil)) (nd o307 (nd (o608 P) .nil .nil) (nd o736 .nil .nil)))))) (nd o53 (nd (o61 P) (nd o77 (nd o113 (nd o188 (nd o319 (nd o748 .nil .nil) .nil) (nd o620 .nil .nil)) (nd o255 (nd o383 (nd o812 .nil .nil) .nil) (nd o684 .nil .nil))) (nd (o150 P) (nd o223 (nd o351 (nd o780 .nil .nil) .nil) (nd o652 .nil .nil)) (nd o287 (nd o415 (nd o844 .nil .nil) .nil) (nd o716 .nil .nil)))) (nd o97 (nd o129 (nd o207 (nd o335 (nd o764 .nil .nil) .nil) (nd o636 .nil .nil)) (nd o271 (nd o399 (nd o828 .nil .nil) .nil) (nd o700 .nil .nil))) (nd o166 (nd o239 (nd o367 (nd o796 .nil .nil) .nil) (nd o668 .nil .nil)) (nd o303 (nd o431 .nil .nil) (nd o732 .nil .nil))))) (nd o69 (nd o89 (nd o121 (nd (o196 P) (nd o327 (nd o756 .nil .nil) .nil) (nd o628 .nil .nil)) (nd o263 (nd o391 (nd o820 .nil .nil) .nil) (nd o692 .nil .nil))) (nd o158 (nd o231 (nd o359 (nd o788 .nil .nil) .nil) (nd o660 .nil .nil)) (nd o295 (nd o423 (nd o852 .nil .nil) .nil) (nd o724 .nil .nil)))) (nd o105 (nd o140 (nd o215 (nd o343 (nd o772 .nil .nil) .nil) (nd o644 .nil .nil)) (nd o279 (nd o407 (nd o836 .nil .nil) .nil) (nd o708 .nil .nil))) (nd o177 (nd o247 (nd o375 (nd o804 .nil .nil) .nil) (nd o676 .nil .nil)) (nd o311 (nd o612 .nil .nil) (nd o740 .nil .nil))))))) (nd o47 (nd o51 (nd o59 (nd o75 (nd o111 (nd o183 (nd o317 (nd o746 .nil .nil) .nil) (nd o618 .nil .nil)) (nd o253 (nd o381 (nd o810 .nil .nil) .nil) (nd o682 .nil .nil))) (nd o148 (nd o221 (nd o349 (nd o778 .nil .nil) .nil) (nd o650 .nil .nil)) (nd o285 (nd o413 (nd o842 .nil .nil) .nil) (nd o714 .nil .nil)))) (nd o95 (nd o127 (nd (o205 P) (nd o333 (nd o762 .nil .nil) .nil) (nd o634 .nil .nil)) (nd o269 (nd o397 (nd o826 .nil .nil) .nil) (nd o698 .nil .nil))) (nd o187 (nd o237 (nd o365 (nd o794 .nil .nil) .nil) (nd o666 .nil .nil)) (nd o301 (nd (o429 P) .nil .nil) (nd o730 .nil .nil))))) (nd o67 (nd o87 (nd o119 (nd o194 (nd o325 (nd o754 .nil .nil) .nil) (nd o626 .nil .nil)) (nd o261 (nd o389 (nd o818 .nil .nil) .nil) (nd o690 .nil .nil))) (nd o156 (nd o229 (nd o357 (nd o786 .nil .nil) .nil) (nd o658 .nil .nil)) (nd o293 (nd o421 (nd o850 .nil .nil) .nil) (nd o722 .nil .nil)))) (nd o103 (nd o138 (nd o213 (nd o341 (nd o770 .nil .nil) .nil) (nd o642 .nil .nil)) (nd o277 (nd o405 (nd o834 .nil .nil) .nil) (nd o706 .nil .nil))) (nd (o175 P) (nd o245 (nd o373 (nd o802 .nil .nil) .nil) (nd o674 .nil .nil)) (nd o309 (nd o610 .nil .nil) (nd o738 .nil .nil)))))) (nd o55 (nd o63 (nd o83 (nd o115 (nd (o190 P) (nd o321 (nd o750 .nil .nil) .nil) (nd o622 .nil .nil)) (nd o257 (nd o385 (nd o814 .nil .nil) .nil) (nd o686 .nil .nil))) (nd o152 (nd o225 (nd o353 (nd o782 .nil .nil) .nil) (nd o654 .nil .nil)) (nd o289 (nd o417 (nd o846 .nil .nil) .nil) (nd o718 .nil .nil)))) (nd o99 (nd o134 (nd o209 (nd o337 (nd o766 .nil .nil) .nil) (nd o638 .nil .nil)) (nd o273 (nd o401 (nd o830 .nil .nil) .nil) (nd o702 .nil .nil))) (nd o168 (nd o241 (nd o369 (nd o798 .nil .nil) .nil) (nd o670 .nil .nil)) (nd o305 (nd o606 .nil .nil) (nd o734 .nil .nil))))) (nd o71 (nd o91 (nd o123 (nd o198 (nd o329 (nd o758 .nil .nil) .nil) (nd o630 .nil .nil)) (nd o265 (nd o393 (nd o822 .nil .nil) .nil) (nd o694 .nil .nil))) (nd o160 (nd o233 (nd o361 (nd o790 .nil .nil) .nil) (nd o662 .nil .nil)) (nd o297 (nd o425 .nil .nil) (nd o726 .nil .nil)))) (nd o107 (nd o142 (nd o217 (nd o345 (nd o774 .nil .nil) .nil) (nd o646 .nil .nil)) (nd o281 (nd o409 (nd o838 .nil .nil) .nil) (nd o710 .nil .nil))) (nd o179 (nd o249 (nd o377 (nd o806 .nil .nil) .nil) (nd o678 .nil .nil)) (nd o313 (nd o614 .nil .nil) (nd o742 .nil .nil)))))))))
noncomputable def tree_cE (P : Params) : BT := (nd (o41 P) (nd (o42 P) (nd (o44 P) (nd o48 (nd o56 (nd o72 .nil .nil) .nil) (nd o64 .nil .nil)) (nd (o50011 P) (nd o60 .nil .nil) (nd o68 .nil .nil))) (nd o46 (nd o50 (nd o58 (nd o74 .nil .nil) .nil) (nd o66 .nil .nil)) (nd (o54 P) (nd (o62 P) .nil .nil) (nd (o50029 P) .nil .nil)))) (nd (o43 P) (nd o45 (nd o49 (nd o57 (nd (o73 P) .nil .nil) .nil) (nd o65 .nil .nil)) (nd o53 (nd (o61 P) .nil .nil) (nd o69 .nil .nil))) (nd o47 (nd o51 (nd o59 .nil .nil) (nd o67 .nil .nil)) (nd o55 (nd o63 .nil .nil) (nd o71 .nil .nil)))))
noncomputable def tree_1378 (P : Params) : BT := (nd (o41 P) (nd (o42 P) (nd (o1367 P) (nd o48 (nd o56 (nd o72 (nd o108 (nd o180 (nd o314 (nd o743 .nil .nil) (nd o1303 .nil .nil)) (nd o615 (nd o1093 .nil .nil) .nil)) (nd o250 (nd o378 (nd o807 .nil .nil) (nd o1369 .nil .nil)) (nd o679 (nd o1159 .nil .nil) .nil))) (nd o143 (nd o218 (nd o346 (nd o775 .nil .nil) (nd o1335 .nil .nil)) (nd o647 (nd o1127 .nil .nil) .nil)) (nd o282 (nd o410 (nd o839 .nil .nil) .nil) (nd o711 (nd o1191 .nil .nil) .nil)))) (nd o92 (nd o124 (nd o199 (nd o330 (nd o759 .nil .nil) (nd o1319 .nil .nil)) (nd o631 (nd o1109 .nil .nil) .nil)) (nd o266 (nd o394 (nd o823 .nil .nil) .nil) (nd o695 (nd o1175 .nil .nil) .nil))) (nd o161 (nd o234 (nd o362 (nd o791 .nil .nil) (nd o1351 .nil .nil)) (nd o663 (nd o1143 .nil .nil) .nil)) (nd o298 (nd o426 (nd o1077 .nil .nil) .nil) (nd o727 (nd o1207 .nil .nil) .nil))))) (nd o64 (nd o84 (nd o116 (nd o191 (nd o322 (nd o751 .nil .nil) (nd o1311 .nil .nil)) (nd o623 (nd o1101 .nil .nil) .nil)) (nd o258 (nd o386 (nd o815 .nil .nil) (nd o1377 .nil .nil)) (nd o687 (nd o1167 .nil .nil) .nil))) (nd o153 (nd o226 (nd o354 (nd o783 .nil .nil) (nd o1343 .nil .nil)) (nd o655 (nd o1135 .nil .nil) .nil)) (nd o290 (nd o418 (nd o847 .nil .nil) .nil) (nd o719 (nd o1199 .nil .nil) .nil)))) (nd o100 (nd (o135 P) (nd o210 (nd o338 (nd o767 .nil .nil) (nd o1327 .nil .nil)) (nd o639 (nd o1119 .nil .nil) .nil)) (nd o274 (nd o402 (nd o831 .nil .nil) .nil) (nd o703 (nd o1183 .nil .nil) .nil))) (nd o169 (nd o242 (nd o370 (nd o799 .nil .nil) (nd o1359 .nil .nil)) (nd o671 (nd o1151 .nil .nil) .nil)) (nd o306 (nd o607 (nd o1085 .nil .nil) .nil) (nd o735 (nd o1295 .nil .nil) .nil)))))) (nd (o52 P) (nd o60 (nd o1368 (nd o112 (nd o184 (nd o318 (nd o747 .nil .nil) (nd o1307 .nil .nil)) (nd o619 (nd o1097 .nil .nil) .nil)) (nd o254 (nd o382 (nd o811 .nil .nil) (nd o1373 .nil .nil)) (nd o683 (nd o1163 .nil .nil) .nil))) (nd o149 (nd o222 (nd o350 (nd o779 .nil .nil) (nd o1339 .nil .nil)) (nd o651 (nd o1131 .nil .nil) .nil)) (nd o286 (nd o414 (nd o843 .nil .nil) .nil) (nd o715 (nd o1195 .nil .nil) .nil)))) (nd o96 (nd o128 (nd o206 (nd o334 (nd o763 .nil .nil) (nd o1323 .nil .nil)) (nd o635 (nd o1113 .nil .nil) .nil)) (nd o270 (nd o398 (nd o827 .nil .nil) .nil) (nd o699 (nd o1179 .nil .nil) .nil))) (nd o165 (nd o238 (nd o366 (nd o795 .nil .nil) (nd o1355 .nil .nil)) (nd o667 (nd o1147 .nil .nil) .nil)) (nd o302 (nd o430 (nd o1081 .nil .nil) .nil) (nd o731 (nd o1211 .nil .nil) .nil))))) (nd o68 (nd o88 (nd o120 (nd o195 (nd o326 (nd o755 .nil .nil) (nd o1315 .nil .nil)) (nd o627 (nd o1105 .nil .nil) .nil)) (nd o262 (nd o390 (nd o819 .nil .nil) .nil) (nd o691 (nd o1171 .nil .nil) .nil))) (nd o157 (nd o230 (nd o358 (nd o787 .nil .nil) (nd o1347 .nil .nil)) (nd o659 (nd o1139 .nil .nil) .nil)) (nd o294 (nd o422 (nd o851 .nil .nil) .nil) (nd o723 (nd o1203 .nil .nil) .nil)))) (nd o104 (nd o139 (nd o214 (nd o342 (nd o771 .nil .nil) (nd o1331 .nil .nil)) (nd o643 (nd o1123 .nil .nil) .nil)) (nd o278 (nd o406 (nd o835 .nil .nil) .nil) (nd o707 (nd o1187 .nil .nil) .nil))) (nd o176 (nd o246 (nd o374 (nd o803 .nil .nil) (nd o1363 .nil .nil)) (nd o675 (nd o1155 .nil .nil) .nil)) (nd o310 (nd o611 (nd o1089 .nil .nil) .nil) (nd o739 (nd o1299 .nil .nil) .nil))))))) (nd o46 (nd o50 (nd o58 (nd o74 (nd o110 (nd o202 (nd o316 (nd o745 .nil .nil) (nd o1305 .nil .nil)) (nd o617 (nd o1095 .nil .nil) .nil)) (nd o252 (nd o380 (nd o809 .nil .nil) (nd o1371 .nil .nil)) (nd o681 (nd o1161 .nil .nil) .nil))) (nd o145 (nd o220 (nd o348 (nd o777 .nil .nil) (nd o1337 .nil .nil)) (nd o649 (nd o1129 .nil .nil) .nil)) (nd o284 (nd o412 (nd o841 .nil .nil) .nil) (nd o713 (nd o1193 .nil .nil) .nil)))) (nd o94 (nd o126 (nd o204 (nd o332 (nd o761 .nil .nil) (nd o1321 .nil .nil)) (nd o633 (nd o1111 .nil .nil) .nil)) (nd o268 (nd o396 (nd o825 .nil .nil) .nil) (nd o697 (nd o1177 .nil .nil) .nil))) (nd (o163 P) (nd o236 (nd o364 (nd o793 .nil .nil) (nd o1353 .nil .nil)) (nd o665 (nd o1145 .nil .nil) .nil)) (nd o300 (nd o428 (nd o1079 .nil .nil) .nil) (nd o729 (nd o1209 .nil .nil) .nil))))) (nd o66 (nd o86 (nd o118 (nd o193 (nd o324 (nd o753 .nil .nil) (nd o1313 .nil .nil)) (nd o625 (nd o1103 .nil .nil) .nil)) (nd o260 (nd o388 (nd o817 .nil .nil) .nil) (nd o689 (nd o1169 .nil .nil) .nil))) (nd o155 (nd o228 (nd o356 (nd o785 .nil .nil) (nd o1345 .nil .nil)) (nd o657 (nd o1137 .nil .nil) .nil)) (nd o292 (nd o420 (nd (o849 P) .nil .nil) .nil) (nd o721 (nd o1201 .nil .nil) .nil)))) (nd o102 (nd o137 (nd o212 (nd o340 (nd o769 .nil .nil) (nd o1329 .nil .nil)) (nd o641 (nd (o1121 P) .nil .nil) .nil)) (nd o276 (nd o404 (nd o833 .nil .nil) .nil) (nd o705 (nd o1185 .nil .nil) .nil))) (nd o174 (nd o244 (nd o372 (nd o801 .nil .nil) (nd o1361 .nil .nil)) (nd o673 (nd o1153 .nil .nil) .nil)) (nd o308 (nd o609 (nd o1087 .nil .nil) .nil) (nd o737 (nd o1297 .nil .nil) .nil)))))) (nd (o54 P) (nd (o62 P) (nd o78 (nd o114 (nd o189 (nd o320 (nd o749 .nil .nil) (nd o1309 .nil .nil)) (nd o621 (nd o1099 .nil .nil) .nil)) (nd o256 (nd o384 (nd o813 .nil .nil) (nd o1375 .nil .nil)) (nd o685 (nd o1165 .nil .nil) .nil))) (nd o151 (nd o224 (nd o352 (nd o781 .nil .nil) (nd o1341 .nil .nil)) (nd o653 (nd o1133 .nil .nil) .nil)) (nd o288 (nd o416 (nd o845 .nil .nil) .nil) (nd o717 (nd o1197 .nil .nil) .nil)))) (nd o98 (nd o133 (nd o208 (nd o336 (nd o765 .nil .nil) (nd o1325 .nil .nil)) (nd o637 (nd o1115 .nil .nil) .nil)) (nd o272 (nd o400 (nd o829 .nil .nil) .nil) (nd o701 (nd o1181 .nil .nil) .nil))) (nd o167 (nd o240 (nd o368 (nd o797 .nil .nil) (nd o1357 .nil .nil)) (nd o669 (nd o1149 .nil .nil) .nil)) (nd o304 (nd o432 (nd o1083 .nil .nil) .nil) (nd o733 (nd o1213 .nil .nil) .nil))))) (nd (o70 P) (nd o90 (nd o122 (nd o605 (nd o328 (nd o757 .nil .nil) (nd o1317 .nil .nil)) (nd o629 (nd o1107 .nil .nil) .nil)) (nd o264 (nd o392 (nd o821 .nil .nil) .nil) (nd o693 (nd o1173 .nil .nil) .nil))) (nd o159 (nd o232 (nd o360 (nd o789 .nil .nil) (nd o1349 .nil .nil)) (nd o661 (nd o1141 .nil .nil) .nil)) (nd o296 (nd o424 (nd o1075 .nil .nil) .nil) (nd o725 (nd o1205 .nil .nil) .nil)))) (nd o106 (nd (o141 P) (nd o216 (nd o344 (nd o773 .nil .nil) (nd o1333 .nil .nil)) (nd o645 (nd o1125 .nil .nil) .nil)) (nd o280 (nd o408 (nd o837 .nil .nil) .nil) (nd o709 (nd o1189 .nil .nil) .nil))) (nd o178 (nd o248 (nd o376 (nd o805 .nil .nil) (nd o1365 .nil .nil)) (nd o677 (nd o1157 .nil .nil) .nil)) (nd o312 (nd o613 (nd o1091 .nil .nil) .nil) (nd o741 (nd o1301 .nil .nil) .nil)))))))) (nd (o130 P) (nd o45 (nd o49 (nd o57 (nd (o73 P) (nd o109 (nd (o181 P) (nd o315 (nd o744 .nil .nil) (nd o1304 .nil .nil)) (nd o616 (nd o1094 .nil .nil) .nil)) (nd o251 (nd o379 (nd o808 .nil .nil) (nd o1370 .nil .nil)) (nd o680 (nd o1160 .nil .nil) .nil))) (nd o144 (nd o219 (nd o347 (nd o776 .nil .nil) (nd o1336 .nil .nil)) (nd o648 (nd o1128 .nil .nil) .nil)) (nd o283 (nd o411 (nd o840 .nil .nil) .nil) (nd o712 (nd o1192 .nil .nil) .nil)))) (nd o93 (nd o125 (nd o203 (nd o331 (nd o760 .nil .nil) (nd o1320 .nil .nil)) (nd o632 (nd o1110 .nil .nil) .nil)) (nd o267 (nd o395 (nd o824 .nil .nil) .nil) (nd o696 (nd o1176 .nil .nil) .nil))) (nd o162 (nd o235 (nd o363 (nd o792 .nil .nil) (nd o1352 .nil .nil)) (nd o664 (nd o1144 .nil .nil) .nil)) (nd o299 (nd o427 (nd o1078 .nil .nil) .nil) (nd o728 (nd (o1208 P) .nil .nil) .nil))))) (nd o65 (nd o85 (nd o117 (nd o192 (nd o323 (nd o752 .nil .nil) (nd o1312 .nil .nil)) (nd o624 (nd o1102 .nil .nil) .nil)) (nd o259 (nd o387 (nd o816 .nil .nil) (nd o1378 .nil .nil)) (nd o688 (nd o1168 .nil .nil) .nil))) (nd o154 (nd o227 (nd o355 (nd o784 .nil .nil) (nd o1344 .nil .nil)) (nd o656 (nd o1136 .nil .nil) .nil)) (nd o291 (nd o419 (nd o848 .nil .nil) .nil) (nd o720 (nd o1200 .nil .nil) .nil)))) (nd o101 (nd o136 (nd o211 (nd o339 (nd o768 .nil .nil) (nd o1328 .nil .nil)) (nd o640 (nd o1120 .nil .nil) .nil)) (nd o275 (nd o403 (nd o832 .nil .nil) .nil) (nd o704 (nd o1184 .nil .nil) .nil))) (nd o173 (nd o243 (nd o371 (nd o800 .nil .nil) (nd o1360 .nil .nil)) (nd o672 (nd o1152 .nil .nil) .nil)) (nd o307 (nd (o608 P) (nd o1086 .nil .nil) .nil) (nd o736 (nd o1296 .nil .nil) .nil)))))) (nd o53 (nd (o61 P) (nd o77 (nd o113 (nd o188 (nd o319 (nd o748 .nil .nil) (nd o1308 .nil .nil)) (nd o620 (nd o1098 .nil .nil) .nil)) (nd o255 (nd o383 (nd o812 .nil .nil) (nd o1374 .nil .nil)) (nd o684 (nd o1164 .nil .nil) .nil))) (nd (o150 P) (nd o223 (nd o351 (nd o780 .nil .nil) (nd o1340 .nil .nil)) (nd o652 (nd o1132 .nil .nil) .nil)) (nd o287 (nd o415 (nd o844 .nil .nil) .nil) (nd o716 (nd o1196 .nil .nil) .nil)))) (nd o97 (nd o129 (nd o207 (nd o335 (nd o764 .nil .nil) (nd o1324 .nil .nil)) (nd o636 (nd o1114 .nil .nil) .nil)) (nd o271 (nd o399 (nd o828 .nil .nil) .nil) (nd o700 (nd o1180 .nil .nil) .nil))) (nd o166 (nd o239 (nd o367 (nd o796 .nil .nil) (nd o1356 .nil .nil)) (nd o668 (nd o1148 .nil .nil) .nil)) (nd o303 (nd o431 (nd o1082 .nil .nil) .nil) (nd o732 (nd o1212 .nil .nil) .nil))))) (nd o69 (nd o89 (nd o121 (nd (o196 P) (nd o327 (nd o756 .nil .nil) (nd o1316 .nil .nil)) (nd o628 (nd o1106 .nil .nil) .nil)) (nd o263 (nd o391 (nd o820 .nil .nil) .nil) (nd o692 (nd o1172 .nil .nil) .nil))) (nd o158 (nd o231 (nd o359 (nd o788 .nil .nil) (nd o1348 .nil .nil)) (nd o660 (nd o1140 .nil .nil) .nil)) (nd o295 (nd o423 (nd o852 .nil .nil) .nil) (nd o724 (nd o1204 .nil .nil) .nil)))) (nd o105 (nd o140 (nd o215 (nd o343 (nd o772 .nil .nil) (nd o1332 .nil .nil)) (nd o644 (nd o1124 .nil .nil) .nil)) (nd o279 (nd o407 (nd o836 .nil .nil) .nil) (nd o708 (nd o1188 .nil .nil) .nil))) (nd o177 (nd o247 (nd o375 (nd o804 .nil .nil) (nd o1364 .nil .nil)) (nd o676 (nd o1156 .nil .nil) .nil)) (nd o311 (nd o612 (nd o1090 .nil .nil) .nil) (nd o740 (nd o1300 .nil .nil) .nil))))))) (nd o47 (nd o51 (nd o59 (nd o75 (nd o111 (nd o183 (nd o317 (nd o746 .nil .nil) (nd o1306 .nil .nil)) (nd o618 (nd o1096 .nil .nil) .nil)) (nd o253 (nd o381 (nd o810 .nil .nil) (nd o1372 .nil .nil)) (nd o682 (nd o1162 .nil .nil) .nil))) (nd o148 (nd o221 (nd o349 (nd o778 .nil .nil) (nd o1338 .nil .nil)) (nd o650 (nd o1130 .nil .nil) .nil)) (nd o285 (nd o413 (nd o842 .nil .nil) .nil) (nd o714 (nd o1194 .nil .nil) .nil)))) (nd o95 (nd o127 (nd (o205 P) (nd o333 (nd o762 .nil .nil) (nd o1322 .nil .nil)) (nd o634 (nd o1112 .nil .nil) .nil)) (nd o269 (nd o397 (nd o826 .nil .nil) .nil) (nd o698 (nd o1178 .nil .nil) .nil))) (nd o187 (nd o237 (nd o365 (nd o794 .nil .nil) (nd o1354 .nil .nil)) (nd o666 (nd o1146 .nil .nil) .nil)) (nd o301 (nd (o429 P) (nd o1080 .nil .nil) .nil) (nd o730 (nd o1210 .nil .nil) .nil))))) (nd o67 (nd o87 (nd o119 (nd o194 (nd o325 (nd o754 .nil .nil) (nd o1314 .nil .nil)) (nd o626 (nd o1104 .nil .nil) .nil)) (nd o261 (nd o389 (nd o818 .nil .nil) .nil) (nd o690 (nd o1170 .nil .nil) .nil))) (nd o156 (nd o229 (nd o357 (nd o786 .nil .nil) (nd o1346 .nil .nil)) (nd o658 (nd o1138 .nil .nil) .nil)) (nd o293 (nd o421 (nd o850 .nil .nil) .nil) (nd o722 (nd o1202 .nil .nil) .nil)))) (nd o103 (nd o138 (nd o213 (nd o341 (nd o770 .nil .nil) (nd o1330 .nil .nil)) (nd o642 (nd o1122 .nil .nil) .nil)) (nd o277 (nd o405 (nd o834 .nil .nil) .nil) (nd o706 (nd o1186 .nil .nil) .nil))) (nd (o175 P) (nd o245 (nd o373 (nd o802 .nil .nil) (nd o1362 .nil .nil)) (nd o674 (nd o1154 .nil .nil) .nil)) (nd o309 (nd o610 (nd o1088 .nil .nil) .nil) (nd o738 (nd o1298 .nil .nil) .nil)))))) (nd o55 (nd o63 (nd o83 (nd o115 (nd (o190 P) (nd o321 (nd o750 .nil .nil) (nd o1310 .nil .nil)) (nd o622 (nd o1100 .nil .nil) .nil)) (nd o257 (nd o385 (nd o814 .nil .nil) (nd o1376 .nil .nil)) (nd o686 (nd o1166 .nil .nil) .nil))) (nd o152 (nd o225 (nd o353 (nd o782 .nil .nil) (nd o1342 .nil .nil)) (nd o654 (nd o1134 .nil .nil) .nil)) (nd o289 (nd o417 (nd o846 .nil .nil) .nil) (nd o718 (nd o1198 .nil .nil) .nil)))) (nd o99 (nd o134 (nd o209 (nd o337 (nd o766 .nil .nil) (nd o1326 .nil .nil)) (nd o638 (nd o1116 .nil .nil) .nil)) (nd o273 (nd o401 (nd o830 .nil .nil) .nil) (nd o702 (nd o1182 .nil .nil) .nil))) (nd o168 (nd o241 (nd o369 (nd o798 .nil .nil) (nd o1358 .nil .nil)) (nd o670 (nd o1150 .nil .nil) .nil)) (nd o305 (nd o606 (nd o1084 .nil .nil) .nil) (nd o734 (nd o1294 .nil .nil) .nil))))) (nd o71 (nd o91 (nd o123 (nd o198 (nd o329 (nd o758 .nil .nil) (nd o1318 .nil .nil)) (nd o630 (nd o1108 .nil .nil) .nil)) (nd o265 (nd o393 (nd o822 .nil .nil) .nil) (nd o694 (nd o1174 .nil .nil) .nil))) (nd o160 (nd o233 (nd o361 (nd o790 .nil .nil) (nd o1350 .nil .nil)) (nd o662 (nd o1142 .nil .nil) .nil)) (nd o297 (nd o425 (nd o1076 .nil .nil) .nil) (nd o726 (nd o1206 .nil .nil) .nil)))) (nd o107 (nd o142 (nd o217 (nd o345 (nd o774 .nil .nil) (nd o1334 .nil .nil)) (nd o646 (nd o1126 .nil .nil) .nil)) (nd o281 (nd o409 (nd o838 .nil .nil) .nil) (nd o710 (nd o1190 .nil .nil) .nil))) (nd o179 (nd o249 (nd o377 (nd o806 .nil .nil) (nd o1366 .nil .nil)) (nd o678 (nd o1158 .nil .nil) .nil)) (nd o313 (nd o614 (nd o1092 .nil .nil) .nil) (nd o742 (nd o1302 .nil .nil) .nil)))))))))
set_option maxRecDepth 100000 in
noncomputable def heap_39 (P : Params) : Frag := (nat_lit 2, o130 P) :: (nat_lit 3, o1367 P) :: (nat_lit 38, o83) :: (nat_lit 40, o85) :: (nat_lit 41, o86) :: (nat_lit 43, o88) :: (nat_lit 44, o89) :: (nat_lit 45, o90) :: (nat_lit 47, o92) :: (nat_lit 48, o93) :: (nat_lit 50, o95) :: (nat_lit 51, o96) :: (nat_lit 52, o97) :: (nat_lit 54, o99) :: (nat_lit 55, o100) :: (nat_lit 57, o102) :: (nat_lit 58, o103) :: (nat_lit 59, o104) :: (nat_lit 61, o106) :: (nat_lit 62, o107) :: (nat_lit 64, o109) :: (nat_lit 65, o110) :: (nat_lit 69, o114) :: (nat_lit 70, o115) :: (nat_lit 71, o116) :: (nat_lit 73, o118) :: (nat_lit 74, o119) :: (nat_lit 76, o121) :: (nat_lit 77, o122) :: (nat_lit 78, o123) :: (nat_lit 80, o125) :: (nat_lit 81, o126) :: (nat_lit 83, o128) :: (nat_lit 84, o129) :: (nat_lit 85, o133) :: (nat_lit 92, o140) :: (nat_lit 93, o141 P) :: (nat_lit 94, o142) :: (nat_lit 95, o143) :: (nat_lit 105, o155) :: (nat_lit 107, o157) :: (nat_lit 108, o158) :: (nat_lit 110, o160) :: (nat_lit 111, o161) :: (nat_lit 112, o162) :: (nat_lit 113, o163 P) :: (nat_lit 114, o187) :: (nat_lit 115, o165) :: (nat_lit 116, o166) :: (nat_lit 117, o167) :: (nat_lit 120, o173) :: (nat_lit 127, o180) :: (nat_lit 128, o181 P) :: (nat_lit 129, o202) :: (nat_lit 132, o188) :: (nat_lit 139, o195) :: (nat_lit 140, o196 P) :: (nat_lit 141, o605) :: (nat_lit 144, o203) :: (nat_lit 151, o210) :: (nat_lit 152, o211) :: (nat_lit 154, o213) :: (nat_lit 155, o214) :: (nat_lit 157, o216) :: (nat_lit 158, o217) :: (nat_lit 159, o218) :: (nat_lit 161, o220) :: (nat_lit 162, o221) :: (nat_lit 164, o223) :: (nat_lit 165, o224) :: (nat_lit 166, o225) :: (nat_lit 168, o227) :: (nat_lit 169, o228) :: (nat_lit 171, o230) :: (nat_lit 172, o231) :: (nat_lit 173, o232) :: (nat_lit 175, o234) :: (nat_lit 176, o235) :: (nat_lit 178, o237) :: (nat_lit 179, o238) :: (nat_lit 180, o239) :: (nat_lit 181, o240) :: (nat_lit 183, o242) :: (nat_lit 184, o243) :: (nat_lit 186, o245) :: (nat_lit 187, o246) :: (nat_lit 188, o247) :: (nat_lit 190, o249) :: (nat_lit 191, o250) :: (nat_lit 193, o252) :: (nat_lit 194, o253) :: (nat_lit 195, o254) :: (nat_lit 197, o256) :: (nat_lit 198, o257) :: (nat_lit 200, o259) :: (nat_lit 201, o260) :: (nat_lit 202, o261) :: (nat_lit 204, o263) :: (nat_lit 205, o264) :: (nat_lit 207, o266) :: (nat_lit 208, o267) :: (nat_lit 209, o268) :: (nat_lit 211, o270) :: (nat_lit 212, o271) :: (nat_lit 214, o273) :: (nat_lit 215, o274) :: (nat_lit 216, o275) :: (nat_lit 218, o277) :: (nat_lit 219, o278) :: (nat_lit 221, o280) :: (nat_lit 222, o281) :: (nat_lit 223, o282) :: (nat_lit 225, o284) :: (nat_lit 226, o285) :: (nat_lit 228, o287) :: (nat_lit 229, o288) :: (nat_lit 230, o289) :: (nat_lit 232, o291) :: (nat_lit 233, o292) :: (nat_lit 235, o294) :: (nat_lit 236, o295) :: (nat_lit 237, o296) :: (nat_lit 239, o298) :: (nat_lit 240, o299) :: (nat_lit 242, o301) :: (nat_lit 243, o302) :: (nat_lit 244, o303) :: (nat_lit 246, o305) :: (nat_lit 247, o306) :: (nat_lit 249, o308) :: (nat_lit 250, o309) :: (nat_lit 251, o310) :: (nat_lit 253, o312) :: (nat_lit 254, o313) :: (nat_lit 256, o315) :: (nat_lit 257, o316) :: (nat_lit 258, o317) :: (nat_lit 260, o319) :: (nat_lit 261, o320) :: (nat_lit 263, o322) :: (nat_lit 264, o323) :: (nat_lit 265, o324) :: (nat_lit 267, o326) :: (nat_lit 268, o327) :: (nat_lit 270, o329) :: (nat_lit 271, o330) :: (nat_lit 272, o331) :: (nat_lit 273, o332) :: (nat_lit 275, o334) :: (nat_lit 276, o335) :: (nat_lit 278, o337) :: (nat_lit 279, o338) :: (nat_lit 280, o339) :: (nat_lit 281, o340) :: (nat_lit 283, o342) :: (nat_lit 284, o343) :: (nat_lit 286, o345) :: (nat_lit 287, o346) :: (nat_lit 288, o347) :: (nat_lit 289, o348) :: (nat_lit 291, o350) :: (nat_lit 292, o351) :: (nat_lit 294, o353) :: (nat_lit 295, o354) :: (nat_lit 296, o355) :: (nat_lit 297, o356) :: (nat_lit 299, o358) :: (nat_lit 300, o359) :: (nat_lit 302, o361) :: (nat_lit 303, o362) :: (nat_lit 304, o363) :: (nat_lit 306, o365) :: (nat_lit 307, o366) :: (nat_lit 309, o368) :: (nat_lit 310, o369) :: (nat_lit 311, o370) :: (nat_lit 313, o372) :: (nat_lit 314, o373) :: (nat_lit 316, o375) :: (nat_lit 317, o376) :: (nat_lit 318, o377) :: (nat_lit 319, o378) :: (nat_lit 321, o380) :: (nat_lit 322, o381) :: (nat_lit 324, o383) :: (nat_lit 325, o384) :: (nat_lit 326, o385) :: (nat_lit 327, o386) :: (nat_lit 329, o388) :: (nat_lit 330, o389) :: (nat_lit 332, o391) :: (nat_lit 333, o392) :: (nat_lit 334, o393) :: (nat_lit 336, o395) :: (nat_lit 337, o396) :: (nat_lit 339, o398) :: (nat_lit 340, o399) :: (nat_lit 341, o400) :: (nat_lit 343, o402) :: (nat_lit 344, o403) :: (nat_lit 346, o405) :: (nat_lit 347, o406) :: (nat_lit 348, o407) :: (nat_lit 350, o409) :: (nat_lit 351, o410) :: (nat_lit 353, o412) :: (nat_lit 354, o413) :: (nat_lit 355, o414) :: (nat_lit 357, o416) :: (nat_lit 358, o417) :: (nat_lit 360, o419) :: (nat_lit 361, o420) :: (nat_lit 362, o421) :: (nat_lit 364, o423) :: (nat_lit 365, o424) :: (nat_lit 367, o426) :: (nat_lit 368, o427) :: (nat_lit 369, o428) :: (nat_lit 370, o429 P) :: (nat_lit 371, o430) :: (nat_lit 374, o606) :: (nat_lit 381, o613) :: (nat_lit 382, o614) :: (nat_lit 384, o616) :: (nat_lit 385, o617) :: (nat_lit 387, o619) :: (nat_lit 388, o620) :: (nat_lit 389, o621) :: (nat_lit 391, o623) :: (nat_lit 392, o624) :: (nat_lit 394, o626) :: (nat_lit 395, o627) :: (nat_lit 396, o628) :: (nat_lit 398, o630) :: (nat_lit 399, o631) :: (nat_lit 401, o633) :: (nat_lit 402, o634) :: (nat_lit 403, o635) :: (nat_lit 405, o637) :: (nat_lit 406, o638) :: (nat_lit 408, o640) :: (nat_lit 409, o641) :: (nat_lit 410, o642) :: (nat_lit 412, o644) :: (nat_lit 413, o645) :: (nat_lit 415, o647) :: (nat_lit 416, o648) :: (nat_lit 417, o649) :: (nat_lit 419, o651) :: (nat_lit 420, o652) :: (nat_lit 422, o654) :: (nat_lit 423, o655) :: (nat_lit 424, o656) :: (nat_lit 425, o657) :: (nat_lit 427, o659) :: (nat_lit 428, o660) :: (nat_lit 430, o662) :: (nat_lit 431, o663) :: (nat_lit 432, o664) :: (nat_lit 433, o665) :: (nat_lit 435, o667) :: (nat_lit 436, o668) :: (nat_lit 438, o670) :: (nat_lit 439, o671) :: (nat_lit 440, o672) :: (nat_lit 441, o673) :: (nat_lit 443, o675) :: (nat_lit 444, o676) :: (nat_lit 446, o678) :: (nat_lit 447, o679) :: (nat_lit 448, o680) :: (nat_lit 449, o681) :: (nat_lit 451, o683) :: (nat_lit 452, o684) :: (nat_lit 454, o686) :: (nat_lit 455, o687) :: (nat_lit 456, o688) :: (nat_lit 457, o689) :: (nat_lit 459, o691) :: (nat_lit 460, o692) :: (nat_lit 462, o694) :: (nat_lit 463, o695) :: (nat_lit 464, o696) :: (nat_lit 466, o698) :: (nat_lit 467, o699) :: (nat_lit 469, o701) :: (nat_lit 470, o702) :: (nat_lit 471, o703) :: (nat_lit 473, o705) :: (nat_lit 474, o706) :: (nat_lit 476, o708) :: (nat_lit 477, o709) :: (nat_lit 478, o710) :: (nat_lit 480, o712) :: (nat_lit 481, o713) :: (nat_lit 483, o715) :: (nat_lit 484, o716) :: (nat_lit 485, o717) :: (nat_lit 487, o719) :: (nat_lit 488, o720) :: (nat_lit 490, o722) :: (nat_lit 491, o723) :: (nat_lit 492, o724) :: (nat_lit 494, o726) :: (nat_lit 495, o727) :: (nat_lit 497, o729) :: (nat_lit 498, o730) :: (nat_lit 499, o731) :: (nat_lit 501, o733) :: (nat_lit 502, o734) :: (nat_lit 504, o736) :: (nat_lit 505, o737) :: (nat_lit 506, o738) :: (nat_lit 508, o740) :: (nat_lit 509, o741) :: (nat_lit 511, o743) :: (nat_lit 512, o744) :: (nat_lit 513, o745) :: (nat_lit 515, o747) :: (nat_lit 516, o748) :: (nat_lit 518, o750) :: (nat_lit 519, o751) :: (nat_lit 520, o752) :: (nat_lit 522, o754) :: (nat_lit 523, o755) :: (nat_lit 525, o757) :: (nat_lit 526, o758) :: (nat_lit 527, o759) :: (nat_lit 529, o761) :: (nat_lit 530, o762) :: (nat_lit 532, o764) :: (nat_lit 533, o765) :: (nat_lit 534, o766) :: (nat_lit 536, o768) :: (nat_lit 537, o769) :: (nat_lit 539, o771) :: (nat_lit 540, o772) :: (nat_lit 541, o773) :: (nat_lit 542, o774) :: (nat_lit 544, o776) :: (nat_lit 545, o777) :: (nat_lit 547, o779) :: (nat_lit 548, o780) :: (nat_lit 549, o781) :: (nat_lit 550, o782) :: (nat_lit 552, o784) :: (nat_lit 553, o785) :: (nat_lit 555, o787) :: (nat_lit 556, o788) :: (nat_lit 557, o789) :: (nat_lit 558, o790) :: (nat_lit 560, o792) :: (nat_lit 561, o793) :: (nat_lit 563, o795) :: (nat_lit 564, o796) :: (nat_lit 565, o797) :: (nat_lit 566, o798) :: (nat_lit 568, o800) :: (nat_lit 569, o801) :: (nat_lit 571, o803) :: (nat_lit 572, o804) :: (nat_lit 573, o805) :: (nat_lit 574, o806) :: (nat_lit 576, o808) :: (nat_lit 577, o809) :: (nat_lit 579, o811) :: (nat_lit 580, o812) :: (nat_lit 581, o813) :: (nat_lit 583, o815) :: (nat_lit 584, o816) :: (nat_lit 586, o818) :: (nat_lit 587, o819) :: (nat_lit 588, o820) :: (nat_lit 590, o822) :: (nat_lit 591, o823) :: (nat_lit 593, o825) :: (nat_lit 594, o826) :: (nat_lit 595, o827) :: (nat_lit 597, o829) :: (nat_lit 598, o830) :: (nat_lit 600, o832) :: (nat_lit 601, o833) :: (nat_lit 602, o834) :: (nat_lit 604, o836) :: (nat_lit 605, o837) :: (nat_lit 607, o839) :: (nat_lit 608, o840) :: (nat_lit 609, o841) :: (nat_lit 611, o843) :: (nat_lit 612, o844) :: (nat_lit 614, o846) :: (nat_lit 615, o847) :: (nat_lit 616, o848) :: (nat_lit 617, o849 P) :: (nat_lit 618, o850) :: (nat_lit 621, o1075) :: (nat_lit 623, o1077) :: (nat_lit 624, o1078) :: (nat_lit 626, o1080) :: (nat_lit 627, o1081) :: (nat_lit 628, o1082) :: (nat_lit 630, o1084) :: (nat_lit 631, o1085) :: (nat_lit 633, o1087) :: (nat_lit 634, o1088) :: (nat_lit 635, o1089) :: (nat_lit 637, o1091) :: (nat_lit 638, o1092) :: (nat_lit 640, o1094) :: (nat_lit 641, o1095) :: (nat_lit 642, o1096) :: (nat_lit 644, o1098) :: (nat_lit 645, o1099) :: (nat_lit 647, o1101) :: (nat_lit 648, o1102) :: (nat_lit 649, o1103) :: (nat_lit 651, o1105) :: (nat_lit 652, o1106) :: (nat_lit 654, o1108) :: (nat_lit 655, o1109) :: (nat_lit 656, o1110) :: (nat_lit 658, o1112) :: (nat_lit 659, o1113) :: (nat_lit 661, o1115) :: (nat_lit 662, o1116) :: (nat_lit 670, o1126) :: (nat_lit 671, o1127) :: (nat_lit 673, o1129) :: (nat_lit 674, o1130) :: (nat_lit 676, o1132) :: (nat_lit 677, o1133) :: (nat_lit 678, o1134) :: (nat_lit 680, o1136) :: (nat_lit 681, o1137) :: (nat_lit 683, o1139) :: (nat_lit 684, o1140) :: (nat_lit 685, o1141) :: (nat_lit 686, o1142) :: (nat_lit 688, o1144) :: (nat_lit 689, o1145) :: (nat_lit 691, o1147) :: (nat_lit 692, o1148) :: (nat_lit 693, o1149) :: (nat_lit 694, o1150) :: (nat_lit 696, o1152) :: (nat_lit 697, o1153) :: (nat_lit 699, o1155) :: (nat_lit 700, o1156) :: (nat_lit 701, o1157) :: (nat_lit 703, o1159) :: (nat_lit 704, o1160) :: (nat_lit 706, o1162) :: (nat_lit 707, o1163) :: (nat_lit 708, o1164) :: (nat_lit 710, o1166) :: (nat_lit 711, o1167) :: (nat_lit 713, o1169) :: (nat_lit 714, o1170) :: (nat_lit 715, o1171) :: (nat_lit 717, o1173) :: (nat_lit 718, o1174) :: (nat_lit 720, o1176) :: (nat_lit 721, o1177) :: (nat_lit 722, o1178) :: (nat_lit 724, o1180) :: (nat_lit 725, o1181) :: (nat_lit 727, o1183) :: (nat_lit 728, o1184) :: (nat_lit 729, o1185) :: (nat_lit 730, o1186) :: (nat_lit 732, o1188) :: (nat_lit 733, o1189) :: (nat_lit 735, o1191) :: (nat_lit 736, o1192) :: (nat_lit 737, o1193) :: (nat_lit 739, o1195) :: (nat_lit 740, o1196) :: (nat_lit 742, o1198) :: (nat_lit 743, o1199) :: (nat_lit 744, o1200) :: (nat_lit 746, o1202) :: (nat_lit 747, o1203) :: (nat_lit 749, o1205) :: (nat_lit 750, o1206) :: (nat_lit 751, o1207) :: (nat_lit 752, o1208 P) :: (nat_lit 753, o1209) :: (nat_lit 754, o1210) :: (nat_lit 755, o1211) :: (nat_lit 758, o1294) :: (nat_lit 759, o1295) :: (nat_lit 761, o1297) :: (nat_lit 762, o1298) :: (nat_lit 764, o1300) :: (nat_lit 765, o1301) :: (nat_lit 766, o1302) :: (nat_lit 768, o1304) :: (nat_lit 769, o1305) :: (nat_lit 771, o1307) :: (nat_lit 772, o1308) :: (nat_lit 773, o1309) :: (nat_lit 774, o1310) :: (nat_lit 776, o1312) :: (nat_lit 777, o1313) :: (nat_lit 779, o1315) :: (nat_lit 780, o1316) :: (nat_lit 781, o1317) :: (nat_lit 783, o1319) :: (nat_lit 784, o1320) :: (nat_lit 786, o1322) :: (nat_lit 787, o1323) :: (nat_lit 788, o1324) :: (nat_lit 790, o1326) :: (nat_lit 791, o1327) :: (nat_lit 793, o1329) :: (nat_lit 794, o1330) :: (nat_lit 795, o1331) :: (nat_lit 797, o1333) :: (nat_lit 798, o1334) :: (nat_lit 800, o1336) :: (nat_lit 801, o1337) :: (nat_lit 802, o1338) :: (nat_lit 804, o1340) :: (nat_lit 805, o1341) :: (nat_lit 807, o1343) :: (nat_lit 808, o1344) :: (nat_lit 809, o1345) :: (nat_lit 811, o1347) :: (nat_lit 812, o1348) :: (nat_lit 814, o1350) :: (nat_lit 815, o1351) :: (nat_lit 816, o1352) :: (nat_lit 819, o1355) :: (nat_lit 820, o1356) :: (nat_lit 821, o1357) :: (nat_lit 824, o1360) :: (nat_lit 825, o1361) :: (nat_lit 826, o1362) :: (nat_lit 829, o1365) :: (nat_lit 830, o1366) :: (nat_lit 831, o1369) :: (nat_lit 834, o1372) :: (nat_lit 835, o1373) :: (nat_lit 836, o1374) :: (nat_lit 839, o1377) :: (nat_lit 840, o1378) :: []
noncomputable def as : List Addr := [nat_lit 2, nat_lit 3, nat_lit 38, nat_lit 40, nat_lit 41, nat_lit 43, nat_lit 44, nat_lit 45, nat_lit 47, nat_lit 48, nat_lit 50, nat_lit 51, nat_lit 52, nat_lit 54, nat_lit 55, nat_lit 57, nat_lit 58, nat_lit 59, nat_lit 61, nat_lit 62, nat_lit 64, nat_lit 65, nat_lit 69, nat_lit 70, nat_lit 71, nat_lit 73, nat_lit 74, nat_lit 76, nat_lit 77, nat_lit 78, nat_lit 80, nat_lit 81, nat_lit 83, nat_lit 84, nat_lit 85, nat_lit 92, nat_lit 93, nat_lit 94, nat_lit 95, nat_lit 105, nat_lit 107, nat_lit 108, nat_lit 110, nat_lit 111, nat_lit 112, nat_lit 113, nat_lit 114, nat_lit 115, nat_lit 116, nat_lit 117, nat_lit 120, nat_lit 127, nat_lit 128, nat_lit 129, nat_lit 132, nat_lit 139, nat_lit 140, nat_lit 141, nat_lit 144, nat_lit 151, nat_lit 152, nat_lit 154, nat_lit 155, nat_lit 157, nat_lit 158, nat_lit 159, nat_lit 161, nat_lit 162, nat_lit 164, nat_lit 165, nat_lit 166, nat_lit 168, nat_lit 169, nat_lit 171, nat_lit 172, nat_lit 173, nat_lit 175, nat_lit 176, nat_lit 178, nat_lit 179, nat_lit 180, nat_lit 181, nat_lit 183, nat_lit 184, nat_lit 186, nat_lit 187, nat_lit 188, nat_lit 190, nat_lit 191, nat_lit 193, nat_lit 194, nat_lit 195, nat_lit 197, nat_lit 198, nat_lit 200, nat_lit 201, nat_lit 202, nat_lit 204, nat_lit 205, nat_lit 207, nat_lit 208, nat_lit 209, nat_lit 211, nat_lit 212, nat_lit 214, nat_lit 215, nat_lit 216, nat_lit 218, nat_lit 219, nat_lit 221, nat_lit 222, nat_lit 223, nat_lit 225, nat_lit 226, nat_lit 228, nat_lit 229, nat_lit 230, nat_lit 232, nat_lit 233, nat_lit 235, nat_lit 236, nat_lit 237, nat_lit 239, nat_lit 240, nat_lit 242, nat_lit 243, nat_lit 244, nat_lit 246, nat_lit 247, nat_lit 249, nat_lit 250, nat_lit 251, nat_lit 253, nat_lit 254, nat_lit 256, nat_lit 257, nat_lit 258, nat_lit 260, nat_lit 261, nat_lit 263, nat_lit 264, nat_lit 265, nat_lit 267, nat_lit 268, nat_lit 270, nat_lit 271, nat_lit 272, nat_lit 273, nat_lit 275, nat_lit 276, nat_lit 278, nat_lit 279, nat_lit 280, nat_lit 281, nat_lit 283, nat_lit 284, nat_lit 286, nat_lit 287, nat_lit 288, nat_lit 289, nat_lit 291, nat_lit 292, nat_lit 294, nat_lit 295, nat_lit 296, nat_lit 297, nat_lit 299, nat_lit 300, nat_lit 302, nat_lit 303, nat_lit 304, nat_lit 306, nat_lit 307, nat_lit 309, nat_lit 310, nat_lit 311, nat_lit 313, nat_lit 314, nat_lit 316, nat_lit 317, nat_lit 318, nat_lit 319, nat_lit 321, nat_lit 322, nat_lit 324, nat_lit 325, nat_lit 326, nat_lit 327, nat_lit 329, nat_lit 330, nat_lit 332, nat_lit 333, nat_lit 334, nat_lit 336, nat_lit 337, nat_lit 339, nat_lit 340, nat_lit 341, nat_lit 343, nat_lit 344, nat_lit 346, nat_lit 347, nat_lit 348, nat_lit 350, nat_lit 351, nat_lit 353, nat_lit 354, nat_lit 355, nat_lit 357, nat_lit 358, nat_lit 360, nat_lit 361, nat_lit 362, nat_lit 364, nat_lit 365, nat_lit 367, nat_lit 368, nat_lit 369, nat_lit 370, nat_lit 371, nat_lit 374, nat_lit 381, nat_lit 382, nat_lit 384, nat_lit 385, nat_lit 387, nat_lit 388, nat_lit 389, nat_lit 391, nat_lit 392, nat_lit 394, nat_lit 395, nat_lit 396, nat_lit 398, nat_lit 399, nat_lit 401, nat_lit 402, nat_lit 403, nat_lit 405, nat_lit 406, nat_lit 408, nat_lit 409, nat_lit 410, nat_lit 412, nat_lit 413, nat_lit 415, nat_lit 416, nat_lit 417, nat_lit 419, nat_lit 420, nat_lit 422, nat_lit 423, nat_lit 424, nat_lit 425, nat_lit 427, nat_lit 428, nat_lit 430, nat_lit 431, nat_lit 432, nat_lit 433, nat_lit 435, nat_lit 436, nat_lit 438, nat_lit 439, nat_lit 440, nat_lit 441, nat_lit 443, nat_lit 444, nat_lit 446, nat_lit 447, nat_lit 448, nat_lit 449, nat_lit 451, nat_lit 452, nat_lit 454, nat_lit 455, nat_lit 456, nat_lit 457, nat_lit 459, nat_lit 460, nat_lit 462, nat_lit 463, nat_lit 464, nat_lit 466, nat_lit 467, nat_lit 469, nat_lit 470, nat_lit 471, nat_lit 473, nat_lit 474, nat_lit 476, nat_lit 477, nat_lit 478, nat_lit 480, nat_lit 481, nat_lit 483, nat_lit 484, nat_lit 485, nat_lit 487, nat_lit 488, nat_lit 490, nat_lit 491, nat_lit 492, nat_lit 494, nat_lit 495, nat_lit 497, nat_lit 498, nat_lit 499, nat_lit 501, nat_lit 502, nat_lit 504, nat_lit 505, nat_lit 506, nat_lit 508, nat_lit 509, nat_lit 511, nat_lit 512, nat_lit 513, nat_lit 515, nat_lit 516, nat_lit 518, nat_lit 519, nat_lit 520, nat_lit 522, nat_lit 523, nat_lit 525, nat_lit 526, nat_lit 527, nat_lit 529, nat_lit 530, nat_lit 532, nat_lit 533, nat_lit 534, nat_lit 536, nat_lit 537, nat_lit 539, nat_lit 540, nat_lit 541, nat_lit 542, nat_lit 544, nat_lit 545, nat_lit 547, nat_lit 548, nat_lit 549, nat_lit 550, nat_lit 552, nat_lit 553, nat_lit 555, nat_lit 556, nat_lit 557, nat_lit 558, nat_lit 560, nat_lit 561, nat_lit 563, nat_lit 564, nat_lit 565, nat_lit 566, nat_lit 568, nat_lit 569, nat_lit 571, nat_lit 572, nat_lit 573, nat_lit 574, nat_lit 576, nat_lit 577, nat_lit 579, nat_lit 580, nat_lit 581, nat_lit 583, nat_lit 584, nat_lit 586, nat_lit 587, nat_lit 588, nat_lit 590, nat_lit 591, nat_lit 593, nat_lit 594, nat_lit 595, nat_lit 597, nat_lit 598, nat_lit 600, nat_lit 601, nat_lit 602, nat_lit 604, nat_lit 605, nat_lit 607, nat_lit 608, nat_lit 609, nat_lit 611, nat_lit 612, nat_lit 614, nat_lit 615, nat_lit 616, nat_lit 617, nat_lit 618, nat_lit 621, nat_lit 623, nat_lit 624, nat_lit 626, nat_lit 627, nat_lit 628, nat_lit 630, nat_lit 631, nat_lit 633, nat_lit 634, nat_lit 635, nat_lit 637, nat_lit 638, nat_lit 640, nat_lit 641, nat_lit 642, nat_lit 644, nat_lit 645, nat_lit 647, nat_lit 648, nat_lit 649, nat_lit 651, nat_lit 652, nat_lit 654, nat_lit 655, nat_lit 656, nat_lit 658, nat_lit 659, nat_lit 661, nat_lit 662, nat_lit 670, nat_lit 671, nat_lit 673, nat_lit 674, nat_lit 676, nat_lit 677, nat_lit 678, nat_lit 680, nat_lit 681, nat_lit 683, nat_lit 684, nat_lit 685, nat_lit 686, nat_lit 688, nat_lit 689, nat_lit 691, nat_lit 692, nat_lit 693, nat_lit 694, nat_lit 696, nat_lit 697, nat_lit 699, nat_lit 700, nat_lit 701, nat_lit 703, nat_lit 704, nat_lit 706, nat_lit 707, nat_lit 708, nat_lit 710, nat_lit 711, nat_lit 713, nat_lit 714, nat_lit 715, nat_lit 717, nat_lit 718, nat_lit 720, nat_lit 721, nat_lit 722, nat_lit 724, nat_lit 725, nat_lit 727, nat_lit 728, nat_lit 729, nat_lit 730, nat_lit 732, nat_lit 733, nat_lit 735, nat_lit 736, nat_lit 737, nat_lit 739, nat_lit 740, nat_lit 742, nat_lit 743, nat_lit 744, nat_lit 746, nat_lit 747, nat_lit 749, nat_lit 750, nat_lit 751, nat_lit 752, nat_lit 753, nat_lit 754, nat_lit 755, nat_lit 758, nat_lit 759, nat_lit 761, nat_lit 762, nat_lit 764, nat_lit 765, nat_lit 766, nat_lit 768, nat_lit 769, nat_lit 771, nat_lit 772, nat_lit 773, nat_lit 774, nat_lit 776, nat_lit 777, nat_lit 779, nat_lit 780, nat_lit 781, nat_lit 783, nat_lit 784, nat_lit 786, nat_lit 787, nat_lit 788, nat_lit 790, nat_lit 791, nat_lit 793, nat_lit 794, nat_lit 795, nat_lit 797, nat_lit 798, nat_lit 800, nat_lit 801, nat_lit 802, nat_lit 804, nat_lit 805, nat_lit 807, nat_lit 808, nat_lit 809, nat_lit 811, nat_lit 812, nat_lit 814, nat_lit 815, nat_lit 816, nat_lit 819, nat_lit 820, nat_lit 821, nat_lit 824, nat_lit 825, nat_lit 826, nat_lit 829, nat_lit 830, nat_lit 831, nat_lit 834, nat_lit 835, nat_lit 836, nat_lit 839, nat_lit 840]
noncomputable def view_39 : Program := { pE with main := { pE.main with body := [0, 1, 2, 4, 5, 6, 7, 8, 10, 11, 12, 13, 14, 15, 16, 17, 19, 20, 21, 22, 24, 25, 27, 29, 30, 31, 32, 34, 35, 37, 38, 39, 40, 41, 42, 43, 44].filterMap (pE.main.body[·]?) } }
noncomputable def loose : List Str := ["_twin_re_1", "UnsupportedOperation", "IOBase", "BufferedIOBase", "TextIOBase", "BytesIO", "StringIO", "join_path", "shlex", "split", "join_shlex", "_find_unsafe"]
theorem as_eq (P : Params) : as = (heap_39 P).map (·.1) := by kernel_rfl
noncomputable def hook : Hook := kHook heap_39 as as_eq
noncomputable def env : Env := { scope := pE.main.scope, locals := mainNs, globals := mainNs, cells := [], code := .ref 36, frame := some 37 }
noncomputable def cE : Code := .body (behindTheImports pE) env
noncomputable abbrev p0 : Pos := { line := 0, col := 0, endLine := 0, endCol := 0 }
noncomputable abbrev p1 : Pos := { line := 874, col := 0, endLine := 881, endCol := 67 }
noncomputable def lawDef : DefRec × List (Str × Expr) := match defOf view_39 PySem.Challenge.rw_oy0388_01.row.name with | some x => x | none => (⟨"", default, [], default, default⟩, [])
theorem start_h : (start (opening pE)).1 = (SharedT.mk .nil 0 {} #[] {} 1 (start (opening pE)).1.os).abs := by kernel_rfl
set_option maxRecDepth 1000000 in
theorem open_t (w : World) : (fun os => (impGoT PySem.W.Fast.tw14364793385576792824 (opening pE) w 1085 ⟨.nil, 0, {}, #[], {}, 1, os⟩ (start (opening pE)).2).map fun x => (x.1, x.2.atExitBegin)) =
    fun os => some (⟨tree_cE w.params, 34, {}, #[], {}, 318, os⟩, some []) := by kernel_rfl
set_option maxRecDepth 1000000 in
theorem fence_h (w : World) : (fun os => (fenceModules? pE ⟨absHeap (tree_cE w.params) 34 {}, #[], {}, 318, os⟩).map (fun s => (s.heap, s.gens, s.drawn, s.toks))) = fun _ => some (heap_74 w.params, #[], {}, 318) := by kernel_rfl
theorem imp_ends {tb : String → Option Builtin} {p : Program} {w : World} {n : Nat} {s s' : SharedT} {t : Thread} (h : (impGoT tb p w n s t).map (fun x => (x.1, x.2.atExitBegin)) = some (s', some [])) :
    importEnds tb p w (n + 1) s.abs t = some s'.abs := by
  obtain ⟨⟨s2, t2⟩, e, e'⟩ := Option.map_eq_some_iff.mp h
  obtain ⟨rfl, e2⟩ := Prod.mk.inj e'
  refine imp_go (impGo_of e) ?_
  unfold importEnds
  rw [e2]
theorem open_h : ∀ w : World, (fencedOpening treeTable pE w 10786).map (fun s => (s.heap, s.gens, s.drawn, s.toks)) = some (heap_74 w.params, #[], {}, 318) :=
  open_cut (M := 1086) (He := fun P => absHeap (tree_cE P) 34 {}) (fun w => by
    rw [start_h, PySem.W.Fast.te14364793385576792824]
    exact imp_ends (congrFun (open_t w) _)) (by decide) fence_h
set_option maxRecDepth 1000000 in
theorem pre_h (w : World) : (fun os => topGo PySem.W.Fast.tw14364793385576792824 pE w 34 (some (.ref 6)) 12 ⟨heap_74 w.params, #[], {}, 318, os⟩ (topStub pE)) =
    fun os => some (⟨heap_78 w.params, #[], {}, 324, os⟩, ⟨denote PySem.W.Fast.tw14364793385576792824 cE, cE, p0, [topFrame p0]⟩) := by kernel_rfl
set_option maxRecDepth 1000000 in
theorem block_h (w : World) : (fun os => segRun PySem.W.Fast.tw14364793385576792824 pE w 34 (some (.ref 6)) 1 1 ⟨heap_78 w.params, #[], {}, 324, os⟩ (blockOf (behindTheImports pE) env cE p0 [topFrame p0])) =
    fun os => some (Flow.next, (SharedT.mk (tree_79 w.params) 38 {} #[] {} 324 os).abs, cE, p0) := by kernel_rfl
noncomputable abbrev p13 : Pos := { line := 57, col := 0, endLine := 58, endCol := 21 }
noncomputable abbrev p14 : Pos := { line := 59, col := 0, endLine := 228, endCol := 17 }
noncomputable abbrev p15 : Pos := { line := 229, col := 0, endLine := 433, endCol := 17 }
set_option maxRecDepth 1000000 in
theorem run_h1 (w : World) : (fun os => segRunT PySem.W.Fast.tw14364793385576792824 pE w 34 (some (.ref 6)) 1 1186 ⟨tree_79 w.params, 38, {}, #[], {}, 324, os⟩ (piecesOf ((behindTheImports pE).take 14) env cE p0 [topFrame p0])) =
    fun os => some (Flow.next, ⟨tree_c13 w.params, 144, {}, #[], {}, 510, os⟩, cE, p13) := by kernel_rfl
set_option maxRecDepth 1000000 in
theorem run_h2 (w : World) : (fun os => segRunT PySem.W.Fast.tw14364793385576792824 pE w 34 (some (.ref 6)) 1 1278 ⟨tree_c13 w.params, 144, {}, #[], {}, 510, os⟩ (piecesOf (((behindTheImports pE).drop 14).take 1) env cE p13 [topFrame p0])) =
    fun os => some (Flow.next, ⟨tree_c14 w.params, 374, {}, #[], {}, 772, os⟩, cE, p14) := by kernel_rfl
set_option maxRecDepth 1000000 in
theorem run_h3 (w : World) : (fun os => segRunT PySem.W.Fast.tw14364793385576792824 pE w 34 (some (.ref 6)) 1 1578 ⟨tree_c14 w.params, 374, {}, #[], {}, 772, os⟩ (piecesOf ((((behindTheImports pE).drop 14).drop 1).take 1) env cE p14 [topFrame p0])) =
    fun os => some (Flow.next, ⟨tree_c15 w.params, 621, {}, #[], {}, 1059, os⟩, cE, p15) := by kernel_rfl
set_option maxRecDepth 1000000 in
theorem run_h4 (w : World) : (fun os => segRunT PySem.W.Fast.tw14364793385576792824 pE w 34 (some (.ref 6)) 1 1292 ⟨tree_c15 w.params, 621, {}, #[], {}, 1059, os⟩ (piecesOf ((((behindTheImports pE).drop 14).drop 1).drop 1) env cE p15 [topFrame p0])) =
    fun os => some (Flow.next, ⟨tree_1378 w.params, 841, {}, #[], {}, 1377, os⟩, cE, p1) := by kernel_rfl
set_option maxRecDepth 1000000 in
theorem fin_h (w : World) : (fun os => topRun PySem.W.Fast.tw14364793385576792824 pE w 34 (some (.ref 6)) 2 (SharedT.mk (tree_1378 w.params) 841 {} #[] {} 1377 os).abs ⟨doneF .next, cE, p1, [topFrame p0]⟩) =
    fun os => some ⟨heap_1379 w.params, #[], {}, 1377, os⟩ := by kernel_rfl
set_option maxRecDepth 1000000 in
theorem size_h (w : World) : ((heap_74 w.params).isNs mainGlobals && (#[] : Array GenState).size == 0, (heap_74 w.params).objs.size, (heap_74 w.params).nsMap mainGlobals "__annotations__") = (true, 34, some (.ref 6)) := by kernel_rfl
set_option maxRecDepth 1000000 in
theorem look_a (w : World) : (fun os => (staticsOk (importedModules pE.main.body) (heap_74 w.params) (heap_1379 w.params) && namesBound pE (heap_1379 w.params) && gensDone ⟨heap_1379 w.params, #[], {}, 1377, os⟩ && laidKept (heap_74 w.params) (heap_1379 w.params))) = fun _ => true := by kernel_rfl
set_option maxRecDepth 1000000 in
theorem look_b (w : World) : (fun os => openSeen view_39 loose (importedModules pE.main.body) (fun s => xlAt view_39 [] s && recOk (RowW.records PySem.Challenge.rw_oy0388_01.row.toRowW) s) true ⟨heap_1379 w.params, #[], {}, 1377, os⟩) = fun _ => openGood view_39 loose := by kernel_rfl
noncomputable def live : Option Obj → Option Obj
  | some ⟨_, _, .freed, _⟩ => none
  | o => o
noncomputable def gath : List Obj → Nat → List Nat → List (Option Obj)
  | [], _, as => as.map fun _ => none
  | _ :: _, _, [] => []
  | o :: l, i, a :: as => bif Nat.beq a i then live (some o) :: gath l (i + 1) as else gath l (i + 1) (a :: as)
noncomputable def upB : Nat → List Nat → Bool
  | _, [] => true
  | i, a :: as => Nat.ble i a && upB (a + 1) as
theorem upB_le : ∀ {as : List Nat} {i : Nat}, upB i as = true → ∀ b ∈ as, i ≤ b
  | [], _, _, _, hb => by cases hb
  | a :: as, i, h, b, hb => by
    obtain ⟨h1, h2⟩ := Bool.and_eq_true_iff.mp h
    have h1 := Nat.le_of_ble_eq_true h1
    rcases List.mem_cons.mp hb with rfl | q
    · exact h1
    · exact Nat.le_trans (Nat.le_succ_of_le h1) (upB_le h2 b q)
theorem upB_weak : ∀ {as : List Nat} {i j : Nat}, upB j as = true → i ≤ j → upB i as = true
  | [], _, _, _, _ => rfl
  | a :: as, i, j, h, hij => by
    obtain ⟨h1, h2⟩ := Bool.and_eq_true_iff.mp h
    exact Bool.and_eq_true_iff.mpr ⟨Nat.ble_eq_true_of_le (Nat.le_trans hij (Nat.le_of_ble_eq_true h1)), h2⟩
theorem gath_eq : ∀ (l : List Obj) (i : Nat) (as : List Nat), upB i as = true → gath l i as = as.map fun a => live (l[a - i]?)
  | [], i, as, _ => by simp [gath, live]
  | _ :: _, _, [], _ => rfl
  | o :: l, i, a :: as, h => by
    obtain ⟨h1, h2⟩ := Bool.and_eq_true_iff.mp h
    have h1 := Nat.le_of_ble_eq_true h1
    have step : ∀ b, i + 1 ≤ b → (o :: l)[b - i]? = l[b - (i + 1)]? := fun b hb => by
      rw [show b - i = (b - (i + 1)) + 1 by omega, List.getElem?_cons_succ]
    unfold gath
    by_cases q : a = i
    · subst q
      rw [Nat.beq_refl, cond_true, gath_eq l (a + 1) as h2, List.map_cons, Nat.sub_self, List.getElem?_cons_zero]
      congr 1
      exact List.map_congr_left fun b hb => by rw [step b (upB_le h2 b hb)]
    · have hb : Nat.beq a i = false := by cases e : Nat.beq a i with | false => rfl | true => exact absurd (Nat.eq_of_beq_eq_true e) q
      have h3 : upB (i + 1) (a :: as) = true := Bool.and_eq_true_iff.mpr ⟨Nat.ble_eq_true_of_le (Nat.lt_of_le_of_ne h1 (Ne.symm q)), h2⟩
      rw [hb, cond_false, gath_eq l (i + 1) (a :: as) h3]
      exact List.map_congr_left fun b hb => by rw [step b (upB_le h3 b hb)]
theorem get_live (h : Heap) (a : Addr) : h.get? a = live (h.objs.toList[a]?) := by
  rw [Array.getElem?_toList]; rfl
set_option maxRecDepth 1000000 in
theorem as_up : upB 0 as = true := by decide +kernel
set_option maxRecDepth 1000000 in
theorem gath_c (P : Params) : gath (heap_1379 P).objs.toList 0 as = (heap_39 P).map fun p => some p.2 := by kernel_rfl
theorem look_c (w : World) : (fun os => hook.obs ⟨heap_1379 w.params, #[], {}, 1377, os⟩) = fun _ => hook.val w := by
  funext os
  show as.map (heap_1379 w.params).get? = (heap_39 w.params).map fun p => some p.2
  rw [← gath_c, gath_eq _ _ _ as_up]
  exact List.map_congr_left fun a _ => get_live _ a
theorem cut_app {tb : String → Option Builtin} {p : Program} {w : World} {n₀ : Nat} {ann : Option Value} {en : Env} {q : Pos} {n N m : Nat} {s s' r : Shared} {l : List Stmt} {c : Code} {pos p' : Pos}
    (h : segRun tb p w n₀ ann 1 n s (piecesOf (l.take m) en c pos [topFrame q]) = some (.next, s', c, p'))
    (k : topRun tb p w n₀ ann N s' (restOf (l.drop m) en c p' [topFrame q]) = some r) : topRun tb p w n₀ ann (n + N) s (restOf l en c pos [topFrame q]) = some r := by
  have := piece_app h k
  rwa [List.take_append_drop] at this
theorem run_all (w : World) (os : OsState) : topRun treeTable pE w 34 (some (.ref 6)) (12 + (1 + (1186 + (1278 + (1578 + (1292 + 2)))))) ⟨heap_74 w.params, #[], {}, 318, os⟩ (topStub pE) = some ⟨heap_1379 w.params, #[], {}, 1377, os⟩ := by
  rw [PySem.W.Fast.te14364793385576792824]
  refine go_top (congrFun (pre_h w) os) (piece_block (congrFun (block_h w) os) ?_)
  refine cut_app (segRun_of (congrFun (run_h1 w) os)) (cut_app (segRun_of (congrFun (run_h2 w) os)) (cut_app (segRun_of (congrFun (run_h3 w) os)) ?_))
  have h := piece_app (rest := []) (segRun_of (congrFun (run_h4 w) os)) (piece_nil (congrFun (fin_h w) os))
  rwa [List.append_nil] at h
theorem left : LeftO pE view_39 loose (fun s => xlAt view_39 [] s && recOk (RowW.records PySem.Challenge.rw_oy0388_01.row.toRowW) s) hook.obs hook.val 10786 :=
  LeftO.of_pieces open_h size_h run_all (by decide) (fun w => by
    funext os
    exact Prod.ext (congrFun (look_a w) os) (Prod.ext (congrFun (look_b w) os) (congrFun (look_c w) os)))
set_option maxRecDepth 1000000 in
set_option maxHeartbeats 4000000 in
theorem said : PySem.W.OpenLaw.wellSaid PySem.Challenge.rw_oy0388_01 = true := by
  unfold OpenLaw.wellSaid OpenRow.wellSaid OpenRow.partSaid looksOpen
  repeat' with_reducible apply look_both
  all_goals decide +kernel
end Mine.hd
namespace Mine
set_option maxRecDepth 1000000 in
theorem hd (walk : WalkO hd.view_39 hd.loose (XL hd.view_39 []) (kHook hd.heap_39 hd.as hd.as_eq).says PySem.Challenge.rw_oy0388_01.row.toRowW hd.lawDef.1 hd.lawDef.2 (fun f vs => PySem.call f vs)) : PySem.Challenge.rw_oy0388_01.Holds :=
  holds_law hd.said fun k1 => holds_open (q := hd.view_39) (loose := hd.loose) (Xt := fun s => xlAt hd.view_39 [] s && recOk (RowW.records PySem.Challenge.rw_oy0388_01.row.toRowW) s) (XP := XL hd.view_39 []) (Yf := hd.hook.obs) (Ya := hd.hook.val) (YP := hd.hook.says) (N := 10786)
    hd.left hd.hook.of hd.hook.keeps (fun s e => xl_of s (Bool.and_eq_true_iff.mp e).1) XL.keeps (by kernel_rfl) (by kernel_rfl) (by kernel_rfl) (fun s e => recFacts_of (Bool.and_eq_true_iff.mp e).2) (by rfl) k1 (by decide +kernel) ⟨rfl, rfl, rfl, rfl, rfl, by decide +kernel⟩ (by w_witness2) walk
end Mine

namespace Mine


noncomputable def collD (x y : Str) : Int := b2i' (decide (y.cps.toList < x.cps.toList)) - b2i' (decide (x.cps.toList < y.cps.toList))
set_option maxRecDepth 100000 in
theorem fn_strcoll (w : World) (x y : Str) : Fn PySem.Challenge.rw_oy0388_01.prog w (hd.heap_39 w.params) 51 1 [.str x, .str y] (.int (collD x y)) := by
  k_fill
  refine' fn_intro (ns := ["a", "b"]) ?ho ?hcd ?hlen ?hbind ?hkind ?hnd ?hco ?hgen ?hk ?hbody
  case ho => k_is
  case hcd => k_is
  case hlen => rfl
  case hbind => (intro vs hv; rcases vs with _ | ⟨v1, _ | ⟨v2, _ | ⟨v3, _ | ⟨v4, _ | ⟨v5, _ | ⟨v6, vs⟩⟩⟩⟩⟩⟩ <;> first | rfl | (simp at hv; done))
  case hkind => decide +kernel
  case hnd => decide +kernel
  case hco => rfl
  case hgen => rfl
  case hk => rfl
  intro base outer A s₀ L W a
  refine ex_return rfl (ev_bin (frMd rfl) (ev_cmp (frMd rfl) a.hu (ev_name (frMd rfl) rfl rfl) (ev_name (frMd rfl) rfl rfl) rfl rfl) (ev_cmp (frMd rfl) a.hu (ev_name (frMd rfl) rfl rfl) (ev_name (frMd rfl) rfl rfl) rfl rfl) rfl) rfl
noncomputable def twcD (x y : Int) : Int := b2i' (decide (y < x)) - b2i' (decide (x < y))
set_option maxRecDepth 100000 in
theorem fn_twc (w : World) (x y : Int) : Fn PySem.Challenge.rw_oy0388_01.prog w (hd.heap_39 w.params) 794 1 [.int x, .int y] (.int (twcD x y)) := by
  k_fill
  refine' fn_intro (ns := ["x", "y"]) ?ho ?hcd ?hlen ?hbind ?hkind ?hnd ?hco ?hgen ?hk ?hbody
  case ho => k_is
  case hcd => k_is
  case hlen => rfl
  case hbind => (intro vs hv; rcases vs with _ | ⟨v1, _ | ⟨v2, _ | ⟨v3, _ | ⟨v4, _ | ⟨v5, _ | ⟨v6, vs⟩⟩⟩⟩⟩⟩ <;> first | rfl | (simp at hv; done))
  case hkind => decide +kernel
  case hnd => decide +kernel
  case hco => rfl
  case hgen => rfl
  case hk => rfl
  intro base outer A s₀ L W a
  refine ex_return rfl (ev_bin (frMd rfl) (ev_cmp (frMd rfl) a.hu (ev_name (frMd rfl) rfl rfl) (ev_name (frMd rfl) rfl rfl) rfl rfl) (ev_cmp (frMd rfl) a.hu (ev_name (frMd rfl) rfl rfl) (ev_name (frMd rfl) rfl rfl) rfl rfl) rfl) rfl
end Mine

namespace Mine

structure Blanks (x : Str) (f b : Nat) : Prop where
  room : f + b < x.length
  head : ∀ i, i < f → x.cps[i]? = some 32
  headEnd : ∃ c, x.cps[f]? = some c ∧ c ≠ 32
  tail : ∀ i, i < b → x.cps[x.length - 1 - i]? = some 32
  tailEnd : ∃ c, x.cps[x.length - 1 - b]? = some c ∧ c ≠ 32
noncomputable def frontD (amount : Int) (f : Nat) : Int := if amount < 0 then f else min amount f
noncomputable def backD (amount : Int) (f b : Nat) : Int := if amount < 0 then b else min (amount - frontD amount f) b

theorem bb_len : bootBuiltins "len" = some (.builtin "len") := by decide +kernel
theorem bb_range : bootBuiltins "range" = some (.type "range") := by decide +kernel
theorem bb_min : bootBuiltins "min" = some (.builtin "min") := by decide +kernel
theorem bb_sum : bootBuiltins "sum" = some (.builtin "sum") := by decide +kernel

theorem eq_blank {c : Nat} (h : c ≠ 32) : cmpD .Eq (.str ⟨#[c]⟩) (.str " ") = some false := by
  show some _ = some _
  congr 1
  have e : (Str.ofString " ").cps.toList = [32] := by decide +kernel
  rw [e]; simpa using h
theorem is_blank : cmpD .Eq (.str ⟨#[32]⟩) (.str " ") = some true := by
  show some _ = some _
  congr 1

theorem item_at {x : Str} {k : Nat} {c : Nat} (hk : k < 1048576) (h : x.cps[k]? = some c) {i : Int} (hi : i = k) : itemD (.str x) (.int i) = some (.str ⟨#[c]⟩) := by
  subst hi
  simp only [itemD]
  rw [if_pos (by omega)]
  simp [h]
theorem len_of {x : Str} (hx : x.length ≤ 1000) : callD1 "len" (.str x) = some (.int x.length) := by
  simp only [callD1]
  rw [if_pos trivial, if_pos (by omega)]
theorem fd_z {amount : Int} {f k : Nat} (hk : k ≤ f) (z : amount - k = 0) : frontD amount f = k := by unfold frontD; split <;> omega
theorem fd_q {amount : Int} {k : Nat} (hka : 0 ≤ amount → (k : Int) ≤ amount) : frontD amount k = k := by unfold frontD; split <;> omega
theorem fd_b (amount : Int) (f : Nat) : 0 ≤ frontD amount f ∧ frontD amount f ≤ f ∧ (0 ≤ amount → frontD amount f ≤ amount) := by unfold frontD; split <;> omega
theorem k_big {k f b n : Nat} (hk : k ≤ f) (h : f + b < n) (hn : n ≤ 1000) : k < 1048576 := by omega
theorem k_lt {k f : Nat} (hk : k ≤ f) (q : ¬k = f) : k < f := Nat.lt_of_le_of_ne hk q
theorem a_up {a k : Int} : a - k - 1 = a - (k + 1) := by omega
theorem a_le {amount F : Int} {k : Nat} (hka : 0 ≤ amount → F + (k : Int) ≤ amount) (z : ¬amount - F - k = 0) : 0 ≤ amount → F + ((k + 1 : Nat) : Int) ≤ amount := by omega
theorem a_le0 {amount : Int} {k : Nat} (hka : 0 ≤ amount → (k : Int) ≤ amount) (z : ¬amount - k = 0) : 0 ≤ amount → ((k + 1 : Nat) : Int) ≤ amount := by omega
theorem m_dn {k f : Nat} (hk : k ≤ f) (q : ¬k = f) : f - ((k + 1 : Nat) : Int).toNat < f - (k : Int).toNat := by omega
theorem n_dn {k b f n : Nat} (hk : k ≤ b) (h : f + b < n) : ((n : Int) - 1 - ((k + 1 : Nat) : Int) + 1).toNat < ((n : Int) - 1 - (k : Int) + 1).toNat := by omega
theorem b_ix {k b f n : Nat} (hk : k ≤ b) (h : f + b < n) : (n : Int) - 1 - (k : Int) = ((n - 1 - k : Nat) : Int) := by omega
theorem b_big {k n : Nat} (h : n ≤ 1000) : n - 1 - k < 1048576 := by omega
theorem bd_z {amount F : Int} {b k : Nat} (hF : 0 ≤ F ∧ (0 ≤ amount → F ≤ amount)) (hk : k ≤ b) (z : amount - F - k = 0) : (if amount < 0 then (b : Int) else min (amount - F) b) = k := by split <;> omega
theorem bd_q {amount F : Int} {k : Nat} (hka : 0 ≤ amount → F + (k : Int) ≤ amount) : (if amount < 0 then (k : Int) else min (amount - F) k) = k := by split <;> omega
set_option maxRecDepth 100000 in
theorem fn_strip (w : World) (x : Str) (f b : Nat) (hb : Blanks x f b) (hx : x.length ≤ 1000) (amount : Int) :
    Fn PySem.Challenge.rw_oy0388_01.prog w (hd.heap_39 w.params) 65 1 [.str x, .int amount] (.str (Txt.slice x (some (frontD amount f)) (some (x.length - backD amount f b)))) := by
  k_fill
  refine' fn_intro (ns := ["s", "amount"]) ?ho ?hcd ?hlen ?hbind ?hkind ?hnd ?hco ?hgen ?hk ?hbody
  case ho => k_is
  case hcd => k_is
  case hlen => rfl
  case hbind => (intro vs hv; rcases vs with _ | ⟨v1, _ | ⟨v2, _ | ⟨v3, _ | ⟨v4, _ | ⟨v5, _ | ⟨v6, vs⟩⟩⟩⟩⟩⟩ <;> first | rfl | (simp at hv; done))
  case hkind => decide +kernel
  case hnd => decide +kernel
  case hco => rfl
  case hgen => rfl
  case hk => rfl
  intro base outer A s₀ L W a
  refine ex_assign rfl (ev_int (frMd rfl)) (.inl rfl) rfl ?_
  have h1 := hb.room
  obtain ⟨c, hc, hne⟩ := hb.headEnd
  obtain ⟨c', hc', hne'⟩ := hb.tailEnd
  -- the first while
  refine ex_cons (Ψ := fun fd ρ' => fd = .next ∧ Sub [("lpos", .int (frontD amount f)), ("s", .str x), ("amount", .int (amount - frontD amount f))] ρ') (ex1_while rfl
    (fun ρ' => ∃ k : Nat, k ≤ f ∧ (0 ≤ amount → (k : Int) ≤ amount) ∧ Sub [("lpos", .int k), ("s", .str x), ("amount", .int (amount - k))] ρ')
    (fun ρ' => match ρ'.lookup ("lpos" : Str) with | some (PyData.int k) => f - k.toNat | _ => 0) ⟨0, Nat.zero_le _, fun h => h, .cons rfl (.cons rfl (.cons (int_eq (by simp)) .nil))⟩ ?_) ?_ ?_
  · rintro ρ' ⟨k, hk, hka, hS⟩
    by_cases z : amount - k = 0
    · refine ⟨false, et_weak hS (tv_and_stop (tv_ok (frMd rfl) (ev_name (frMd rfl) rfl rfl) (by show some (amount - (k : Int) != 0) = some false; rw [z]; rfl) (fun _ => rfl))), fun h => (by cases h), fun _ => ⟨rfl, ?_⟩⟩
      have e : frontD amount f = k := fd_z hk z
      rw [e]; exact hS
    · by_cases q : k = f
      · subst q
        refine ⟨false, et_weak hS (tv_and_go (frMd rfl) (tv_ok (frMd rfl) (ev_name (frMd rfl) rfl rfl) (by show some (amount - (k : Int) != 0) = some true; simp [z]) (fun _ => rfl)) (tv_and_stop (tv_cmp (frMd rfl) a.hu (ev_item (frMd rfl) (ev_name (frMd rfl) rfl rfl) (ev_name (frMd rfl) rfl rfl) (item_at (k_big (Nat.le_refl _) h1 hx) hc rfl) (fun _ _ => rfl)) (ev_str (frMd rfl)) (eq_blank hne) rfl))), fun h => (by cases h), fun _ => ⟨rfl, ?_⟩⟩
        have e : frontD amount k = k := fd_q hka
        rw [e]; exact hS
      · refine ⟨true, et_weak hS (tv_and_go (frMd rfl) (tv_ok (frMd rfl) (ev_name (frMd rfl) rfl rfl) (by show some (amount - (k : Int) != 0) = some true; simp [z]) (fun _ => rfl)) (tv_and_go (frMd rfl) (tv_cmp (frMd rfl) a.hu (ev_item (frMd rfl) (ev_name (frMd rfl) rfl rfl) (ev_name (frMd rfl) rfl rfl) (item_at (k_big hk h1 hx) (hb.head k (k_lt hk q)) rfl) (fun _ _ => rfl)) (ev_str (frMd rfl)) is_blank rfl) (tv_and_nil (frMd rfl)))), fun _ => ?_, fun h => (by cases h)⟩
        have hl : ρ'.lookup ("lpos" : Str) = some (PyData.int k) := hS "lpos" _ rfl
        refine exp_weak hS ?_
        refine ex_aug (d := .int ((k + 1 : Nat) : Int)) rfl rfl (ev_int (frMd rfl)) (int_eq (by simp)) (.inl ⟨_, _, rfl, rfl, .inl rfl⟩) (.inl rfl) ?_
        refine ex_aug (d := .int (amount - ((k + 1 : Nat) : Int))) rfl rfl (ev_int (frMd rfl)) (int_eq a_up) (.inl ⟨_, _, rfl, rfl, .inr rfl⟩) (.inl rfl) ?_
        refine ex_nil ⟨⟨k + 1, k_lt hk q, a_le0 hka z, .cons rfl (.cons rfl (.cons rfl .nil))⟩, ?_⟩
        rw [hl]
        exact m_dn hk q
  · rintro ρ₁ ⟨_, hS₁⟩
    refine exp_weak hS₁ ?_
    refine ex_assign (d := .int ((x.length : Int) - 1)) rfl (ev_bin (frMd rfl) (ev_call1 (frMd rfl) a.handled (nm_builtin W rfl rfl rfl rfl (by k_is) bb_len (by decide) rfl) (ev_name (frMd rfl) rfl rfl) (len_of hx) rfl) (ev_int (frMd rfl)) rfl) (.inl rfl) rfl ?_
    generalize hF : frontD amount f = F
    have hF0 : 0 ≤ F ∧ F ≤ f ∧ (0 ≤ amount → F ≤ amount) := hF ▸ fd_b amount f
    have hB : backD amount f b = if amount < 0 then (b : Int) else min (amount - F) b := by rw [← hF]; rfl
    generalize hBe : backD amount f b = Bk
    rw [hBe] at hB
    refine ex_cons (Ψ := fun fd ρ' => fd = .next ∧ Sub [("rpos", .int (x.length - 1 - Bk)), ("s", .str x), ("lpos", .int F)] ρ') (ex1_while rfl
      (fun ρ' => ∃ k : Nat, k ≤ b ∧ (0 ≤ amount → F + (k : Int) ≤ amount) ∧ Sub [("rpos", .int (x.length - 1 - k)), ("s", .str x), ("lpos", .int F), ("amount", .int (amount - F - k))] ρ')
      (fun ρ' => match ρ'.lookup ("rpos" : Str) with | some (PyData.int k) => (k + 1).toNat | _ => 0) ⟨0, Nat.zero_le _, fun h => (by have := hF0.2.2 h; simpa using this), .cons (int_eq (by simp)) (.cons rfl (.cons rfl (.cons (int_eq (by simp)) .nil)))⟩ ?_) ?_ ?_
    · rintro ρ' ⟨k, hk, hka, hS⟩
      by_cases z : amount - F - k = 0
      · refine ⟨false, et_weak hS (tv_and_stop (tv_ok (frMd rfl) (ev_name (frMd rfl) rfl rfl) (by show some (amount - F - (k : Int) != 0) = some false; rw [z]; rfl) (fun _ => rfl))), fun h => (by cases h), fun _ => ⟨rfl, ?_⟩⟩
        have e : Bk = k := hB.trans (bd_z ⟨hF0.1, hF0.2.2⟩ hk z)
        rw [e]; exact Sub.cons (hS "rpos" _ rfl) (.cons (hS "s" _ rfl) (.cons (hS "lpos" _ rfl) .nil))
      · by_cases q : k = b
        · subst q
          refine ⟨false, et_weak hS (tv_and_go (frMd rfl) (tv_ok (frMd rfl) (ev_name (frMd rfl) rfl rfl) (by show some (amount - F - (k : Int) != 0) = some true; simp [z]) (fun _ => rfl)) (tv_and_stop (tv_cmp (frMd rfl) a.hu (ev_item (frMd rfl) (ev_name (frMd rfl) rfl rfl) (ev_name (frMd rfl) rfl rfl) (item_at (b_big hx) hc' (b_ix (Nat.le_refl _) h1)) (fun _ _ => rfl)) (ev_str (frMd rfl)) (eq_blank hne') rfl))), fun h => (by cases h), fun _ => ⟨rfl, ?_⟩⟩
          have e : Bk = k := hB.trans (bd_q hka)
          rw [e]; exact Sub.cons (hS "rpos" _ rfl) (.cons (hS "s" _ rfl) (.cons (hS "lpos" _ rfl) .nil))
        · refine ⟨true, et_weak hS (tv_and_go (frMd rfl) (tv_ok (frMd rfl) (ev_name (frMd rfl) rfl rfl) (by show some (amount - F - (k : Int) != 0) = some true; simp [z]) (fun _ => rfl)) (tv_and_go (frMd rfl) (tv_cmp (frMd rfl) a.hu (ev_item (frMd rfl) (ev_name (frMd rfl) rfl rfl) (ev_name (frMd rfl) rfl rfl) (item_at (b_big hx) (hb.tail k (k_lt hk q)) (b_ix hk h1)) (fun _ _ => rfl)) (ev_str (frMd rfl)) is_blank rfl) (tv_and_nil (frMd rfl)))), fun _ => ?_, fun h => (by cases h)⟩
          have hl : ρ'.lookup ("rpos" : Str) = some (PyData.int (x.length - 1 - k)) := hS "rpos" _ rfl
          refine exp_weak hS ?_
          refine ex_aug (d := .int ((x.length : Int) - 1 - ((k + 1 : Nat) : Int))) rfl rfl (ev_int (frMd rfl)) (int_eq a_up) (.inl ⟨_, _, rfl, rfl, .inr rfl⟩) (.inl rfl) ?_
          refine ex_aug (d := .int (amount - F - ((k + 1 : Nat) : Int))) rfl rfl (ev_int (frMd rfl)) (int_eq a_up) (.inl ⟨_, _, rfl, rfl, .inr rfl⟩) (.inl rfl) ?_
          refine ex_nil ⟨⟨k + 1, k_lt hk q, a_le hka z, .cons rfl (.cons rfl (.cons rfl (.cons rfl .nil)))⟩, ?_⟩
          rw [hl]
          exact n_dn hk h1
    · rintro ρ₂ ⟨_, hS₂⟩
      refine exp_weak hS₂ ?_
      exact ex_return rfl (ev_slice (frMd rfl) (i := some F) (j := some ((x.length : Int) - Bk)) (ev_name (frMd rfl) rfl rfl) (ev_name (frMd rfl) rfl rfl) (ev_bin (frMd rfl) (ev_name (frMd rfl) rfl rfl) (ev_int (frMd rfl)) (int_eq (by omega))) (by simp only [sliceD]; rw [if_pos (by omega)])) rfl
    · rintro fd ρ' hn ⟨rfl, _⟩; exact absurd rfl hn
  · rintro fd ρ' hn ⟨rfl, _⟩; exact absurd rfl hn
end Mine

namespace Mine

theorem upFrom_mem {a i : Int} {n : Nat} (h : i ∈ upFrom a n) : a ≤ i ∧ i < a + n := by
  induction n generalizing a with
  | zero => cases h
  | succ n ih =>
    rcases List.mem_cons.mp h with rfl | h
    · omega
    · have := ih h; omega
theorem rangeI_mem {a b i : Int} (h : i ∈ rangeI a b) : a ≤ i ∧ i < b := by have := upFrom_mem h; omega
theorem FreeOk.nil {env : Env} {scope : Scope} {cl : List (Str × Addr)} {ρ : Rho} : FreeOk env scope cl ρ [] := fun _ _ h => by simp at h
theorem FreeOk.cons {env : Env} {scope : Scope} {cl : List (Str × Addr)} {ρ ρf : Rho} {x : Str} {d : PyData} (h1 : ρ.lookup x = some d) (h2 : env.kindOf x = some .cell) (h3 : (relabel scope env).names.lookup x = some .cell)
    (h4 : cl.lookup x = env.cells.lookup x) (r : FreeOk env scope cl ρ ρf) : FreeOk env scope cl ρ ((x, d) :: ρf) := fun y e hy => by
  by_cases q : y = x
  · subst q; rw [List.lookup_cons_self] at hy; cases hy; exact ⟨h1, h2, h3, h4⟩
  · rw [lookup_cons_ne q] at hy; exact r y e hy
noncomputable def placesI (x : Str) (c : Nat) : List Int := (rangeI 0 x.length).filter fun j => x.cps.getD j.toNat 0 == c
set_option maxRecDepth 100000 in
theorem fn_places (w : World) (x : Str) (c : Nat) (hx : x.length ≤ 1000) :
    Fn PySem.Challenge.rw_oy0388_01.prog w (hd.heap_39 w.params) 820 1 [.str x, .str ⟨#[c]⟩] (.list ((placesI x c).map .int)) := by
  k_fill
  refine' fn_intro (ns := ["text", "ink"]) ?ho ?hcd ?hlen ?hbind ?hkind ?hnd ?hco ?hgen ?hk ?hbody
  case ho => k_is
  case hcd => k_is
  case hlen => rfl
  case hbind => (intro vs hv; rcases vs with _ | ⟨v1, _ | ⟨v2, _ | ⟨v3, _ | ⟨v4, _ | ⟨v5, _ | ⟨v6, vs⟩⟩⟩⟩⟩⟩ <;> first | rfl | (simp at hv; done))
  case hkind => decide +kernel
  case hnd => decide +kernel
  case hco => rfl
  case hgen => rfl
  case hk => rfl
  intro base outer A s₀ L W a
  refine ex_return rfl (ev_comp (frMd rfl) a.handled (ρf := [("text", .str x), ("ink", .str ⟨#[c]⟩)]) (fun j => x.cps.getD j.toNat 0 == c) (fun j => .int j)
    (it_range1 (frMd rfl) a.handled (nm_builtin W rfl rfl rfl rfl (by k_is) bb_range (by decide) rfl) (ev_call1 (frMd rfl) a.handled (nm_builtin W rfl rfl rfl rfl (by k_is) bb_len (by decide) rfl) (ev_name (frMd rfl) rfl rfl) (len_of hx) rfl) (by omega) rfl) ?_ rfl ?_ rfl ?_ rfl ?_ rfl ?_ ?_ ?_ (fun _ => rfl)) rfl
  · rw [rangeI, upFrom_length]; omega
  · decide +kernel
  · decide +kernel
  · exact .cons rfl rfl rfl rfl (.cons rfl rfl rfl rfl .nil)
  · intro i hi C
    obtain ⟨h0, h1⟩ := rangeI_mem hi
    have hg : x.cps[i.toNat]? = some (x.cps.getD i.toNat 0) := by
      have : i.toNat < x.cps.size := by have : x.length = x.cps.size := rfl; omega
      simp [Array.getD, this]
    refine tv_cmp (compMd rfl) a.hu (ev_item (compMd rfl) (ev_name (compMd rfl) rfl rfl) (ev_name (compMd rfl) rfl rfl) (item_at (by omega) hg (by omega)) (fun _ _ => rfl)) (ev_name (compMd rfl) rfl rfl) ?_ rfl
    show some _ = some _
    congr 1
    simp
  · intro i hi hp C
    exact ev_name (compMd rfl) rfl rfl
  · intro i hi hp
    exact .inl ⟨_, rfl⟩
end Mine

namespace Mine

theorem rangeI_getD {a b : Int} {k : Nat} (h : k < (rangeI a b).length) : (rangeI a b).getD k 0 = a + k := by
  rw [rangeI, upFrom_length] at h
  rw [rangeI, upFrom_getD _ _ _ h]
theorem rangeI_length (n : Nat) : (rangeI 0 n).length = n := by rw [rangeI, upFrom_length]; omega
theorem item_list {xs : List PyData} {k : Nat} {d : PyData} (hk : k < 1048576) (h : xs[k]? = some d) {i : Int} (hi : i = k) : itemD (.list xs) (.int i) = some d := by
  subst hi
  simp only [itemD]
  rw [if_pos (by omega)]
  simpa using h
theorem ne_two {a b c d : Int} : cmpD .NotEq (.list [.int a, .int b]) (.list [.int c, .int d]) = some (!(a == c && b == d)) := by
  simp only [cmpD, eqD, neD, ltD, gtD, leD, geD, inD, isD]
  rw [if_pos ⟨rfl, rfl⟩]
  simp [PyData.eqv, PyData.eqvAll]
theorem len_list {xs : List PyData} (hx : xs.length ≤ 1000) : callD1 "len" (.list xs) = some (.int xs.length) := by
  simp only [callD1]
  rw [if_pos trivial, if_pos (by omega)]
theorem Sub.under {ρ ρ' : Rho} {x : Str} {d : PyData} (h : Sub ρ ρ') : Sub ((x, d) :: ρ) ((x, d) :: ρ') := fun y e hy => by
  by_cases q : y = x
  · subst q; rw [List.lookup_cons_self] at hy ⊢; exact hy
  · rw [lookup_cons_ne q] at hy ⊢; exact h y e hy
theorem Sub.more {ρ ρ' : Rho} {x : Str} {d : PyData} (h : Sub ρ ρ') (hx : ρ.lookup x = none) : Sub ρ ((x, d) :: ρ') := fun y e hy => by
  by_cases q : y = x
  · subst q; rw [hx] at hy; cases hy
  · rw [lookup_cons_ne q]; exact h y e hy

set_option maxRecDepth 100000 in
theorem fn_ordered (w : World) (ws : List Str) (rs : List Int) (hn : ws.length ≤ 1000) (hr : rs.length = ws.length)
    (hok : ∀ i k, i < ws.length → k < ws.length → collD (ws.getD i Str.empty) (ws.getD k Str.empty) = twcD (rs.getD i 0) (rs.getD k 0)) :
    Fn PySem.Challenge.rw_oy0388_01.prog w (hd.heap_39 w.params) 815 2 [.list (ws.map .str), .list (rs.map .int)] (.bool true) := by
  k_fill
  refine' fn_intro (ns := ["words", "ranks"]) ?ho ?hcd ?hlen ?hbind ?hkind ?hnd ?hco ?hgen ?hk ?hbody
  case ho => k_is
  case hcd => k_is
  case hlen => rfl
  case hbind => (intro vs hv; rcases vs with _ | ⟨v1, _ | ⟨v2, _ | ⟨v3, _ | ⟨v4, _ | ⟨v5, _ | ⟨v6, vs⟩⟩⟩⟩⟩⟩ <;> first | rfl | (simp at hv; done))
  case hkind => decide +kernel
  case hnd => decide +kernel
  case hco => rfl
  case hgen => rfl
  case hk => rfl
  intro base outer A s₀ L W a
  have hlen : callD1 "len" (.list (ws.map PyData.str)) = some (.int ws.length) := by rw [len_list (by simpa using hn)]; simp
  have hw : ∀ k, k < ws.length → (ws.map PyData.str)[k]? = some (.str (ws.getD k Str.empty)) := fun k h => by simp [List.getD, h]
  have hrk : ∀ k, k < ws.length → (rs.map PyData.int)[k]? = some (.int (rs.getD k 0)) := fun k h => by simp [List.getD, hr, h]
  refine ex_cons (Ψ := fun fd ρ' => fd = .next) (ex1_for rfl (fun _ ρ' => Sub [("words", .list (ws.map .str)), ("ranks", .list (rs.map .int))] ρ') (it_range1 (frMd rfl) a.handled (nm_builtin W rfl rfl rfl rfl (by k_is) bb_range (by decide) rfl) (ev_call1 (frMd rfl) a.handled (nm_builtin W rfl rfl rfl rfl (by k_is) bb_len (by decide) rfl) (ev_name (frMd rfl) rfl rfl) hlen rfl) (by omega) rfl) (.inl rfl) (.refl _) ?_ (fun _ _ => rfl) (fun _ => rfl)) (fun ρ' _ => ?_) (fun fd ρ' h1 h2 => absurd h2 h1)
  · intro i ρ' hi hS
    rw [rangeI_getD hi, Int.zero_add]
    rw [rangeI_length] at hi
    refine exp_weak hS.under ?_
    refine ex_cons (Ψ := fun fd ρ' => fd = .next ∧ Sub [("i", .int i), ("words", .list (ws.map .str)), ("ranks", .list (rs.map .int))] ρ') (ex1_for rfl (fun _ ρ' => Sub [("i", .int i), ("words", .list (ws.map .str)), ("ranks", .list (rs.map .int))] ρ') (it_range1 (frMd rfl) a.handled (nm_builtin W rfl rfl rfl rfl (by k_is) bb_range (by decide) rfl) (ev_call1 (frMd rfl) a.handled (nm_builtin W rfl rfl rfl rfl (by k_is) bb_len (by decide) rfl) (ev_name (frMd rfl) rfl rfl) hlen rfl) (by omega) rfl) (.inl rfl) (.refl _) ?_ (fun ρ' h => ⟨rfl, h⟩) (fun _ => rfl)) (fun ρ' h => ex_nil ?_) (fun fd ρ' h1 h2 => absurd h2.1 h1)
    · intro k ρ' hk hS
      rw [rangeI_getD hk, Int.zero_add]
      rw [rangeI_length] at hk
      refine exp_weak hS.under ?_
      have hi' := item_list (by omega) (hrk i hi) (i := i) rfl
      have hk' := item_list (by omega) (hrk k hk) (i := k) rfl
      have hwi := item_list (by omega) (hw i hi) (i := i) rfl
      have hwk := item_list (by omega) (hw k hk) (i := k) rfl
      refine ex_assign (d := .int 0) rfl (ev_int (frMd rfl)) (.inl rfl) rfl ?_
      refine ex_cons (Ψ := fun fd ρ' => fd = .next ∧ Sub [("due", .int (twcD (rs.getD i 0) (rs.getD k 0))), ("k", .int k), ("i", .int i), ("words", .list (ws.map .str)), ("ranks", .list (rs.map .int))] ρ') (ex1_if rfl (tv_cmp (frMd rfl) a.hu (ev_item (frMd rfl) (ev_name (frMd rfl) rfl rfl) (ev_name (frMd rfl) rfl rfl) hi' (fun _ _ => rfl)) (ev_item (frMd rfl) (ev_name (frMd rfl) rfl rfl) (ev_name (frMd rfl) rfl rfl) hk' (fun _ _ => rfl)) rfl rfl) (fun h => ?_) (fun h => ?_)) (fun ρ' h => exp_weak h.2 ?_) (fun fd ρ' h1 h2 => absurd h2.1 h1)
      · have hne : rs.getD i 0 ≠ rs.getD k 0 := by simpa using h
        refine ex_assign (d := .int (twcD (rs.getD i 0) (rs.getD k 0))) rfl (ev_ifexp (frMd rfl) (tv_cmp (frMd rfl) a.hu (ev_item (frMd rfl) (ev_name (frMd rfl) rfl rfl) (ev_name (frMd rfl) rfl rfl) hi' (fun _ _ => rfl)) (ev_item (frMd rfl) (ev_name (frMd rfl) rfl rfl) (ev_name (frMd rfl) rfl rfl) hk' (fun _ _ => rfl)) rfl rfl) (fun h => ?_) (fun h => ?_)) (.inl rfl) rfl (ex_nil ⟨rfl, .cons rfl (.cons rfl (.cons rfl (.cons rfl (.cons rfl .nil))))⟩)
        · have h : rs.getD k 0 < rs.getD i 0 := by simpa using h
          have e : twcD (rs.getD i 0) (rs.getD k 0) = 1 := by unfold twcD b2i'; rw [decide_eq_true h, decide_eq_false (by omega)]; rfl
          rw [e]; exact ev_int (frMd rfl)
        · have h : ¬ rs.getD k 0 < rs.getD i 0 := by simpa using h
          have e : twcD (rs.getD i 0) (rs.getD k 0) = -1 := by unfold twcD b2i'; rw [decide_eq_false h, decide_eq_true (by omega)]; rfl
          rw [e]; exact ev_neg (frMd rfl) (ev_int (frMd rfl))
      · have he : rs.getD i 0 = rs.getD k 0 := by simpa using h
        have e : twcD (rs.getD i 0) (rs.getD k 0) = 0 := by rw [he]; unfold twcD; omega
        rw [e]
        exact ex_nil ⟨rfl, .cons rfl (.cons rfl (.cons rfl (.cons rfl (.cons rfl .nil))))⟩
      · refine ex_if_no rfl (tv_cmp (frMd rfl) a.hu (ev_list (frMd rfl) (sp_cons (frMd rfl) (ev_callF (frMd rfl) (nm_global W rfl rfl rfl (by k_is) rfl) rfl (sp_cons (frMd rfl) (ev_item (frMd rfl) (ev_name (frMd rfl) rfl rfl) (ev_name (frMd rfl) rfl rfl) hwi (fun _ _ => rfl)) (sp_cons (frMd rfl) (ev_item (frMd rfl) (ev_name (frMd rfl) rfl rfl) (ev_name (frMd rfl) rfl rfl) hwk (fun _ _ => rfl)) (sp_nil (frMd rfl)))) (fnP_of (fn_strcoll w _ _) W (a.less (by decide)) (by k_is) rfl))
          (sp_cons (frMd rfl) (ev_callF (frMd rfl) (nm_global W rfl rfl rfl (by k_is) rfl) rfl (sp_cons (frMd rfl) (ev_item (frMd rfl) (ev_name (frMd rfl) rfl rfl) (ev_name (frMd rfl) rfl rfl) hi' (fun _ _ => rfl)) (sp_cons (frMd rfl) (ev_item (frMd rfl) (ev_name (frMd rfl) rfl rfl) (ev_name (frMd rfl) rfl rfl) hk' (fun _ _ => rfl)) (sp_nil (frMd rfl)))) (fnP_of (fn_twc w _ _) W (a.less (by decide)) (by k_is) rfl)) (sp_nil (frMd rfl)))) (by simp))
          (ev_list (frMd rfl) (sp_cons (frMd rfl) (ev_name (frMd rfl) rfl rfl) (sp_cons (frMd rfl) (ev_name (frMd rfl) rfl rfl) (sp_nil (frMd rfl)))) (by simp)) (by rw [ne_two, hok i k hi hk]; simp) rfl) (ex_nil (.cons rfl (.cons rfl (.cons rfl .nil))))
    · exact Sub.cons (h.2 "words" _ rfl) (.cons (h.2 "ranks" _ rfl) .nil)
  · exact ex_return rfl (ev_bool (frMd rfl)) rfl
end Mine

namespace Mine

noncomputable def marksI (size till : Int) : List Int := (upFrom 1 (till / size).toNat).map (· * size)
noncomputable def MarksOk (w : World) : Prop := ∀ size till : Int, 1 ≤ size → size ≤ 7 → -1 ≤ till → till ≤ 42 →
  Fn PySem.Challenge.rw_oy0388_01.prog w (hd.heap_39 w.params) 801 4 [.int size, .int till] (.list ((marksI size till).map .int))
theorem marksI_length (size till : Int) : (marksI size till).length = (till / size).toNat := by simp [marksI, upFrom_length]
noncomputable def tickS (inks blanks : List Int) (ink : Str) : Nat → Str
  | 0 => Str.empty
  | n + 1 =>
    let t := if inks.contains (n : Int) then tickS inks blanks ink n ++ ink else tickS inks blanks ink n
    if blanks.contains (n : Int) then t ++ Str.ofString " " else t
theorem tickS_length {inks blanks : List Int} {ink : Str} (h : ink.length = 1) : ∀ n, (tickS inks blanks ink n).length ≤ 2 * n
  | 0 => Nat.le_refl _
  | n + 1 => by
    have ih := tickS_length (inks := inks) (blanks := blanks) h n
    have hb : (Str.ofString " ").length = 1 := by decide +kernel
    unfold tickS
    split <;> split <;> simp only [Str.length_append, h, hb] <;> omega
theorem mul_ok {a b : Int} (ha : -1000000 < a ∧ a < 1000000) : binD .Mult (.int a) (.int b) = some (.int (a * b)) := by
  simp only [binD, addD, subD, mulD, fdvD, modD]
  rw [if_pos (by omega)]
theorem in_ints {k : Int} {ns : List Int} : cmpD .In (.int k) (.list (ns.map .int)) = some (ns.contains k) := by
  simp only [cmpD, eqD, neD, ltD, gtD, leD, geD, inD, isD, intsOf_map]; rfl
theorem add_str {x y : Str} (h : x.length + y.length ≤ 1000) : binD .Add (.str x) (.str y) = some (.str (x ++ y)) := by
  simp only [binD, addD, subD, mulD, fdvD, modD]
  rw [if_pos (by omega)]
theorem add_list {xs ys : List PyData} (h : xs.length + ys.length ≤ 1000) : binD .Add (.list xs) (.list ys) = some (.list (xs ++ ys)) := by
  simp only [binD, addD, subD, mulD, fdvD, modD]
  rw [if_pos (by omega)]
noncomputable def tickedS (wide near : Int) (ink : Str) : Str := tickS (marksI wide (wide * near)) (0 :: marksI near (wide * near - 1)) ink (wide * near + 1).toNat

set_option maxRecDepth 100000 in
theorem fn_ticked (w : World) (M : MarksOk w) (wide near : Int) (ink : Str) (h1 : 1 ≤ wide ∧ wide ≤ 7) (h2 : 1 ≤ near ∧ near ≤ 6) (hi : ink.length = 1) :
    Fn PySem.Challenge.rw_oy0388_01.prog w (hd.heap_39 w.params) 808 5 [.int wide, .int near, .str ink] (.str (tickedS wide near ink)) := by
  have hp : 1 ≤ wide * near ∧ wide * near ≤ 42 := by
    have a := Int.mul_le_mul h1.2 h2.2 (by omega) (by omega)
    have b := Int.mul_le_mul h1.1 h2.1 (by omega) (by omega)
    omega
  have hb : (Str.ofString " ").length = 1 := by decide +kernel
  have hl2 : ((wide * near - 1) / near).toNat ≤ 42 := by
    have := Int.ediv_le_self (a := wide * near - 1) near (by omega)
    omega
  k_fill
  refine' fn_intro (ns := ["wide", "near", "ink"]) ?ho ?hcd ?hlen ?hbind ?hkind ?hnd ?hco ?hgen ?hk ?hbody
  case ho => k_is
  case hcd => k_is
  case hlen => rfl
  case hbind => (intro vs hv; rcases vs with _ | ⟨v1, _ | ⟨v2, _ | ⟨v3, _ | ⟨v4, _ | ⟨v5, _ | ⟨v6, vs⟩⟩⟩⟩⟩⟩ <;> first | rfl | (simp at hv; done))
  case hkind => decide +kernel
  case hnd => decide +kernel
  case hco => rfl
  case hgen => rfl
  case hk => rfl
  intro base outer A s₀ L W a
  have hm := @mul_ok wide near (by omega)
  refine ex_assign rfl (ev_callF (frMd rfl) (nm_global W rfl rfl rfl (by k_is) rfl) rfl (sp_cons (frMd rfl) (ev_name (frMd rfl) rfl rfl) (sp_cons (frMd rfl) (ev_bin (frMd rfl) (ev_name (frMd rfl) rfl rfl) (ev_name (frMd rfl) rfl rfl) hm) (sp_nil (frMd rfl)))) (fnP_of (M wide (wide * near) (by omega) (by omega) (by omega) (by omega)) W (a.less (by decide)) (by k_is) rfl)) (.inl rfl) rfl ?_
  refine ex_assign (d := .list ((0 :: marksI near (wide * near - 1)).map .int)) rfl (ev_bin (frMd rfl) (ev_list (frMd rfl) (sp_cons (frMd rfl) (ev_int (frMd rfl)) (sp_nil (frMd rfl))) (by simp)) (ev_callF (frMd rfl) (nm_global W rfl rfl rfl (by k_is) rfl) rfl (sp_cons (frMd rfl) (ev_name (frMd rfl) rfl rfl) (sp_cons (frMd rfl) (ev_bin (frMd rfl) (ev_bin (frMd rfl) (ev_name (frMd rfl) rfl rfl) (ev_name (frMd rfl) rfl rfl) hm) (ev_int (frMd rfl)) rfl) (sp_nil (frMd rfl)))) (fnP_of (M near (wide * near - 1) (by omega) (by omega) (by omega) (by omega)) W (a.less (by decide)) (by k_is) rfl)) (by
    rw [add_list (by simp [marksI_length]; omega)]; rfl)) (.inl rfl) rfl ?_
  refine ex_assign (d := .str Str.empty) rfl (ev_str (frMd rfl)) (.inl rfl) rfl ?_
  refine ex_cons (Ψ := fun fd ρ' => fd = .next ∧ Sub [("text", .str (tickedS wide near ink))] ρ') (ex1_for rfl (fun k ρ' => Sub [("ink", .str ink), ("inks", .list ((marksI wide (wide * near)).map .int)), ("blanks", .list ((0 :: marksI near (wide * near - 1)).map .int)), ("text", .str (tickS (marksI wide (wide * near)) (0 :: marksI near (wide * near - 1)) ink k))] ρ') (it_range1 (frMd rfl) a.handled (nm_builtin W rfl rfl rfl rfl (by k_is) bb_range (by decide) rfl) (ev_bin (frMd rfl) (ev_bin (frMd rfl) (ev_name (frMd rfl) rfl rfl) (ev_name (frMd rfl) rfl rfl) hm) (ev_int (frMd rfl)) rfl) (by omega) rfl) (.inl rfl)
    (.cons rfl (.cons rfl (.cons rfl (.cons rfl .nil)))) ?_ ?_ (fun _ => rfl)) (fun ρ' h => ?_) (fun fd ρ' h1 h2 => absurd h2.1 h1)
  · intro k ρ' hk hS
    rw [rangeI_getD hk, Int.zero_add]
    have hk' : k < 43 := by rw [rangeI, upFrom_length] at hk; omega
    have hl := tickS_length (inks := (marksI wide (wide * near))) (blanks := (0 :: marksI near (wide * near - 1))) hi k
    refine exp_weak hS.under ?_
    generalize ht : (if (marksI wide (wide * near)).contains (k : Int) then tickS (marksI wide (wide * near)) (0 :: marksI near (wide * near - 1)) ink k ++ ink else tickS (marksI wide (wide * near)) (0 :: marksI near (wide * near - 1)) ink k) = t
    have hlt : t.length ≤ 2 * k + 1 := by
      rw [← ht]; split
      · rw [Str.length_append]; omega
      · omega
    have hT : tickS (marksI wide (wide * near)) (0 :: marksI near (wide * near - 1)) ink (k + 1) = if (0 :: marksI near (wide * near - 1)).contains (k : Int) then t ++ Str.ofString " " else t := by rw [← ht]; rfl
    refine ex_cons (Ψ := fun fd ρ' => fd = .next ∧ Sub [("ink", .str ink), ("inks", .list ((marksI wide (wide * near)).map .int)), ("blanks", .list ((0 :: marksI near (wide * near - 1)).map .int)), ("text", .str t), ("moment", .int k)] ρ') (ex1_if rfl (tv_cmp (frMd rfl) a.hu (ev_name (frMd rfl) rfl rfl) (ev_name (frMd rfl) rfl rfl) in_ints rfl) (fun h => ?_) (fun h => ?_)) (fun ρ' h => exp_weak h.2 ?_) (fun fd ρ' h1 h2 => absurd h2.1 h1)
    · refine ex_aug rfl (d := .str t) rfl (ev_name (frMd rfl) rfl rfl) (by rw [add_str (by omega), ← ht, if_pos h]) (.inr ⟨_, _, rfl, rfl, rfl⟩) (.inl rfl) (ex_nil ⟨rfl, .cons rfl (.cons rfl (.cons rfl (.cons rfl (.cons rfl .nil))))⟩)
    · have e : tickS (marksI wide (wide * near)) (0 :: marksI near (wide * near - 1)) ink k = t := by rw [← ht, if_neg (by rw [h]; simp)]
      rw [e]
      exact ex_nil ⟨rfl, .cons rfl (.cons rfl (.cons rfl (.cons rfl (.cons rfl .nil))))⟩
    · refine ex_cons (Ψ := fun fd ρ' => fd = .next ∧ Sub [("ink", .str ink), ("inks", .list ((marksI wide (wide * near)).map .int)), ("blanks", .list ((0 :: marksI near (wide * near - 1)).map .int)), ("text", .str (tickS (marksI wide (wide * near)) (0 :: marksI near (wide * near - 1)) ink (k + 1)))] ρ') (ex1_if rfl (tv_cmp (frMd rfl) a.hu (ev_name (frMd rfl) rfl rfl) (ev_name (frMd rfl) rfl rfl) in_ints rfl) (fun h => ?_) (fun h => ?_)) (fun ρ' h => ex_nil h.2) (fun fd ρ' h1 h2 => absurd h2.1 h1)
      · refine ex_aug rfl (d := .str (tickS (marksI wide (wide * near)) (0 :: marksI near (wide * near - 1)) ink (k + 1))) rfl (ev_str (frMd rfl)) (by rw [add_str (by omega), hT, if_pos h]) (.inr ⟨_, _, rfl, rfl, rfl⟩) (.inl rfl) (ex_nil ⟨rfl, .cons rfl (.cons rfl (.cons rfl (.cons rfl .nil)))⟩)
      · have e : tickS (marksI wide (wide * near)) (0 :: marksI near (wide * near - 1)) ink (k + 1) = t := by rw [hT, if_neg (by rw [h]; simp)]
        rw [e]
        exact ex_nil ⟨rfl, .cons rfl (.cons rfl (.cons rfl (.cons rfl .nil)))⟩
  · intro ρ' hS
    refine ⟨rfl, Sub.cons ?_ .nil⟩
    have := hS "text" _ rfl
    rw [this]
    congr 3
    rw [rangeI, upFrom_length, Int.sub_zero]
  · exact exp_weak h.2 (ex_return rfl (ev_name (frMd rfl) rfl rfl) rfl)
end Mine

namespace Mine

noncomputable def leastOf : List Int → Int
  | m :: r => least m r
  | [] => 0
noncomputable def gapI (rs : List Int) (n : Int) : Int := leastOf ((rs.filter fun r => decide (0 < r)) ++ [n])
theorem min_list {xs : List Int} (h : xs ≠ []) : callD1 "min" (.list (xs.map .int)) = some (.int (leastOf xs)) := by
  simp only [callD1]
  rw [if_neg (by decide), if_neg (by decide), if_pos trivial, intsOf_map]
  cases xs with
  | nil => exact absurd rfl h
  | cons m r => rfl
noncomputable def diffI (xs ys : List Int) : List Int := xs.filter fun x => !ys.contains x
noncomputable def DiffOk (w : World) : Prop := ∀ xs ys : List Int, xs.Pairwise (· < ·) → ys.Pairwise (· < ·) → xs.length ≤ 1000 → ys.length ≤ 1000 →
  Fn PySem.Challenge.rw_oy0388_01.prog w (hd.heap_39 w.params) 787 4 [.list (xs.map .int), .list (ys.map .int)] (.tuple [.list ((diffI xs ys).map .int), .list ((diffI ys xs).map .int)])
noncomputable def spotsI (rs : List Int) (n near : Int) (i : Nat) : List Int := (rangeI 0 n).filter fun j => (rs.getD i 0 + j * near).fmod n == n - near - gapI rs n
noncomputable def MovedOk (ws : List Str) (rs : List Int) (near : Int) (c : Nat) : Prop := ∀ i, i < ws.length → rs.getD i 0 + gapI rs ws.length < ws.length →
  rs.getD i 0 + gapI rs ws.length ∈ rs ∧ rs.idxOf (rs.getD i 0 + gapI rs ws.length) < ws.length ∧
  diffI (placesI (ws.getD i Str.empty) c) (placesI (ws.getD (rs.idxOf (rs.getD i 0 + gapI rs ws.length)) Str.empty) c) = (spotsI rs ws.length near i).map (· + 1) ∧
  diffI (placesI (ws.getD (rs.idxOf (rs.getD i 0 + gapI rs ws.length)) Str.empty) c) (placesI (ws.getD i Str.empty) c) = spotsI rs ws.length near i
theorem upFrom_sorted (a : Int) (n : Nat) : (upFrom a n).Pairwise (· < ·) := by
  induction n generalizing a with
  | zero => exact .nil
  | succ n ih => exact .cons (fun b hb => by have := upFrom_mem hb; omega) (ih (a + 1))
theorem placesI_sorted (x : Str) (c : Nat) : (placesI x c).Pairwise (· < ·) := (upFrom_sorted _ _).filter _
theorem placesI_length (x : Str) (c : Nat) (hx : x.length ≤ 1000) : (placesI x c).length ≤ 1000 := by
  refine Nat.le_trans (List.length_filter_le _ _) ?_
  rw [rangeI_length]; exact hx
theorem ne_pair {xs ys : List Int} : cmpD .NotEq (.tuple [.list (xs.map .int), .list (ys.map .int)]) (.tuple [.list (xs.map .int), .list (ys.map .int)]) = some false := by
  have hc : (PyData.tuple [.list (xs.map .int), .list (ys.map .int)]).canLay0 = true := by
    simp only [PyData.canLay0, PyData.canLayAll0, canLayAll_ints, Bool.and_self]
  have hs : SeqAt.shaped (PyData.tuple [.list (xs.map .int), .list (ys.map .int)]) = true := by
    unfold SeqAt.shaped
    rw [hc]
    simp only [PyData.depth, PyData.depthAll, PyProof.Rows.depthAll_ints]
    decide
  have he := SeqAt.eqv_refl _ hc
  simp only [cmpD, eqD, neD, ltD, gtD, leD, geD, inD, isD]
  rw [if_pos ⟨hs, hs⟩, he]
  rfl

set_option maxRecDepth 100000 in
theorem fn_moved (w : World) (D : DiffOk w) (ws : List Str) (rs : List Int) (near : Int) (c : Nat) (hn : ws.length ≤ 100) (hr : rs.length = ws.length) (hl : ∀ i, (ws.getD i Str.empty).length ≤ 1000) (hok : MovedOk ws rs near c) :
    Fn PySem.Challenge.rw_oy0388_01.prog w (hd.heap_39 w.params) 825 5 [.list (ws.map .str), .list (rs.map .int), .int near, .str ⟨#[c]⟩] (.bool true) := by
  k_fill
  refine' fn_intro (ns := ["words", "ranks", "near", "ink"]) ?ho ?hcd ?hlen ?hbind ?hkind ?hnd ?hco ?hgen ?hk ?hbody
  case ho => k_is
  case hcd => k_is
  case hlen => rfl
  case hbind => (intro vs hv; rcases vs with _ | ⟨v1, _ | ⟨v2, _ | ⟨v3, _ | ⟨v4, _ | ⟨v5, _ | ⟨v6, vs⟩⟩⟩⟩⟩⟩ <;> first | rfl | (simp at hv; done))
  case hkind => decide +kernel
  case hnd => decide +kernel
  case hco => rfl
  case hgen => rfl
  case hk => rfl
  intro base outer A s₀ L W a
  have hlen : callD1 "len" (.list (ws.map PyData.str)) = some (.int ws.length) := by rw [len_list (by simp; omega)]; simp
  have hw : ∀ k, k < ws.length → (ws.map PyData.str)[k]? = some (.str (ws.getD k Str.empty)) := fun k h => by simp [List.getD, h]
  have hrk : ∀ k, k < ws.length → (rs.map PyData.int)[k]? = some (.int (rs.getD k 0)) := fun k h => by simp [List.getD, hr, h]
  have hfl : (rs.filter fun r => decide (0 < r)).length ≤ 100 := Nat.le_trans (List.length_filter_le _ _) (by omega)
  refine ex_assign rfl (ev_call1 (frMd rfl) a.handled (nm_builtin W rfl rfl rfl rfl (by k_is) bb_len (by decide) rfl) (ev_name (frMd rfl) rfl rfl) hlen rfl) (.inr ⟨rfl, rfl⟩) rfl ?_
  refine ex_assign (d := .int (gapI rs ws.length)) rfl (ev_call1 (frMd rfl) a.handled (nm_builtin W rfl rfl rfl rfl (by k_is) bb_min (by decide) rfl) (ev_bin (frMd rfl) (ev_comp (frMd rfl) a.handled (ρf := []) (fun r => decide (0 < r)) (fun r => .int r) (it_list (frMd rfl) a.handled (ev_name (frMd rfl) rfl rfl) (intsOf_map rs)) (by omega) rfl (by decide +kernel) rfl (by decide +kernel) rfl .nil rfl
    (fun i hi C => tv_cmp (compMd rfl) a.hu (ev_name (compMd rfl) rfl rfl) (ev_int (compMd rfl)) rfl rfl) (fun i hi hp C => (ev_name (compMd rfl) rfl rfl)) (fun i hi hp => .inl ⟨_, rfl⟩) (fun _ => rfl)) (ev_list (frMd rfl) (sp_cons (frMd rfl) (ev_name (frMd rfl) rfl rfl) (sp_nil (frMd rfl))) (by simp)) (add_list (by rw [List.length_map]; exact Nat.le_trans (Nat.add_le_add_right hfl 1) (by omega)))) ?_ rfl) (.inr ⟨rfl, rfl⟩) rfl ?_
  · have := min_list (xs := (rs.filter fun r => decide (0 < r)) ++ [(ws.length : Int)]) (by simp)
    rw [List.map_append] at this
    exact this
  refine ex_cons (Ψ := fun fd ρ' => fd = .next) (ex1_for rfl (fun _ ρ' => Sub [("ink", .str ⟨#[c]⟩), ("words", .list (ws.map .str)), ("ranks", .list (rs.map .int)), ("near", .int near), ("n", .int ws.length), ("gap", .int (gapI rs ws.length))] ρ') (it_range1 (frMd rfl) a.handled (nm_builtin W rfl rfl rfl rfl (by k_is) bb_range (by decide) rfl) (ev_name (frMd rfl) rfl rfl) (by omega) rfl) (.inr ⟨rfl, rfl⟩) (.cons rfl (.cons rfl (.cons rfl (.cons rfl (.cons rfl (.cons rfl .nil)))))) ?_ (fun _ _ => rfl) (fun _ => rfl)) (fun ρ' _ => ex_return rfl (ev_bool (frMd rfl)) rfl) (fun fd ρ' h1 h2 => absurd h2 h1)
  intro i ρ' hi hS
  rw [rangeI_getD hi, Int.zero_add]
  rw [rangeI_length] at hi
  refine exp_weak hS.under ?_
  have hi' := item_list (by omega) (hrk i hi) (i := i) rfl
  have hwi := item_list (by omega) (hw i hi) (i := i) rfl
  refine ex_cons (Ψ := fun fd ρ' => fd = .next ∧ Sub [("ink", .str ⟨#[c]⟩), ("words", .list (ws.map .str)), ("ranks", .list (rs.map .int)), ("near", .int near), ("n", .int ws.length), ("gap", .int (gapI rs ws.length))] ρ') (ex1_if rfl (tv_cmp (frMd rfl) a.hu (ev_bin (frMd rfl) (ev_item (frMd rfl) (ev_name (frMd rfl) rfl rfl) (ev_name (frMd rfl) rfl rfl) hi' (fun _ _ => rfl)) (ev_name (frMd rfl) rfl rfl) rfl) (ev_name (frMd rfl) rfl rfl) rfl rfl) (fun h => ?_) (fun h => ?_)) (fun ρ' h => ex_nil h.2) (fun fd ρ' h1 h2 => absurd h2.1 h1)
  · have hlt : rs.getD i 0 + gapI rs ws.length < ws.length := by simpa using h
    obtain ⟨hmem, hk, hd1, hd2⟩ := hok i hi hlt
    generalize hke : rs.idxOf (rs.getD i 0 + gapI rs ws.length) = k at hk hd1 hd2
    have hwk := item_list (by omega) (hw k hk) (i := k) rfl
    refine ex_assign (d := .int k) rfl (by rw [← hke]; exact ev_index (frMd rfl) (ev_name (frMd rfl) rfl rfl) (ev_bin (frMd rfl) (ev_item (frMd rfl) (ev_name (frMd rfl) rfl rfl) (ev_name (frMd rfl) rfl rfl) hi' (fun _ _ => rfl)) (ev_name (frMd rfl) rfl rfl) rfl) (intsOf_map rs) (by omega) hmem rfl rfl rfl) (.inl rfl) rfl ?_
    refine ex_comp rfl a.handled (ρf := [("ranks", .list (rs.map .int)), ("i", .int i), ("near", .int near), ("n", .int ws.length), ("gap", .int (gapI rs ws.length))]) (fun j => (rs.getD i 0 + j * near).fmod ws.length == ws.length - near - gapI rs ws.length) (fun j => .int j)
      rfl (it_range1 (frMd rfl) a.handled (nm_builtin W rfl rfl rfl rfl (by k_is) bb_range (by decide) rfl) (ev_name (frMd rfl) rfl rfl) (by omega) rfl) (by rw [rangeI_length]; omega) rfl (by decide +kernel) rfl (by decide +kernel) rfl (.cons rfl rfl rfl rfl (.cons rfl rfl rfl rfl (.cons rfl rfl rfl rfl (.cons rfl rfl rfl rfl (.cons rfl rfl rfl rfl .nil))))) rfl
      (fun j hj C => ?_) (fun j hj hp C => (ev_name (compMd rfl) rfl rfl)) (fun j hj hp => .inl ⟨_, rfl⟩) (fun _ => rfl) rfl ?_
    · have hj' := rangeI_mem hj
      refine tv_cmp (compMd rfl) a.hu (ev_bin (d := .int ((rs.getD i 0 + j * near).fmod ws.length)) (compMd rfl) (ev_bin (compMd rfl) (ev_item (compMd rfl) (ev_name (compMd rfl) rfl rfl) (ev_name (compMd rfl) rfl rfl) hi' (fun _ _ => rfl)) (ev_bin (compMd rfl) (ev_name (compMd rfl) rfl rfl) (ev_name (compMd rfl) rfl rfl) (mul_ok (by omega))) rfl) (ev_name (compMd rfl) rfl rfl) ?_) (ev_bin (compMd rfl) (ev_bin (compMd rfl) (ev_name (compMd rfl) rfl rfl) (ev_name (compMd rfl) rfl rfl) rfl) (ev_name (compMd rfl) rfl rfl) rfl) rfl rfl
      simp only [binD, addD, subD, mulD, fdvD, modD]
      rw [if_pos (by omega)]
    · rw [show ((rangeI 0 (ws.length : Int)).filter (fun j => (rs.getD i 0 + j * near).fmod ws.length == ws.length - near - gapI rs ws.length)).map (fun j => PyData.int j) = (spotsI rs ws.length near i).map .int from rfl]
      refine ex_assign (d := .tuple [.list (((spotsI rs ws.length near i).map (· + 1)).map .int), .list ((spotsI rs ws.length near i).map .int)]) rfl (ev_callF (frMd rfl) (nm_global W rfl rfl rfl (by k_is) rfl) rfl (sp_cons (frMd rfl) (ev_callF (frMd rfl) (nm_global W rfl rfl rfl (by k_is) rfl) rfl (sp_cons (frMd rfl) (ev_item (frMd rfl) (ev_name (frMd rfl) rfl rfl) (ev_name (frMd rfl) rfl rfl) hwi (fun _ _ => rfl)) (sp_cons (frMd rfl) (ev_name (frMd rfl) rfl rfl) (sp_nil (frMd rfl)))) (fnP_of (fn_places w _ c (hl i)) W (a.less (by decide)) (by k_is) rfl)) (sp_cons (frMd rfl) (ev_callF (frMd rfl) (nm_global W rfl rfl rfl (by k_is) rfl) rfl (sp_cons (frMd rfl) (ev_item (frMd rfl) (ev_name (frMd rfl) rfl rfl) (ev_name (frMd rfl) rfl rfl) hwk (fun _ _ => rfl)) (sp_cons (frMd rfl) (ev_name (frMd rfl) rfl rfl) (sp_nil (frMd rfl)))) (fnP_of (fn_places w _ c (hl k)) W (a.less (by decide)) (by k_is) rfl)) (sp_nil (frMd rfl))))
        (by rw [← hd1, ← hd2]; exact (fnP_of (D _ _ (placesI_sorted _ _) (placesI_sorted _ _) (placesI_length _ _ (hl i)) (placesI_length _ _ (hl k))) W (a.less (by decide)) (by k_is) rfl))) (.inl rfl) rfl ?_
      have hsl : (spotsI rs ws.length near i).length ≤ 1000 := Nat.le_trans (List.length_filter_le _ _) (by rw [rangeI_length]; omega)
      refine ex_if_no rfl (tv_cmp (frMd rfl) a.hu (ev_name (frMd rfl) rfl rfl) (ev_tuple (frMd rfl) (sp_cons (frMd rfl) (ev_comp (frMd rfl) a.handled (ρf := []) (fun _ => true) (fun j => .int (j + 1)) (it_list (frMd rfl) a.handled (ev_name (frMd rfl) rfl rfl) (intsOf_map _)) (by omega) rfl (by decide +kernel) rfl (by decide +kernel) rfl .nil rfl
        (fun i hi C => rfl) (fun i hi hp C => ev_bin (compMd rfl) (ev_name (compMd rfl) rfl rfl) (ev_int (compMd rfl)) rfl) (fun i hi hp => .inl ⟨_, rfl⟩) (fun _ => rfl)) (sp_cons (frMd rfl) (ev_name (frMd rfl) rfl rfl) (sp_nil (frMd rfl)))) (by simp)) ?_ rfl) (ex_nil ⟨rfl, .cons rfl (.cons rfl (.cons rfl (.cons rfl (.cons rfl (.cons rfl .nil)))))⟩)
      have e : (List.filter (fun _ => true) (spotsI rs ws.length near i)).map (fun j => PyData.int (j + 1)) = ((spotsI rs ws.length near i).map (· + 1)).map .int := by
        rw [List.filter_eq_self.mpr (fun _ _ => rfl), List.map_map]; rfl
      rw [e]
      exact ne_pair
  · exact ex_nil ⟨rfl, .cons rfl (.cons rfl (.cons rfl (.cons rfl (.cons rfl (.cons rfl .nil)))))⟩
end Mine

namespace Mine

inductive LexMode where
  | gap | quote | word
noncomputable def lexD : LexMode → List Nat → List Nat → Option (List (List Nat))
  | .gap, _, [] => some []
  | .gap, _, c :: r => if c = 32 then lexD .gap [] r else if c = 39 then lexD .quote [] r else lexD .word [c] r
  | .quote, _, [] => none
  | .quote, t, c :: r => if c = 39 then lexD .word t r else lexD .quote (t ++ [c]) r
  | .word, t, [] => some [t]
  | .word, t, c :: r => if c = 32 then (lexD .gap [] r).map (t :: ·) else if c = 39 then lexD .quote t r else lexD .word (t ++ [c]) r
noncomputable def strOf (l : List Nat) : Str := ⟨l.toArray⟩
noncomputable def splitD (x : Str) : Option (List Str) := (lexD .gap [] x.cps.toList).map (·.map strOf)
noncomputable def signs : List Nat := [32, 39, 97, 126, 33, 35, 57]
noncomputable def SplitOk (w : World) : Prop := ∀ (x : Str) (ss : List Str), splitD x = some ss → x.length ≤ 1000 → (∀ c ∈ x.cps.toList, c ∈ signs) →
  Fn PySem.Challenge.rw_oy0388_01.prog w (hd.heap_39 w.params) 765 12 [.str x] (.list (ss.map .str))

noncomputable def edgesI (n rank wide : Int) : List Int := -1 :: ((rangeI 0 wide).map fun m => (n * m + rank).fdiv wide) ++ [n]
noncomputable def runsI (n rank wide : Int) : List Int := (rangeI 0 (wide + 1)).map fun m => (edgesI n rank wide).getD (m + 1).toNat 0 - (edgesI n rank wide).getD m.toNat 0 - 1
noncomputable def inkRuns (n rank wide : Int) (c : Nat) : List Str := ((runsI n rank wide).filter fun s => decide (0 < s)).map fun s => Txt.mul ⟨#[c]⟩ s
structure ReadOk (word : Str) (rank wide near : Int) (c : Nat) : Prop where
  len : (word.length : Int) = wide + near
  blanks : Blanks word ((wide + near - rank - 1).fdiv near).toNat (rank.fdiv near).toNat
  pos : 0 ≤ (wide + near - rank - 1).fdiv near ∧ 0 ≤ rank.fdiv near
  signs : ∀ c ∈ word.cps.toList, c ∈ signs
  split : splitD word = some (inkRuns (wide + near) rank wide c)
  ok : ((inkRuns (wide + near) rank wide c).all PyData.strOk) = true
  small : ((inkRuns (wide + near) rank wide c).length) ≤ 1000
  runs : ∀ s ∈ runsI (wide + near) rank wide, s ≤ 1000

theorem eq_strs {ss : List Str} (h : ss.all PyData.strOk = true) : cmpD .Eq (.list (ss.map .str)) (.list (ss.map .str)) = some true := by
  have hc : (PyData.list (ss.map .str)).canLay0 = true := by
    simp only [PyData.canLay0, canLayAll_strs', h]
  have hs : SeqAt.shaped (PyData.list (ss.map .str)) = true := by
    unfold SeqAt.shaped
    rw [hc]
    simp only [PyData.depth, depthAll_strs']
    decide
  simp only [cmpD, eqD, neD, ltD, gtD, leD, geD, inD, isD]
  rw [if_pos ⟨hs, hs⟩, SeqAt.eqv_refl _ hc]
theorem ne_strs {ss : List Str} (h : ss.all PyData.strOk = true) : cmpD .NotEq (.list (ss.map .str)) (.list (ss.map .str)) = some false := by
  have hc : (PyData.list (ss.map .str)).canLay0 = true := by
    simp only [PyData.canLay0, canLayAll_strs', h]
  have hs : SeqAt.shaped (PyData.list (ss.map .str)) = true := by
    unfold SeqAt.shaped
    rw [hc]
    simp only [PyData.depth, depthAll_strs']
    decide
  simp only [cmpD, eqD, neD, ltD, gtD, leD, geD, inD, isD]
  rw [if_pos ⟨hs, hs⟩, SeqAt.eqv_refl _ hc]
  rfl
theorem ne_self_str {x : Str} : cmpD .NotEq (.str x) (.str x) = some false := by
  simp only [cmpD, eqD, neD, ltD, gtD, leD, geD, inD, isD]
  simp
theorem div_ok {a b : Int} (hb : 1 ≤ b ∧ b ≤ 1000) : binD .FloorDiv (.int a) (.int b) = some (.int (a.fdiv b)) := by
  simp only [binD, addD, subD, mulD, fdvD, modD]
  rw [if_pos (by omega)]
theorem edgesI_length (n rank wide : Int) (hw : 0 ≤ wide) : ((edgesI n rank wide).length : Int) = wide + 2 := by
  simp only [edgesI, List.cons_append, List.length_cons, List.length_append, List.length_map, rangeI, upFrom_length, List.length_nil]
  omega

theorem min_if (a b : Int) : min a b = if b < a then b else a := by omega
theorem rg_fb {f b n : Nat} (h : f + b < n) (hn : n ≤ 1000) : -1048576 ≤ (f : Int) + b + 2 ∧ (f : Int) + b + 2 ≤ 1048576 := by omega
theorem wl13 {n : Nat} {wide near : Int} (h : (n : Int) = wide + near) (h1 : 1 ≤ wide ∧ wide ≤ 7) (h2 : 1 ≤ near ∧ near ≤ 6) : n ≤ 1000 := by omega
theorem wn_big {wide near : Int} (h1 : 1 ≤ wide ∧ wide ≤ 7) (h2 : 1 ≤ near ∧ near ≤ 6) : -1000000 < wide + near ∧ wide + near < 1000000 := by omega
theorem w_rg {x : Int} (h : 1 ≤ x ∧ x ≤ 7) : (-1048576 ≤ x ∧ x ≤ 1048576) ∧ (-1048576 ≤ x + 1 ∧ x + 1 ≤ 1048576) := by omega
theorem w_tn {x : Int} (h : 1 ≤ x ∧ x ≤ 7) : 1 + (x - 0).toNat ≤ 1000 ∧ (x - 0).toNat ≤ 1048576 ∧ (x + 1 - 0).toNat ≤ 1000 := by omega
theorem w_998 {x : Int} (h : 1 ≤ x ∧ x ≤ 7) : x ≤ 998 := by omega
theorem l1000 {x y : Int} (h : 1 ≤ x ∧ x ≤ y) (hy : y ≤ 1000) : 1 ≤ x ∧ x ≤ 1000 := ⟨h.1, Int.le_trans h.2 hy⟩
theorem k_edge {k n : Nat} {x : Int} (h : (k : Int) < x) (e : (n : Int) = x) : k < n := by omega
theorem m_tn {m x : Int} (h : 0 ≤ m ∧ m < x + 1) (hx : 1 ≤ x ∧ x ≤ 7) : (m + 1).toNat < 1048576 ∧ ((m + 1).toNat : Int) < x + 2 ∧ m + 1 = ((m + 1).toNat : Int) := by omega
theorem m_tn' {m x : Int} (h : 0 ≤ m ∧ m < x + 1) (hx : 1 ≤ x ∧ x ≤ 7) : m.toNat < 1048576 ∧ (m.toNat : Int) < x + 2 ∧ m = (m.toNat : Int) := by omega
set_option maxRecDepth 100000 in
theorem fn_read (w : World) (S : SplitOk w) (word : Str) (rank wide near : Int) (c : Nat) (h1 : 1 ≤ wide ∧ wide ≤ 7) (h2 : 1 ≤ near ∧ near ≤ 6) (hok : ReadOk word rank wide near c) :
    Fn PySem.Challenge.rw_oy0388_01.prog w (hd.heap_39 w.params) 830 13 [.str word, .int rank, .int wide, .int near, .str ⟨#[c]⟩] (.bool true) := by
  obtain ⟨hlen, hB, hpos, hsg, hsp, hso, hsm, hru⟩ := hok
  have hwl : word.length ≤ 1000 := wl13 hlen h1 h2
  k_fill
  refine' fn_intro (ns := ["word", "rank", "wide", "near", "ink"]) ?ho ?hcd ?hlen ?hbind ?hkind ?hnd ?hco ?hgen ?hk ?hbody
  case ho => k_is
  case hcd => k_is
  case hlen => rfl
  case hbind => (intro vs hv; rcases vs with _ | ⟨v1, _ | ⟨v2, _ | ⟨v3, _ | ⟨v4, _ | ⟨v5, _ | ⟨v6, vs⟩⟩⟩⟩⟩⟩ <;> first | rfl | (simp at hv; done))
  case hkind => decide +kernel
  case hnd => decide +kernel
  case hco => rfl
  case hgen => rfl
  case hk => rfl
  intro base outer A s₀ L W a
  refine ex_assign rfl (ev_bin (frMd rfl) (ev_name (frMd rfl) rfl rfl) (ev_name (frMd rfl) rfl rfl) rfl) (.inr ⟨rfl, rfl⟩) rfl ?_
  generalize hf : ((wide + near - rank - 1).fdiv near).toNat = f at hB
  generalize hb : (rank.fdiv near).toNat = b at hB
  refine ex_assign (d := .int f) rfl (ev_bin (frMd rfl) (ev_bin (frMd rfl) (ev_bin (frMd rfl) (ev_name (frMd rfl) rfl rfl) (ev_name (frMd rfl) rfl rfl) rfl) (ev_int (frMd rfl)) rfl) (ev_name (frMd rfl) rfl rfl) (by rw [div_ok (l1000 h2 (by decide)), ← hf]; congr 2; exact (Int.toNat_of_nonneg hpos.1).symm)) (.inl rfl) rfl ?_
  refine ex_assign (d := .int b) rfl (ev_bin (frMd rfl) (ev_name (frMd rfl) rfl rfl) (ev_name (frMd rfl) rfl rfl) (by rw [div_ok (l1000 h2 (by decide)), ← hb]; congr 2; exact (Int.toNat_of_nonneg hpos.2).symm)) (.inl rfl) rfl ?_
  have hroom := hB.room
  refine ex_cons (Ψ := fun fd ρ' => fd = .next ∧ Sub [("word", .str word), ("rank", .int rank), ("wide", .int wide), ("near", .int near), ("ink", .str ⟨#[c]⟩), ("n", .int (wide + near)), ("ahead", .int f), ("behind", .int b)] ρ') (ex1_for rfl (fun _ ρ' => Sub [("word", .str word), ("rank", .int rank), ("wide", .int wide), ("near", .int near), ("ink", .str ⟨#[c]⟩), ("n", .int (wide + near)), ("ahead", .int f), ("behind", .int b)] ρ') (it_range2 (frMd rfl) a.handled (nm_builtin W rfl rfl rfl rfl (by k_is) bb_range (by decide) rfl) (ev_neg (frMd rfl) (ev_int (frMd rfl))) (ev_bin (frMd rfl) (ev_bin (frMd rfl) (ev_name (frMd rfl) rfl rfl) (ev_name (frMd rfl) rfl rfl) rfl) (ev_int (frMd rfl)) rfl) (by decide) (rg_fb hroom hwl) rfl) (.inl rfl)
    (.cons rfl (.cons rfl (.cons rfl (.cons rfl (.cons rfl (.cons rfl (.cons rfl (.cons rfl .nil)))))))) ?_ (fun ρ' h => ⟨rfl, h⟩) (fun _ => rfl)) (fun ρ' h => exp_weak h.2 ?_) (fun fd ρ' h1 h2 => absurd h2.1 h1)
  · intro k ρ' hk hS
    rw [rangeI_getD hk]
    generalize (-1 + (k : Int)) = amount
    refine exp_weak hS.under ?_
    refine ex_assign (d := .int (frontD amount f)) rfl (ev_ifexp (frMd rfl) (tv_cmp (frMd rfl) a.hu (ev_name (frMd rfl) rfl rfl) (ev_int (frMd rfl)) rfl rfl) (fun h => ?_) (fun h => ?_)) (.inl rfl) rfl ?_
    · have h : amount < 0 := by simpa using h
      have e : frontD amount f = f := by unfold frontD; rw [if_pos h]
      rw [e]; exact (ev_name (frMd rfl) rfl rfl)
    · have h : ¬ amount < 0 := by simpa using h
      have e : frontD amount f = if (f : Int) < amount then (f : Int) else amount := by unfold frontD; rw [if_neg h]; exact min_if _ _
      rw [e]; exact ev_min2 (frMd rfl) a.handled (nm_builtin W rfl rfl rfl rfl (by k_is) bb_min (by decide) rfl) (ev_name (frMd rfl) rfl rfl) (ev_name (frMd rfl) rfl rfl) rfl
    refine ex_assign (d := .int (backD amount f b)) rfl (ev_ifexp (frMd rfl) (tv_cmp (frMd rfl) a.hu (ev_name (frMd rfl) rfl rfl) (ev_int (frMd rfl)) rfl rfl) (fun h => ?_) (fun h => ?_)) (.inl rfl) rfl ?_
    · have h : amount < 0 := by simpa using h
      have e : backD amount f b = b := by unfold backD; rw [if_pos h]
      rw [e]; exact (ev_name (frMd rfl) rfl rfl)
    · have h : ¬ amount < 0 := by simpa using h
      have e : backD amount f b = if (b : Int) < amount - frontD amount f then (b : Int) else amount - frontD amount f := by unfold backD; rw [if_neg h]; exact min_if _ _
      rw [e]; exact ev_min2 (frMd rfl) a.handled (nm_builtin W rfl rfl rfl rfl (by k_is) bb_min (by decide) rfl) (ev_bin (frMd rfl) (ev_name (frMd rfl) rfl rfl) (ev_name (frMd rfl) rfl rfl) rfl) (ev_name (frMd rfl) rfl rfl) rfl
    refine ex_if_no rfl (tv_cmp (frMd rfl) a.hu (ev_callF (frMd rfl) (nm_global W rfl rfl rfl (by k_is) rfl) rfl (sp_cons (frMd rfl) (ev_name (frMd rfl) rfl rfl) (sp_cons (frMd rfl) (ev_name (frMd rfl) rfl rfl) (sp_nil (frMd rfl)))) (fnP_of (fn_strip w word f b hB hwl amount) W (a.less (by decide)) (by k_is) rfl)) (ev_slice (frMd rfl) (i := some (frontD amount f)) (j := some ((word.length : Int) - backD amount f b)) (ev_name (frMd rfl) rfl rfl) (ev_name (frMd rfl) rfl rfl) (ev_bin (frMd rfl) (ev_name (frMd rfl) rfl rfl) (ev_name (frMd rfl) rfl rfl) (int_eq (by rw [hlen]))) (by simp only [sliceD]; rw [if_pos (Nat.le_trans hwl (by decide))])) ne_self_str rfl)
      (ex_nil (.cons rfl (.cons rfl (.cons rfl (.cons rfl (.cons rfl (.cons rfl (.cons rfl (.cons rfl .nil)))))))))
  · refine ex_assign (d := .list ((edgesI (wide + near) rank wide).map .int)) rfl (ev_bin (frMd rfl) (ev_bin (frMd rfl) (ev_list (frMd rfl) (sp_cons (frMd rfl) (ev_neg (frMd rfl) (ev_int (frMd rfl))) (sp_nil (frMd rfl))) (by simp)) (ev_comp (frMd rfl) a.handled (ρf := [("rank", .int rank), ("wide", .int wide), ("n", .int (wide + near))]) (fun _ => true) (fun m => .int (((wide + near) * m + rank).fdiv wide)) (it_range1 (frMd rfl) a.handled (nm_builtin W rfl rfl rfl rfl (by k_is) bb_range (by decide) rfl) (ev_name (frMd rfl) rfl rfl) (w_rg h1).1 rfl) (by rw [rangeI, upFrom_length]; exact (w_tn h1).2.1) rfl (by decide +kernel) rfl (by decide +kernel) rfl (.cons rfl rfl rfl rfl (.cons rfl rfl rfl rfl (.cons rfl rfl rfl rfl .nil))) rfl
      (fun i hi C => rfl) (fun i hi hp C => ev_bin (compMd rfl) (ev_bin (compMd rfl) (ev_bin (compMd rfl) (ev_name (compMd rfl) rfl rfl) (ev_name (compMd rfl) rfl rfl) (mul_ok (wn_big h1 h2))) (ev_name (compMd rfl) rfl rfl) rfl) (ev_name (compMd rfl) rfl rfl) (div_ok (l1000 h1 (by decide)))) (fun i hi hp => .inl ⟨_, rfl⟩) (fun _ => rfl))
      (add_list ?_)) (ev_list (frMd rfl) (sp_cons (frMd rfl) (ev_name (frMd rfl) rfl rfl) (sp_nil (frMd rfl))) (by simp)) ?_) (.inr ⟨rfl, rfl⟩) rfl ?_
    · rw [List.length_map, List.filter_eq_self.mpr (fun _ _ => rfl), rangeI, upFrom_length]
      exact (w_tn h1).1
    · rw [List.filter_eq_self.mpr (fun _ _ => rfl), add_list (by simp [rangeI, upFrom_length]; exact w_998 h1)]
      congr 2
      simp [edgesI]
    have hel := edgesI_length (wide + near) rank wide (Int.le_of_lt h1.1)
    have hit : ∀ k : Nat, k < wide + 2 → ((edgesI (wide + near) rank wide).map PyData.int)[k]? = some (.int ((edgesI (wide + near) rank wide).getD k 0)) := fun k h => by
      have : k < (edgesI (wide + near) rank wide).length := k_edge h hel
      simp [List.getD, this]
    refine ex_comp rfl a.handled (ρf := [("edges", .list ((edgesI (wide + near) rank wide).map .int))]) (fun _ => true) (fun m => .int ((edgesI (wide + near) rank wide).getD (m + 1).toNat 0 - (edgesI (wide + near) rank wide).getD m.toNat 0 - 1)) rfl (it_range1 (frMd rfl) a.handled (nm_builtin W rfl rfl rfl rfl (by k_is) bb_range (by decide) rfl) (ev_bin (frMd rfl) (ev_name (frMd rfl) rfl rfl) (ev_int (frMd rfl)) rfl) (w_rg h1).2 rfl) (by rw [rangeI, upFrom_length]; exact Nat.le_trans (w_tn h1).2.2 (by decide)) rfl (by decide +kernel) rfl (by decide +kernel) rfl (.cons rfl rfl rfl rfl .nil) rfl
      (fun i hi C => rfl) (fun m hm hp C => ?_) (fun i hi hp => .inl ⟨_, rfl⟩) (fun _ => rfl) rfl ?_
    · have hm' := rangeI_mem hm
      exact ev_bin (compMd rfl) (ev_bin (compMd rfl) (ev_item (compMd rfl) (ev_name (compMd rfl) rfl rfl) (ev_bin (compMd rfl) (ev_name (compMd rfl) rfl rfl) (ev_int (compMd rfl)) rfl) (item_list (k := (m + 1).toNat) (m_tn hm' h1).1 (hit _ (m_tn hm' h1).2.1) (m_tn hm' h1).2.2) (fun _ _ => rfl)) (ev_item (compMd rfl) (ev_name (compMd rfl) rfl rfl) (ev_name (compMd rfl) rfl rfl) (item_list (k := m.toNat) (m_tn' hm' h1).1 (hit _ (m_tn' hm' h1).2.1) (m_tn' hm' h1).2.2) (fun _ _ => rfl)) rfl) (ev_int (compMd rfl)) rfl
    have er : (List.filter (fun _ => true) (rangeI 0 (wide + 1))).map (fun m => PyData.int ((edgesI (wide + near) rank wide).getD (m + 1).toNat 0 - (edgesI (wide + near) rank wide).getD m.toNat 0 - 1)) = (runsI (wide + near) rank wide).map .int := by
      rw [List.filter_eq_self.mpr (fun _ _ => rfl), runsI, List.map_map]; rfl
    rw [er]
    have hrl : (runsI (wide + near) rank wide).length ≤ 1000 := by rw [runsI, List.length_map, rangeI, upFrom_length]; exact (w_tn h1).2.2
    refine ex_return rfl (ev_cmp (frMd rfl) a.hu (ev_callF (frMd rfl) (nm_global W rfl rfl rfl (by k_is) rfl) rfl (sp_cons (frMd rfl) (ev_name (frMd rfl) rfl rfl) (sp_nil (frMd rfl))) (fnP_of (S word _ hsp hwl hsg) W (a.less (by decide)) (by k_is) rfl)) (ev_comp (frMd rfl) a.handled (ρf := [("ink", .str ⟨#[c]⟩)]) (fun s => decide (0 < s)) (fun s => .str (Txt.mul ⟨#[c]⟩ s)) (it_list (frMd rfl) a.handled (ev_name (frMd rfl) rfl rfl) (intsOf_map _)) (Nat.le_trans hrl (by decide)) rfl (by decide +kernel) rfl (by decide +kernel) rfl (.cons rfl rfl rfl rfl .nil) rfl
      (fun i hi C => tv_cmp (compMd rfl) a.hu (ev_name (compMd rfl) rfl rfl) (ev_int (compMd rfl)) rfl rfl) (fun s hs hp C => ev_bin (compMd rfl) (ev_name (compMd rfl) rfl rfl) (ev_name (compMd rfl) rfl rfl) ?_) (fun i hi hp => .inr ⟨_, rfl⟩) (fun _ => rfl)) ?_ rfl) rfl
    · have := hru s hs
      have hp : 0 < s := by simpa using hp
      simp only [binD, addD, subD, mulD, fdvD, modD]
      rw [if_pos ⟨by show 1 ≤ 16; decide, Int.le_of_lt hp, Int.le_trans this (by decide)⟩]
    · have e : (List.filter (fun s => decide (0 < s)) (runsI (wide + near) rank wide)).map (fun s => PyData.str (Txt.mul ⟨#[c]⟩ s)) = (inkRuns (wide + near) rank wide c).map .str := by
        rw [inkRuns, List.map_map]; rfl
      rw [e]
      exact eq_strs hso
end Mine

namespace Mine

noncomputable def quoteD (x : Str) : Str := Str.ofString "'" ++ x ++ Str.ofString "'"
noncomputable def Quotable (x : Str) : Prop := x.length ≤ 20 ∧ 32 ∈ x.cps.toList ∧ ∀ c ∈ x.cps.toList, c ∈ signs ∧ c ≠ 39
noncomputable def JoinOk (w : World) : Prop := ∀ ss : List Str, ss.length ≤ 10 → (∀ x ∈ ss, Quotable x) →
  Fn PySem.Challenge.rw_oy0388_01.prog w (hd.heap_39 w.params) 772 6 [.list (ss.map .str)] (.str (Str.join (Str.ofString " ") (ss.map quoteD)))

noncomputable def wordsI (x : Str) (n : Int) : List Str := (rangeI 0 n).map fun i => Txt.slice x (some i) none ++ Txt.slice x none (some i)
noncomputable def ranksI (n near : Int) : List Int := (rangeI 0 n).map fun i => (i * near).fmod n
noncomputable def christ (n near : Int) (c : Nat) : List Str := (rangeI 0 n).map fun j => if n - near ≤ (j * near).fmod n then ⟨#[c]⟩ else Str.ofString " "
noncomputable def partI (x : Str) (n : Int) (places : List Int) : List Str := places.map fun i => (wordsI x n).getD i.toNat Str.empty
structure HeldOk (wide near : Int) (c : Nat) : Prop where
  text : tickedS wide near ⟨#[c]⟩ = Str.join Str.empty (christ (wide + near) near c)
  len : ((tickedS wide near ⟨#[c]⟩).length : Int) = wide + near
  wlen : ∀ i : Nat, i < (wide + near).toNat → ((wordsI (tickedS wide near ⟨#[c]⟩) (wide + near)).getD i Str.empty).length ≤ 20
  ordered : ∀ i k, i < (wide + near).toNat → k < (wide + near).toNat → collD ((wordsI (tickedS wide near ⟨#[c]⟩) (wide + near)).getD i Str.empty) ((wordsI (tickedS wide near ⟨#[c]⟩) (wide + near)).getD k Str.empty) = twcD ((ranksI (wide + near) near).getD i 0) ((ranksI (wide + near) near).getD k 0)
  moved : MovedOk (wordsI (tickedS wide near ⟨#[c]⟩) (wide + near)) (ranksI (wide + near) near) near c
  read : ∀ i : Nat, i < (wide + near).toNat → ReadOk ((wordsI (tickedS wide near ⟨#[c]⟩) (wide + near)).getD i Str.empty) ((ranksI (wide + near) near).getD i 0) wide near c
  quotable : ∀ i : Nat, i < (wide + near).toNat → Quotable ((wordsI (tickedS wide near ⟨#[c]⟩) (wide + near)).getD i Str.empty)
  strOk : ∀ i : Nat, i < (wide + near).toNat → PyData.strOk ((wordsI (tickedS wide near ⟨#[c]⟩) (wide + near)).getD i Str.empty) = true
noncomputable def AgainOk : Prop := ∀ ss : List Str, ss.length ≤ 10 → (∀ x ∈ ss, Quotable x) → splitD (Str.join (Str.ofString " ") (ss.map quoteD)) = some ss ∧ (Str.join (Str.ofString " ") (ss.map quoteD)).length ≤ 1000 ∧
  ∀ c ∈ (Str.join (Str.ofString " ") (ss.map quoteD)).cps.toList, c ∈ signs

theorem ge_ok {a b : Int} : cmpD .GtE (.int a) (.int b) = some (decide (b ≤ a)) := rfl
theorem wordsI_length (x : Str) (n : Int) : (wordsI x n).length = n.toNat := by simp [wordsI, rangeI, upFrom_length]
theorem ranksI_length (n near : Int) : (ranksI n near).length = n.toNat := by simp [ranksI, rangeI, upFrom_length]
theorem christ_length (n near : Int) (c : Nat) : (christ n near c).length = n.toNat := by simp [christ, rangeI, upFrom_length]
theorem christ_one (n near : Int) (c : Nat) : ∀ x ∈ christ n near c, x.length = 1 := by
  intro x hx
  obtain ⟨j, _, rfl⟩ := List.mem_map.mp hx
  split
  · rfl
  · decide +kernel
theorem sum_ones {ss : List Str} (h : ∀ x ∈ ss, x.length = 1) : (ss.map fun x => x.length + Str.empty.length).sum = ss.length := by
  induction ss with
  | nil => rfl
  | cons x r ih =>
    rw [List.map_cons, List.sum_cons, ih fun y hy => h y (.tail _ hy), h x (.head _), List.length_cons]
    show 1 + 0 + _ = _
    omega

theorem tl {i n : Int} (h : 0 ≤ i ∧ i < n) : i.toNat < n.toNat := by omega
theorem tl_eq {i n : Int} (h : 0 ≤ i ∧ i < n) : i = (i.toNat : Int) := by omega
theorem tl_big {i n : Int} (h : 0 ≤ i ∧ i < n) (hn : n ≤ 13) : i.toNat < 1048576 := by omega
theorem t13 {n : Int} (hn : n ≤ 13) : n.toNat ≤ 1048576 := by omega
theorem t100 {n : Int} {k : Nat} (e : k = n.toNat) (hn : n ≤ 13) : k ≤ 100 := by omega
theorem rg13 {n : Int} (h0 : 1 ≤ n) (hn : n ≤ 13) : -1048576 ≤ n ∧ n ≤ 1048576 := by omega
theorem rl10 {n : Nat} (h : n ≤ 10) : -1048576 ≤ (n : Int) ∧ (n : Int) ≤ 1048576 := by omega
theorem mj13 {j n : Int} (h : 0 ≤ j ∧ j < n) (hn : n ≤ 13) : -1000000 < j ∧ j < 1000000 := by omega
theorem sl13 {a b n : Nat} (h1 : a ≤ n) (h2 : b ≤ n) (h : n ≤ 13) : a + b ≤ 1000 := by omega
theorem wn1 {wide near : Int} (h1 : 1 ≤ wide ∧ wide ≤ 7) (h2 : 1 ≤ near ∧ near ≤ 6) : 1 ≤ wide + near ∧ wide + near ≤ 13 := by omega
theorem tx13 {a : Nat} {n : Int} (h : (a : Int) = n) (hn : n ≤ 13) : a ≤ 13 := by omega
set_option maxRecDepth 100000 in
theorem fn_held (w : World) (M : MarksOk w) (D : DiffOk w) (S : SplitOk w) (Jn : JoinOk w) (Ag : AgainOk) (wide near : Int) (c : Nat) (places : List Int) (h1 : 1 ≤ wide ∧ wide ≤ 7) (h2 : 1 ≤ near ∧ near ≤ 6) (hp : places.length ≤ 10) (hpl : ∀ i ∈ places, 0 ≤ i ∧ i < wide + near)
    (H : HeldOk wide near c) : Fn PySem.Challenge.rw_oy0388_01.prog w (hd.heap_39 w.params) 835 14 [.int wide, .int near, .str ⟨#[c]⟩, .list (places.map .int)] (.bool true) := by
  obtain ⟨hText, hLen, hWl, hOrd, hMov, hRead, hQuo, hStr⟩ := H
  obtain ⟨hn1, hn13⟩ := wn1 h1 h2
  have hn0 : wide + near ≠ 0 := Int.ne_of_gt hn1
  have hwl : (wordsI (tickedS wide near ⟨#[c]⟩) (wide + near)).length = (wide + near).toNat := wordsI_length _ _
  have hrl : (ranksI (wide + near) near).length = (wide + near).toNat := ranksI_length _ _
  have hgt : ∀ i : Nat, ((wordsI (tickedS wide near ⟨#[c]⟩) (wide + near)).getD i Str.empty).length ≤ 20 := fun i => by
    by_cases q : i < (wide + near).toNat
    · exact hWl i q
    · have : (wordsI (tickedS wide near ⟨#[c]⟩) (wide + near)).getD i Str.empty = Str.empty := by rw [List.getD, List.getElem?_eq_none (by rw [hwl]; exact Nat.le_of_not_lt q)]; rfl
      rw [this]; exact Nat.zero_le _
  have hpq : ∀ x ∈ (partI (tickedS wide near ⟨#[c]⟩) (wide + near) places), Quotable x := fun x hx => by
    obtain ⟨i, hi, rfl⟩ := List.mem_map.mp hx
    exact hQuo _ (tl (hpl i hi))
  have hpn : (partI (tickedS wide near ⟨#[c]⟩) (wide + near) places).length = places.length := by simp [partI]
  have hps : (partI (tickedS wide near ⟨#[c]⟩) (wide + near) places).all PyData.strOk = true := List.all_eq_true.mpr fun x hx => by
    obtain ⟨i, hi, rfl⟩ := List.mem_map.mp hx
    exact hStr _ (tl (hpl i hi))
  obtain ⟨hAg, hAl, hAs⟩ := Ag (partI (tickedS wide near ⟨#[c]⟩) (wide + near) places) (Nat.le_trans (Nat.le_of_eq hpn) hp) hpq
  have hw : ∀ k, k < (wide + near).toNat → ((wordsI (tickedS wide near ⟨#[c]⟩) (wide + near)).map PyData.str)[k]? = some (.str ((wordsI (tickedS wide near ⟨#[c]⟩) (wide + near)).getD k Str.empty)) := fun k h => by
    have : k < (wordsI (tickedS wide near ⟨#[c]⟩) (wide + near)).length := Nat.lt_of_lt_of_eq h hwl.symm
    simp [List.getD, this]
  have hrk : ∀ k, k < (wide + near).toNat → ((ranksI (wide + near) near).map PyData.int)[k]? = some (.int ((ranksI (wide + near) near).getD k 0)) := fun k h => by
    have : k < (ranksI (wide + near) near).length := Nat.lt_of_lt_of_eq h hrl.symm
    simp [List.getD, this]
  have hcj := christ_one (wide + near) near c
  have hcl := christ_length (wide + near) near c
  k_fill
  refine' fn_intro (ns := ["wide", "near", "ink", "places"]) ?ho ?hcd ?hlen ?hbind ?hkind ?hnd ?hco ?hgen ?hk ?hbody
  case ho => k_is
  case hcd => k_is
  case hlen => rfl
  case hbind => (intro vs hv; rcases vs with _ | ⟨v1, _ | ⟨v2, _ | ⟨v3, _ | ⟨v4, _ | ⟨v5, _ | ⟨v6, vs⟩⟩⟩⟩⟩⟩ <;> first | rfl | (simp at hv; done))
  case hkind => decide +kernel
  case hnd => decide +kernel
  case hco => rfl
  case hgen => rfl
  case hk => rfl
  intro base outer A s₀ L W a
  refine ex_assign rfl (ev_bin (frMd rfl) (ev_name (frMd rfl) rfl rfl) (ev_name (frMd rfl) rfl rfl) rfl) (.inr ⟨rfl, rfl⟩) rfl ?_
  refine ex_assign rfl (ev_callF (frMd rfl) (nm_global W rfl rfl rfl (by k_is) rfl) rfl (sp_cons (frMd rfl) (ev_name (frMd rfl) rfl rfl) (sp_cons (frMd rfl) (ev_name (frMd rfl) rfl rfl) (sp_cons (frMd rfl) (ev_name (frMd rfl) rfl rfl) (sp_nil (frMd rfl))))) (fnP_of (fn_ticked w M wide near ⟨#[c]⟩ h1 h2 rfl) W (a.less (by decide)) (by k_is) rfl)) (.inr ⟨rfl, rfl⟩) rfl ?_
  have comp_part : True := trivial
  refine ex_if_no rfl (tv_cmp (frMd rfl) a.hu (ev_name (frMd rfl) rfl rfl) (ev_join (ss := christ (wide + near) near c) (frMd rfl) (ev_str (frMd rfl)) ?_ (by rw [show (Str.ofString "") = Str.empty from rfl, sum_ones hcj, hcl]; exact t13 hn13) rfl rfl rfl) ?_ rfl) ?_
  · have e : ((christ (wide + near) near c).map PyData.str) = ((rangeI 0 (wide + near)).filter fun _ => true).map (fun j => PyData.str (if wide + near - near ≤ (j * near).fmod (wide + near) then ⟨#[c]⟩ else Str.ofString " ")) := by
      rw [List.filter_eq_self.mpr (fun _ _ => rfl), christ, List.map_map]; rfl
    rw [e]
    refine ev_comp (frMd rfl) a.handled (ρf := [("ink", .str ⟨#[c]⟩), ("near", .int near), ("n", .int (wide + near))]) (fun _ => true) _ (it_range1 (frMd rfl) a.handled (nm_builtin W rfl rfl rfl rfl (by k_is) bb_range (by decide) rfl) (ev_name (frMd rfl) rfl rfl) (rg13 hn1 hn13) rfl) (by rw [rangeI, upFrom_length, Int.sub_zero]; exact t13 hn13) rfl (by decide +kernel) rfl (by decide +kernel) rfl (.cons rfl rfl rfl rfl (.cons rfl rfl rfl rfl (.cons rfl rfl rfl rfl .nil))) rfl
      (fun i hi C => rfl) (fun j hj hp C => ?_) (fun i hi hp => .inr ⟨_, rfl⟩) (fun _ => rfl)
    have hj' := rangeI_mem hj
    refine ev_ifexp (compMd rfl) (c := decide (wide + near - near ≤ (j * near).fmod (wide + near))) (tv_cmp (compMd rfl) a.hu (ev_bin (d := .int ((j * near).fmod (wide + near))) (compMd rfl) (ev_bin (compMd rfl) (ev_name (compMd rfl) rfl rfl) (ev_name (compMd rfl) rfl rfl) (mul_ok (mj13 hj' hn13))) (ev_name (compMd rfl) rfl rfl) (by simp only [binD, addD, subD, mulD, fdvD, modD]; rw [if_pos hn0])) (ev_bin (compMd rfl) (ev_name (compMd rfl) rfl rfl) (ev_name (compMd rfl) rfl rfl) rfl) rfl rfl) (fun h => ?_) (fun h => ?_)
    · rw [if_pos (by simpa using h)]; exact (ev_name (compMd rfl) rfl rfl)
    · rw [if_neg (by simpa using h)]; exact ev_str (compMd rfl)
  · rw [hText]; exact ne_self_str
  -- the turned texts
  have hTl : (tickedS wide near ⟨#[c]⟩).length ≤ 13 := tx13 hLen hn13
  have hTm : (tickedS wide near ⟨#[c]⟩).length ≤ 1048576 := Nat.le_trans hTl (by decide)
  refine ex_assign (d := .list ((wordsI (tickedS wide near ⟨#[c]⟩) (wide + near)).map .str)) rfl (by
    have e : ((wordsI (tickedS wide near ⟨#[c]⟩) (wide + near)).map PyData.str) = ((rangeI 0 (wide + near)).filter fun _ => true).map (fun i => PyData.str (Txt.slice (tickedS wide near ⟨#[c]⟩) (some i) none ++ Txt.slice (tickedS wide near ⟨#[c]⟩) none (some i))) := by
      rw [List.filter_eq_self.mpr (fun _ _ => rfl), wordsI, List.map_map]; rfl
    rw [e]
    refine ev_comp (frMd rfl) a.handled (ρf := [("text", .str (tickedS wide near ⟨#[c]⟩))]) (fun _ => true) _ (it_range1 (frMd rfl) a.handled (nm_builtin W rfl rfl rfl rfl (by k_is) bb_range (by decide) rfl) (ev_name (frMd rfl) rfl rfl) (rg13 hn1 hn13) rfl) (by rw [rangeI, upFrom_length, Int.sub_zero]; exact t13 hn13) rfl (by decide +kernel) rfl (by decide +kernel) rfl (.cons rfl rfl rfl rfl .nil) rfl
      (fun i hi C => rfl) (fun j hj hp C => ?_) (fun i hi hp => .inr ⟨_, rfl⟩) (fun _ => rfl)
    have l1 := Txt.slice_le (tickedS wide near ⟨#[c]⟩) (some j) none
    have l2 := Txt.slice_le (tickedS wide near ⟨#[c]⟩) none (some j)
    exact ev_bin (compMd rfl) (ev_slice (compMd rfl) (i := some j) (j := none) (ev_name (compMd rfl) rfl rfl) (ev_name (compMd rfl) rfl rfl) trivial (by simp only [sliceD]; rw [if_pos hTm])) (ev_slice (compMd rfl) (i := none) (j := some j) (ev_name (compMd rfl) rfl rfl) trivial (ev_name (compMd rfl) rfl rfl) (by simp only [sliceD]; rw [if_pos hTm])) (add_str (sl13 l1 l2 hTl))) (.inr ⟨rfl, rfl⟩) rfl ?_
  refine ex_comp rfl a.handled (ρf := [("near", .int near), ("n", .int (wide + near))]) (fun _ => true) (fun i => .int ((i * near).fmod (wide + near))) rfl (it_range1 (frMd rfl) a.handled (nm_builtin W rfl rfl rfl rfl (by k_is) bb_range (by decide) rfl) (ev_name (frMd rfl) rfl rfl) (rg13 hn1 hn13) rfl) (by rw [rangeI, upFrom_length, Int.sub_zero]; exact t13 hn13) rfl (by decide +kernel) rfl (by decide +kernel) rfl (.cons rfl rfl rfl rfl (.cons rfl rfl rfl rfl .nil)) rfl
      (fun i hi C => rfl) (fun j hj hp C => ?_) (fun i hi hp => .inl ⟨_, rfl⟩) (fun _ => rfl) rfl ?_
  · have hj' := rangeI_mem hj
    exact ev_bin (compMd rfl) (ev_bin (compMd rfl) (ev_name (compMd rfl) rfl rfl) (ev_name (compMd rfl) rfl rfl) (mul_ok (mj13 hj' hn13))) (ev_name (compMd rfl) rfl rfl) (by simp only [binD, addD, subD, mulD, fdvD, modD]; rw [if_pos hn0])
  have er : ((rangeI 0 (wide + near)).filter fun _ => true).map (fun i => PyData.int ((i * near).fmod (wide + near))) = (ranksI (wide + near) near).map .int := by
    rw [List.filter_eq_self.mpr (fun _ _ => rfl), ranksI, List.map_map]; rfl
  rw [er]
  refine ex_if_no rfl (tv_or_go (frMd rfl) (tv_not (c := true) (tv_ok (frMd rfl) (ev_callF (frMd rfl) (nm_global W rfl rfl rfl (by k_is) rfl) rfl (sp_cons (frMd rfl) (ev_name (frMd rfl) rfl rfl) (sp_cons (frMd rfl) (ev_name (frMd rfl) rfl rfl) (sp_nil (frMd rfl)))) (fnP_of (fn_ordered w (wordsI (tickedS wide near ⟨#[c]⟩) (wide + near)) (ranksI (wide + near) near) (Nat.le_trans (t100 hwl hn13) (by decide)) (hrl.trans hwl.symm) (by rw [hwl]; exact hOrd)) W (a.less (by decide)) (by k_is) rfl)) rfl (fun _ => rfl)))
    (tv_or_go (frMd rfl) (tv_not (c := true) (tv_ok (frMd rfl) (ev_callF (frMd rfl) (nm_global W rfl rfl rfl (by k_is) rfl) rfl (sp_cons (frMd rfl) (ev_name (frMd rfl) rfl rfl) (sp_cons (frMd rfl) (ev_name (frMd rfl) rfl rfl) (sp_cons (frMd rfl) (ev_name (frMd rfl) rfl rfl) (sp_cons (frMd rfl) (ev_name (frMd rfl) rfl rfl) (sp_nil (frMd rfl)))))) (fnP_of (fn_moved w D (wordsI (tickedS wide near ⟨#[c]⟩) (wide + near)) (ranksI (wide + near) near) near c (t100 hwl hn13) (hrl.trans hwl.symm) (fun i => Nat.le_trans (hgt i) (by decide)) hMov) W (a.less (by decide)) (by k_is) rfl)) rfl (fun _ => rfl))) (tv_or_nil (frMd rfl)))) ?_
  have hpart : ∀ ρ : Rho, True := fun _ => trivial
  have ep : ((partI (tickedS wide near ⟨#[c]⟩) (wide + near) places).map PyData.str) = (places.filter fun _ => true).map (fun i => PyData.str ((wordsI (tickedS wide near ⟨#[c]⟩) (wide + near)).getD i.toNat Str.empty)) := by
    rw [List.filter_eq_self.mpr (fun _ _ => rfl), partI, List.map_map]; rfl
  refine ex_assign (d := .list ((partI (tickedS wide near ⟨#[c]⟩) (wide + near) places).map .str)) rfl (ev_callF (frMd rfl) (nm_global W rfl rfl rfl (by k_is) rfl) rfl (sp_cons (frMd rfl) (ev_callF (frMd rfl) (nm_global W rfl rfl rfl (by k_is) rfl) rfl (sp_cons (frMd rfl) (by
    rw [ep]
    exact ev_comp (frMd rfl) a.handled (ρf := [("words", .list ((wordsI (tickedS wide near ⟨#[c]⟩) (wide + near)).map .str))]) (fun _ => true) _ (it_list (frMd rfl) a.handled (ev_name (frMd rfl) rfl rfl) (intsOf_map _)) (Nat.le_trans hp (by decide)) rfl (by decide +kernel) rfl (by decide +kernel) rfl (.cons rfl rfl rfl rfl .nil) rfl
      (fun i hi C => rfl) (fun j hj hp C => ev_item (compMd rfl) (ev_name (compMd rfl) rfl rfl) (ev_name (compMd rfl) rfl rfl) (item_list (k := j.toNat) (tl_big (hpl j hj) hn13) (hw _ (tl (hpl j hj))) (tl_eq (hpl j hj))) (fun _ _ => rfl)) (fun i hi hp => .inr ⟨_, rfl⟩) (fun _ => rfl)) (sp_nil (frMd rfl))) (fnP_of (Jn (partI (tickedS wide near ⟨#[c]⟩) (wide + near) places) (Nat.le_trans (Nat.le_of_eq hpn) (Nat.le_trans hp (by decide))) hpq) W (a.less (by decide)) (by k_is) rfl)) (sp_nil (frMd rfl))) (fnP_of (S _ _ hAg hAl hAs) W (a.less (by decide)) (by k_is) rfl)) (.inl rfl) rfl ?_
  refine ex_if_no rfl (tv_cmp (frMd rfl) a.hu (ev_name (frMd rfl) rfl rfl) (by
    rw [ep]
    exact ev_comp (frMd rfl) a.handled (ρf := [("words", .list ((wordsI (tickedS wide near ⟨#[c]⟩) (wide + near)).map .str))]) (fun _ => true) _ (it_list (frMd rfl) a.handled (ev_name (frMd rfl) rfl rfl) (intsOf_map _)) (Nat.le_trans hp (by decide)) rfl (by decide +kernel) rfl (by decide +kernel) rfl (.cons rfl rfl rfl rfl .nil) rfl
      (fun i hi C => rfl) (fun j hj hp C => ev_item (compMd rfl) (ev_name (compMd rfl) rfl rfl) (ev_name (compMd rfl) rfl rfl) (item_list (k := j.toNat) (tl_big (hpl j hj) hn13) (hw _ (tl (hpl j hj))) (tl_eq (hpl j hj))) (fun _ _ => rfl)) (fun i hi hp => .inr ⟨_, rfl⟩) (fun _ => rfl)) (by rw [← ep]; exact ne_strs hps) rfl) ?_
  have hlen : callD1 "len" (.list (places.map PyData.int)) = some (.int places.length) := by rw [len_list (by rw [List.length_map]; exact Nat.le_trans hp (by decide))]; simp
  refine ex_cons (Ψ := fun fd ρ' => fd = .next) (ex1_for rfl (fun _ ρ' => Sub [("wide", .int wide), ("near", .int near), ("ink", .str ⟨#[c]⟩), ("places", .list (places.map .int)), ("ranks", .list ((ranksI (wide + near) near).map .int)), ("told", .list ((partI (tickedS wide near ⟨#[c]⟩) (wide + near) places).map .str))] ρ') (it_range1 (frMd rfl) a.handled (nm_builtin W rfl rfl rfl rfl (by k_is) bb_range (by decide) rfl) (ev_call1 (frMd rfl) a.handled (nm_builtin W rfl rfl rfl rfl (by k_is) bb_len (by decide) rfl) (ev_name (frMd rfl) rfl rfl) hlen rfl) (rl10 hp) rfl) (.inl rfl) (.cons rfl (.cons rfl (.cons rfl (.cons rfl (.cons rfl (.cons rfl .nil)))))) ?_ (fun _ _ => rfl) (fun _ => rfl)) (fun ρ' _ => ex_return rfl (ev_bool (frMd rfl)) rfl) (fun fd ρ' h1 h2 => absurd h2 h1)
  intro k ρ' hk hS
  rw [rangeI_getD hk, Int.zero_add]
  rw [rangeI_length] at hk
  refine exp_weak hS.under ?_
  have hpk : (places.map PyData.int)[k]? = some (.int (places.getD k 0)) := by simp [List.getD, hk]
  have hmem : places.getD k 0 ∈ places := by simp [List.getD, hk]
  have hpb := hpl _ hmem
  have htk : ((partI (tickedS wide near ⟨#[c]⟩) (wide + near) places).map PyData.str)[k]? = some (.str ((wordsI (tickedS wide near ⟨#[c]⟩) (wide + near)).getD (places.getD k 0).toNat Str.empty)) := by simp [partI, List.getD, hk]
  refine ex_if_no rfl (tv_not (c := true) (tv_ok (frMd rfl) (ev_callF (frMd rfl) (nm_global W rfl rfl rfl (by k_is) rfl) rfl (sp_cons (frMd rfl) (ev_item (frMd rfl) (ev_name (frMd rfl) rfl rfl) (ev_name (frMd rfl) rfl rfl) (item_list (k := k) (Nat.lt_of_lt_of_le hk (Nat.le_trans hp (by decide))) htk rfl) (fun _ _ => rfl)) (sp_cons (frMd rfl) (ev_item (frMd rfl) (ev_name (frMd rfl) rfl rfl) (ev_item (frMd rfl) (ev_name (frMd rfl) rfl rfl) (ev_name (frMd rfl) rfl rfl) (item_list (k := k) (Nat.lt_of_lt_of_le hk (Nat.le_trans hp (by decide))) hpk rfl) (fun _ _ => rfl)) (item_list (k := (places.getD k 0).toNat) (tl_big hpb hn13) (hrk _ (tl hpb)) (tl_eq hpb)) (fun _ _ => rfl)) (sp_cons (frMd rfl) (ev_name (frMd rfl) rfl rfl) (sp_cons (frMd rfl) (ev_name (frMd rfl) rfl rfl) (sp_cons (frMd rfl) (ev_name (frMd rfl) rfl rfl) (sp_nil (frMd rfl))))))) (fnP_of (fn_read w S _ _ wide near c h1 h2 (hRead (places.getD k 0).toNat (tl hpb))) W (a.less (by decide)) (by k_is) rfl)) rfl (fun _ => rfl))) (ex_nil (.cons rfl (.cons rfl (.cons rfl (.cons rfl (.cons rfl (.cons rfl .nil)))))))
end Mine

namespace Mine

noncomputable def inksL : List Nat := [97, 126, 33, 35, 57]
noncomputable def AllHeld : Prop := ∀ (wide near : Int) (c : Nat), 1 ≤ wide ∧ wide ≤ 7 → 1 ≤ near ∧ near ≤ 6 → c ∈ inksL → HeldOk wide near c
theorem ink_at {k : Int} (h0 : 0 ≤ k) (h1 : k < 5) : ∃ c, c ∈ inksL ∧ itemD (.str (Str.ofString "a~!#9")) (.int k) = some (.str ⟨#[c]⟩) := by
  have e : (Str.ofString "a~!#9").cps = #[97, 126, 33, 35, 57] := by decide +kernel
  have : k = 0 ∨ k = 1 ∨ k = 2 ∨ k = 3 ∨ k = 4 := by omega
  rcases this with rfl | rfl | rfl | rfl | rfl
  · exact ⟨97, by decide, item_at (k := 0) (by omega) (by rw [e]; rfl) rfl⟩
  · exact ⟨126, by decide, item_at (k := 1) (by omega) (by rw [e]; rfl) rfl⟩
  · exact ⟨33, by decide, item_at (k := 2) (by omega) (by rw [e]; rfl) rfl⟩
  · exact ⟨35, by decide, item_at (k := 3) (by omega) (by rw [e]; rfl) rfl⟩
  · exact ⟨57, by decide, item_at (k := 4) (by omega) (by rw [e]; rfl) rfl⟩
theorem mod_ok {a b : Int} (hb : 1 ≤ b) : binD .Mod (.int a) (.int b) = some (.int (a.fmod b)) := by
  simp only [binD, addD, subD, mulD, fdvD, modD]
  rw [if_pos (by omega)]
theorem fmod_in {a b : Int} (hb : 1 ≤ b) : 0 ≤ a.fmod b ∧ a.fmod b < b := ⟨Int.fmod_nonneg_of_pos a (by omega), Int.fmod_lt_of_pos a (by omega)⟩

set_option maxRecDepth 100000 in
theorem fn_law (w : World) (M : MarksOk w) (D : DiffOk w) (S : SplitOk w) (Jn : JoinOk w) (Ag : AgainOk) (AH : AllHeld) (ns : List Int) (hn : ns.length ≤ 63) :
    Fn PySem.Challenge.rw_oy0388_01.prog w (hd.heap_39 w.params) 840 15 [.list (ns.map .int)] (.bool true) := by
  k_fill
  refine' fn_intro (ns := ["script"]) ?ho ?hcd ?hlen ?hbind ?hkind ?hnd ?hco ?hgen ?hk ?hbody
  case ho => k_is
  case hcd => k_is
  case hlen => rfl
  case hbind => (intro vs hv; rcases vs with _ | ⟨v1, _ | ⟨v2, _ | ⟨v3, _ | ⟨v4, _ | ⟨v5, _ | ⟨v6, vs⟩⟩⟩⟩⟩⟩ <;> first | rfl | (simp at hv; done))
  case hkind => decide +kernel
  case hnd => decide +kernel
  case hco => rfl
  case hgen => rfl
  case hk => rfl
  intro base outer A s₀ L W a
  generalize hq : ns.take 5 = xs
  have hxl : xs.length ≤ 5 := by rw [← hq, List.length_take]; omega
  refine ex_assign (d := .list (xs.map .int)) rfl (ev_slice (frMd rfl) (i := none) (j := some 5) (ev_name (frMd rfl) rfl rfl) trivial (ev_int (frMd rfl)) (by simp only [sliceD]; rw [if_pos ⟨by omega, by simp; omega⟩, ← hq, List.map_take]; rfl)) (.inl rfl) rfl ?_
  obtain ⟨d0, d1, rest, hd⟩ : ∃ d0 d1 rest, xs ++ [0, 0] = d0 :: d1 :: rest := by
    rcases xs with _ | ⟨x, _ | ⟨y, r⟩⟩
    · exact ⟨0, 0, [], rfl⟩
    · exact ⟨x, 0, [0], rfl⟩
    · exact ⟨x, y, r ++ [0, 0], rfl⟩
  refine ex_assign (d := .list [.int d0, .int d1]) rfl (ev_slice (frMd rfl) (i := none) (j := some 2) (ev_bin (d := .list ((xs ++ [0, 0]).map .int)) (frMd rfl) (ev_name (frMd rfl) rfl rfl) (ev_list (frMd rfl) (sp_cons (frMd rfl) (ev_int (frMd rfl)) (sp_cons (frMd rfl) (ev_int (frMd rfl)) (sp_nil (frMd rfl)))) (by simp)) (by rw [add_list (by simp; omega), List.map_append]; rfl)) trivial (ev_int (frMd rfl)) (by
    simp only [sliceD]
    rw [if_pos ⟨by omega, by simp; omega⟩, hd]; rfl)) (.inl rfl) rfl ?_
  generalize hw : 1 + (d0 + 3).fmod 7 = wide
  generalize hr : 1 + (d1 + 2).fmod 6 = near
  have h1 : 1 ≤ wide ∧ wide ≤ 7 := by have := fmod_in (a := d0 + 3) (b := 7) (by omega); omega
  have h2 : 1 ≤ near ∧ near ≤ 6 := by have := fmod_in (a := d1 + 2) (b := 6) (by omega); omega
  refine ex_assign (d := .int wide) rfl (ev_bin (frMd rfl) (ev_int (frMd rfl)) (ev_bin (d := .int ((d0 + 3).fmod 7)) (frMd rfl) (ev_bin (frMd rfl) (ev_item (frMd rfl) (ev_name (frMd rfl) rfl rfl) (ev_int (frMd rfl)) (item_list (k := 0) (by omega) rfl rfl) (fun _ _ => rfl)) (ev_int (frMd rfl)) rfl) (ev_int (frMd rfl)) (mod_ok (by omega))) (by rw [← hw]; rfl)) (.inl rfl) rfl ?_
  refine ex_assign (d := .int near) rfl (ev_bin (frMd rfl) (ev_int (frMd rfl)) (ev_bin (d := .int ((d1 + 2).fmod 6)) (frMd rfl) (ev_bin (frMd rfl) (ev_item (frMd rfl) (ev_name (frMd rfl) rfl rfl) (ev_int (frMd rfl)) (item_list (k := 1) (by omega) rfl rfl) (fun _ _ => rfl)) (ev_int (frMd rfl)) rfl) (ev_int (frMd rfl)) (mod_ok (by omega))) (by rw [← hr]; rfl)) (.inl rfl) rfl ?_
  refine ex_assign rfl (ev_bin (frMd rfl) (ev_name (frMd rfl) rfl rfl) (ev_name (frMd rfl) rfl rfl) rfl) (.inr ⟨rfl, rfl⟩) rfl ?_
  generalize hp : xs.map (fun x => (x.fdiv 42).fmod (wide + near)) ++ [0, wide + near - 1, 1] = places
  have hpl : places.length ≤ 10 := by rw [← hp]; simp; omega
  have hpm : ∀ i ∈ places, 0 ≤ i ∧ i < wide + near := by
    intro i hi
    rw [← hp] at hi
    rcases List.mem_append.mp hi with q | q
    · obtain ⟨x, _, rfl⟩ := List.mem_map.mp q
      exact fmod_in (by omega)
    · simp at q; omega
  refine ex_assign (d := .list (places.map .int)) rfl (ev_bin (frMd rfl) (ev_comp (frMd rfl) a.handled (ρf := [("n", .int (wide + near))]) (fun _ => true) (fun x => .int ((x.fdiv 42).fmod (wide + near))) (it_list (frMd rfl) a.handled (ev_name (frMd rfl) rfl rfl) (intsOf_map _)) (by omega) rfl (by decide +kernel) rfl (by decide +kernel) rfl (.cons rfl rfl rfl rfl .nil) rfl
      (fun i hi C => rfl) (fun j hj hp C => ev_bin (compMd rfl) (ev_bin (compMd rfl) (ev_name (compMd rfl) rfl rfl) (ev_int (compMd rfl)) (div_ok (by omega))) (ev_name (compMd rfl) rfl rfl) (mod_ok (by omega))) (fun i hi hp => .inl ⟨_, rfl⟩) (fun _ => rfl)) (ev_list (frMd rfl) (sp_cons (frMd rfl) (ev_int (frMd rfl)) (sp_cons (frMd rfl) (ev_bin (frMd rfl) (ev_name (frMd rfl) rfl rfl) (ev_int (frMd rfl)) rfl) (sp_cons (frMd rfl) (ev_int (frMd rfl)) (sp_nil (frMd rfl))))) (by simp)) (by
      rw [List.filter_eq_self.mpr (fun _ _ => rfl), add_list (by simp; omega), ← hp, List.map_append, List.map_map]; rfl)) (.inl rfl) rfl ?_
  obtain ⟨c, hc, hci⟩ := ink_at (k := xs.sum.fmod 5) (fmod_in (by omega)).1 (fmod_in (by omega)).2
  have hsum : callD1 "sum" (.list (xs.map PyData.int)) = some (.int xs.sum) := by
    simp only [callD1]
    rw [if_neg (by decide), if_pos trivial, intsOf_map]; rfl
  refine ex_return rfl (ev_callF (frMd rfl) (nm_global W rfl rfl rfl (by k_is) rfl) rfl (sp_cons (frMd rfl) (ev_name (frMd rfl) rfl rfl) (sp_cons (frMd rfl) (ev_name (frMd rfl) rfl rfl) (sp_cons (frMd rfl) (ev_item (frMd rfl) (ev_str (frMd rfl)) (ev_bin (frMd rfl) (ev_call1 (frMd rfl) a.handled (nm_builtin W rfl rfl rfl rfl (by k_is) bb_sum (by decide) rfl) (ev_name (frMd rfl) rfl rfl) hsum rfl) (ev_int (frMd rfl)) (mod_ok (by omega))) hci (fun _ _ => rfl)) (sp_cons (frMd rfl) (ev_name (frMd rfl) rfl rfl) (sp_nil (frMd rfl)))))) (fnP_of (fn_held w M D S Jn Ag wide near c places h1 h2 hpl hpm (AH wide near c h1 h2 hc)) W (a.less (by decide)) (by k_is) rfl)) rfl
end Mine

namespace Mine

noncomputable def blanksB (x : Str) (f b : Nat) : Bool :=
  decide (f + b < x.length) && (List.range f).all (fun i => x.cps[i]? == some 32) && (match x.cps[f]? with | some c => c != 32 | none => false) &&
  (List.range b).all (fun i => x.cps[x.length - 1 - i]? == some 32) && (match x.cps[x.length - 1 - b]? with | some c => c != 32 | none => false)
theorem blanks_of {x : Str} {f b : Nat} (h : blanksB x f b = true) : Blanks x f b := by
  unfold blanksB at h
  simp only [Bool.and_eq_true, decide_eq_true_eq, List.all_eq_true, List.mem_range, beq_iff_eq] at h
  obtain ⟨⟨⟨⟨h1, h2⟩, h3⟩, h4⟩, h5⟩ := h
  refine ⟨h1, h2, ?_, h4, ?_⟩
  · split at h3
    · rename_i c hc; exact ⟨c, hc, by simpa using h3⟩
    · cases h3
  · split at h5
    · rename_i c hc; exact ⟨c, hc, by simpa using h5⟩
    · cases h5
noncomputable def readB (word : Str) (rank wide near : Int) (c : Nat) : Bool :=
  decide ((word.length : Int) = wide + near) && blanksB word ((wide + near - rank - 1).fdiv near).toNat (rank.fdiv near).toNat &&
  (decide (0 ≤ (wide + near - rank - 1).fdiv near) && decide (0 ≤ rank.fdiv near)) && word.cps.toList.all (fun c => decide (c ∈ signs)) &&
  decide (splitD word = some (inkRuns (wide + near) rank wide c)) && (inkRuns (wide + near) rank wide c).all PyData.strOk && decide ((inkRuns (wide + near) rank wide c).length ≤ 1000) &&
  (runsI (wide + near) rank wide).all fun s => decide (s ≤ 1000)
theorem read_of {word : Str} {rank wide near : Int} {c : Nat} (h : readB word rank wide near c = true) : ReadOk word rank wide near c := by
  unfold readB at h
  simp only [Bool.and_eq_true, decide_eq_true_eq, List.all_eq_true (p := fun c => decide (c ∈ signs)), List.all_eq_true (p := fun s : Int => decide (s ≤ 1000))] at h
  obtain ⟨⟨⟨⟨⟨⟨⟨h1, h2⟩, h3⟩, h4⟩, h5⟩, h6⟩, h7⟩, h8⟩ := h
  exact ⟨h1, blanks_of h2, h3, h4, h5, h6, h7, h8⟩
noncomputable def movedB (ws : List Str) (rs : List Int) (near : Int) (c : Nat) (i : Nat) : Bool :=
  let g := rs.getD i 0 + gapI rs ws.length
  !decide (g < ws.length) ||
  (decide (g ∈ rs) && decide (rs.idxOf g < ws.length) &&
   decide (diffI (placesI (ws.getD i Str.empty) c) (placesI (ws.getD (rs.idxOf g) Str.empty) c) = (spotsI rs ws.length near i).map (· + 1)) &&
   decide (diffI (placesI (ws.getD (rs.idxOf g) Str.empty) c) (placesI (ws.getD i Str.empty) c) = spotsI rs ws.length near i))
noncomputable def quotableB (x : Str) : Bool := decide (x.length ≤ 20) && decide (32 ∈ x.cps.toList) && x.cps.toList.all fun c => decide (c ∈ signs) && decide (c ≠ 39)
theorem quotable_of {x : Str} (h : quotableB x = true) : Quotable x := by
  unfold quotableB at h
  simp only [Bool.and_eq_true, decide_eq_true_eq, List.all_eq_true] at h
  exact ⟨h.1.1, h.1.2, h.2⟩
noncomputable def seek {α : Type} [BEq α] (dom : List α) (a : α) (k : α → Bool) : Bool := dom.any fun v => v == a && k v
theorem seek_of {α : Type} [BEq α] [LawfulBEq α] {dom : List α} {a : α} {k : α → Bool} (h : seek dom a k = true) : k a = true := by
  obtain ⟨v, _, hv⟩ := List.any_eq_true.mp h
  obtain ⟨e, hk⟩ := Bool.and_eq_true_iff.mp hv
  have := eq_of_beq e
  subst this; exact hk
noncomputable def seekL {α : Type} [BEq α] (dom : List α) : List α → (List α → Bool) → Bool
  | [], k => k []
  | a :: r, k => seek dom a fun v => seekL dom r fun r' => k (v :: r')
theorem seekL_of {α : Type} [BEq α] [LawfulBEq α] {dom : List α} : ∀ {l : List α} {k : List α → Bool}, seekL dom l k = true → k l = true
  | [], _, h => h
  | a :: r, k, h => seekL_of (l := r) (k := fun r' => k (a :: r')) (seek_of (k := fun v => seekL dom r fun r' => k (v :: r')) h)
noncomputable def seekW (dom : List Nat) : List Str → (List Str → Bool) → Bool
  | [], k => k []
  | x :: r, k => seekL dom x.cps.toList fun l => seekW dom r fun r' => k (strOf l :: r')
theorem strOf_toList (x : Str) : strOf x.cps.toList = x := by
  cases x; rfl
theorem seekW_of {dom : List Nat} : ∀ {l : List Str} {k : List Str → Bool}, seekW dom l k = true → k l = true
  | [], _, h => h
  | x :: r, k, h => by
    have h1 := seekL_of (k := fun l => seekW dom r fun r' => k (strOf l :: r')) h
    have h2 := seekW_of (l := r) (k := fun r' => k (strOf x.cps.toList :: r')) h1
    rw [strOf_toList] at h2; exact h2
noncomputable def heldB' (wide near n : Int) (c : Nat) (ws : List Str) (rs : List Int) : Bool :=
  (List.range n.toNat).all fun i => quotableB (ws.getD i Str.empty) && PyData.strOk (ws.getD i Str.empty) && readB (ws.getD i Str.empty) (rs.getD i 0) wide near c && movedB ws rs near c i &&
    (List.range n.toNat).all fun k => decide (collD (ws.getD i Str.empty) (ws.getD k Str.empty) = twcD (rs.getD i 0) (rs.getD k 0))
noncomputable def rankDom : List Int := [0, 1, 2, 3, 4, 5, 6, 7, 8, 9, 10, 11, 12]
noncomputable def heldB (wide near : Int) (c : Nat) : Bool :=
  seekL signs (tickedS wide near ⟨#[c]⟩).cps.toList fun l =>
  decide (strOf l = Str.join Str.empty (christ (wide + near) near c)) && decide (((strOf l).length : Int) = wide + near) &&
  seekW signs (wordsI (strOf l) (wide + near)) fun ws => seekL rankDom (ranksI (wide + near) near) fun rs => heldB' wide near (wide + near) c ws rs
theorem held_of {wide near : Int} {c : Nat} (h : heldB wide near c = true) : HeldOk wide near c := by
  unfold heldB at h
  have h0 := seekL_of (l := (tickedS wide near ⟨#[c]⟩).cps.toList) h
  rw [strOf_toList] at h0
  simp only [Bool.and_eq_true, decide_eq_true_eq] at h0
  obtain ⟨⟨h1, h2⟩, h3⟩ := h0
  have h3 := seekL_of (l := ranksI (wide + near) near) (seekW_of (l := wordsI (tickedS wide near ⟨#[c]⟩) (wide + near)) h3)
  unfold heldB' at h3
  simp only [Bool.and_eq_true, decide_eq_true_eq, List.all_eq_true, List.mem_range] at h3
  have hwl := wordsI_length (tickedS wide near ⟨#[c]⟩) (wide + near)
  refine ⟨h1, h2, fun i hi => (quotable_of (h3 i hi).1.1.1.1).1, fun i k hi hk => (h3 i hi).2 k hk, fun i hi hlt => ?_, fun i hi => read_of (h3 i hi).1.1.2, fun i hi => quotable_of (h3 i hi).1.1.1.1, fun i hi => (h3 i hi).1.1.1.2⟩
  have hm := (h3 i (by omega)).1.2
  unfold movedB at hm
  simp only [Bool.or_eq_true, Bool.and_eq_true, decide_eq_true_eq, Bool.not_eq_true', decide_eq_false_iff_not] at hm
  rcases hm with q | ⟨⟨⟨a, b⟩, c'⟩, d⟩
  · exact absurd hlt q
  · exact ⟨a, b, c', d⟩
noncomputable def ren (c d : Nat) : Nat := if d = 97 then c else d
noncomputable def mapS (f : Nat → Nat) (x : Str) : Str := ⟨x.cps.map f⟩
structure Ink (c : Nat) : Prop where
  lt : 32 < c
  ne : c ≠ 39
  sg : c ∈ signs
  ok : c < 1114112
theorem ink_all : ∀ c ∈ inksL, 32 < c ∧ c ≠ 39 ∧ c ∈ signs ∧ c < 1114112 := by decide
theorem ink_of {c : Nat} (h : c ∈ inksL) : Ink c := let ⟨a, b, d, e⟩ := ink_all c h; ⟨a, b, d, e⟩
theorem Ink.blank {c : Nat} (i : Ink c) (d : Nat) : ren c d = 32 ↔ d = 32 := by
  unfold ren; split
  · have := i.lt; omega
  · exact Iff.rfl
theorem Ink.quo {c : Nat} (i : Ink c) (d : Nat) : ren c d = 39 ↔ d = 39 := by
  unfold ren; split
  · have := i.ne; omega
  · exact Iff.rfl
theorem Ink.sign {c : Nat} (i : Ink c) {d : Nat} (h : d ∈ signs) : ren c d ∈ signs := by
  unfold ren; split
  · exact i.sg
  · exact h
theorem mapS_len (f : Nat → Nat) (x : Str) : (mapS f x).length = x.length := Array.size_map
theorem mapS_list (f : Nat → Nat) (x : Str) : (mapS f x).cps.toList = x.cps.toList.map f := Array.toList_map
theorem mapS_at (f : Nat → Nat) (x : Str) (i : Nat) : (mapS f x).cps[i]? = (x.cps[i]?).map f := Array.getElem?_map
theorem mapS_app (f : Nat → Nat) (a b : Str) : mapS f (a ++ b) = mapS f a ++ mapS f b := congrArg Str.mk Array.map_append
theorem mapS_empty (f : Nat → Nat) : mapS f Str.empty = Str.empty := by simp [mapS, Str.empty]
theorem blank_lit : Str.ofString " " = ⟨#[32]⟩ := by decide +kernel
theorem ren_ink (c : Nat) : mapS (ren c) ⟨#[97]⟩ = ⟨#[c]⟩ := by simp [mapS, ren]
theorem ren_blank (c : Nat) : mapS (ren c) (Str.ofString " ") = Str.ofString " " := by rw [blank_lit]; simp [mapS, ren]
theorem tickS_ren (inks blanks : List Int) (c : Nat) : ∀ n, tickS inks blanks ⟨#[c]⟩ n = mapS (ren c) (tickS inks blanks ⟨#[97]⟩ n)
  | 0 => (mapS_empty _).symm
  | n + 1 => by
    have ih := tickS_ren inks blanks c n
    unfold tickS
    dsimp only
    split <;> split <;> simp only [ih, mapS_app, ren_ink, ren_blank]
theorem christ_ren (n near : Int) (c : Nat) : christ n near c = (christ n near 97).map (mapS (ren c)) := by
  unfold christ
  rw [List.map_map]
  refine List.map_congr_left fun j _ => ?_
  show _ = mapS (ren c) (if _ then _ else _)
  split
  · rw [ren_ink]
  · rw [ren_blank]
theorem join_map (f : Nat → Nat) : ∀ l : List Str, Str.join Str.empty (l.map (mapS f)) = mapS f (Str.join Str.empty l)
  | [] => (mapS_empty f).symm
  | [_] => rfl
  | x :: y :: r => by
    have ih := join_map f (y :: r)
    show mapS f x ++ Str.empty ++ Str.join Str.empty ((y :: r).map (mapS f)) = mapS f (x ++ Str.empty ++ Str.join Str.empty (y :: r))
    rw [ih, mapS_app, mapS_app, mapS_empty]
theorem slice_map (f : Nat → Nat) (x : Str) (l u : Option Int) : Txt.slice (mapS f x) l u = mapS f (Txt.slice x l u) := by
  unfold Txt.slice
  rw [mapS_len]
  split
  · rfl
  · show Str.mk _ = Str.mk _
    congr 1
    rw [show (fun i : Nat => (mapS f x).cps[i]?) = fun i => (x.cps[i]?).map f from funext fun i => mapS_at f x i]
    apply Array.ext'
    rw [Array.toList_map]
    show _ = (List.filterMap (fun i => x.cps[i]?) _).map f
    rw [List.map_filterMap]
theorem words_map (f : Nat → Nat) (x : Str) (n : Int) : wordsI (mapS f x) n = (wordsI x n).map (mapS f) := by
  unfold wordsI
  rw [List.map_map]
  refine List.map_congr_left fun j _ => ?_
  rw [slice_map, slice_map, ← mapS_app]; rfl
theorem getD_map (f : Nat → Nat) (l : List Str) (i : Nat) : (l.map (mapS f)).getD i Str.empty = mapS f (l.getD i Str.empty) := by
  simp only [List.getD_eq_getElem?_getD, List.getElem?_map]
  cases l[i]? with
  | none => exact (mapS_empty f).symm
  | some _ => rfl
noncomputable def Two (x : Str) : Prop := ∀ d ∈ x.cps.toList, d = 32 ∨ d = 97
theorem Two.app {a b : Str} (h : Two a) (k : Two b) : Two (a ++ b) := fun d hd => by
  have e : (a ++ b).cps.toList = a.cps.toList ++ b.cps.toList := Array.toList_append
  rw [e] at hd
  rcases List.mem_append.mp hd with q | q
  · exact h d q
  · exact k d q
theorem two_empty : Two Str.empty := fun d hd => by cases hd
theorem two_join : ∀ {l : List Str}, (∀ x ∈ l, Two x) → Two (Str.join Str.empty l)
  | [], _ => two_empty
  | [x], h => h x (.head _)
  | x :: y :: r, h => ((h x (.head _)).app two_empty).app (two_join fun z hz => h z (.tail _ hz))
theorem two_christ (n near : Int) : ∀ x ∈ christ n near 97, Two x := fun x hx => by
  obtain ⟨j, _, rfl⟩ := List.mem_map.mp hx
  split
  · intro d hd; exact .inr (by simpa using hd)
  · rw [blank_lit]; intro d hd; exact .inl (by simpa using hd)
theorem two_slice {x : Str} (h : Two x) (l u : Option Int) : Two (Txt.slice x l u) := by
  unfold Txt.slice
  split
  · exact h
  · intro d hd
    obtain ⟨i, _, hi⟩ := List.mem_filterMap.mp hd
    exact h d (Array.mem_toList_iff.mpr (Array.mem_of_getElem? hi))
theorem two_words {x : Str} (h : Two x) (n : Int) (i : Nat) : Two ((wordsI x n).getD i Str.empty) := by
  rw [List.getD_eq_getElem?_getD]
  cases q : (wordsI x n)[i]? with
  | none => exact two_empty
  | some y =>
    obtain ⟨j, _, rfl⟩ := List.mem_map.mp (List.mem_of_getElem? q)
    exact (two_slice h _ _).app (two_slice h _ _)
theorem ren_lt {c : Nat} (i : Ink c) {a b : Nat} (ha : a = 32 ∨ a = 97) (hb : b = 32 ∨ b = 97) : (ren c a < ren c b ↔ a < b) ∧ (ren c a = ren c b ↔ a = b) := by
  have := i.lt
  rcases ha with rfl | rfl <;> rcases hb with rfl | rfl <;> simp [ren] <;> omega
theorem lex_ren {c : Nat} (i : Ink c) : ∀ {a b : List Nat}, (∀ d ∈ a, d = 32 ∨ d = 97) → (∀ d ∈ b, d = 32 ∨ d = 97) → (a.map (ren c) < b.map (ren c) ↔ a < b)
  | [], [], _, _ => by simp
  | [], _ :: _, _, _ => by simp
  | _ :: _, [], _, _ => by simp
  | x :: a, y :: b, ha, hb => by
    have ih := lex_ren i (fun d hd => ha d (.tail _ hd)) fun d hd => hb d (.tail _ hd)
    obtain ⟨e1, e2⟩ := ren_lt i (ha x (.head _)) (hb y (.head _))
    rw [List.map_cons, List.map_cons, List.cons_lt_cons_iff, List.cons_lt_cons_iff, e1, e2, ih]
theorem coll_ren {c : Nat} (i : Ink c) {a b : Str} (ha : Two a) (hb : Two b) : collD (mapS (ren c) a) (mapS (ren c) b) = collD a b := by
  unfold collD
  rw [mapS_list, mapS_list]
  simp only [lex_ren i ha hb, lex_ren i hb ha]
theorem places_ren {c : Nat} (i : Ink c) {x : Str} (h : Two x) : placesI (mapS (ren c) x) c = placesI x 97 := by
  unfold placesI
  rw [mapS_len]
  refine List.filter_congr fun j hj => ?_
  have hj' := rangeI_mem hj
  have hl : j.toNat < x.cps.size := by
    have : (x.length : Int) = x.cps.size := rfl
    omega
  have e : x.cps[j.toNat]? = some x.cps[j.toNat] := Array.getElem?_eq_getElem hl
  have e1 : x.cps.getD j.toNat 0 = x.cps[j.toNat] := by rw [Array.getD_eq_getD_getElem?, e]; rfl
  have e2 : (mapS (ren c) x).cps.getD j.toNat 0 = ren c x.cps[j.toNat] := by rw [Array.getD_eq_getD_getElem?, mapS_at, e]; rfl
  rw [e1, e2]
  have := i.lt
  rcases h _ (Array.mem_toList_iff.mpr (Array.getElem_mem hl)) with q | q <;> rw [q] <;> simp [ren] <;> omega
theorem blanks_ren {c : Nat} (i : Ink c) {x : Str} {f b : Nat} (h : Blanks x f b) : Blanks (mapS (ren c) x) f b := by
  obtain ⟨h1, h2, ⟨a, h3, h3'⟩, h4, ⟨b', h5, h5'⟩⟩ := h
  refine ⟨by rw [mapS_len]; exact h1, fun k hk => by rw [mapS_at, h2 k hk]; rfl, ⟨ren c a, by rw [mapS_at, h3]; rfl, fun q => h3' ((i.blank a).mp q)⟩, fun k hk => by rw [mapS_len, mapS_at, h4 k hk]; rfl,
    ⟨ren c b', by rw [mapS_len, mapS_at, h5]; rfl, fun q => h5' ((i.blank b').mp q)⟩⟩
theorem signs_ren {c : Nat} (i : Ink c) {x : Str} (h : ∀ d ∈ x.cps.toList, d ∈ signs) : ∀ d ∈ (mapS (ren c) x).cps.toList, d ∈ signs := fun d hd => by
  rw [mapS_list] at hd
  obtain ⟨e, he, rfl⟩ := List.mem_map.mp hd
  exact i.sign (h e he)
theorem lex_map {c : Nat} (i : Ink c) : ∀ (r t : List Nat) (m : LexMode), lexD m (t.map (ren c)) (r.map (ren c)) = (lexD m t r).map (·.map (·.map (ren c)))
  | [], t, .gap => rfl
  | [], t, .quote => rfl
  | [], t, .word => rfl
  | d :: r, t, .gap => by
    have h1 := lex_map i r [] .gap
    have h2 := lex_map i r [] .quote
    have h3 := lex_map i r [d] .word
    simp only [List.map_cons, lexD, i.blank, i.quo]
    split
    · exact h1
    · split
      · exact h2
      · exact h3
  | d :: r, t, .quote => by
    have h1 := lex_map i r t .word
    have h2 := lex_map i r (t ++ [d]) .quote
    simp only [List.map_cons, lexD, i.quo]
    split
    · exact h1
    · rw [List.map_append] at h2; exact h2
  | d :: r, t, .word => by
    have h1 := lex_map i r [] .gap
    have h2 := lex_map i r t .quote
    have h3 := lex_map i r (t ++ [d]) .word
    simp only [List.map_cons, lexD, i.blank, i.quo]
    split
    · rw [show (lexD .gap [] (r.map (ren c))) = _ from h1]
      cases lexD .gap [] r <;> rfl
    · split
      · exact h2
      · rw [List.map_append] at h3; exact h3
theorem strOf_map (f : Nat → Nat) (l : List Nat) : strOf (l.map f) = mapS f (strOf l) := by simp [strOf, mapS]
theorem split_ren {c : Nat} (i : Ink c) (x : Str) : splitD (mapS (ren c) x) = (splitD x).map (·.map (mapS (ren c))) := by
  unfold splitD
  rw [mapS_list, show lexD .gap [] _ = _ from lex_map i x.cps.toList [] .gap]
  cases lexD .gap [] x.cps.toList with
  | none => rfl
  | some l => simp [Function.comp_def, strOf_map]
theorem fold_map (f : Nat → Nat) (x : Array Nat) : ∀ (k : Nat) (a : Array Nat), (List.replicate k (x.map f)).foldl (· ++ ·) (a.map f) = ((List.replicate k x).foldl (· ++ ·) a).map f
  | 0, a => rfl
  | k + 1, a => by
    rw [List.replicate_succ, List.replicate_succ, List.foldl_cons, List.foldl_cons, ← Array.map_append]
    exact fold_map f x k (a ++ x)
theorem mul_map (f : Nat → Nat) (x : Str) (s : Int) : Txt.mul (mapS f x) s = mapS f (Txt.mul x s) := by
  unfold Txt.mul
  rw [mapS_len]
  split
  · exact (mapS_empty f).symm
  · split
    · rfl
    · have h := fold_map f x.cps s.toNat #[]
      rw [Array.map_empty] at h
      exact congrArg Str.mk h
theorem runs_ren (n rank wide : Int) (c : Nat) : inkRuns n rank wide c = (inkRuns n rank wide 97).map (mapS (ren c)) := by
  unfold inkRuns
  rw [List.map_map]
  refine List.map_congr_left fun s _ => ?_
  show _ = mapS (ren c) (Txt.mul _ s)
  rw [← mul_map, ren_ink]
theorem ok_ren {c : Nat} (i : Ink c) {x : Str} (h : PyData.strOk x = true) : PyData.strOk (mapS (ren c) x) = true := by
  unfold PyData.strOk at h ⊢
  rw [Array.all_eq_true'] at h ⊢
  intro d hd
  obtain ⟨e, he, rfl⟩ := Array.mem_map.mp hd
  have := h e he
  have := i.ok
  unfold ren
  split <;> simp_all
theorem held_ren {wide near : Int} {c : Nat} (i : Ink c) (h : HeldOk wide near 97) : HeldOk wide near c := by
  obtain ⟨h1, h2, h3, h4, h5, h6, h7, h8⟩ := h
  have hT : tickedS wide near ⟨#[c]⟩ = mapS (ren c) (tickedS wide near ⟨#[97]⟩) := tickS_ren _ _ c _
  have two : Two (tickedS wide near ⟨#[97]⟩) := h1 ▸ two_join (two_christ _ _)
  have hW : ∀ k, (wordsI (tickedS wide near ⟨#[c]⟩) (wide + near)).getD k Str.empty = mapS (ren c) ((wordsI (tickedS wide near ⟨#[97]⟩) (wide + near)).getD k Str.empty) := fun k => by rw [hT, words_map, getD_map]
  have tw : ∀ k, Two ((wordsI (tickedS wide near ⟨#[97]⟩) (wide + near)).getD k Str.empty) := fun k => two_words two _ k
  have hl : (wordsI (tickedS wide near ⟨#[c]⟩) (wide + near)).length = (wordsI (tickedS wide near ⟨#[97]⟩) (wide + near)).length := by rw [hT, words_map, List.length_map]
  refine ⟨by rw [hT, h1, christ_ren _ _ c, join_map], by rw [hT, mapS_len]; exact h2, fun k hk => by rw [hW, mapS_len]; exact h3 k hk, fun k m hk hm => by rw [hW, hW, coll_ren i (tw k) (tw m)]; exact h4 k m hk hm, ?_, fun k hk => ?_, fun k hk => ?_, fun k hk => by rw [hW]; exact ok_ren i (h8 k hk)⟩
  · intro k hk hg
    rw [hl] at hk hg ⊢
    obtain ⟨a, b, d, e⟩ := h5 k hk hg
    rw [hW, hW, places_ren i (tw _), places_ren i (tw _)]
    exact ⟨a, b, d, e⟩
  · obtain ⟨a1, a2, a3, a4, a5, a6, a7, a8⟩ := h6 k hk
    rw [hW]
    refine ⟨by rw [mapS_len]; exact a1, blanks_ren i a2, a3, signs_ren i a4, by rw [split_ren i, a5, runs_ren _ _ _ c]; rfl, ?_, by rw [runs_ren _ _ _ c, List.length_map]; exact a7, a8⟩
    rw [runs_ren _ _ _ c, List.all_map]
    rw [List.all_eq_true] at a6 ⊢
    exact fun x hx => ok_ren i (a6 x hx)
  · obtain ⟨b1, b2, b3⟩ := h7 k hk
    rw [hW]
    refine ⟨by rw [mapS_len]; exact b1, ?_, fun d hd => ?_⟩
    · rw [mapS_list]; exact List.mem_map.mpr ⟨32, b2, (i.blank 32).mpr rfl⟩
    · rw [mapS_list] at hd
      obtain ⟨e, he, rfl⟩ := List.mem_map.mp hd
      exact ⟨i.sign (b3 e he).1, fun q => (b3 e he).2 ((i.quo e).mp q)⟩
noncomputable def heldRow (wide : Int) : Bool := [1, 2, 3, 4, 5, 6].all fun near => heldB wide near 97
set_option maxRecDepth 100000
theorem row1 : heldRow 1 = true := by decide +kernel
theorem row2 : heldRow 2 = true := by decide +kernel
theorem row3 : heldRow 3 = true := by decide +kernel
theorem row4 : heldRow 4 = true := by decide +kernel
theorem row5 : heldRow 5 = true := by decide +kernel
theorem row6 : heldRow 6 = true := by decide +kernel
theorem row7 : heldRow 7 = true := by decide +kernel
theorem all_held : AllHeld := by
  intro wide near c h1 h2 hc
  have hr : heldRow wide = true := by
    have : wide = 1 ∨ wide = 2 ∨ wide = 3 ∨ wide = 4 ∨ wide = 5 ∨ wide = 6 ∨ wide = 7 := by omega
    rcases this with rfl | rfl | rfl | rfl | rfl | rfl | rfl
    · exact row1
    · exact row2
    · exact row3
    · exact row4
    · exact row5
    · exact row6
    · exact row7
  have hn : near ∈ [1, 2, 3, 4, 5, 6] := by
    have : near = 1 ∨ near = 2 ∨ near = 3 ∨ near = 4 ∨ near = 5 ∨ near = 6 := by omega
    rcases this with rfl | rfl | rfl | rfl | rfl | rfl <;> simp
  exact held_ren (ink_of hc) (held_of (List.all_eq_true.mp hr near hn))
end Mine

namespace Mine

theorem cps_append (x y : Str) : (x ++ y).cps.toList = x.cps.toList ++ y.cps.toList := by
  show (x.cps ++ y.cps).toList = _
  simp
theorem blank_cps : (Str.ofString " ").cps.toList = [32] := by decide +kernel
theorem quote_cps : (Str.ofString "'").cps.toList = [39] := by decide +kernel
theorem quoteD_cps (x : Str) : (quoteD x).cps.toList = 39 :: (x.cps.toList ++ [39]) := by
  unfold quoteD
  rw [cps_append, cps_append, quote_cps]; simp
theorem strOf_cps (x : Str) : strOf x.cps.toList = x := by cases x; rfl
theorem lex_quote : ∀ (x t r : List Nat), (∀ c ∈ x, c ≠ 39) → lexD .quote t (x ++ 39 :: r) = lexD .word (t ++ x) r
  | [], t, r, _ => by simp [lexD]
  | c :: x, t, r, h => by
    have hc : c ≠ 39 := h c (.head _)
    show (if c = 39 then _ else lexD .quote (t ++ [c]) (x ++ 39 :: r)) = _
    rw [if_neg hc, lex_quote x (t ++ [c]) r (fun d hd => h d (.tail _ hd))]
    simp
theorem join_cps2 (x y : Str) (r : List Str) : (Str.join (Str.ofString " ") (x :: y :: r)).cps.toList = x.cps.toList ++ 32 :: (Str.join (Str.ofString " ") (y :: r)).cps.toList := by
  show (x ++ Str.ofString " " ++ Str.join (Str.ofString " ") (y :: r)).cps.toList = _
  rw [cps_append, cps_append, blank_cps]; simp
theorem lex_again : ∀ (ss : List Str), (∀ x ∈ ss, ∀ c ∈ x.cps.toList, c ≠ 39) → lexD .gap [] (Str.join (Str.ofString " ") (ss.map quoteD)).cps.toList = some (ss.map fun x => x.cps.toList)
  | [], _ => rfl
  | [x], h => by
    show lexD .gap [] (quoteD x).cps.toList = _
    rw [quoteD_cps]
    show (if (39 : Nat) = 32 then _ else if (39 : Nat) = 39 then lexD .quote [] (x.cps.toList ++ [39]) else _) = _
    rw [if_neg (by omega), if_pos rfl, lex_quote _ _ _ (h x (.head _))]
    simp [lexD]
  | x :: y :: r, h => by
    have ih := lex_again (y :: r) (fun z hz => h z (.tail _ hz))
    rw [List.map_cons, List.map_cons, join_cps2, quoteD_cps]
    show (if (39 : Nat) = 32 then _ else if (39 : Nat) = 39 then lexD .quote [] ((x.cps.toList ++ [39]) ++ 32 :: _) else _) = _
    rw [if_neg (by omega), if_pos rfl, List.append_assoc]
    show lexD .quote [] (x.cps.toList ++ 39 :: (32 :: _)) = _
    rw [lex_quote _ _ _ (h x (.head _))]
    show (if (32 : Nat) = 32 then (lexD .gap [] _).map (([] ++ x.cps.toList) :: ·) else _) = _
    rw [if_pos rfl]
    rw [List.map_cons] at ih
    rw [ih]; simp
theorem again_ok : AgainOk := by
  intro ss hn hq
  refine ⟨?_, ?_, ?_⟩
  · unfold splitD
    rw [lex_again ss fun x hx c hc => ((hq x hx).2.2 c hc).2]
    simp only [Option.map_some, List.map_map]
    congr 1
    conv => rhs; rw [← List.map_id ss]
    exact List.map_congr_left fun x _ => strOf_cps x
  · refine Nat.le_trans (join_len_le _ _) ?_
    have hb : (Str.ofString " ").length = 1 := by decide +kernel
    have hq1 : (Str.ofString "'").length = 1 := by decide +kernel
    have : ∀ l : List Str, (∀ x ∈ l, x.length ≤ 20) → ((l.map quoteD).map fun x => x.length + (Str.ofString " ").length).sum ≤ 23 * l.length := by
      intro l
      induction l with
      | nil => intro _; exact Nat.le_refl _
      | cons x r ih =>
        intro h
        have h1 := ih fun y hy => h y (.tail _ hy)
        have h2 := h x (.head _)
        have h3 : (quoteD x).length ≤ 22 := by unfold quoteD; rw [Str.length_append, Str.length_append, hq1]; omega
        rw [List.map_cons, List.map_cons, List.sum_cons, hb, List.length_cons]
        rw [hb] at h1
        omega
    have := this ss fun x hx => (hq x hx).1
    omega
  · have hs : ∀ x ∈ ss.map quoteD, ∀ c ∈ x.cps.toList, c ∈ signs := by
      intro x hx c hc
      obtain ⟨y, hy, rfl⟩ := List.mem_map.mp hx
      rw [quoteD_cps] at hc
      rcases List.mem_cons.mp hc with rfl | hc
      · decide
      · rcases List.mem_append.mp hc with q | q
        · exact ((hq y hy).2.2 c q).1
        · rw [List.mem_singleton.mp q]; decide
    have : ∀ l : List Str, (∀ x ∈ l, ∀ c ∈ x.cps.toList, c ∈ signs) → ∀ c ∈ (Str.join (Str.ofString " ") l).cps.toList, c ∈ signs := by
      intro l
      induction l with
      | nil => intro _ c hc; cases hc
      | cons x r ih =>
        intro h c hc
        cases r with
        | nil => exact h x (.head _) c hc
        | cons y r =>
          rw [join_cps2] at hc
          rcases List.mem_append.mp hc with q | q
          · exact h x (.head _) c q
          · rcases List.mem_cons.mp q with rfl | q
            · decide
            · exact ih (fun z hz => h z (.tail _ hz)) c q
    exact this _ hs
end Mine

namespace Mine
open PySem.Sre

noncomputable def reCode : Array Nat := #[14, 17, 4, 1, 1, 21, 9, 0, 604043296, 1, 0, 0, 0, 0, 0, 8, 4, 0, 13, 14, 21, 9, 0, 604043296, 1, 0, 0, 0, 0, 0, 8, 4, 0, 1]
noncomputable def risky : List Nat := [32, 126, 33, 35]
noncomputable def safes : List Nat := [97, 57]
set_option maxRecDepth 10000
theorem set_yes (c : Nat) (h : c ∈ risky) (seen : Sre.Seen) (i : Nat) (hi : i = 5 ∨ i = 20) : ∃ seen', inSet reCode c 34 i true seen = .ok (true, seen') := by
  simp only [risky, List.mem_cons, List.not_mem_nil, or_false] at h
  rcases h with rfl | rfl | rfl | rfl <;> rcases hi with rfl | rfl <;> exact ⟨_, rfl⟩
theorem set_no (c : Nat) (h : c ∈ safes) (seen : Sre.Seen) : ∃ seen', inSet reCode c 34 5 true seen = .ok (false, seen') := by
  simp only [safes, List.mem_cons, List.not_mem_nil, or_false] at h
  rcases h with rfl | rfl <;> exact ⟨_, rfl⟩

theorem admitted_succ (m : M) (fuel s : Nat) (seen : Sre.Seen) : M.admitted m (fuel + 1) s seen = if s ≥ m.lim then .ok (none, seen) else
    match inSet m.code (m.text.getD s 0) m.code.size 5 true seen with
    | .ok (true, seen) => .ok (some s, seen)
    | .ok (false, seen) => M.admitted m fuel (s + 1) seen
    | .error why => .error why := rfl
theorem admit (T : Array Nat) (m : M) (hm : m.code = reCode) (ht : m.text = T) (hl : m.lim = T.size) (hs : ∀ c ∈ T.toList, c ∈ risky ∨ c ∈ safes) :
    ∀ (fuel s : Nat) (seen : Sre.Seen), T.size < fuel + s → (∃ k, s ≤ k ∧ k < T.size ∧ T.getD k 0 ∈ risky) → ∃ s' seen', M.admitted m fuel s seen = .ok (some s', seen') ∧ s' < T.size ∧ T.getD s' 0 ∈ risky
  | 0, s, seen, hf, ⟨k, h1, h2, _⟩ => by omega
  | fuel + 1, s, seen, hf, ⟨k, h1, h2, h3⟩ => by
    have hlt : ¬ s ≥ m.lim := by rw [hl]; omega
    rw [admitted_succ, if_neg hlt, hm, ht]
    have hmem : T.getD s 0 ∈ T.toList := by
      have : s < T.size := by omega
      simp [Array.getD, this]
    rcases hs _ hmem with q | q
    · obtain ⟨seen', e⟩ := set_yes _ q seen 5 (.inl rfl)
      refine ⟨s, seen', ?_, by omega, q⟩
      rw [show reCode.size = 34 from rfl, e]
    · obtain ⟨seen', e⟩ := set_no _ q seen
      have hne : s ≠ k := by
        rintro rfl
        have a := h3
        simp only [risky, List.mem_cons, List.not_mem_nil, or_false] at a
        simp only [safes, List.mem_cons, List.not_mem_nil, or_false] at q
        omega
      obtain ⟨s', seen'', e', r⟩ := admit T m hm ht hl hs fuel (s + 1) seen' (by omega) ⟨k, by omega, h2, h3⟩
      refine ⟨s', seen'', ?_, r⟩
      rw [show reCode.size = 34 from rfl, e]; exact e'
theorem exec_in (m : M) (hcode : m.code = reCode) (hpc : m.pc = 18) (hpos : m.pos < m.lim) (hc : m.text.getD m.pos 0 ∈ risky) : ∃ seen, m.exec = { m with seen := seen, pc := 33, pos := m.pos + 1 } := by
  obtain ⟨code, text, lim, start, lastStart, wholeText, mustAdvance, pc, pos, handed, outermost, marks, lastmark, lastindex, loops, inner, frames, weight, answer, seen, outcome⟩ := m
  dsimp only at hcode hpc hpos hc
  subst hcode hpc
  obtain ⟨seen', e⟩ := set_yes _ hc (seen.add 13) 20 (.inr rfl)
  refine ⟨seen', ?_⟩
  have e1 : accepts reCode 18 (text.getD pos 0) (seen.add 13) = .ok (true, seen') := e
  have e2 : M.exec ⟨reCode, text, lim, start, lastStart, wholeText, mustAdvance, 18, pos, handed, outermost, marks, lastmark, lastindex, loops, inner, frames, weight, answer, seen, outcome⟩ =
    (let m : M := ⟨reCode, text, lim, start, lastStart, wholeText, mustAdvance, 18, pos, handed, outermost, marks, lastmark, lastindex, loops, inner, frames, weight, answer, seen.add 13, outcome⟩
     if pos ≥ lim then m.say false else
     match accepts reCode 18 (text.getD pos 0) (seen.add 13) with
     | .error why => m.stick why
     | .ok (false, seen) => { m with seen }.say false
     | .ok (true, seen) => { m with seen, pc := m.pc + itemWidth m.code m.pc, pos := m.pos + 1 }) := rfl
  rw [e2, e1]
  dsimp only
  rw [if_neg (by omega)]
  rfl
theorem search_ends (T : Array Nat) (hs : ∀ c ∈ T.toList, c ∈ risky ∨ c ∈ safes) (hk : ∃ k, k < T.size ∧ T.getD k 0 ∈ risky) :
    ∃ m, (forSearch reCode T 0 0 T.size false).runFor 4 = m ∧ m.outcome = some .matched := by
  obtain ⟨k, hk, hu⟩ := hk
  let m0 : M := { code := reCode, text := T, lim := T.size, start := 0, lastStart := T.size, pc := 18, pos := 0, handed := 0, marks := Array.replicate (2 * 0) none, mustAdvance := false, seen := ({} : Sre.Seen).add 14 }
  obtain ⟨s, seen, ha, hlt, hsu⟩ := admit T m0 rfl rfl rfl hs (T.size + 1) 0 (({} : Sre.Seen).add 14) (by omega) ⟨k, by omega, hk, hu⟩
  have e0 : forSearch reCode T 0 0 T.size false = m0.attemptFrom 0 true := by
    show (if 0 > T.size || T.size - 0 < 1 then _ else m0.attemptFrom 0 true) = _
    have h0 : (decide (0 > T.size) || decide (T.size - 0 < 1)) = false := by rw [decide_eq_false (by omega), decide_eq_false (by omega)]; rfl
    rw [h0]; rfl
  have e1 : m0.attemptFrom 0 true = ({ m0 with mustAdvance := false, seen } : M).attemptAt s true := by
    show (match M.admitted m0 (T.size + 1 - 0) 0 (({} : Sre.Seen).add 14) with | .ok (some s, seen) => _ | .ok (none, seen) => _ | .error why => _) = _
    rw [Nat.sub_zero, ha]
  rw [e0, e1]
  generalize hM : ({ m0 with mustAdvance := false, seen } : M).attemptAt s true = M1
  have f1 : M1 = { m0 with mustAdvance := false, seen, start := s, pos := s, handed := s, outermost := true, lastmark := -1, lastindex := -1, frames := [{ wait := .nextStart, pc := 18, pos := s, outermost := true }], weight := 1 } := by rw [← hM]; rfl
  have s1 : M1.step = M1.exec := by rw [f1]; rfl
  obtain ⟨seen2, x1⟩ := exec_in M1 (by rw [f1]) (by rw [f1]) (by rw [f1]; exact hlt) (by rw [f1]; exact hsu)
  have r : M1.runFor 4 = (M1.step).runFor 3 := by rw [f1]; rfl
  rw [r, s1, x1, f1]
  exact ⟨_, rfl, rfl⟩
end Mine

namespace Mine
open PySem.Builtin.Re

noncomputable def reCodeV : Array Value := #[.int 14 0, .int 17 0, .int 4 0, .int 1 0, .int 1 0, .int 21 0, .int 9 0, .int 0 0, .int 604043296 0, .int 1 0, .int 0 0, .int 0 0, .int 0 0, .int 0 0, .int 0 0, .int 8 0, .int 4 0, .int 0 0, .int 13 0, .int 14 0, .int 21 0, .int 9 0, .int 0 0, .int 604043296 0, .int 1 0, .int 0 0, .int 0 0, .int 0 0, .int 0 0, .int 0 0, .int 8 0, .int 4 0, .int 0 0, .int 1 0]
set_option maxRecDepth 100000
section
variable {prog : Program} {w : World} {A : Around} {E : Value → Shared → Prop} {s : Shared}
theorem re_named {x : Str} {t : Tok} : reNamed "re.Pattern.search" "search" ["string", "pos", "endpos"] 1 [.str x t] [] = pure [some (.str x t), none, none] := rfl
theorem re_textOf {x : Str} {t : Tok} : reTextOf (.str x t) = pure (x.cps, 0) := rfl
theorem say_all (p : Nat → Bool) (f : Nat → String) : ∀ (l : List Nat) {Q : PUnit → Shared → Prop} {s : Shared}, Q ⟨⟩ s → wpAny (model prog w) A (forIn l PUnit.unit fun i _ =>
      if p i = true then do
        rule (f i)
        pure (ForInStep.yield PUnit.unit)
      else pure (ForInStep.yield PUnit.unit)) Q E s
  | [], _, _, h => wpAny_pure h
  | a :: l, Q, s, h => by
    rw [List.forIn_cons]
    refine wpAny_bind ?_
    by_cases q : p a = true
    · rw [if_pos q]
      exact wpAny_bind (wpAny_rule (wpAny_pure (say_all p f l h)))
    · rw [if_neg q]
      exact wpAny_pure (say_all p f l h)
theorem run_to_end {T : Array Nat} {Q : Option Sre.M → Shared → Prop} (hs : ∀ c ∈ T.toList, c ∈ risky ∨ c ∈ safes) (hk : ∃ k, k < T.size ∧ T.getD k 0 ∈ risky) (h : ∀ m, Q (some m) s) :
    wpAny (model prog w) A (reRunToEnd (Sre.forSearch reCode T 0 0 T.size false)) Q E s := by
  obtain ⟨m, hm, ho⟩ := search_ends T hs hk
  have e : reDrive (2 ^ 64) (Sre.forSearch reCode T 0 0 T.size false) = pure m := by
    show (let m := (Sre.forSearch reCode T 0 0 T.size false).runFor 4; if m.outcome.isSome = true then pure m else _) = _
    dsimp only
    rw [hm, if_pos (by rw [ho]; rfl)]
  unfold reRunToEnd
  rw [e]
  refine wpAny_bind (wpAny_pure (wpAny_bind ?_))
  refine say_all _ _ _ ?_
  rw [ho]
  exact wpAny_pure (h m)
theorem search_body {x : Str} {t : Tok} {v0 v1 : Value} {sl sl' : Array (Option Value)} {d d' : Option Addr} {n : Nat} {Q : Fin → Shared → Prop} (h70 : s.heap.get? 70 = some ⟨.type "re.Pattern", d, .fields #[v0, v1, .int 0 0, .none, .none, .ref 69, .int 0 0], sl⟩)
    (h69 : s.heap.get? 69 = some ⟨.type "tuple", d', .seq reCodeV n, sl'⟩) (hs : ∀ c ∈ x.cps.toList, c ∈ risky ∨ c ∈ safes) (hk : ∃ k, k < x.cps.size ∧ x.cps.getD k 0 ∈ risky) (hx : x.cps.size ≤ 1000)
    (h : ∀ a s', Keeps s s' → Q (.done (.ret (.ref a))) s') :
    wpAny (model prog w) A (Builtin.«re.Pattern.search» ⟨[.ref 70, .str x t], []⟩) Q E s := by
  have ht : wpAny (model prog w) A (reTarget "re.Pattern.search" "search" ⟨[.ref 70, .str x t], []⟩) (fun r s' => r = ⟨.ref 70, .str x t, reCode, x.cps, 0, 0, 0, x.cps.size⟩ ∧ s' = s) E s := by
    unfold reTarget
    refine wpAny_bind (wpAny_of_eq re_named ?_)
    refine wpAny_bind (wpAny_pure ?_)
    refine wpAny_bind (wpAny_pure ?_)
    show wpAny _ A (fieldsOf (Value.ref 70) >>= fun fs => _) _ E s
    refine wpAny_bind ?_
    unfold fieldsOf
    refine wpAny_bind (wpAny_load h70 (wpAny_pure ?_))
    refine wpAny_bind (wpAny_of_eq re_textOf ?_)
    show wpAny _ A (reNoCollectionInside (.str x t) 0 >>= fun _ => reRawItems (.ref 69) >>= fun l => pure (ReTarget.mk (.ref 70) (.str x t) (l.map (fun i => i.toNat)) x.cps 0 0 (min (0 : Int).toNat x.cps.size) (min (2 ^ 63 - 1 : Int).toNat x.cps.size))) _ E s
    refine wpAny_bind (wpAny_pure (wpAny_bind ?_))
    unfold reRawItems
    refine wpAny_bind ?_
    unfold seqItems?
    refine wpAny_bind (wpAny_load h69 (wpAny_pure (wpAny_pure (wpAny_pure ⟨?_, rfl⟩))))
    have e1 : (reCodeV.map reRawOf).map (fun i => i.toNat) = reCode := by decide +kernel
    have e2 : min (2 ^ 63 - 1 : Int).toNat x.cps.size = x.cps.size := Nat.min_eq_right (by show x.cps.size ≤ 9223372036854775807; omega)
    have e3 : min (0 : Int).toNat x.cps.size = 0 := Nat.min_eq_left (Nat.zero_le _)
    rw [e2, e3]
    show ReTarget.mk _ _ ((reCodeV.map reRawOf).map (fun i => i.toNat)) _ _ _ _ _ = _
    rw [e1]
  unfold Builtin.«re.Pattern.search»
  refine wpAny_bind (wpAny_mono ht (fun r s' h' => ?_) fun _ _ e => e)
  obtain ⟨rfl, rfl⟩ := h'
  unfold reAnswer
  refine wpAny_bind (run_to_end hs hk fun m => ?_)
  show wpAny _ A ((newTuple [rawInt m.start, rawInt m.handed] >>= fun tp => newFields "re.Match" [.str x t, .ref 70, rawInt 0, rawInt x.cps.size, rawInt m.lastindex, tp]) >>= fun v => ret v) _ E s'
  refine wpAny_bind (wpAny_bind (wpAny_newTuple ?_))
  unfold newFields
  refine wpAny_newObj_type (wpAny_pure ?_)
  exact h _ _ (keeps_trans (keeps_push s' _ s'.toks) (keeps_push _ _ s'.toks))
end
end Mine

namespace Mine
set_option maxRecDepth 100000
section
variable {prog : Program} {w : World} {A : Around} {E : Value → Shared → Prop} {s : Shared}
noncomputable def searchSig : Manifest.Signature := ⟨.keywords, "Pattern.search", "search", .self, [⟨"string", .posOrKw, true⟩, ⟨"pos", .posOrKw, false⟩, ⟨"endpos", .posOrKw, false⟩]⟩
theorem sig_search : Manifest.signature? "re.Pattern.search" = some searchSig := by kernel_rfl
theorem kind_search : builtinKind "re.Pattern.search" = some .method := by kernel_rfl
theorem entry_search : entryFor table "re.Pattern.search" = some Builtin.«re.Pattern.search» := entryFor_of_tree (by kernel_rfl)
theorem sub_module : isSubtype (.type "re.Pattern") (.type "module") = pure false := by kernel_rfl
theorem args_search {x : Str} {t : Tok} : Bind.checkArgs "re.Pattern.search" { searchSig with full := s!"{Bind.lastOf "re.Pattern"}.{Bind.lastOf "re.Pattern.search"}" } ⟨[.ref 70, .str x t], []⟩ = pure () := by kernel_rfl
theorem vararg_search : Manifest.varargsMethods.contains "re.Pattern.search" = false := by kernel_rfl
theorem plain_search : plainId "re.Pattern.search" = true := by decide +kernel
theorem call_search {x : Str} {t : Tok} {v0 v1 : Value} {sl sl' sl'' : Array (Option Value)} {d d' d'' : Option Addr} {n : Nat} {Q : Value → Shared → Prop} (h773 : s.heap.get? 773 = some ⟨.type "builtin_function_or_method", d'', .fields #[.builtin "re.Pattern.search", .ref 70], sl''⟩)
    (h70 : s.heap.get? 70 = some ⟨.type "re.Pattern", d, .fields #[v0, v1, .int 0 0, .none, .none, .ref 69, .int 0 0], sl⟩)
    (h69 : s.heap.get? 69 = some ⟨.type "tuple", d', .seq reCodeV n, sl'⟩) (hs : ∀ c ∈ x.cps.toList, c ∈ risky ∨ c ∈ safes) (hk : ∃ k, k < x.cps.size ∧ x.cps.getD k 0 ∈ risky) (hx : x.cps.size ≤ 1000)
    (h : ∀ a s', Keeps s s' → Q (.ref a) s') : wpAny (model prog w) A (call (.ref 773) [.str x t]) Q E s := by
  refine wpAny_call (codeAny_of_tree ?_)
  show wpAny _ (A.under (.call (.ref 773) ⟨[.str x t], []⟩)) (callAny (.ref 773) ⟨[.str x t], []⟩) _ _ s
  unfold callAny
  refine wpAny_bind (wpAny_load h773 ?_)
  show wpAny _ _ (checkBoundCall "re.Pattern.search" ⟨[.ref 70, .str x t], []⟩ >>= fun _ => again (.builtin "re.Pattern.search" ⟨[.ref 70, .str x t], []⟩)) _ _ s
  refine wpAny_bind ?_
  have hT : s.TypeIs (.ref 70) "re.Pattern" := ⟨_, h70, rfl⟩
  unfold checkBoundCall
  simp only [sig_search, kind_search]
  rw [if_neg (by decide)]
  refine wpAny_bind (wpAny_isInstance hT sub_module ?_)
  rw [vararg_search, if_neg (by decide)]
  refine wpAny_bind ?_
  obtain ⟨hp, g, dd, tt, os⟩ := s
  refine ks_wpAny_isType_inst h70 (fun c q => by cases q) ?_
  rw [if_neg (by decide)]
  refine wpAny_bind (wpAny_typeOf hT ?_)
  refine wpAny_of_eq args_search ?_
  refine wpAny_pure (And.intro (Code.quiet_builtin _ (by decide +kernel)) (codeAny_builtin entry_search ?_))
  exact search_body h70 h69 hs hk hx h
end
end Mine

namespace Mine
section
variable {M : Model} {A : Around} {E : Value → Shared → Prop} {s : Shared}
theorem callWith_bound {pos : Pos} {a : Addr} {o : Obj} {vs : Array Value} {first : List Value} {args : List (Bool × Sem Value)} {Q : Value → Shared → Prop} (hplain : args.any (·.1) = false)
    (h : wpAny M A (evalArgs (.ref a) true args []) (fun x s₁ => (s₁.heap.get? a = some o ∧ o.data = .fields vs ∧ o.cls = .type "builtin_function_or_method") ∧ wpAny M A (call (.ref a) (first ++ x.pos) x.kw) Q E s₁) E s) :
    wpAny M A (callWith pos (.ref a) first args []) Q E s := by
  unfold callWith
  refine wpAny_bind (wpAny_holding (wpAny_mono h (fun x s₁ h₁ => wpAny_bind (wpAny_standAt ?_)) fun _ _ x => x))
  have tail : ∀ {t : Sem Value}, wpAny M A t Q E s₁ → wpAny M A (t >>= fun r => holding [r] point >>= fun _ => pure r) Q E s₁ :=
    fun ht => wpAny_bind (wpAny_mono ht (fun r s₂ hr => wpAny_bind (wpAny_holding (wpAny_point (wpAny_pure hr)))) fun _ _ x => x)
  simp only [hplain, List.any_nil, Bool.or_false]
  refine wpAny_bind (m := keeperOf (.ref a)) ?_
  unfold keeperOf
  refine wpAny_bind (wpAny_load h₁.1.1 ?_)
  rw [h₁.1.2.1]
  dsimp only
  rw [h₁.1.2.2, if_pos (by decide)]
  refine wpAny_pure ?_
  rw [if_pos (by decide)]
  exact tail h₁.2
end
open PySem.Builtin.Str in
theorem occ_none_of {x : Str} {c : Nat} (h : c ∉ x.cps.toList) : occurrences x ⟨#[c]⟩ 0 x.length (x.length + 1) = [] := by
  have h1 := StrLaws.found_one x c
  rw [decide_eq_false h] at h1
  rcases StrLaws.occ_head x ⟨#[c]⟩ (x.length + 1) (by omega) with ⟨e, _⟩ | ⟨i, r, _, hi, _⟩
  · exact e
  · rcases StrLaws.occ_head x ⟨#[c]⟩ 1 (by omega) with ⟨_, hn⟩ | ⟨i', r', e, _⟩
    · exact absurd hi (hn i)
    · rw [e] at h1; cases h1
section
variable {prog : Program} {w : World} {A : Around} {env : Env} {ρ : List (Str × PyData)} {J : Shared → Prop} {R : Shared → Shared → Prop} {a b d : PyData} {l r e : Expr} {pos p np : Pos}
theorem ev_replace (md : Md env ρ J R) {o e₁ e₂ : Expr} {x z : Str} {c : Nat} {apos : Pos} (hl : EvP prog w A env J R o (.str x)) (h1 : EvP prog w A env J R e₁ (.str ⟨#[c]⟩)) (h2 : EvP prog w A env J R e₂ (.str z)) (hc : c ∉ x.cps.toList)
    (hbase : attributeBase o "replace" env (eval o env) = eval o env) (hs : starEach [e₁, e₂] env = [(false, eval e₁ env), (false, eval e₂ env)]) (hline : (apos.endLine == pos.line) = true) :
    EvP prog w A env J R (.Call (.Attribute o "replace" apos) [e₁, e₂] [] pos) (.str x) := by
  intro s E hJ
  refine Call_method2 hbase hs hline (wpAny_mono (hl s E hJ) (fun v s₁ h₁ => ?_) fun _ _ e => e)
  have J₁ := md.inv _ _ hJ h₁.2
  obtain ⟨hv, hR⟩ := h₁
  cases hv
  refine ⟨"str", "str.replace", PySem.F.plainAttrs_str, PySem.F.slot_str_replace, PySem.F.type_str_replace, typeIs_str _ _ _, (fun _ e => nomatch e), ?_⟩
  refine Calls.callWith_builtin rfl (Calls.evalArgs_plain (Calls.spliced_cons (wpAny_mono (h1 s₁ E J₁) (fun u s₂ h₂ => Calls.spliced_cons ?_) fun _ _ e => e)))
  have J₂ := md.inv _ _ J₁ h₂.2
  refine wpAny_mono (h2 s₂ E J₂) (fun u' s₃ h₃ => Calls.spliced_nil ?_) fun _ _ e => e
  have J₃ := md.inv _ _ J₂ h₃.2
  obtain ⟨hu, hR2⟩ := h₂
  obtain ⟨hu', hR3⟩ := h₃
  cases hu
  cases hu'
  have he := occ_none_of hc
  refine call_gives PySem.F.slot_str_replace (typeIs_str _ _ _) PySem.F.entry_str_replace (PySem.F.args_str_replace_3 _ _ _) (gives_str_replace x ⟨#[c]⟩ z _ _ _ (fun q => by rw [he] at q; cases q)) ?_
  rw [he, if_pos (by rfl)]
  exact ⟨.str _ _, md.trans _ _ _ (md.trans _ _ _ hR hR2) hR3⟩
theorem tv_search (md : Md env ρ J R) {x : Str} (hx : NmP prog w A env J "_find_unsafe" (.ref 773)) (hl : EvP prog w A env J R e (.str x)) {k : Nat} {p2 pos2 : Pos} {v0 v1 : Value} {sl sl' sl'' : Array (Option Value)} {d d' d'' : Option Addr} {n : Nat}
    (h773 : ∀ s, J s → s.heap.get? 773 = some ⟨.type "builtin_function_or_method", d'', .fields #[.builtin "re.Pattern.search", .ref 70], sl''⟩)
    (h70 : ∀ s, J s → s.heap.get? 70 = some ⟨.type "re.Pattern", d, .fields #[v0, v1, .int 0 0, .none, .none, .ref 69, .int 0 0], sl⟩)
    (h69 : ∀ s, J s → s.heap.get? 69 = some ⟨.type "tuple", d', .seq reCodeV n, sl'⟩) (hq : Quotable x)
    (ht : backTo pos (starEach [e] env) = [(false, eval e env)]) :
    EvT prog w A env J R (.Compare (.Call (.Name "_find_unsafe" np) [e] [] pos) [.Is] [.Constant .none k p2] pos2) false := by
  intro s E hJ
  refine wpAny_isTrue_Compare1 ?_ rfl
  refine Call_Name ht (hx _ s _ E hJ ?_)
  refine callWith_bound (vs := #[.builtin "re.Pattern.search", .ref 70]) (o := ⟨.type "builtin_function_or_method", d'', .fields #[.builtin "re.Pattern.search", .ref 70], sl''⟩) rfl (Calls.evalArgs_plain (Calls.spliced_cons (wpAny_mono (hl s E hJ) (fun u s₁ h₁ => Calls.spliced_nil ?_) fun _ _ e => e)))
  have J₁ := md.inv _ _ hJ h₁.2
  obtain ⟨hu, hR⟩ := h₁
  cases hu
  refine ⟨⟨h773 _ J₁, rfl, rfl⟩, ?_⟩
  obtain ⟨q1, q2, q3⟩ := hq
  refine call_search (h773 _ J₁) (h70 _ J₁) (h69 _ J₁) (fun c hc => ?_) ?_ (by show x.length ≤ 1000; omega) fun m s₂ hk => ?_
  · obtain ⟨h1, h2⟩ := q3 c hc
    simp only [signs, List.mem_cons, List.not_mem_nil, or_false] at h1
    simp only [risky, safes, List.mem_cons, List.not_mem_nil, or_false]
    omega
  · obtain ⟨i, hi, he⟩ := List.mem_iff_getElem.mp q2
    exact ⟨i, by simpa using hi, by simp at hi he; simp [Array.getD, hi, he, risky]⟩
  · rw [eval_Constant]
    refine wpAny_pure ?_
    refine is_none_ne (by simp) ?_
    exact wpAny_truthy_bool ⟨rfl, md.trans _ _ _ hR (md.keeps _ _ J₁ hk)⟩
end

set_option maxRecDepth 100000 in
theorem fn_quote (w : World) (x : Str) (hq : Quotable x) : FnK PySem.Challenge.rw_oy0388_01.prog w (hd.heap_39 w.params) 780 4 [.str x] (.str (quoteD x)) := by
  have hlen : x.length ≠ 0 := by
    intro h
    obtain ⟨i, hi, he⟩ := List.mem_iff_getElem.mp hq.2.1
    have : x.cps.toList.length = x.length := by simp [Str.length]
    omega
  have h39 : 39 ∉ x.cps.toList := fun h => (hq.2.2 39 h).2 rfl
  have hl20 := hq.1
  have hq1 : (Str.ofString "'").length = 1 := by decide +kernel
  k_fill
  refine' fnK_intro (ns := ["s"]) ?ho ?hcd ?hlen ?hbind ?hkind ?hnd ?hco ?hgen ?hk ?hbody
  case ho => k_is
  case hcd => k_is
  case hlen => rfl
  case hbind => (intro vs hv; rcases vs with _ | ⟨v1, _ | ⟨v2, _ | ⟨v3, _ | ⟨v4, _ | ⟨v5, _ | ⟨v6, vs⟩⟩⟩⟩⟩⟩ <;> first | rfl | (simp at hv; done))
  case hkind => decide +kernel
  case hnd => decide +kernel
  case hco => rfl
  case hgen => rfl
  case hk => rfl
  intro base A L W a
  refine exk_if_no rfl (tv_not (c := true) (tv_ok (keMd rfl) (ev_name (keMd rfl) rfl rfl) (by simp only [trD]; rw [if_pos (by omega), decide_eq_true hlen]) (fun _ => rfl))) ?_
  refine exk_if_no rfl (tv_search (keMd rfl) (nmK_global W rfl rfl rfl (by k_is) rfl) (ev_name (keMd rfl) rfl rfl) (fun s hJ => W.at hJ.2 (by k_is)) (fun s hJ => W.at hJ.2 (by k_is)) (fun s hJ => W.at hJ.2 (by k_is)) hq rfl) ?_
  refine exk_return rfl (ev_bin (keMd rfl) (ev_bin (keMd rfl) (ev_str (keMd rfl)) (ev_replace (keMd rfl) (c := 39) (ev_name (keMd rfl) rfl rfl) (ev_str (keMd rfl)) (ev_str (keMd rfl)) h39 rfl rfl rfl) (add_str (by rw [hq1]; omega))) (ev_str (keMd rfl)) (add_str (by rw [Str.length_append, hq1]; omega)))
end Mine

namespace Mine

theorem strs_get {h : Heap} {vs : List Value} {ss : List Str} (r : DtAll h vs (ss.map .str)) {i : Nat} {v : Value} (hv : vs.toArray[i]? = some v) : i < ss.length ∧ ∃ t, v = .str (ss.getD i Str.empty) t := by
  have hv' : vs[i]? = some v := by simpa using hv
  obtain ⟨d, hd, hq⟩ := DtAll.getV r hv'
  have hl : i < ss.length := by
    have := (List.getElem?_eq_some_iff.mp hd).1
    simpa using this
  have : d = .str (ss.getD i Str.empty) := by
    simp [hl] at hd
    rw [← hd]; simp [List.getD, hl]
  subst this
  cases hq
  exact ⟨hl, _, rfl⟩
theorem passing_all (n i : Nat) : passing (fun _ => true) n i = (List.range n).drop i := by
  unfold passing; exact List.filter_eq_self.mpr fun _ _ => rfl
theorem gens_grow {g₀ g₁ : Array GenState} {gs : GenState} (hb : gs.bare = true) (h : GenOnlyQ g₀.size (g₀.push gs) g₁) : GenX g₀ g₁ := by
  rcases h with rfl | ⟨⟨hs, hk⟩, hx⟩
  · exact ⟨#[gs], by simp, fun y hy => by simp at hy; subst hy; exact hb⟩
  · have hsz : g₁.size = g₀.size + 1 := by rw [hs]; simp
    obtain ⟨x, hx1⟩ : ∃ x, g₁[g₀.size]? = some x := ⟨g₁[g₀.size], by simp [hsz]⟩
    refine ⟨#[x], ?_, fun y hy => by simp at hy; subst hy; exact hx _ hx1⟩
    apply Array.ext_getElem?
    intro i
    rw [Array.getElem?_append]
    by_cases q : i < g₀.size
    · rw [if_pos q, hk i (by omega), Array.getElem?_push_lt q]; simp [q]
    · rw [if_neg q]
      by_cases e : i = g₀.size
      · subst e; rw [hx1]; simp
      · have h1 : g₁[i]? = none := Array.getElem?_eq_none (by omega)
        have h2 : (#[x] : Array GenState)[i - g₀.size]? = none := Array.getElem?_eq_none (by simp; omega)
        rw [h1, h2]
theorem join_eq (sep : Str) (ss : List Str) : Txt.join sep ss = Str.join sep ss := StrLaws.glued_eq_join sep ss
theorem items_eq {ss : List Str} {l : List (Str × Tok)} {n : Nat} (hn : n = ss.length) (h : ItemsOf (fun j y => ∃ i, (passing (fun _ => true) n 0)[j]? = some i ∧ ∃ u, y = Value.str (quoteD (ss.getD i Str.empty)) u) (strValues l).toArray n) :
    l.map (·.1) = ss.map quoteD := by
  subst hn
  obtain ⟨h1, h2⟩ := h
  have hlen : l.length = ss.length := by simpa [strValues] using h1
  apply List.ext_getElem (by simp [hlen])
  intro i hi hi'
  have hil : i < l.length := by simpa using hi
  have his : i < ss.length := by omega
  obtain ⟨k, hk, u, e⟩ := h2 i (.str (l[i].1) (l[i].2)) (by simp [strValues, hil])
  rw [passing_all] at hk
  simp [his] at hk
  subst hk
  injection e with e1 _
  simp [List.getD, his] at e1
  simp [e1]

section
variable {prog : Program} {w : World} {K : Frag} {A : Around} {base : Heap} {outer : List Env} {env : Env} {s₀ : Shared}
theorem table_now (W : Wd K base) {h : Heap} (st : KeepF [] base h) : ∃ ps : Array Value, h.get? 767 = some { cls := .none, data := .fields ps } ∧ TriplesOk ps.toList := by
  obtain ⟨more, e, q⟩ := (st _ _ W.tab).2.2 _ rfl rfl rfl
  refine ⟨#[] ++ more, e, ?_⟩
  simpa using q
theorem gen_code {s : Shared} {E : Value → Shared → Prop} {Q : Value → Shared → Prop} {pos : Pos} {q : Str} {scope : Scope} {vs : Array Value} {oc : Obj} {file : Str} {tf tg tt : Tok} {flags text : Int} {inF : Bool} {ps : Array Value} (hc : env.code = .ref 771)
    (h771 : s.heap.get? 771 = some oc) (hcls : oc.cls = .type "code") (hd : oc.data = .fields vs) (h11 : vs[11]? = some (.ref 767)) (h18 : vs.getD 18 .none = .str file tf) (h7 : vs.getD 7 .none = .int flags tg) (h9 : vs.getD 9 .none = .bool inF) (h10 : vs.getD 10 .none = .int text tt)
    (h767 : s.heap.get? 767 = some { cls := .none, data := .fields ps }) (hps : TriplesOk ps.toList)
    (hQ : ∀ v h' tk, (∀ fs, KeepF fs s.heap h') → (∀ b o, b ≠ 767 → s.heap.get? b = some o → h'.get? b = some o) → Q v { s with heap := h', toks := tk }) :
    wpAny (model prog w) A (genexprCode env pos q scope) Q E s := by
  have hok : s.heap.IsCode 771 767 ps := ⟨oc, vs, file, tf, flags, tg, inF, text, tt, _, h771, hd, by rw [Array.getD_eq_getD_getElem?, h11]; rfl, h18, h7, h9, h10, h767, rfl, hps, by decide⟩
  have htab : s.heap.TableAt 771 767 ps := ⟨⟨oc, vs, h771, hcls, hd, h11⟩, h767⟩
  cases hf : codeAmong pos ps.toList with
  | some c' => exact wpAny_genexprCode_hit hc hok hf (hQ c' s.heap s.toks (fun fs => .of_keeps fun _ _ e => e) fun _ _ _ e => e)
  | none =>
    refine wpAny_genexprCodeX hc hok htab hf fun c' h' tk hx _ _ _ _ ht _ => hQ _ h' tk (fun fs b o e => ?_) hx
    refine ⟨fun _ t => ?_, fun _ t => ?_, fun vs' hb hc' hd' => ?_⟩
    · by_cases q : b = 767
      · subst q; rw [h767] at e; cases e; exact absurd ⟨rfl, rfl, _, rfl⟩ t
      · exact hx b o q e
    · by_cases q : b = 767
      · subst q; rw [h767] at e; cases e; exact absurd ⟨rfl, rfl, _, rfl⟩ t
      · exact ⟨o.slots, hx b o q e⟩
    · subst hb
      rw [h767] at e; cases e; cases hd'
      exact ⟨_, ht.2, trivial⟩
end
theorem joinOk_of {sep : Str} {ss : List Str} (h : (ss.map fun x => x.length + sep.length).sum ≤ 1000) : PySem.JoinOk sep ss = true := by
  have key : ∀ (l : List Str) (a : Nat), l.toArray.foldl (· + ·.length + sep.length) a = a + (l.map fun x => x.length + sep.length).sum := by
    intro l
    induction l with
    | nil => intro a; simp
    | cons p r ih =>
      intro a
      simp only [List.foldl_toArray, List.map_cons, List.foldl_cons, List.sum_cons] at ih ⊢
      rw [ih]; omega
  unfold PySem.JoinOk
  rw [key]
  simp [Builtin.Str.tooLong, sizeLine]
  omega
theorem sum_quotes {ss : List Str} (h : ∀ x ∈ ss, x.length ≤ 20) : ((ss.map quoteD).map fun x => x.length + (Str.ofString " ").length).sum ≤ 23 * ss.length := by
  have hb : (Str.ofString " ").length = 1 := by decide +kernel
  have hq1 : (Str.ofString "'").length = 1 := by decide +kernel
  induction ss with
  | nil => exact Nat.le_refl _
  | cons x r ih =>
    have h1 := ih fun y hy => h y (.tail _ hy)
    have h2 := h x (.head _)
    have h3 : (quoteD x).length ≤ 22 := by unfold quoteD; rw [Str.length_append, Str.length_append, hq1]; omega
    rw [List.map_cons, List.map_cons, List.sum_cons, hb, List.length_cons]
    rw [hb] at h1
    omega
theorem moved_go {fs : List Addr} {s₂ s' : Shared} {g : Array GenState} {gs : GenState} {tk k : Nat} {h₅ : Heap} {C : Addr} {wr : List Addr} (hb : gs.bare = true) (k1 : KeepF fs s₂.heap h₅)
    (hL : ∀ b ∈ C :: wr, s₂.heap.get? b = none) (hg : g = s₂.gens) (hm : Moved (C :: wr) (GenOnlyQ g.size) { s₂ with heap := h₅, toks := tk, gens := g.push gs } s') : Go fs s₂ { s' with toks := k } := by
  subst hg
  obtain ⟨hp, g', dr, tk', os⟩ := s'
  obtain ⟨m1, m2, m3, m4, _⟩ := hm
  dsimp only at m1 m2 m3 m4
  subst m3 m4
  exact ⟨hp, k, g', rfl, k1.butL m1 hL, gens_grow hb m2⟩
set_option maxRecDepth 100000 in
theorem join_holds (w : World) : JoinOk w := by
  intro ss hn hq
  k_fill
  refine' fn_intro (ns := ["split_command"]) ?ho ?hcd ?hlen ?hbind ?hkind ?hnd ?hco ?hgen ?hk ?hbody
  case ho => k_is
  case hcd => k_is
  case hlen => rfl
  case hbind => (intro vs hv; rcases vs with _ | ⟨v1, _ | ⟨v2, _ | ⟨v3, _ | ⟨v4, _ | ⟨v5, _ | ⟨v6, vs⟩⟩⟩⟩⟩⟩ <;> first | rfl | (simp at hv; done))
  case hkind => decide +kernel
  case hnd => decide +kernel
  case hco => rfl
  case hgen => rfl
  case hk => rfl
  intro base outer A s₀ L W a
  intro s E hJ
  refine wpAny_execs_cons (wpAny_Return_some ?_)
  refine Call_method1 rfl rfl rfl (wpAny_mono (ev_str (frMd rfl) s _ hJ) (fun sv s₁ h₁ => ?_) fun _ _ e => e)
  have J₁ := (frMd rfl).inv _ _ hJ h₁.2
  obtain ⟨hsv, hR₁⟩ := h₁
  cases hsv
  refine ⟨"str", "str.join", PySem.F.plainAttrs_str, PySem.F.slot_str_join, PySem.F.type_str_join, typeIs_str _ _ _, (fun _ e => nomatch e), ?_⟩
  refine Calls.callWith_builtin rfl (Calls.evalArgs_plain (Calls.spliced_cons ?_))
  refine wpAny_GeneratorExp_walksQD a.handled rfl rfl (by decide +kernel) rfl rfl rfl (by have := a.depth; omega) (wpAny_mono ((ev_name (frMd rfl) rfl rfl) s₁ E J₁) (fun lv s₂ h₂ => ?_) fun _ _ e => e) (fun _ => rfl)
  have J₂ := (frMd rfl).inv _ _ J₁ h₂.2
  obtain ⟨hlv, hR₂⟩ := h₂
  cases hlv with
  | @list l vs _ hl r =>
  have hvl : vs.length = ss.length := by have := r.length; simpa using this
  refine wpAny_pyIter_list hl.isList ?_
  obtain ⟨p, loose, mg, mb, T⟩ := W.T
  have st₂ := J₂.2.stay
  obtain ⟨ps, h767, hps⟩ := table_now W st₂
  have NL₂ := noLimit_keepF st₂ T.nolimit
  have hli : l < s₂.heap.objs.size := by obtain ⟨_, e, _⟩ := hl; exact Heap.lt_size e
  have kpush : ∀ b o, s₂.heap.get? b = some o → (s₂.heap.push { cls := .type "list_iterator", data := .fields #[.ref l, .int 0 0] }).get? b = some o := fun _ _ e => Heap.get?_push_of_some _ e
  refine ⟨NL₂.keeps kpush, ?_⟩
  refine gen_code rfl (kpush _ _ (W.at st₂ (by k_is))) rfl rfl rfl rfl rfl rfl rfl (kpush _ _ h767) hps (fun code h₃ tk₃ kf kx => ?_)
  have st₃ : KeepF [] base h₃ := st₂.trans ((KeepF.of_keeps kpush).trans (kf []))
  obtain ⟨mg', bm, ob, b1, b2, b3, b4, b5, b6, b7⟩ := W.bmain
  refine wpAny_builtinsFor (st₃.ns b1) b2 b3 ((st₃ _ _ b4).1 (fun q => by cases q) (noTab_cls (by rw [b5]; simp))) b5 b6 b7 ?_
  have noneI : ∀ b, s₂.heap.objs.size ≤ b → s₂.heap.get? b = none := fun b hb => by
    cases e : s₂.heap.get? b with
    | none => rfl
    | some o => exact absurd (Heap.lt_size e) (Nat.not_lt.mpr hb)
  have hIter : h₃.get? s₂.heap.objs.size = some { cls := .type "list_iterator", data := .fields #[.ref l, .int 0 0] } :=
    (kf [] _ _ (Heap.get?_push_size _ rfl)).1 (fun q => by cases q) (noTab_cls (by simp))
  have hList : h₃.IsList l vs.toArray := by
    obtain ⟨o, ho, hc, _, n, hd⟩ := hl
    exact ⟨o, (kf [] _ _ (kpush _ _ ho)).1 (fun q => by cases q) (noTab_cls (by rw [hc]; simp)), hc, n, hd⟩
  have NL₃ : h₃.NoLimit := noLimit_keepF st₃ T.nolimit
  have hsz₃ : s₂.heap.objs.size < h₃.objs.size := Heap.lt_size hIter
  refine ⟨s₂.heap.objs.size, _, _, _, _, _, (fun _ => true), (fun i y => ∃ u, y = .str (quoteD (ss.getD i Str.empty)) u), rfl, fun A' hA' => Walks.list hA' _ l (Nat.ne_of_lt hli) vs.toArray, ⟨⟨_, hIter, rfl, rfl⟩, hList⟩, ?_, NL₃, ?_, ?_, ?_⟩
  · intro b hb
    rcases List.mem_cons.mp hb with rfl | hb
    · exact hsz₃
    · rw [List.mem_singleton.mp hb]; exact Nat.lt_trans hli hsz₃
  · intro q
    have q' := List.mem_singleton.mp q
    obtain ⟨mc, hns, _⟩ := NL₂
    have hlt := hns.lt
    rw [q'] at hlt
    exact Nat.lt_irrefl _ hlt
  · intro href hkr
    refine ⟨fun A' E' i v sx m₂ _ _ _ hP hns hmx hk' => wpAny_pure ⟨rfl, keeps_refl _⟩, fun A' E' i v sx m₂ hA' hd' hu' hP _ hns hmx hk' => ?_⟩
    obtain ⟨hi, t, rfl⟩ := strs_get r hP
    have hmem : ss.getD i Str.empty ∈ ss := by simp [List.getD, hi]
    have stx : KeepF [] base sx.heap := st₃.butL (wr := [s₂.heap.objs.size]) (fun b o hb e => hk' b (List.mem_range.mpr (Heap.lt_size e)) hb o (hkr b o e)) (fun b hb => by
      rw [List.mem_singleton.mp hb]
      cases e : base.get? s₂.heap.objs.size with
      | none => rfl
      | some o => obtain ⟨o', h⟩ := st₂.is ⟨o, e⟩; rw [noneI _ (Nat.le_refl _)] at h; cases h)
    have hA5 := a.depth
    have hU5 := a.units
    refine wpAny_mono (ev_callF (ρ := [("arg", .str (ss.getD i Str.empty))]) (keMd (base := base) rfl) (nmK_global W rfl rfl rfl (by k_is) rfl) rfl (sp_cons (keMd rfl) (ev_name (keMd rfl) rfl rfl) (sp_nil (keMd rfl))) (fnK_P (fn_quote w _ (hq _ hmem)) W ⟨hA', by omega, by omega⟩ (by k_is) rfl (fun s h => h.2)) sx E' ⟨⟨m₂, hns, fun y d e => ?_⟩, stx⟩) (fun v s₃ h₃ => ?_) fun _ _ e => e
    · by_cases q : y = ("arg" : Str)
      · subst q
        rw [List.lookup_cons_self] at e
        cases e
        exact .inl ⟨rfl, _, hmx, .str _ _⟩
      · rw [lookup_cons_ne q] at e; cases e
    · obtain ⟨hv, hk⟩ := h₃
      cases hv
      exact ⟨⟨_, rfl⟩, hk⟩
  · intro ga h₅ tk₅ gs hb hlt hsz₅ hk₅ WS GA
    refine Calls.spliced_nil ?_
    have hpl : (passing (fun _ => true) vs.toArray.size 0).length = ss.length := by rw [passing_all]; simp [hvl]
    refine SC.joinGen WS.of_in1.of_in1 (fun i s h => h.1.typeIs) GA (fun b hb => ?_) (.head _) (fun i v hv => ?_) (fun s' lt hm hit => ?_) (by rw [hpl]; unfold sizeLine; omega)
    · show b < h₅.objs.size
      rw [hsz₅]
      rcases List.mem_cons.mp hb with rfl | hb
      · exact Nat.lt_succ_self _
      · rcases List.mem_cons.mp hb with rfl | hb
        · exact Nat.lt_succ_of_lt hlt
        · have := List.mem_range.mp hb
          exact Nat.lt_succ_of_lt (Nat.lt_trans this hlt)
    · obtain ⟨_, _, u, e⟩ := hv
      exact ⟨_, u, e⟩
    · have hitm : lt.map (·.1) = ss.map quoteD := by
        have hv' : vs.toArray.size = ss.length := by simpa using hvl
        rw [hv'] at hit
        have hpn : (passing (fun _ => true) ss.length 0).length = ss.length := by rw [passing_all]; simp
        rw [hpn] at hit
        exact items_eq rfl hit
      rw [hitm]
      have hsum := sum_quotes fun x hx => (hq x hx).1
      refine ⟨joinOk_of (by omega), fun t' k => ?_⟩
      rw [join_eq]
      have go := hR₁.trans (hR₂.trans (moved_go (k := k) hb ((KeepF.of_keeps kpush).trans ((kf _).trans (.of_keeps hk₅))) (fun b hb => ?_) rfl hm))
      · exact ⟨_, _, .ret (.str _ _), rfl, (frMd rfl).inv _ _ hJ go, Mv.of_go hJ go⟩
      · rcases List.mem_cons.mp hb with rfl | hb
        · exact noneI _ (Nat.le_of_lt hsz₃)
        · rw [List.mem_singleton.mp hb]; exact noneI _ (Nat.le_refl _)
end Mine

namespace Mine
section
variable {M : Model} {A : Around} {R : GenEnd} {Y : Protocol} {n : Nat} {s₀ : Shared} {c : Code} {fs : List Frame} {s : Shared} {env : Env}
  {K : Flow → Sem PySem.Fin} {H : Value → Sem PySem.Fin} {gd : Bool → Bool} {lv : List Value → List Value}

theorem seg_wrapN {α : Type} {m : Sem α} {K : α → Sem PySem.Fin} {H : Value → Sem PySem.Fin} {gd lv}
    (h : wpAny M (A.over c fs) m (fun a s' => Seg M A R Y n s₀ c (K a) fs s') (fun _ _ => False) s) : Seg M A R Y n s₀ c (m.wrap K H gd lv) fs s :=
  seg_wrap (wpAny_mono h (fun _ _ x => x) fun _ _ x => x.elim)
theorem seg_st {st : Stmt} (h : wpAny M (A.over c fs) (exec st env) (fun f s' => Seg M A R Y n s₀ c (K f) fs s') (fun _ _ => False) s) :
    Seg M A R Y n s₀ c ((exec st env).wrap K H gd lv) fs s := seg_wrapN h
theorem seg_If {test : Expr} {body orelse : List Stmt} {pos : Pos}
    (h : wpAny M (A.over c fs) (isTrue test env (eval test env)) (fun b s' => if b = true then Seg M A R Y n s₀ c ((execs body env).wrap K H gd lv) fs s' else Seg M A R Y n s₀ c ((execs orelse env).wrap K H gd lv) fs s') (fun _ _ => False) s) :
    Seg M A R Y n s₀ c ((exec (.If test body orelse pos) env).wrap K H gd lv) fs s := by
  rw [exec_If]
  show Seg M A R Y n s₀ c (.at pos fun _ => ((isTrue test env (eval test env)) >>= fun b => if b = true then execs body env else execs orelse env).wrap K H gd lv) fs s
  refine seg_at ?_
  rw [Sem.bind_eq_wrap', Sem.wrap_wrap]
  refine seg_wrapN (wpAny_mono h (fun b s' hb => ?_) fun _ _ x => x)
  cases b with
  | true => exact hb
  | false => exact hb
theorem seg_For {target iter : Expr} {body orelse : List Stmt} {pos : Pos}
    (h : wpAny M (A.over c fs) (eval iter env) (fun x s₁ => wpAny M (A.over c fs) (pyIter x) (fun it s₂ => ∀ p, Seg M A R Y n s₀ (.forLoop target it body orelse env) (M.den (.forLoop target it body orelse env))
      (.ret (fun r => ((match r with | .ok f => (.pure f : Sem Flow) | .error e => .raise e).onRaise fun (x : Value) => do
        if (← field x 1) == Value.none then unsupported "frame.own-activation:exception-without-traceback"
        setFlight x env.frame).wrap K H gd lv) none (gd false) (lv []) c p [] :: fs) s₂) (fun _ _ => False) s₁) (fun _ _ => False) s)
    (hs : ∀ x, foldedSetIterable iter env x = pure x) :
    Seg M A R Y n s₀ c ((exec (.For target iter body orelse pos) env).wrap K H gd lv) fs s := by
  rw [exec_For]
  show Seg M A R Y n s₀ c (.at pos fun _ => (eval iter env >>= fun v => foldedSetIterable iter env v >>= fun x => standAt iter.pos >>= fun _ => holding [x] (pyIter x) >>= fun it => runOwn (.forLoop target it body orelse env) env).wrap K H gd lv) fs s
  refine seg_at ?_
  rw [Sem.bind_eq_wrap', Sem.wrap_wrap]
  refine seg_wrapN (wpAny_mono h (fun x s₁ h₁ => ?_) fun _ _ x => x)
  rw [hs x]
  show Seg M A R Y n s₀ c (.at iter.pos fun _ => (holding [x] (pyIter x) >>= fun it => runOwn (.forLoop target it body orelse env) env).wrap K H gd lv) fs s₁
  refine seg_at ?_
  rw [Sem.bind_eq_wrap', Sem.wrap_wrap]
  refine seg_wrapN (wpAny_holding (wpAny_mono h₁ (fun it s₂ h₂ => ?_) fun _ _ x => x))
  exact seg_call h₂
end
section
variable {prog : Program} {w : World} {A : Around} {R : GenEnd} {Y : Protocol} {n : Nat} {s₀ : Shared} {fs : List Frame} {s : Shared} {env : Env}
theorem seg_forLoop {target : Expr} {it : Value} {body orelse : List Stmt}
    (h : wpAny (model prog w) (A.over (.forLoop target it body orelse env) fs) (pyNext it) (fun r s₁ => match r with
      | none => False
      | some v => wpAny (model prog w) (A.over (.forLoop target it body orelse env) fs) (letOwnedTupleGo target it v) (fun _ s₂ => wpAny (model prog w) (A.over (.forLoop target it body orelse env) fs) (assign target env v) (fun _ s₃ =>
          Seg (model prog w) A R Y n s₀ (.forLoop target it body orelse env) ((execs body env).wrap (fun f => match f with
            | .next | .cont => .pure (.again (.forLoop target it body orelse env))
            | .brk => .pure (.done .next)
            | .ret v => .pure (.done (.ret v))) (fun e => (do noteFrame e env; theTreesLotGoes e : Sem Unit).wrap (fun _ => .raise e) .raise id id) id id) fs s₃) (fun _ _ => False) s₂) (fun _ _ => False) s₁) (fun _ _ => False) s) :
    Seg (model prog w) A R Y n s₀ (.forLoop target it body orelse env) ((model prog w).den (.forLoop target it body orelse env)) fs s := by
  show Seg _ A R Y n s₀ _ ((forTurn target it body orelse env).onRaise (fun x => do noteFrame x env; theTreesLotGoes x)) fs s
  unfold forTurn
  rw [Sem.onRaise_eq_wrap, Sem.bind_eq_wrap', Sem.wrap_wrap]
  refine seg_wrapN (wpAny_standAt ?_)
  rw [Sem.bind_eq_wrap', Sem.wrap_wrap]
  refine seg_wrapN (wpAny_onRaise (wpAny_mono h (fun r s₁ h₁ => ?_) fun _ _ x => x.elim))
  cases r with
  | none => exact h₁.elim
  | some v =>
    show Seg _ A R Y n s₀ _ (Sem.wrap _ _ _ _ (letOwnedTupleGo target it v >>= fun _ => assign target env v >>= fun _ => execs body env >>= fun f => _)) fs s₁
    rw [Sem.bind_eq_wrap', Sem.wrap_wrap]
    refine seg_wrapN (wpAny_mono h₁ (fun _ s₂ h₂ => ?_) fun _ _ x => x)
    rw [Sem.bind_eq_wrap', Sem.wrap_wrap]
    refine seg_wrapN (wpAny_mono h₂ (fun _ s₃ h₃ => ?_) fun _ _ x => x)
    rw [Sem.bind_eq_wrap', Sem.wrap_wrap]
    rw [Sem.wrap_congr (execs body env) _ _ (K' := fun f => match f with
            | .next | .cont => .pure (.again (.forLoop target it body orelse env))
            | .brk => .pure (.done .next)
            | .ret v => .pure (.done (.ret v))) (H' := (fun e => (do noteFrame e env; theTreesLotGoes e : Sem Unit).wrap (fun _ => .raise e) .raise id id))
        (fun f => by cases f <;> rfl)
        (fun e => by first | exact Sem.bind_eq_wrap _ _ | (show (do noteFrame e env; theTreesLotGoes e : Sem Unit).bind (fun _ => .raise e) = _; rw [Sem.bind_eq_wrap]))]
    exact h₃
end
end Mine

namespace Mine

noncomputable def gY (base : Heap) (C l a : Addr) (size : Int) : Protocol := fun m s₀ v s kap =>
  (∃ t, v = .int size t) ∧ ∃ fp : List Addr, (∀ b ∈ fp, C < b ∧ b ≠ a) ∧ (∃ h' tk, s = { s₀ with heap := h', toks := tk } ∧ ∀ b o, b ≠ C → b ∉ fp → s₀.heap.get? b = some o → h'.get? b = some o) ∧
    (∀ b ∈ fp, ∃ o, s.heap.get? b = some o) ∧
    (0 < m → ∀ s'' : Shared, (∀ b ∈ C :: l :: a :: fp, ∀ o, s.heap.get? b = some o → s''.heap.get? b = some o) → KeepF [] base s''.heap → kap (.send .none) s'')
noncomputable def gR : GenEnd := fun _ _ r _ => r = .ok .next ∧ False
theorem ev_of_nm {prog : Program} {w : World} {A : Around} {env : Env} {J : Shared → Prop} {R : Shared → Shared → Prop} {ρ : Rho} (md : Md env ρ J R) {x : Str} {i : Int} {t : Tok} {pos : Pos} (h : NmP prog w A env J x (.int i t)) : EvP prog w A env J R (.Name x pos) (.int i) :=
  fun s _ hJ => h pos s _ _ hJ ⟨.int _ _, md.keeps _ _ hJ (keeps_refl s)⟩
section
variable {prog : Program} {w : World} {A : Around} {base : Heap} {genv : Env} {l a : Addr} {size : Int} {fs : List Frame} {s₀ s : Shared}
theorem gen_while (hk : genv.scope.kind = .function) (hco : genv.scope.isCoroutine = false) (hi : interactive genv = false) (hlast : genv.kindOf "last_interval" = some .local) {p1 p2 p3 p4 : Pos} {k : Nat} {fp : List Addr} (hfp : ∀ b ∈ fp, genv.locals < b ∧ b ≠ a)
    (hfs : splitAtGen (fs) = none) (hfg : fs.any Frame.guarded = false) :
    ∀ (n : Nat) (s₀ s : Shared) (m : Str → Option Value) (t : Tok), s.heap.Ns genv.locals m → m "last_interval" = some (.int size t) → (∃ h' tk, s = { s₀ with heap := h', toks := tk } ∧ ∀ b o, b ≠ genv.locals → b ∉ fp → s₀.heap.get? b = some o → h'.get? b = some o) → (∀ b ∈ fp, ∃ o, s.heap.get? b = some o) →
      Seg (model prog w) A gR (gY base genv.locals l a size) (n + 1) s₀ (.whileLoop (.Constant (.bool true) k p1) [.Expr (.Yield (some (.Name "last_interval" p2)) p3) p4] [] genv)
        ((model prog w).den (.whileLoop (.Constant (.bool true) k p1) [.Expr (.Yield (some (.Name "last_interval" p2)) p3) p4] [] genv)) fs s
  | n, s₀, s, m, t, hn, hm, hsince, hfz => by
    refine seg_whileLoop ?_
    have ht : wpAny (model prog w) (A.over (.whileLoop (.Constant (.bool true) k p1) [.Expr (.Yield (some (.Name "last_interval" p2)) p3) p4] [] genv) fs) (isTrue (.Constant (.bool true) k p1) genv (eval (.Constant (.bool true) k p1) genv)) (fun b s' => b = true ∧ s' = s) (fun _ _ => False) s := by
      refine wpAny_isTrue_value (by rw [eval_Constant]; exact wpAny_pure (wpAny_truthy_bool ⟨rfl, rfl⟩)) rfl
    refine wpAny_mono ht (fun b s' hb => ?_) fun _ _ x => x.elim
    obtain ⟨rfl, rfl⟩ := hb
    rw [if_pos rfl]
    refine seg_execs_cons ?_
    refine seg_Expr_Yield hfs rfl hfg ?_ hco hi
    refine wpAny_Name (wpAny_loadName_local hk hlast hn hm ?_) (by decide)
    intro kap hkap
    refine ⟨⟨t, rfl⟩, fp, hfp, hsince, hfz, fun hpos s'' hal hst => ?_⟩
    obtain ⟨n', rfl⟩ : ∃ n', n = n' + 1 := ⟨n - 1, by omega⟩
    refine hkap .none s'' ?_
    refine seg_execs_nil ?_
    refine seg_again rfl ?_
    have hn'' : s''.heap.Ns genv.locals m := hn.at' fun o e => hal _ (.head _) o e
    exact gen_while hk hco hi hlast hfp hfs hfg n' s'' s'' m t hn'' hm ⟨s''.heap, s''.toks, rfl, fun _ _ _ _ e => e⟩ fun b hb => let ⟨o, e⟩ := hfz b hb; ⟨o, hal b (.tail _ (.tail _ (.tail _ hb))) o e⟩
end

noncomputable def GAt (prog : Program) (w : World) (A : Around) (base : Heap) (C l a : Addr) (g : Nat) (size : Int) (n : Nat) (s : Shared) : Prop :=
  s.heap.IsGen a g ∧ ∃ fp : List Addr, (∀ b ∈ fp, C < b ∧ b ≠ a) ∧ ∃ gs, s.gens[g]? = some gs ∧ gs.bare = true ∧
    ∀ s'' : Shared, (∀ b ∈ C :: l :: a :: fp, ∀ o, s.heap.get? b = some o → s''.heap.get? b = some o) → KeepF [] base s''.heap →
      gs.Goes (model prog w) A.in1 gR (gY base C l a size) n (.send .none) s''
structure GS (base : Heap) (genv : Env) (ρ : Rho) (l I : Addr) (i : Nat) (items : Array Value) (s₀ s : Shared) : Prop where
  kj : KJ base genv ρ s
  lst : s.heap.IsList l items
  it : s.heap.IsListIter I l i
  since : ∃ h' tk, s = { s₀ with heap := h', toks := tk } ∧ ∀ b o, b ≠ genv.locals → b ∉ [I] → s₀.heap.get? b = some o → h'.get? b = some o
section
variable {prog : Program} {w : World} {A : Around} {base : Heap} {genv : Env} {ρ : Rho} {l I : Addr} {i : Nat} {items : Array Value} {s₀ s : Shared} {R : GenEnd} {Y : Protocol} {n : Nat} {c : Code} {fs : List Frame}
  {K : Flow → Sem PySem.Fin} {H : Value → Sem PySem.Fin} {gd : Bool → Bool} {lv : List Value → List Value}
theorem GS.keeps (hk : genv.scope.kind = .function) (x : GS base genv ρ l I i items s₀ s) {s' : Shared} (k : Keeps s s') : GS base genv ρ l I i items s₀ s' := by
  have hj := (keMd hk).inv _ _ x.kj k
  obtain ⟨h', t, rfl, kk⟩ := k
  refine ⟨hj, x.lst.at fun o e => kk _ o e, x.it.at fun o e => kk _ o e, ?_⟩
  obtain ⟨h₁, t₁, rfl, hs⟩ := x.since
  exact ⟨h', t, rfl, fun b o h1 h2 e => kk b o (hs b o h1 h2 e)⟩
theorem GS.again (x : GS base genv ρ l I i items s₀ s) : GS base genv ρ l I i items s s := ⟨x.kj, x.lst, x.it, s.heap, s.toks, rfl, fun _ _ _ _ e => e⟩
theorem GS.weak {ρ' : Rho} (x : GS base genv ρ l I i items s₀ s) (h : Sub ρ' ρ) : GS base genv ρ' l I i items s₀ s := ⟨⟨x.kj.1.weaken h, x.kj.2⟩, x.lst, x.it, x.since⟩
theorem GS.store (hcells : genv.cells = []) (x : GS base genv ρ l I i items s₀ s) {y : Str} {v : Value} {d : PyData} {h' : Heap} {tk : Nat} {m : Str → Option Value} (hx : genv.kindOf y = some .local) (hn : s.heap.Ns genv.locals m) (hn' : h'.Ns genv.locals (fun z => if z = y then some v else m z))
    (hs : Heap.SameBut genv.locals s.heap h') (hv : ∀ h, Dt h v d) (hb : base.get? genv.locals = none) (hl : l ≠ genv.locals) (hI : I ≠ genv.locals) (hflat : ∀ z e, ρ.lookup z = some e → (∃ j, e = .int j) ∨ e = .none) :
    GS base genv ((y, d) :: ρ) l I i items s₀ { s with heap := h', toks := tk } := by
  refine ⟨⟨⟨_, hn', fun z e hz => ?_⟩, x.kj.2.but (fun b o e q => (hs.2 b q).trans e) hb⟩, x.lst.extBut hs.extBut hl, x.it.extBut hs.extBut hI, ?_⟩
  · obtain ⟨m', hm', hnm⟩ := x.kj.1
    have em : ∀ z, m' z = m z := by
      obtain ⟨o, es, ep, a, b, c, e⟩ := hn
      obtain ⟨o', es', ep', a', b', c', e'⟩ := hm'
      rw [a] at a'; cases a'
      rw [b] at b'; cases b'
      intro z; rw [← e z, ← e' z]
    by_cases q : z = y
    · subst q
      rw [List.lookup_cons_self] at hz
      cases hz
      exact .inl ⟨hx, v, by simp, hv _⟩
    · rw [lookup_cons_ne q] at hz
      rcases hnm z e hz with ⟨a, u, b, c⟩ | ⟨_, c, _, b, _⟩
      · refine .inl ⟨a, u, by simpa [q, em] using b, ?_⟩
        rcases hflat z e hz with ⟨j, rfl⟩ | rfl
        · cases c; exact .int _ _
        · cases c; exact .none
      · rw [hcells] at b; cases b
  · obtain ⟨h₁, t₁, rfl, hs₁⟩ := x.since
    exact ⟨h', tk, rfl, fun b o h1 h2 e => (hs.2 b h1).trans (hs₁ b o h1 h2 e)⟩
theorem GS.resume (hcells : genv.cells = []) (x : GS base genv ρ l I i items s₀ s) {s' : Shared} (h1 : ∀ b ∈ [genv.locals, l, I], ∀ o, s.heap.get? b = some o → s'.heap.get? b = some o) (h2 : KeepF [] base s'.heap) (hflat : ∀ z e, ρ.lookup z = some e → (∃ j, e = .int j) ∨ e = .none) :
    GS base genv ρ l I i items s' s' := by
  refine ⟨⟨?_, h2⟩, x.lst.at (h1 l (by simp)), x.it.at (h1 I (by simp)), s'.heap, s'.toks, rfl, fun _ _ _ _ e => e⟩
  obtain ⟨m, hm, hnm⟩ := x.kj.1
  refine ⟨m, hm.at' (h1 genv.locals (by simp)), fun y e hy => ?_⟩
  rcases hnm y e hy with ⟨a, u, b, c⟩ | ⟨_, c, _, b, _⟩
  · refine .inl ⟨a, u, b, ?_⟩
    rcases hflat y e hy with ⟨j, rfl⟩ | rfl
    · cases c; exact .int _ _
    · cases c; exact .none
  · rw [hcells] at b; cases b
theorem seg_test (hk : genv.scope.kind = .function) (x : GS base genv ρ l I i items s₀ s) {test : Expr} {body orelse : List Stmt} {pos : Pos} {b : Bool} {s₁ : Shared} (ht : EvT prog w (A.over c fs) genv (KJ base genv ρ) Keeps test b)
    (h : ∀ s', GS base genv ρ l I i items s₀ s' → Seg (model prog w) A R Y n s₁ c ((execs (if b = true then body else orelse) genv).wrap K H gd lv) fs s') :
    Seg (model prog w) A R Y n s₁ c ((exec (.If test body orelse pos) genv).wrap K H gd lv) fs s := by
  refine seg_If (wpAny_mono (ht s _ x.kj) (fun v s' h' => ?_) fun _ _ x => x)
  obtain ⟨rfl, hk'⟩ := h'
  have := h s' (x.keeps hk hk')
  cases v with
  | true => exact this
  | false => exact this
end
theorem call_gen_intro {prog : Program} {w : World} {K : Frag} {A : Around} {base : Heap} {s : Shared} {E : Value → Shared → Prop} {Q : Value → Shared → Prop} {f : Addr} {n : Nat} {vs : List Value} {ns : List Str} {name qual : Str} {params : Arguments} {body : List Stmt} {scope : Scope} {dV kV doc pm cdv ct oc : Value} {an od : Option Addr} {osl : Array (Option Value)}
    (ho : K.lookup f = some ⟨oc, od, .func (fnOf name qual params body scope dV kV doc pm an cdv ct), osl⟩) (hcd : codeIn K cdv qual = true)
    (hlen : vs.length = ns.length) (hbind : bindArgs (fnOf name qual params body scope dV kV doc pm an cdv ct) ⟨vs, []⟩ = pure (ns.zip vs))
    (hkind : (ns.all fun y => scope.names.lookup y == some .local || scope.names.lookup y == some .cell) = true)
    (hco : scope.isCoroutine = false) (hgen : scope.isGenerator = true) (hk : scope.kind = .function) (W : Wd K base) (a : AQ A n) (st : KeepF [] base s.heap)
    (h : ∀ (h₁ : Heap) (tk : Nat) (t1 t2 : Tok), h₁.Ns s.heap.objs.size (bindL (envOfC qual scope s.heap.objs.size f cdv).kindOf (ns.zip vs) fun _ => none) → s.heap.objs.size < h₁.objs.size → (∀ b o, s.heap.get? b = some o → h₁.get? b = some o) →
      Q (.ref h₁.objs.size) { s with gens := s.gens.push (.fresh (.func body (envOfC qual scope s.heap.objs.size f cdv))), toks := tk, heap := h₁.push { cls := .type "generator", data := .fields #[.int s.gens.size 0, .str name t1, .str qual t2] } }) :
    wpAny (model prog w) A (call (.ref f) vs) Q E s := by
  obtain ⟨p, loose, mg, mb, T⟩ := W.T
  refine wpAny_call ?_
  refine codeAny_call_generator (fd := fnOf name qual params body scope dV kV doc pm an cdv ct) (by have := a.depth; omega) (W.at st ho) rfl hco hgen rfl (codeRec_of (W.in st) hcd) ((BindsTo.of_eq (s := s) hbind) _ _ _ _ ?_)
  have hkinds : ((ns.zip vs).all fun y => scope.names.lookup y.1 == some .local || scope.names.lookup y.1 == some .cell) = true := by
    refine List.all_eq_true.mpr fun q hq => ?_
    exact List.all_eq_true.mp hkind q.1 (List.of_mem_zip hq).1
  refine wpAny_newFunctionEnv_cells hk (kindsX hkinds _) fun env' he s' x => ?_
  subst he
  obtain ⟨h₁, tk, rfl, kk⟩ := x.done
  exact ⟨(noLimit_keepF st T.nolimit).keeps x.toInCall.keep, h h₁ _ _ _ x.toInCall.ns x.toInCall.ns.lt kk⟩
noncomputable abbrev gScope : Scope := { kind := .function, names := [("grouping", .local), ("last_interval", .local), ("interval", .local), ("CHAR_MAX", .globalImplicit), ("ValueError", .globalImplicit)], isGenerator := true, isCoroutine := false }
noncomputable abbrev gEnv (C : Addr) : Env := envOfC "_grouping_intervals" gScope C 58 (.ref 57)
set_option maxRecDepth 100000 in
theorem gen_call (w : World) (size : Int) (h1 : 1 ≤ size ∧ size ≤ 7) {base : Heap} {A : Around} {s : Shared} {E : Value → Shared → Prop} {Q : Value → Shared → Prop} {l : Addr} {t u : Tok} (W : Wd (hd.heap_39 w.params) base) (a : AQ A 3) (st : KeepF [] base s.heap)
    (hl : s.heap.IsList l #[.int size t, .int 0 u])
    (hQ : ∀ C ga h' tk, s.heap.objs.size ≤ C → C < ga → (∀ b o, s.heap.get? b = some o → h'.get? b = some o) → ∀ gs, (∀ n, GAt PySem.Challenge.rw_oy0388_01.prog w A base C l ga s.gens.size size (n + 1) { s with heap := h', toks := tk, gens := s.gens.push gs }) → gs.bare = true → Q (.ref ga) { s with heap := h', toks := tk, gens := s.gens.push gs }) :
    wpAny (model PySem.Challenge.rw_oy0388_01.prog w) A (call (.ref 58) [.ref l]) Q E s := by
  have kf : (fun _ : Program => (hd.heap_39 w.params).lookup 0) PySem.Challenge.rw_oy0388_01.prog = (hd.heap_39 w.params).lookup 0 := by
    k_fill
    rfl
  clear kf
  refine' call_gen_intro (ns := [("grouping" : Str)]) ?ho ?hcd rfl ?hbind ?hkind ?hco ?hgen ?hk W a st ?h
  case ho => k_is
  case hcd => k_is
  case hbind => rfl
  case hkind => decide +kernel
  case hco => rfl
  case hgen => rfl
  case hk => rfl
  intro h₁ tk t1 t2 hns hlt kk
  refine hQ s.heap.objs.size h₁.objs.size _ tk (Nat.le_refl _) hlt (fun b o e => Heap.get?_push_of_some _ (kk b o e)) _ (fun n => ?_) rfl
  have hll : l < s.heap.objs.size := by obtain ⟨o, ho, _⟩ := hl; exact Heap.lt_size ho
  refine ⟨⟨_, _, _, Heap.get?_push_size _ rfl, rfl, rfl, rfl⟩, [], (fun b hb => by cases hb), _, Array.getElem?_push_size .., rfl, fun s1 hal hst => ⟨rfl, ?_⟩⟩
  have hga : h₁.objs.size < s1.heap.objs.size := Heap.lt_size (hal _ (.tail _ (.tail _ (.head _))) _ (Heap.get?_push_size _ rfl))
  have hn1 : s1.heap.Ns s.heap.objs.size _ := (hns.push _).at' fun o e => hal _ (.head _) o e
  have hl1 : s1.heap.IsList l #[.int size t, .int 0 u] := by
    obtain ⟨o, ho, r⟩ := hl
    exact ⟨o, hal l (.tail _ (.head _)) o (Heap.get?_push_of_some _ (kk _ _ ho)), r⟩
  have hCb : base.get? s.heap.objs.size = none := by
    cases e : base.get? s.heap.objs.size with
    | none => rfl
    | some o => obtain ⟨o', h⟩ := st.is ⟨o, e⟩; exact absurd (Heap.lt_size h) (Nat.lt_irrefl _)
  have hC1 : s.heap.objs.size < s1.heap.objs.size := hn1.lt
  generalize hC : s.heap.objs.size = C at *
  refine seg_func (seg_execs_cons (seg_st (wpAny_Assign_Name ?_ rfl)))
  rw [eval_Constant]
  refine wpAny_pure (wpAny_storeName_local rfl hn1 (fun h2 hn2 hs2 => ?_) rfl)
  have hl2 : h2.IsList l #[.int size t, .int 0 u] := hl1.extBut hs2.extBut (Nat.ne_of_lt hll)
  have st2 : KeepF [] base h2 := hst.but (fun b o e q => (hs2.2 b q).trans e) hCb
  show Seg _ _ _ _ _ _ _ ((execs [_] _).wrap _ _ _ _) _ _
  refine seg_execs_cons (seg_For (wpAny_Name (wpAny_loadName_local rfl rfl hn2 rfl ?_) rfl) (fun _ => rfl))
  refine wpAny_pyIter_list hl2 (fun p => seg_forLoop ?_)
  have hsz2 : h2.objs.size = s1.heap.objs.size := hs2.1
  have hi2 : (h2.push { cls := .type "list_iterator", data := .fields #[.ref l, .int 0 0] }).IsListIter h2.objs.size l 0 := ⟨_, Heap.get?_push_size _ rfl, rfl, rfl⟩
  have hln : l ≠ h2.objs.size := by rw [hsz2]; exact Nat.ne_of_lt (Nat.lt_trans hll hC1)
  refine (Walks.list (by exact a.handled) h2.objs.size l hln #[.int size t, .int 0 u]).item 0 _ _ _ ?_ ?_ (fun v h3 tk3 hP hst3 hk3 => ?_)
  · exact Nat.succ_pos 1
  · exact ⟨hi2, hl2.push _⟩
  obtain rfl : v = .int size t := by simpa using hP.symm
  have hn3 : h3.Ns C _ := (hn2.push _).at' fun o e => hk3 C o (fun q => by have := List.mem_singleton.mp q; rw [this, hsz2] at hC1; exact Nat.lt_irrefl _ hC1) e
  refine wpAny_pure (wpAny_assign_Name (wpAny_storeName_local rfl hn3 (fun h4 hn4 hs4 => ?_) rfl))
  have hI1 : base.get? h2.objs.size = none := by
    cases e : base.get? h2.objs.size with
    | none => rfl
    | some o => obtain ⟨o', h⟩ := st2.is ⟨o, e⟩; exact absurd (Heap.lt_size h) (Nat.lt_irrefl _)
  have hIC : h2.objs.size ≠ C := by rw [hsz2]; exact Nat.ne_of_gt hC1
  have hlC : l ≠ C := Nat.ne_of_lt hll
  have hfpI : ∀ b ∈ [h2.objs.size], C < b ∧ b ≠ h₁.objs.size := fun b hb => by
    rw [List.mem_singleton.mp hb, hsz2]
    have hq : h₁.objs.size < s1.heap.objs.size := hga
    exact ⟨hC1, Nat.ne_of_gt hq⟩
  have hsince2 : ∀ b o, b ≠ C → s1.heap.get? b = some o → h2.get? b = some o := fun b o q e => (hs2.2 b q).trans e
  have g3 : GS base (gEnv C) [] l h2.objs.size 1 #[.int size t, .int 0 u] s1 { s1 with heap := h3, toks := tk3 } :=
    ⟨⟨⟨_, hn3, fun y e hy => by simp at hy⟩, (st2.trans (.of_keeps fun _ _ e => Heap.get?_push_of_some _ e)).butL hk3 (fun b hb => by rw [List.mem_singleton.mp hb]; exact hI1)⟩, hst3.2, hst3.1,
      h3, tk3, rfl, fun b o q1 q2 e => hk3 b o q2 (Heap.get?_push_of_some _ (hsince2 b o q1 e))⟩
  have g4 := g3.store (tk := tk3 + 1) rfl (y := "interval") (d := .int size) rfl hn3 hn4 hs4 (fun h => .int _ _) hCb hlC hIC (fun z e q => by simp at q)
  -- the tests of the first turn
  have hu := a.units
  have hu3 : ∀ (c : Code) (fs : List Frame), (c.cUnits + unitsOf (fs.map Frame.where_)) ≤ 20 → (A.in1.over c fs).units + 64 < cLine := by
    intro c fs hcf
    show A.in1.units + unitsOf (fs.map Frame.where_) + c.cUnits + 64 < cLine
    have : A.in1.units ≤ A.units + 2 := by first | exact Nat.le_succ_of_le (Nat.le_refl _) | exact Nat.le_of_lt (Nat.lt_succ_of_lt (Nat.lt_succ_self _)) | (show A.units + _ ≤ _; omega)
    omega
  refine seg_execs_cons (seg_test rfl g4 (b := false) (tv_cmp (keMd rfl) (hu3 _ _ (Nat.le_of_ble_eq_true rfl)) (ev_name (keMd rfl) rfl rfl) (ev_of_nm (keMd rfl) (nmK_global W rfl rfl rfl (by k_is) rfl)) (by show some _ = some _; congr 1; simp; omega) rfl) (fun s5 g5 => ?_))
  rw [if_neg (by decide)]
  refine seg_execs_nil ?_
  show Seg _ _ _ _ _ _ _ ((execs (_ :: _) _).wrap _ _ _ _) _ _
  refine seg_execs_cons (seg_test rfl g5 (b := false) (tv_cmp (keMd rfl) (hu3 _ _ (Nat.le_of_ble_eq_true rfl)) (ev_name (keMd rfl) rfl rfl) (ev_int (keMd rfl)) (by show some _ = some _; congr 1; simp; omega) rfl) (fun s6 g6 => ?_))
  rw [if_neg (by decide)]
  refine seg_execs_nil ?_
  show Seg _ _ _ _ _ _ _ ((execs (_ :: _) _).wrap _ _ _ _) _ _
  refine seg_execs_cons (seg_Expr_Yield rfl rfl rfl ?_ rfl rfl)
  refine wpAny_mono ((ev_name (keMd (base := base) (env := gEnv C) (ρ := [("interval", .int size)]) rfl) rfl rfl) s6 _ g6.kj) (fun v s7 hv7 => ?_) fun _ _ x => x
  obtain ⟨hv, hk7⟩ := hv7
  have g7 := g6.keeps rfl hk7
  cases hv
  rename_i t7
  intro kap hkap
  refine ⟨⟨t7, rfl⟩, [h2.objs.size], ?_, g7.since, ?_, fun hpos s8 hal8 hst8 => hkap .none s8 ?_⟩
  · exact hfpI
  · exact fun b hb => by
      rw [List.mem_singleton.mp hb]
      obtain ⟨o, ho, _⟩ := g7.it; exact ⟨o, ho⟩
  obtain ⟨n', rfl⟩ : ∃ n', n = n' + 1 := ⟨n - 1, by omega⟩
  have hflat1 : ∀ (z : Str) (e : PyData), List.lookup z [(("interval" : Str), PyData.int size)] = some e → (∃ j, e = .int j) ∨ e = .none := fun z e q => by
    rw [List.lookup_cons] at q
    split at q
    · cases q; exact .inl ⟨_, rfl⟩
    · simp at q
  have g8 := g7.resume (s' := s8) rfl (fun b hb => hal8 b (by rcases List.mem_cons.mp hb with rfl | hb; exact .head _; rcases List.mem_cons.mp hb with rfl | hb; exact .tail _ (.head _); exact .tail _ (.tail _ (.tail _ hb)))) hst8 hflat1
  show Seg _ _ _ _ _ _ _ ((execs (_ :: _) _).wrap _ _ _ _) _ _
  refine seg_execs_cons (seg_st (wpAny_Assign_Name (wpAny_mono ((ev_name (keMd (base := base) (env := gEnv C) (ρ := [("interval", .int size)]) rfl) rfl rfl) s8 _ g8.kj) (fun v s9 hv9 => ?_) fun _ _ x => x) rfl))
  obtain ⟨hv, hk9⟩ := hv9
  have g9 := g8.keeps rfl hk9
  cases hv
  obtain ⟨m9, hm9, _⟩ := id g9.kj.1
  refine wpAny_storeName_local rfl hm9 (fun h10 hn10 hs10 => ?_) rfl
  have g10 := g9.store (tk := s9.toks + 1) rfl (y := "last_interval") (d := .int size) rfl hm9 hn10 hs10 (fun h => .int _ _) hCb hlC hIC hflat1
  show Seg _ _ _ _ _ _ _ ((execs [] _).wrap _ _ _ _) _ _
  refine seg_execs_nil (seg_again rfl (seg_forLoop ?_))
  refine (Walks.list (by exact a.handled) h2.objs.size l hln #[.int size t, .int 0 u]).item 1 _ _ _ ?_ ?_ (fun v h11 tk11 hP11 hst11 hk11 => ?_)
  · exact Nat.lt_succ_self 1
  · exact ⟨g10.it, g10.lst⟩
  obtain rfl : v = .int 0 u := by simpa using hP11.symm
  have hn11 : h11.Ns C _ := hn10.at' fun o e => hk11 C o (fun q => hIC (List.mem_singleton.mp q).symm) e
  refine wpAny_pure (wpAny_assign_Name (wpAny_storeName_local rfl hn11 (fun h12 hn12 hs12 => ?_) rfl))
  have g11 : GS base (gEnv C) [("last_interval", .int size)] l h2.objs.size 2 #[.int size t, .int 0 u] s8 { s9 with heap := h11, toks := tk11 } := by
    obtain ⟨h', tk', e', hs'⟩ := g10.since
    refine ⟨⟨⟨_, hn11, fun y e hy => ?_⟩, g10.kj.2.butL hk11 (fun b hb => by rw [List.mem_singleton.mp hb]; exact hI1)⟩, hst11.2, hst11.1, ?_⟩
    · by_cases q : y = ("last_interval" : Str)
      · subst q
        rw [List.lookup_cons_self] at hy
        cases hy
        exact .inl ⟨rfl, _, if_pos rfl, .int _ _⟩
      · rw [lookup_cons_ne q] at hy; simp at hy
    · obtain ⟨e2, b1, b2, _, b3⟩ := Shared.mk.inj e'
      subst e2
      refine ⟨h11, tk11, ?_, fun b o q1 q2 e => hk11 b o q2 (hs' b o q1 q2 e)⟩
      show Shared.mk h11 s9.gens s9.drawn tk11 s9.os = Shared.mk h11 s8.gens s8.drawn tk11 s8.os
      rw [b1, b2, b3]
  have hflat2 : ∀ (z : Str) (e : PyData), List.lookup z [(("last_interval" : Str), PyData.int size)] = some e → (∃ j, e = .int j) ∨ e = .none := fun z e q => by
    rw [List.lookup_cons] at q
    split at q
    · cases q; exact .inl ⟨_, rfl⟩
    · simp at q
  have g12 := g11.store (tk := tk11 + 1) rfl (y := "interval") (d := .int 0) rfl hn11 hn12 hs12 (fun h => .int _ _) hCb hlC hIC hflat2
  refine seg_execs_cons (seg_test rfl g12 (b := false) (tv_cmp (keMd rfl) (hu3 _ _ (Nat.le_of_ble_eq_true rfl)) (ev_name (keMd rfl) rfl rfl) (ev_of_nm (keMd rfl) (nmK_global W rfl rfl rfl (by k_is) rfl)) rfl rfl) (fun s13 g13 => ?_))
  rw [if_neg (by decide)]
  refine seg_execs_nil ?_
  show Seg _ _ _ _ _ _ _ ((execs (_ :: _) _).wrap _ _ _ _) _ _
  refine seg_execs_cons (seg_test rfl g13 (b := true) (tv_cmp (keMd rfl) (hu3 _ _ (Nat.le_of_ble_eq_true rfl)) (ev_name (keMd rfl) rfl rfl) (ev_int (keMd rfl)) rfl rfl) (fun s14 g14 => ?_))
  rw [if_pos rfl]
  refine seg_execs_cons (seg_test rfl g14 (b := false) (tv_cmp (keMd rfl) (hu3 _ _ (Nat.le_of_ble_eq_true rfl)) (ev_name (keMd rfl) rfl rfl) (ev_none (keMd rfl)) rfl rfl) (fun s15 g15 => ?_))
  rw [if_neg (by decide)]
  refine seg_execs_nil ?_
  show Seg _ _ _ _ _ _ _ ((execs (_ :: _) _).wrap _ _ _ _) _ _
  refine seg_execs_cons (seg_While fun p' => ?_)
  obtain ⟨m15, hm15, hnm15⟩ := id g15.kj.1
  rcases hnm15 ("last_interval" : Str) (.int size) rfl with ⟨_, v15, hv15, hd15⟩ | ⟨hc15, _⟩
  · cases hd15
    refine gen_while (fp := [h2.objs.size]) rfl rfl rfl rfl (fun b hb => ?_) rfl rfl n' s8 s15 m15 _ hm15 hv15 g15.since (fun b hb => ?_)
    · exact hfpI b hb
    · rw [List.mem_singleton.mp hb]
      obtain ⟨o, ho, _⟩ := g15.it; exact ⟨o, ho⟩
  · cases hc15
end Mine

namespace Mine

theorem KeepF.below {fs : List Addr} {a h h' : Heap} {N : Nat} (x : KeepF fs a h) (kd : ∀ b o, b < N → h.get? b = some o → h'.get? b = some o) (ha : ∀ b o, a.get? b = some o → b < N) : KeepF fs a h' := fun p o e => by
  have hp : p < N := ha p o e
  refine ⟨fun q t => kd p o hp ((x p o e).1 q t), fun q t => ?_, fun vs h1 h2 h3 => ?_⟩
  · obtain ⟨sl, e'⟩ := (x p o e).2.1 q t
    exact ⟨sl, kd p _ hp e'⟩
  · obtain ⟨m, e', q1⟩ := (x p o e).2.2 vs h1 h2 h3
    exact ⟨m, kd p _ hp e', q1⟩
section
variable {base : Heap} {outer : List Env} {env : Env} {s₀ : Shared} {ρ : Rho}
theorem fj_above {N : Nat} {s : Shared} {h' : Heap} {tk : Nat} {g' : Array GenState} (hJ : FJ base outer env s₀ ρ s) (hcells : env.cells = []) (hflat : ∀ z e, ρ.lookup z = some e → ∃ j, e = .int j)
    (kd : ∀ b o, b < N → s.heap.get? b = some o → h'.get? b = some o) (hL : env.locals < N) (hfr : ∀ b ∈ fsOf outer, b < N) (hb : ∀ b o, base.get? b = some o → b < N) (hs₀ : ∀ b o, s₀.heap.get? b = some o → b < N) (hg : GenX s₀.gens g') :
    FJ base outer env s₀ ρ { s with heap := h', toks := tk, gens := g' } := by
  obtain ⟨⟨m, hn, hnm⟩, C⟩ := hJ
  refine ⟨⟨m, hn.at' (fun o e => kd _ o hL e), fun y e hy => ?_⟩, C.stay.below kd hb, ?_, ?_, ?_, C.frame, C.new, ?_, ?_, ?_⟩
  · rcases hnm y e hy with ⟨a, u, b, c⟩ | ⟨_, c, _, b, _⟩
    · refine .inl ⟨a, u, b, ?_⟩
      obtain ⟨j, rfl⟩ := hflat y e hy
      cases c; exact .int _ _
    · rw [hcells] at b; cases b
  · have : ∀ l : List Env, (∀ b ∈ fsOf l, b < N) → s.heap.FunFrames base l → (Heap.FunFrames h' base l) := by
      intro l
      induction l with
      | nil => intro _ _; trivial
      | cons e r ih =>
        rintro hD ⟨a, ⟨L, o, b, c', d, f⟩, g⟩
        have hLN : L < N := hD L (by unfold fsOf; rw [List.filterMap_cons, b]; exact .head _)
        refine ⟨a, ⟨L, o, b, c', kd _ _ hLN d, f⟩, ih (fun p hp => hD p ?_) g⟩
        unfold fsOf; rw [List.filterMap_cons, b]; exact List.mem_cons_of_mem _ hp
    refine this (env :: outer) (fun b hb => ?_) C.frs
    unfold fsOf at hb
    rw [List.filterMap_cons, C.frame] at hb
    rcases List.mem_cons.mp hb with rfl | hb
    · exact hL
    · exact hfr b hb
  · intro b hb
    obtain ⟨o, es, n, ho, hd⟩ := C.dicts b hb
    exact ⟨o, es, n, kd _ _ (hfr b hb) ho, hd⟩
  · obtain ⟨h₁, t₁, g₁, rfl, k, _⟩ := C.grew
    exact ⟨h', tk, g', rfl, k.below kd hs₀, hg⟩
  · intro n c e; rw [hcells] at e; cases e
  · intro n c e; rw [hcells] at e; cases e
  · intro x y c e; rw [hcells] at e; cases e
variable {prog : Program} {w : World} {A : Around}
theorem st_keep {s : Shared} {x : Str} {i : Int} {t : Tok} {m : Str → Option Value} {E : Value → Shared → Prop} {Q : Unit → Shared → Prop} (hJ : FJ base outer env s₀ ρ s) (hk : env.scope.kind = .function) (hx : env.kindOf x = some .local) (hn : s.heap.Ns env.locals m)
    (h : ∀ h', FJ base outer env s₀ ((x, .int i) :: ρ) { s with heap := h', toks := s.toks + 1 } → h'.Ns env.locals (fun y => if y = x then some (.int i t) else m y) → (∀ b o, b ≠ env.locals → s.heap.get? b = some o → h'.get? b = some o) → h'.objs.size = s.heap.objs.size → Q () { s with heap := h', toks := s.toks + 1 }) :
    wpAny (model prog w) A (storeName env x (.int i t)) Q E s := by
  refine wpAny_storeName_local hx hn (fun h' hn' hs => ?_) (by rw [hk]; rfl)
  exact h h' (fj_store hJ hx hn hn' (fun b o e q => (hs.2 b q).trans e) (.int _ _)).1 hn' (fun b o q e => (hs.2 b q).trans e) hs.1
end
end Mine

namespace Mine

theorem upFrom_snoc (a : Int) (k : Nat) : upFrom a (k + 1) = upFrom a k ++ [a + k] := by
  induction k generalizing a with
  | zero => simp [upFrom]
  | succ k ih =>
    show a :: upFrom (a + 1) (k + 1) = (a :: upFrom (a + 1) k) ++ [a + ((k + 1 : Nat) : Int)]
    rw [ih (a + 1), List.cons_append]
    congr 3; omega
theorem ints_snoc {vs : List Value} {ns : List Int} {i : Int} {t : Tok} (h : IntsAre vs ns) : IntsAre (vs ++ [.int i t]) (ns ++ [i]) := by
  induction h with
  | nil => exact .cons _ _ .nil
  | cons n u r ih => exact .cons n u ih
theorem push_set {g₀ : Array GenState} {x y : GenState} : (g₀.push x).setIfInBounds g₀.size y = g₀.push y := by
  apply Array.ext_getElem?
  intro i
  by_cases q : i = g₀.size
  · subst q; simp
  · rw [Array.getElem?_setIfInBounds_ne (Ne.symm q)]
    rw [Array.getElem?_push, Array.getElem?_push, if_neg q, if_neg q]
theorem ev_use {prog : Program} {w : World} {A : Around} {env : Env} {J : Shared → Prop} {R : Shared → Shared → Prop} {e : Expr} {d : PyData} {s : Shared} {Q : Value → Shared → Prop} {E : Value → Shared → Prop} (hJ : J s) (h : EvP prog w A env J R e d) (k : ∀ v s', Dt s'.heap v d → R s s' → Q v s') :
    wpAny (model prog w) A (eval e env) Q E s := wpAny_mono (h s E hJ) (fun v s' x => k v s' x.1 x.2) fun _ _ x => x
theorem et_use {prog : Program} {w : World} {A : Around} {env : Env} {J : Shared → Prop} {R : Shared → Shared → Prop} {e : Expr} {b : Bool} {s : Shared} {Q : Bool → Shared → Prop} {E : Value → Shared → Prop} (hJ : J s) (h : EvT prog w A env J R e b) (k : ∀ s', R s s' → Q b s') :
    wpAny (model prog w) A (isTrue e env (eval e env)) Q E s := wpAny_mono (h s E hJ) (fun v s' x => by obtain ⟨rfl, r⟩ := x; exact k s' r) fun _ _ x => x
theorem flat3 {a b c : Int} : ∀ (z : Str) (e : PyData), List.lookup z [(("size" : Str), PyData.int a), ("end", .int b), ("mark", .int c)] = some e → ∃ j, e = .int j := fun z e hz => by
  rw [List.lookup_cons] at hz
  split at hz
  · cases hz; exact ⟨_, rfl⟩
  · rw [List.lookup_cons] at hz
    split at hz
    · cases hz; exact ⟨_, rfl⟩
    · rw [List.lookup_cons] at hz
      split at hz
      · cases hz; exact ⟨_, rfl⟩
      · simp at hz
structure LM (prog : Program) (w : World) (A : Around) (base : Heap) (outer : List Env) (env : Env) (s₀ sE : Shared) (M C l ga : Addr) (G0 : Array GenState) (size till : Int) (k : Nat) (s : Shared) : Prop where
  fj : FJ base outer env s₀ [("size", .int size), ("end", .int till), ("mark", .int (k * size))] s
  nm : ∃ m, s.heap.Ns env.locals m ∧ m "marks" = some (.ref M)
  lst : ∃ vs : List Value, s.heap.PlainList M vs.toArray ∧ IntsAre vs ((upFrom 1 k).map (· * size))
  gat : GAt prog w A base C l ga G0.size size (61 - k) s
  gens : ∃ gs, s.gens = G0.push gs ∧ gs.bare = true
  kept : ∀ b o, b ≠ env.locals → sE.heap.get? b = some o → s.heap.get? b = some o
noncomputable abbrev mScope : Scope := { kind := .function, names := [("size", .local), ("end", .local), ("marks", .local), ("mark", .local), ("step", .local), ("_grouping_intervals", .globalImplicit)], isGenerator := false, isCoroutine := false }
noncomputable abbrev mEnv (L : Addr) : Env := envOfC "_law_marks" mScope L 801 (.ref 800)
theorem q_eq {k q : Nat} (h : 61 - k = q + 1) : 61 - (k + 1) = q := by omega
theorem q_lt {k q : Nat} (h : 61 - k = q + 1) : 61 - (k + 1) < 61 - k := by omega
theorem q_ex {k : Nat} {z : Nat} (hk : k ≤ z) (hz : z ≤ 42) : 61 - k = 60 - k + 1 := by omega
theorem q_hi {k : Nat} {z : Int} (hk : k ≤ z.toNat) (hz : z < (k : Int) + 1) : k = z.toNat := by omega
theorem q_lo {k : Nat} {z : Int} (hz : (k : Int) + 1 ≤ z) : k + 1 ≤ z.toNat := by omega
theorem q_sp {k q z : Nat} (hk : k + 1 ≤ z) (hz : z ≤ 42) (h : 61 - (k + 1) = q) : 0 < q + 1 - 1 := by omega
theorem q_42 {size till : Int} (h1 : till ≤ 42) (h0 : -1 ≤ till) (hs : 1 ≤ size) : (till / size).toNat ≤ 42 := by
  by_cases z : 0 ≤ till
  · have := Int.ediv_le_self (a := till) size z
    omega
  · have : till / size < 0 := Int.ediv_neg_of_neg_of_pos (by omega) (by omega)
    omega
theorem q_up {size till : Int} {k : Nat} (hgt : till < k * size + size) : till < ((k : Int) + 1) * size := by rw [Int.add_mul]; omega
theorem q_dn {size till : Int} {k : Nat} (hgt : ¬till < k * size + size) : ((k : Int) + 1) * size ≤ till := by rw [Int.add_mul]; omega
set_option maxRecDepth 100000 in
theorem marks_hold (w : World) : MarksOk w := by
  intro size till h1 h2 h3 h4
  have hT : (till / size).toNat ≤ 42 := q_42 h4 h3 h1
  k_fill
  refine' fn_intro (ns := ["size", "end"]) ?ho ?hcd ?hlen ?hbind ?hkind ?hnd ?hco ?hgen ?hk ?hbody
  case ho => k_is
  case hcd => k_is
  case hlen => rfl
  case hbind => (intro vs hv; rcases vs with _ | ⟨v1, _ | ⟨v2, _ | ⟨v3, _ | ⟨v4, _ | ⟨v5, _ | ⟨v6, vs⟩⟩⟩⟩⟩⟩ <;> first | rfl | (simp at hv; done))
  case hkind => decide +kernel
  case hnd => decide +kernel
  case hco => rfl
  case hgen => rfl
  case hk => rfl
  intro base outer A s₀ L W a
  intro s E hJ
  refine wpAny_gen fun G0 E0 hG0 => ?_
  obtain ⟨m, hn, hnm⟩ := id hJ.1
  -- marks = []
  refine wpAny_execs_cons (wpAny_Assign_Name (List_ (Calls.spliced_nil ?_)) rfl)
  refine wpAny_newObj_type ?_ (by unfold sizeOk; decide)
  have J0 := (frMd rfl).inv _ _ hJ (Go.of_keeps (keeps_push s { cls := .type "list", data := .seq #[] } s.toks))
  obtain ⟨m0, hn0, hnm0⟩ := id J0.1
  refine wpAny_storeName_local rfl hn0 (fun h1' hn1 hs1 => ?_) rfl
  have hMs : h1'.get? s.heap.objs.size = some { cls := .type "list", data := .seq #[] } := (hs1.2 _ (Nat.ne_of_gt hn.lt)).trans (Heap.get?_push_size _ rfl)
  have J1 := (fj_store (tk := s.toks + 1) (d := .list []) (v := .ref s.heap.objs.size) J0 (x := "marks") rfl hn0 hn1 (fun b o e q => (hs1.2 b q).trans e) (.list (vs := []) ⟨_, (hs1.2 _ (Nat.ne_of_gt hn.lt)).trans (Heap.get?_push_size _ rfl), rfl, rfl, _, rfl⟩ .nil)).1
  show wpAny _ A (execs (_ :: _) _) _ _ _
  refine wpAny_execs_cons (wpAny_Assign_Name (wpAny_Constant_int ?_) rfl)
  refine st_keep ((frMd rfl).inv _ _ J1 (Go.of_keeps (keeps_tok _ _))) rfl rfl hn1 (fun h2' J2 hn2 hk2 hsz2 => ?_)
  show wpAny _ A (execs (_ :: _) _) _ _ _
  obtain ⟨o58, fd58, ho58, hd58⟩ : ∃ o fd, (hd.heap_39 w.params).lookup 58 = some o ∧ o.data = .func fd := ⟨_, _, by k_is, rfl⟩
  refine wpAny_execs_cons (wpAny_For ?_ (fun _ => rfl))
  refine Call_Name rfl ((nm_global W rfl rfl rfl (by k_is) rfl) _ _ _ _ J2 ?_)
  refine Calls.callWith_function (o := o58) (fd := fd58) (Calls.evalArgs_plain (Calls.spliced_cons ?_))
  refine ev_use (d := .list [.int size, .int 0]) (J := KJ base _ _) (R := Keeps) ⟨J2.1, J2.2.stay⟩ ?hev (fun lv s3 hlv hk3 => Calls.spliced_nil ?_)
  case hev => exact ev_list (keMd (base := base) rfl) (sp_cons (keMd rfl) (ev_name (keMd rfl) rfl rfl) (sp_cons (keMd rfl) (ev_int (keMd rfl)) (sp_nil (keMd rfl)))) (by simp)
  have J3 := (frMd rfl).inv _ _ J2 (Go.of_keeps hk3)
  have hM3 : s3.heap.get? s.heap.objs.size = some { cls := .type "list", data := .seq #[] } := by
    obtain ⟨h3, tk3, e, kk⟩ := id hk3
    rw [e]; exact kk _ _ (hk2 _ _ (Nat.ne_of_gt hn.lt) hMs)
  have hbM : ∀ b o, base.get? b = some o → b < s.heap.objs.size := fun b o e => let ⟨_, h⟩ := hJ.2.stay.is ⟨o, e⟩; Heap.lt_size h
  have hs₀M : ∀ b o, s₀.heap.get? b = some o → b < s.heap.objs.size := fun b o e => let ⟨_, h⟩ := hJ.2.grew.keep.is ⟨o, e⟩; Heap.lt_size h
  have hfrM : ∀ b ∈ fsOf outer, b < s.heap.objs.size := fun b hb => by obtain ⟨o, _, _, h, _⟩ := hJ.2.dicts b hb; exact Heap.lt_size h
  have hLM : L < s.heap.objs.size := hn.lt
  have hn3 : ∃ m3, s3.heap.Ns L m3 ∧ m3 ("marks" : Str) = some (.ref s.heap.objs.size) := by
    obtain ⟨h3, tk3, rfl, kk⟩ := id hk3
    refine ⟨_, hn2.keeps kk, ?_⟩
    dsimp only
    rw [if_neg (by decide), if_pos rfl]
  have hk03 : ∀ b o, b ≠ L → s.heap.get? b = some o → s3.heap.get? b = some o := fun b o q e => by
    obtain ⟨h3, tk3, e', kk⟩ := id hk3
    rw [e']; exact kk _ _ (hk2 _ _ q ((hs1.2 b q).trans (Heap.get?_push_of_some _ e)))
  cases hlv with
  | @list l vs _ hl r =>
  cases r with
  | cons q1 r =>
  cases r with
  | cons q2 r =>
  cases r
  cases q1
  cases q2
  rename_i t0 u0
  refine ⟨⟨W.at J3.2.stay ho58, hd58⟩, ?_⟩
  have hau := a.units
  have had := a.depth
  refine gen_call w size ⟨h1, h2⟩ W ⟨a.handled, had, hau⟩ J3.2.stay hl.isList (fun C ga h4 tk4 hC hlt kk4 gs hGAt hb => ?_)
  refine wpAny_pyIter_gen (hGAt 0).1 ?_
  have hlL : l ≠ L := fun q => by
    obtain ⟨mm, ⟨oo, es, ep, ho, hd, _⟩, _⟩ := hn3
    obtain ⟨o2, ho2, _, _, nn, hd2⟩ := hl
    rw [q] at ho2
    have e3 : oo = o2 := Option.some.inj (ho.symm.trans ho2)
    subst e3
    rw [hd] at hd2; cases hd2
  have hlM : l ≠ s.heap.objs.size := fun q => by
    obtain ⟨o2, ho2, _, _, nn, hd2⟩ := hl
    rw [q, hM3] at ho2
    cases ho2
    cases hd2
  generalize hM : s.heap.objs.size = M at *
  refine codeAny_forLoop (fun n s' => ∃ k, n = 61 - k ∧ k ≤ (till / size).toNat ∧ LM PySem.Challenge.rw_oy0388_01.prog w A base outer (mEnv L) s₀ s M C l ga s3.gens size till k s') ?_ 61 ⟨0, rfl, Nat.zero_le _, ?_⟩
  · rintro n s' ⟨k, rfl, hk, X⟩
    obtain ⟨hfj, ⟨m', hm', hmm'⟩, ⟨vs, hpl, hvi⟩, hgat, ⟨gs0, hg0, hb0⟩, hkp⟩ := X
    obtain ⟨q, hq⟩ : ∃ q, 61 - k = q + 1 := ⟨60 - k, q_ex hk hT⟩
    obtain ⟨hgen, fp, hfp, gs1, hgs1, hb1, hgo⟩ := hgat
    rw [hq] at hgo
    obtain ⟨p, loose, mg, mb, T⟩ := W.T
    refine wpAny_pyNext_genexpQ (P := fun _ _ _ => False) (n := q + 1) a.handled (noLimit_keepF hfj.2.stay T.nolimit) (by omega) hgen hgs1 (hgo _ (fun b _ o e => e) hfj.2.stay) (fun v s₁ gs' hb' hv => ?_) (fun s₁ hp => hp.elim)
    obtain ⟨⟨t, rfl⟩, fp', hfp', ⟨h', tk', rfl, hs'⟩, hfz, hkap⟩ := hv
    have hst : (({ s'.setGen s3.gens.size .running with heap := h', toks := tk' } : Shared).setGen s3.gens.size gs') = { s' with heap := h', toks := tk', gens := s3.gens.push gs' } := by
      show Shared.mk _ _ _ _ _ = Shared.mk _ _ _ _ _
      simp only [Shared.setGen, hg0, push_set]
    show wpAny _ A (assign _ _ _) _ _ _
    rw [hst]
    have hLN : L < s3.heap.objs.size := by obtain ⟨mm, hmm, _⟩ := J3.1; exact hmm.lt
    have hbN : ∀ b o, base.get? b = some o → b < s3.heap.objs.size := fun b o e => let ⟨_, h⟩ := J3.2.stay.is ⟨o, e⟩; Heap.lt_size h
    have hs₀N : ∀ b o, s₀.heap.get? b = some o → b < s3.heap.objs.size := fun b o e => let ⟨_, h⟩ := J3.2.grew.keep.is ⟨o, e⟩; Heap.lt_size h
    have hfrN : ∀ b ∈ fsOf outer, b < s3.heap.objs.size := fun b hb => by obtain ⟨o, _, _, h, _⟩ := J3.2.dicts b hb; exact Heap.lt_size h
    have kd : ∀ b o, b < s3.heap.objs.size → s'.heap.get? b = some o → h'.get? b = some o := fun b o hb e => hs' b o (fun q => by rw [q] at hb; exact absurd hb (Nat.not_lt.mpr hC)) (fun q => absurd (Nat.lt_trans (hfp' b q).1 hb) (Nat.not_lt.mpr hC)) e
    have hgx : GenX s₀.gens (s3.gens.push gs') := by
      obtain ⟨_, _, g1, e1, _, hg1⟩ := J3.2.grew
      have : s3.gens = g1 := by rw [e1]
      rw [this]
      exact hg1.trans ⟨#[gs'], by simp, fun y hy => by simp at hy; subst hy; exact hb'⟩
    have F1 := fj_above (N := s3.heap.objs.size) (tk := tk') hfj rfl flat3 kd hLN hfrN hbN hs₀N hgx
    -- step is stored
    have hm1 : Heap.Ns h' L m' := hm'.at' fun o e => kd L o hLN e
    refine wpAny_assign_Name (st_keep F1 rfl rfl hm1 (fun h5 F5 hn5 hk5 hsz5 => ?_))
    -- mark += step
    refine wpAny_gen fun G EG hG => ?_
    refine wpAny_execs_cons (wpAny_AugAssign_Name ?_)
    obtain ⟨m5', hm5', hnm5'⟩ := id F5.1
    rcases hnm5' ("mark" : Str) (.int (k * size)) rfl with ⟨hkm, vm, hvm, hdm⟩ | ⟨hkc, _⟩
    · refine wpAny_loadName_local rfl hkm hm5' hvm ?_
      cases hdm
      refine ev_use (d := .int size) (J := KJ base _ _) (R := Keeps) ⟨F5.1, F5.2.stay⟩ ?hev (fun uv s6 huv hk6 => ?_)
      case hev => exact ev_name (keMd rfl) rfl rfl
      cases huv
      have F6 := (frMd rfl).inv _ _ F5 (Go.of_keeps hk6)
      obtain ⟨h6, tk6, rfl, kk6⟩ := hk6
      have hn6 := hn5.keeps kk6
      refine P.iadd_int ?_
      refine st_keep ((frMd rfl).inv _ _ F6 (Go.of_keeps (keeps_tok _ _))) rfl rfl hn6 (fun h7 F7 hn7 hk7 hsz7 => ?_)
      have hML : M ≠ L := by rw [← hM]; exact Nat.ne_of_gt hn.lt
      have kz : ∀ b o, b ≠ L → h'.get? b = some o → h7.get? b = some o := fun b o q e => hk7 b o q (kk6 b o (hk5 b o q e))
      have hMN : M < s3.heap.objs.size := Heap.lt_size hM3
      show wpAny _ A (execs (_ :: _) _) _ _ _
      refine wpAny_execs_cons (wpAny_If ?_)
      refine et_use (b := decide (till < k * size + size)) (J := KJ base _ _) (R := Keeps) ⟨F7.1, F7.2.stay⟩ ?htest (fun s8 hk8 => ?_)
      case htest => exact tv_cmp (keMd rfl) a.hu (ev_name (keMd rfl) rfl rfl) (ev_name (keMd rfl) rfl rfl) rfl rfl
      have F8 := (frMd rfl).inv _ _ F7 (Go.of_keeps hk8)
      obtain ⟨h8, tk8, rfl, kk8⟩ := hk8
      have hn8 := hn7.keeps kk8
      have hpl8 : h8.PlainList M vs.toArray := hpl.at fun o e => kk8 _ _ (kz M o hML (kd M o hMN e))
      have hmk : (fun y : Str => if y = ("mark" : Str) then some (Value.int (k * size + size) s'.toks) else (fun y : Str => if y = ("step" : Str) then some (Value.int size t) else m' y) y) ("marks" : Str) = some (.ref M) := by
        dsimp only
        rw [if_neg (by decide), if_neg (by decide)]; exact hmm'
      by_cases hgt : till < k * size + size
      · rw [if_pos (decide_eq_true hgt)]
        refine wpAny_execs_cons (wpAny_Return_some (wpAny_Name (wpAny_loadName_local (v := .ref M) rfl rfl hn8 hmk ?_) rfl))
        refine hG _ _ (hG0 _ _ ⟨.ret (.list ((marksI size till).map .int)), _, .ret ?_, rfl, F8, ?_⟩)
        · have hkT : k = (till / size).toNat := by
            exact q_hi hk (Int.ediv_lt_of_lt_mul (Int.lt_of_lt_of_le Int.one_pos h1) (q_up hgt))
          obtain ⟨nn, e⟩ := hpl8
          refine .list (vs := vs) ⟨_, e, rfl, rfl, nn, rfl⟩ ?_
          unfold marksI
          rw [← hkT]
          exact dtAll_of_ints hvi
        · intro b o e hno
          have hbL : b ≠ L := fun q => by
            obtain ⟨oo, es, ep, ho, hd, _⟩ := hn
            have e2 : s.heap.get? L = some o := q ▸ e
            have e3 : oo = o := Option.some.inj (ho.symm.trans e2)
            subst e3
            exact hno.1 es ep hd
          have hbs : b < M := by rw [← hM]; exact Heap.lt_size e
          exact kk8 _ _ (kz b o hbL (kd b o (Nat.lt_trans hbs hMN) (hkp b o hbL e)))
      · rw [if_neg (by simpa using hgt)]
        refine wpAny_execs_nil ?_
        show wpAny _ A (execs (_ :: _) _) _ _ _
        refine wpAny_execs_cons (wpAny_Expr (wpAny_Call_append rfl rfl rfl rfl (wpAny_Name (wpAny_loadName_local (v := .ref M) rfl rfl hn8 hmk ⟨M, vs.toArray, rfl, ?_, ?_⟩) rfl)) rfl rfl)
        · obtain ⟨nn, e⟩ := hpl8; exact ⟨_, nn, e, rfl, rfl, rfl⟩
        refine ev_use (d := .int (k * size + size)) (J := KJ base _ _) (R := Keeps) ⟨F8.1, F8.2.stay⟩ ?hev2 (fun uv s9 huv hk9 => ?_)
        case hev2 => exact ev_name (keMd rfl) rfl rfl
        cases huv
        have F9 := (frMd rfl).inv _ _ F8 (Go.of_keeps hk9)
        obtain ⟨h9, tk9, rfl, kk9⟩ := hk9
        have hpl9 : h9.PlainList M vs.toArray := hpl8.at fun o e => kk9 _ _ e
        refine wpAny_list_append_plain hpl9 (fun h10 hpl10 hs10 => ?_) (by have := hvi.length; simp [upFrom_length] at this; unfold sizeLine; simp; omega)
        show wpAny _ A (execs [] _) _ _ _
        have hk1 : k + 1 ≤ (till / size).toNat := q_lo (Int.le_ediv_of_mul_le (Int.lt_of_lt_of_le Int.one_pos h1) (q_dn hgt))
        refine wpAny_execs_nil (hG _ _ ⟨61 - (k + 1), q_lt hq, k + 1, rfl, hk1, ?_⟩)
        · have hMk : ((k + 1 : Nat) : Int) * size = k * size + size := by rw [Int.natCast_add, Int.add_mul]; simp
          have kf : ∀ b o, b ≠ L → b ≠ M → h'.get? b = some o → h10.get? b = some o := fun b o q1 q2 e => (hs10.2 b q2).trans (kk9 _ _ (kk8 _ _ (kz b o q1 e)))
          have F9' : FJ base outer (mEnv L) s₀ [("size", .int size), ("end", .int till), ("mark", .int ((k + 1 : Nat) * size))] _ := ⟨F9.1.weaken (Sub.cons rfl (Sub.cons rfl (Sub.cons (by rw [hMk]; rfl) Sub.nil))), F9.2⟩
          refine ⟨fj_above (N := M) (tk := tk9) F9' rfl flat3 (fun b o hb e => (hs10.2 b (Nat.ne_of_lt hb)).trans e) (hM ▸ hLM) (hM ▸ hfrM) (hM ▸ hbM) (hM ▸ hs₀M) hgx, ⟨_, (hn8.keeps kk9).at' (fun o e => (hs10.2 L (Ne.symm hML)).trans e), hmk⟩, ?_, ?_, ⟨gs', rfl, hb'⟩, ?_⟩
          · refine ⟨vs ++ [.int (k * size + size) _], by simpa using hpl10, ?_⟩
            have e2 : (upFrom 1 (k + 1)).map (· * size) = (upFrom 1 k).map (· * size) ++ [k * size + size] := by
              rw [upFrom_snoc, List.map_append]
              congr 1
              simp only [List.map_cons, List.map_nil, Int.add_mul]
              congr 1; omega
            rw [e2]
            exact ints_snoc hvi
          · have hq' : 61 - (k + 1) = q := q_eq hq
            rw [hq']
            have hCM : ∀ b, s3.heap.objs.size ≤ b → b ≠ L ∧ b ≠ M := fun b hb => ⟨fun q => Nat.lt_irrefl _ (Nat.lt_of_lt_of_le hLN (q ▸ hb)), fun q => Nat.lt_irrefl _ (Nat.lt_of_lt_of_le hMN (q ▸ hb))⟩
            have hgaN : s3.heap.objs.size ≤ ga := Nat.le_trans hC (Nat.le_of_lt hlt)
            refine ⟨?_, fp', hfp', gs', Array.getElem?_push_size .., hb', fun s'' hal hst2 => hkap (q_sp hk1 hT hq') s'' (fun b hb o e => hal b hb o (kf b o ?_ ?_ e)) hst2⟩
            · obtain ⟨o, nm, qn, ho, r⟩ := hgen
              exact ⟨o, nm, qn, kf _ _ (hCM ga hgaN).1 (hCM ga hgaN).2 (hs' ga o (Nat.ne_of_gt hlt) (fun q => (hfp' ga q).2 rfl) ho), r⟩
            · rcases List.mem_cons.mp hb with rfl | hb
              · exact (hCM _ hC).1
              · rcases List.mem_cons.mp hb with rfl | hb
                · exact hlL
                · rcases List.mem_cons.mp hb with rfl | hb
                  · exact (hCM _ hgaN).1
                  · exact (hCM _ (Nat.le_trans hC (Nat.le_of_lt (hfp' b hb).1))).1
            · rcases List.mem_cons.mp hb with rfl | hb
              · exact (hCM _ hC).2
              · rcases List.mem_cons.mp hb with rfl | hb
                · exact hlM
                · rcases List.mem_cons.mp hb with rfl | hb
                  · exact (hCM _ hgaN).2
                  · exact (hCM _ (Nat.le_trans hC (Nat.le_of_lt (hfp' b hb).1))).2
          · intro b o hbL e
            have hbs : b < M := by rw [← hM]; exact Heap.lt_size e
            exact kf b o hbL (Nat.ne_of_lt hbs) (kd b o (Nat.lt_trans hbs hMN) (hkp b o hbL e))
    · cases hkc
  · have F3 : FJ base outer (mEnv L) s₀ [("size", .int size), ("end", .int till), ("mark", .int ((0 : Nat) * size))] s3 :=
      ⟨J3.1.weaken (Sub.cons rfl (Sub.cons rfl (Sub.cons (by rw [show ((0 : Nat) : Int) * size = 0 by simp]; rfl) Sub.nil))), J3.2⟩
    have hLN : L < s3.heap.objs.size := by obtain ⟨mm, hmm, _⟩ := J3.1; exact hmm.lt
    have hbN : ∀ b o, base.get? b = some o → b < s3.heap.objs.size := fun b o e => let ⟨_, h⟩ := J3.2.stay.is ⟨o, e⟩; Heap.lt_size h
    have hs₀N : ∀ b o, s₀.heap.get? b = some o → b < s3.heap.objs.size := fun b o e => let ⟨_, h⟩ := J3.2.grew.keep.is ⟨o, e⟩; Heap.lt_size h
    have hfrN : ∀ b ∈ fsOf outer, b < s3.heap.objs.size := fun b hb => by obtain ⟨o, _, _, h, _⟩ := J3.2.dicts b hb; exact Heap.lt_size h
    have hgx : GenX s₀.gens (s3.gens.push gs) := by
      obtain ⟨_, _, g1, e1, _, hg1⟩ := J3.2.grew
      have : s3.gens = g1 := by rw [e1]
      rw [this]
      exact hg1.trans ⟨#[gs], by simp, fun y hy => by simp at hy; subst hy; exact hb⟩
    obtain ⟨m3, hm3, e3⟩ := hn3
    exact ⟨fj_above (N := s3.heap.objs.size) (tk := tk4) F3 rfl flat3 (fun b o _ e => kk4 b o e) hLN hfrN hbN hs₀N hgx, ⟨m3, hm3.keeps kk4, e3⟩, ⟨[], ⟨0, kk4 _ _ hM3⟩, .nil⟩, hGAt 60, ⟨gs, rfl, hb⟩, fun b o q e => kk4 _ _ (hk03 b o q e)⟩
end Mine

namespace Mine
section
variable {prog : Program} {w : World} {A : Around} {base : Heap} {outer : List Env} {env : Env} {s₀ : Shared} {ρ : Rho}
theorem cx_store {s : Shared} {m m' : Str → Option Value} {h' : Heap} {tk : Nat} (C : Cx base outer env s₀ s) (hn : s.heap.Ns env.locals m) (hn' : h'.Ns env.locals m')
    (kd : ∀ b o, s.heap.get? b = some o → b ≠ env.locals → h'.get? b = some o) : Cx base outer env s₀ { s with heap := h', toks := tk } := by
  have nb : base.get? env.locals = none := fs_base C.frs (by unfold fsOf; rw [List.filterMap_cons, C.frame]; exact .head _)
  refine ⟨C.stay.but kd nb, ?_, ?_, ?_, C.frame, C.new, C.newC, ?_, C.inj⟩
  · obtain ⟨hk', ⟨L, o, hf, hn₀, ho, hd⟩, hr⟩ := C.frs
    obtain ⟨o', es', ep', ho', hd', _⟩ := hn'
    refine ⟨hk', ⟨env.locals, o', C.frame, nb, ho', fun vs q => by rw [hd'] at q; cases q⟩, ?_⟩
    have : ∀ l : List Env, s.heap.FunFrames base l → (Heap.FunFrames h' base l) := by
      intro l
      induction l with
      | nil => intro _; trivial
      | cons e r ih =>
        rintro ⟨a, ⟨L, o, b, c, d, f⟩, g⟩
        by_cases q : L = env.locals
        · exact ⟨a, ⟨L, o', b, c, by rw [q]; exact ho', fun vs q => by rw [hd'] at q; cases q⟩, ih g⟩
        · exact ⟨a, ⟨L, o, b, c, kd _ _ d q, f⟩, ih g⟩
    exact this outer hr
  · intro b hb
    obtain ⟨o, es, n, ho, hd⟩ := C.dicts b hb
    by_cases q : b = env.locals
    · obtain ⟨o', es', ep', ho', hd', _⟩ := hn'
      exact ⟨o', es', ep', by rw [q]; exact ho', hd'⟩
    · exact ⟨o, es, n, kd b o ho q, hd⟩
  · obtain ⟨h₁, t₁, g₁, rfl, k, b⟩ := C.grew
    exact ⟨h', _, g₁, rfl, k.but kd C.new, b⟩
  · intro n c e
    obtain ⟨v, o, ho, hd⟩ := C.isC n c e
    refine ⟨v, o, kd c o ho fun q => ?_, hd⟩
    obtain ⟨o', es, ep, ho', hd', _⟩ := hn
    rw [q, ho'] at ho; cases ho; rw [hd'] at hd; cases hd
theorem ns_same {h : Heap} {L : Addr} {m m' : Str → Option Value} (x : h.Ns L m) (y : h.Ns L m') : ∀ z, m z = m' z := by
  obtain ⟨o, es, ep, a, b, c, e⟩ := x
  obtain ⟨o', es', ep', a', b', c', e'⟩ := y
  rw [a] at a'; cases a'
  rw [b] at b'; cases b'
  intro z; rw [← e z, ← e' z]
theorem fj_any {s : Shared} {x : Str} {v : Value} {m : Str → Option Value} {h' : Heap} {tk : Nat} (hJ : FJ base outer env s₀ ρ s) (hx : ρ.lookup x = none) (hn : s.heap.Ns env.locals m) (hn' : h'.Ns env.locals (fun y => if y = x then some v else m y))
    (kd : ∀ b o, s.heap.get? b = some o → b ≠ env.locals → h'.get? b = some o) : FJ base outer env s₀ ρ { s with heap := h', toks := tk } := by
  refine ⟨?_, cx_store hJ.2 hn hn' kd⟩
  obtain ⟨m', hm', hnm⟩ := hJ.1
  have em := ns_same hm' hn
  have sk : SeqKeep s.heap h' := fun p o e ⟨xs, n, hd⟩ => by
    refine ⟨o, kd p o e fun q => ?_, rfl, rfl, rfl⟩
    obtain ⟨o', es, ep, ho', hd', _⟩ := hn
    rw [q, ho'] at e; cases e; rw [hd] at hd'; cases hd'
  refine ⟨_, hn', fun y e hy => ?_⟩
  have q : y ≠ x := fun q => by rw [q, hx] at hy; cases hy
  rcases hnm y e hy with ⟨a, u, b, c⟩ | ⟨a, c, u, b, hc, hd⟩
  · exact .inl ⟨a, u, by simpa [q, em] using b, c.mono sk⟩
  · refine .inr ⟨a, c, u, b, ?_, hd.mono sk⟩
    obtain ⟨o, ho, hd⟩ := hc
    refine ⟨o, kd c o ho fun e => ?_, hd⟩
    obtain ⟨o', es, ep, ho', hd', _⟩ := hn
    rw [e, ho'] at ho; cases ho; rw [hd'] at hd; cases hd
theorem st_anyv {s : Shared} {x : Str} {v : Value} {m : Str → Option Value} {E : Value → Shared → Prop} {Q : Unit → Shared → Prop} (hJ : FJ base outer env s₀ ρ s) (hk : env.scope.kind = .function) (hx : env.kindOf x = some .local) (hr : ρ.lookup x = none) (hn : s.heap.Ns env.locals m)
    (h : ∀ h', FJ base outer env s₀ ρ { s with heap := h', toks := s.toks + 1 } → h'.Ns env.locals (fun y => if y = x then some v else m y) → (∀ b o, b ≠ env.locals → s.heap.get? b = some o → h'.get? b = some o) → h'.objs.size = s.heap.objs.size → Q () { s with heap := h', toks := s.toks + 1 }) :
    wpAny (model prog w) A (storeName env x v) Q E s := by
  refine wpAny_storeName_local hx hn (fun h' hn' hs => ?_) (by rw [hk]; rfl)
  exact h h' (fj_any hJ hr hn hn' (fun b o e q => (hs.2 b q).trans e)) hn' (fun b o q e => (hs.2 b q).trans e) hs.1
end
end Mine

namespace Mine
noncomputable def Nw (base : Heap) (s₀ : Shared) (b : Addr) : Prop := base.get? b = none ∧ s₀.heap.get? b = none
noncomputable def Exc0 (h : Heap) (e : Addr) (cx : Value) : Prop := ∃ oe vs, h.get? e = some oe ∧ oe.cls = .type "IndexError" ∧ oe.data = .fields vs ∧ vs[1]? = some .none ∧ vs[2]? = some cx
noncomputable def ExcT (h : Heap) (e T : Addr) (cx : Value) : Prop :=
  ∃ oe vs oT ts fl, h.get? e = some oe ∧ oe.cls = .type "IndexError" ∧ oe.data = .fields vs ∧ vs[1]? = some (.ref T) ∧ vs[2]? = some cx ∧ T ≠ e ∧ h.get? T = some oT ∧ oT.data = .fields ts ∧ ts[3]? = some fl
noncomputable def XT (base : Heap) (outer : List Env) (env : Env) (s₀ : Shared) (ρ : Rho) (e : Addr) (cx : Value) (s : Shared) : Prop :=
  FJ base outer env s₀ ρ s ∧ Nw base s₀ e ∧ ∃ T, Nw base s₀ T ∧ ExcT s.heap e T cx
noncomputable def XJ (base : Heap) (outer : List Env) (env : Env) (s₀ : Shared) (ρ : Rho) (e : Addr) (cx : Value) (s : Shared) : Prop :=
  FJ base outer env s₀ ρ s ∧ Nw base s₀ e ∧ (Exc0 s.heap e cx ∨ ∃ T, Nw base s₀ T ∧ ExcT s.heap e T cx)
noncomputable def Xk (h h' : Heap) : Prop := h.UpToSlots h' ∧ ∀ b o, h.get? b = some o → (∃ xs n, o.data = .seq xs n) → h'.get? b = some o
theorem Xk.refl (h : Heap) : Xk h h := ⟨.refl h, fun _ _ e _ => e⟩
theorem Xk.trans {a b c : Heap} (x : Xk a b) (y : Xk b c) : Xk a c := ⟨x.1.trans y.1, fun p o e n => y.2 p o (x.2 p o e n) n⟩
theorem Xk.of_keeps {h h' : Heap} (k : ∀ b o, h.get? b = some o → h'.get? b = some o) : Xk h h' := ⟨.of_keeps k, fun b o e _ => k b o e⟩
theorem Xk.plain {h h' : Heap} (x : Xk h h') {l : Addr} {vs : Array Value} (p : h.PlainList l vs) : h'.PlainList l vs := by
  obtain ⟨n, e⟩ := p
  exact ⟨n, x.2 _ _ e ⟨_, _, rfl⟩⟩
theorem ExcT.keeps {h h' : Heap} {e T : Addr} {cx : Value} (x : ExcT h e T cx) (k : ∀ b o vs, h.get? b = some o → o.data = .fields vs → h'.get? b = some o) : ExcT h' e T cx := by
  obtain ⟨oe, vs, oT, ts, fl, he, hc, hd, h1, h2, hT, hT', hd', h3⟩ := x
  exact ⟨oe, vs, oT, ts, fl, k _ _ _ he hd, hc, hd, h1, h2, hT, k _ _ _ hT' hd', hd', h3⟩
theorem ExcT.there {h : Heap} {e T : Addr} {cx : Value} (x : ExcT h e T cx) : ∃ ob, h.get? e = some ob ∧ ob.cls = .type "IndexError" := by
  obtain ⟨oe, vs, oT, ts, fl, he, hc, _⟩ := x
  exact ⟨oe, he, hc⟩

section
variable {M : Model} {A : Around} {E : Value → Shared → Prop} {s : Shared} {base : Heap} {outer : List Env} {env : Env} {s₀ : Shared} {ρ : Rho} {e : Addr} {cx : Value}
theorem nw_of (J : FJ base outer env s₀ ρ s) {b : Addr} (h : s.heap.get? b = none) : Nw base s₀ b := by
  refine ⟨?_, ?_⟩
  · cases e : base.get? b with
    | none => rfl
    | some o => obtain ⟨o', q⟩ := J.2.stay.is ⟨o, e⟩; rw [h] at q; cases q
  · cases e : s₀.heap.get? b with
    | none => rfl
    | some o => obtain ⟨o', q⟩ := J.2.grew.keep.is ⟨o, e⟩; rw [h] at q; cases q
theorem go_slots (J : FJ base outer env s₀ ρ s) {h' : Heap} (hs : Heap.SlotsOnly ((env :: outer).filterMap (·.frame)) s.heap h') : Go (fsOf (env :: outer)) s { s with heap := h' } := by
  refine ⟨h', s.toks, s.gens, rfl, fun b o e => ⟨fun q _ => (hs.2.1 b q).trans e, fun _ _ => hs.2.2 b o e, fun vs hb hc hd => ⟨#[], ?_, triples_nil⟩⟩, .refl _⟩
  have q : b ∉ (env :: outer).filterMap (·.frame) := fun hm => by
    obtain ⟨o', es, n, ho, hd'⟩ := fs_dict J hm
    rw [e] at ho; cases ho; rw [hd] at hd'; cases hd'
  rw [hs.2.1 b q, e]
  cases o
  simp_all
theorem xk_slots (J : FJ base outer env s₀ ρ s) {h' : Heap} (hs : Heap.SlotsOnly ((env :: outer).filterMap (·.frame)) s.heap h') : Xk s.heap h' := by
  refine ⟨fun b o e _ => hs.2.2 b o e, fun b o e ⟨xs, n, hd⟩ => ?_⟩
  have q : b ∉ (env :: outer).filterMap (·.frame) := fun hm => by
    obtain ⟨o', es, n, ho, hd'⟩ := fs_dict J hm
    rw [e] at ho; cases ho; rw [hd] at hd'; cases hd'
  exact (hs.2.1 b q).trans e

theorem entry_x {oe : Obj} {vs : Array Value} {head : Value} {had : Bool} {Q : Unit → Shared → Prop} (hfr : A.frames = some (env :: outer)) (J : FJ base outer env s₀ ρ s) (hn : Nw base s₀ e)
    (he : s.heap.get? e = some oe) (hc : oe.cls = .type "IndexError") (hd : oe.data = .fields vs) (h1 : 1 < vs.size) (h2 : vs[2]? = some cx)
    (hQ : ∀ h', XT base outer env s₀ ρ e cx { s with heap := h' } → Xk s.heap h' → Q () { s with heap := h' }) :
    wpAny M A (do let a ← frameOf env; let pl ← entryPlaceOf env.locals had; let b ← EntryCells.newEntry head a .none (rawInt env.locals) .none pl; setField (.ref e) 1 b) Q E s := by
  have hene : e ∉ (env :: outer).filterMap (·.frame) := fun hm => by
    obtain ⟨o', es, n, ho, hd'⟩ := fs_dict J hm
    rw [he] at ho; cases ho; rw [hd] at hd'; cases hd'
  refine wpAny_bind (wpAny_frameOf_fun hfr J.2.frs J.2.frame fun h₁ hs₁ => ?_)
  refine wpAny_bind (wpAny_entryPlaceOf fun pl hpl => ?_)
  unfold EntryCells.newEntry newFields
  refine wpAny_bind (wpAny_newObj_type ?_ (hpl.sizeOk5 _ _ _ _ _))
  have J₁ : FJ base outer env s₀ ρ { s with heap := h₁ } := by
    have g := go_slots J hs₁
    exact ⟨J.1.slots g.keep.slots, J.2.go g⟩
  have he₁ : h₁.get? e = some oe := (hs₁.2.1 e hene).trans he
  generalize hob : ({ cls := .type "traceback", dict := none, data := .fields ([head, .ref env.locals, .none, rawInt env.locals, .none] ++ (if pl.isEmpty then List.replicate 6 Value.none else pl)).toArray } : Obj) = ob
  have he₂ := Heap.get?_push_of_some (h := h₁) ob he₁
  refine wpAny_setField he₂ hd h1 (hQ _ ?_ ?_)
  · have J₂ : FJ base outer env s₀ ρ { s with heap := h₁.push ob } := by
      have g : Go (fsOf (env :: outer)) { s with heap := h₁ } { s with heap := h₁.push ob } := Go.of_keeps (keeps_push _ _ _)
      exact ⟨J₁.1.slots g.keep.slots, J₁.2.go g⟩
    have hTe : h₁.objs.size ≠ e := Nat.ne_of_gt (Heap.lt_size he₁)
    have hd₃ := Obj.data_mapFields hd (·.setIfInBounds 1 (Value.ref h₁.objs.size))
    have hb0 : (h₁.push ob).get? h₁.objs.size = some ob := by
      subst hob; exact Heap.get?_push_size h₁ rfl
    have J₃ := fj_iter (wr := [e]) (h' := (h₁.push ob).update e (Obj.mapFields (·.setIfInBounds 1 (Value.ref h₁.objs.size)))) (tk := s.toks) J₂
      (fun b hb => by rw [List.mem_singleton.mp hb]; exact hn) (fun b hb => by rw [List.mem_singleton.mp hb]; exact ⟨oe, vs, he₂, hd⟩)
      (fun b o hb e' => (Heap.get?_update_other _ _ (fun q => hb (by rw [q]; exact .head _))).trans e')
    refine ⟨J₃, hn, h₁.objs.size, nw_of J₁ (Heap.get?_none_of_le (Nat.le_refl _)), _, _, ob, _, rawInt env.locals, Heap.get?_update_self _ he₂ (Obj.isFreed_of_fields hd₃), (Obj.cls_mapFields _ _).trans hc, hd₃, by simp [h1], by rw [Array.getElem?_setIfInBounds_ne (by decide)]; exact h2, hTe,
      (Heap.get?_update_other _ _ (Ne.symm hTe)).trans hb0, by subst hob; rfl, by simp⟩
  · have noRecord : ∀ b o, s.heap.get? b = some o → (∀ vs, o.data ≠ .fields vs) → b ≠ e := fun b o hb hnf q => by
      rw [q, he] at hb; injection hb with hb; subst hb; exact hnf vs hd
    refine (xk_slots J hs₁).trans ((Xk.of_keeps (h' := h₁.push ob) fun _ _ e => Heap.get?_push_of_some _ e).trans ⟨fun b o e' hnf => ⟨o.slots, ?_⟩, fun b o e' ⟨xs, n, hd'⟩ => ?_⟩)
    · exact (Heap.get?_update_other _ _ (fun q => by rw [← q, he₂] at e'; cases e'; exact hnf _ hd)).trans e'
    · exact (Heap.get?_update_other _ _ (fun q => by rw [← q, he₂] at e'; cases e'; rw [hd] at hd'; cases hd')).trans e'

theorem mark_x {T : Addr} {oT : Obj} {ts : Array Value} {fl : Value} {v : Value} (J : FJ base outer env s₀ ρ s) (hn : Nw base s₀ e) (hT : Nw base s₀ T) (hx : ExcT s.heap e T cx) (ho : s.heap.get? T = some oT) (hd : oT.data = .fields ts) (h3 : ts[3]? = some fl) :
    XT base outer env s₀ ρ e cx { s with heap := s.heap.update T (Obj.mapFields (·.setIfInBounds 3 v)) } ∧ Xk s.heap (s.heap.update T (Obj.mapFields (·.setIfInBounds 3 v))) := by
  have other : ∀ b, b ≠ T → (s.heap.update T (Obj.mapFields (·.setIfInBounds 3 v))).get? b = s.heap.get? b := fun b hb => Heap.get?_update_other _ _ (Ne.symm hb)
  have hsz : 3 < ts.size := (Array.getElem?_eq_some_iff.mp h3).1
  have hd₃ := Obj.data_mapFields hd (·.setIfInBounds 3 v)
  refine ⟨⟨?_, hn, T, hT, ?_⟩, fun b o e' hnf => ⟨o.slots, ?_⟩, fun b o e' ⟨xs, n, hd'⟩ => ?_⟩
  · exact fj_iter (wr := [T]) (tk := s.toks) J (fun b hb => by rw [List.mem_singleton.mp hb]; exact hT) (fun b hb => by rw [List.mem_singleton.mp hb]; exact ⟨oT, ts, ho, hd⟩)
      (fun b o hb e' => (other b fun q => hb (by rw [q]; exact .head _)).trans e')
  · obtain ⟨oe, vs, oT', ts', fl', he, hc, hde, h1, h2, hTe, hT', hd', h3'⟩ := hx
    exact ⟨oe, vs, _, _, v, (other e (Ne.symm hTe)).trans he, hc, hde, h1, h2, hTe, Heap.get?_update_self _ ho (Obj.isFreed_of_fields hd₃), hd₃, by simp [hsz]⟩
  · exact (other b fun q => by rw [q, ho] at e'; cases e'; exact hnf _ hd).trans e'
  · exact (other b fun q => by rw [q, ho] at e'; cases e'; rw [hd] at hd'; cases hd').trans e'

theorem note_x {Q : Unit → Shared → Prop} (hfr : A.frames = some (env :: outer)) (X : XJ base outer env s₀ ρ e cx s)
    (hQ : ∀ h', XT base outer env s₀ ρ e cx { s with heap := h' } → Xk s.heap h' → Q () { s with heap := h' }) : wpAny M A (noteFrame (.ref e) env) Q E s := by
  obtain ⟨J, hn, X⟩ := X
  unfold noteFrame
  simp only [J.2.frame]
  rcases X with ⟨oe, vs, he, hc, hd, h1, h2⟩ | ⟨T, hT, hx⟩
  · refine wpAny_bind (wpAny_field he hd h1 ?_)
    rw [if_neg (by decide)]
    exact entry_x hfr J hn he hc hd (Array.getElem?_eq_some_iff.mp h1).1 h2 hQ
  · obtain ⟨oe, vs, oT, ts, fl, he, hc, hd, h1, h2, hTe, hT', hd', h3⟩ := id hx
    refine wpAny_bind (wpAny_field he hd h1 ?_)
    rw [if_pos (show (Value.ref T != Value.none) = true from by simp)]
    refine wpAny_bind (wpAny_field hT' hd' h3 ?_)
    by_cases q : (fl == rawInt env.locals) = true
    · rw [if_pos q]
      exact wpAny_pure (hQ s.heap ⟨J, hn, T, hT, hx⟩ (.refl _))
    · rw [if_neg q]
      refine wpAny_bind (wpAny_setField hT' hd' (Array.getElem?_eq_some_iff.mp h3).1 ?_)
      obtain ⟨⟨J₁, _, _⟩, k₁⟩ := mark_x (v := .none) J hn hT hx hT' hd' h3
      exact entry_x hfr J₁ hn ((Heap.get?_update_other _ _ hTe).trans he) hc hd (Array.getElem?_eq_some_iff.mp h1).1 h2 fun h' X' k' => hQ h' X' (k₁.trans k')
theorem flight_x {Q : Unit → Shared → Prop} {f : Option Addr} (X : XT base outer env s₀ ρ e cx s)
    (hQ : ∀ h', XT base outer env s₀ ρ e cx { s with heap := h' } → Xk s.heap h' → Q () { s with heap := h' }) : wpAny M A (setFlight (.ref e) f) Q E s := by
  obtain ⟨J, hn, T, hT, hx⟩ := X
  obtain ⟨oe, vs, oT, ts, fl, he, hc, hd, h1, h2, hTe, hT', hd', h3⟩ := id hx
  unfold setFlight
  refine wpAny_bind (wpAny_field he hd h1 ?_)
  rw [if_pos (show (Value.ref T != Value.none) = true from by simp)]
  obtain ⟨X₁, k₁⟩ := mark_x (v := f.elim .none fun f => rawInt f) J hn hT hx hT' hd' h3
  exact wpAny_setField hT' hd' (Array.getElem?_eq_some_iff.mp h3).1 (hQ _ X₁ k₁)
theorem XT.toJ {s : Shared} (X : XT base outer env s₀ ρ e cx s) : XJ base outer env s₀ ρ e cx s := ⟨X.1, X.2.1, .inr X.2.2⟩
theorem came_x (X : XT base outer env s₀ ρ e cx s) (hE : ∀ h', XT base outer env s₀ ρ e cx { s with heap := h' } → Xk s.heap h' → E (.ref e) { s with heap := h' }) :
    cameBackBy M A env E (.ref e) s := by
  obtain ⟨J, hn, T, hT, oe, vs, oT, ts, fl, he, hc, hd, h1, r⟩ := id X
  unfold cameBackBy
  refine wpAny_bind (wpAny_field he hd h1 ?_)
  rw [if_neg (show ¬ (Value.ref T == Value.none) = true from by simp)]
  exact flight_x X hE
theorem noted_x (hfr : A.frames = some (env :: outer)) (X : XJ base outer env s₀ ρ e cx s) (hE : ∀ h', XT base outer env s₀ ρ e cx { s with heap := h' } → Xk s.heap h' → E (.ref e) { s with heap := h' }) :
    notedBy M A env (cameBackBy M A env E) (.ref e) s :=
  note_x hfr X fun h' X' k' => came_x X' fun h'' X'' k'' => hE h'' X'' (k'.trans k'')
theorem pass_x {α : Type} {what : String} {Q : α → Shared → Prop} (X : XT base outer env s₀ ρ e cx s) (hE : ∀ h', XT base outer env s₀ ρ e cx { s with heap := h' } → Xk s.heap h' → E (.ref e) { s with heap := h' }) :
    wpAny M A (PySem.passOn what (.ref e) env : Sem α) Q E s := by
  obtain ⟨J, hn, T, hT, oe, vs, oT, ts, fl, he, hc, hd, h1, r⟩ := id X
  unfold PySem.passOn
  refine wpAny_bind (wpAny_field he hd h1 ?_)
  rw [if_neg (show ¬ (Value.ref T == Value.none) = true from by simp)]
  exact wpAny_bind (flight_x X fun h' X' k' => wpAny_throw (hE h' X' k'))
end
end Mine

namespace Mine
theorem entry_unchain : entryFor table "proto.unchain" = some Builtin.«proto.unchain» := entryFor_of_tree (by kernel_rfl)
section
variable {prog : Program} {w : World} {A : Around} {E : Value → Shared → Prop} {s : Shared} {base : Heap} {outer : List Env} {env : Env} {s₀ : Shared} {ρ : Rho} {e c : Addr} {cx : Value}
theorem raise_h {α : Type} {msg : String} {Q : α → Shared → Prop} (hh : A.handled = some (.ref c)) (hc : ∃ oc vs, s.heap.get? c = some oc ∧ oc.data = .fields vs ∧ vs[2]? = some .none)
    (h : ∀ h' tk e, (∀ b o, s.heap.get? b = some o → h'.get? b = some o) → s.heap.get? e = none → (∃ oe t, h'.get? e = some oe ∧ oe.cls = .type "IndexError" ∧ oe.data = .fields #[t, .none, .ref c, .none, .bool false, .none]) → E (.ref e) { s with heap := h', toks := tk }) :
    wpAny (model prog w) A (raiseErrorWords "IndexError" msg : Sem α) Q E s := by
  obtain ⟨oc, vs, hoc, hd, h2⟩ := hc
  have hp := plainExc_IndexError
  unfold raiseErrorWords
  refine wpAny_bind (wpAny_mkText (wpAny_bind ?_))
  unfold newExc newTuple
  refine wpAny_bind (wpAny_newObj_type ?_)
  refine wpAny_bind (m := firstArgMember _ _) (wpAny_of_eq (a := Value.none) (by simp only [firstArgMember, hp.first]; rfl) ?_)
  rw [hp.own]
  refine wpAny_newObj_type ?_
  unfold raiseNew
  refine wpAny_bind (wpAny_handled ?_)
  rw [hh]
  dsimp only
  generalize htup : ({ cls := .type "tuple", data := .seq #[Value.str (Str.ofString msg) s.toks] } : Obj) = tup
  have hoc' : (s.heap.push tup).get? c = some oc := Heap.get?_push_of_some _ hoc
  have hcN : c ≠ (s.heap.push tup).objs.size := Nat.ne_of_lt (Heap.lt_size hoc')
  rw [if_pos (show (Value.ref c != Value.ref (s.heap.push tup).objs.size) = true from by simpa using hcN)]
  generalize hex : ({ cls := .type "IndexError", data := .fields (#[Value.ref s.heap.objs.size, .none, .none, .none, .bool false, .none] ++ #[]) } : Obj) = ex
  have hf : ex.isFreed = false := by subst hex; rfl
  have hN : ((s.heap.push tup).push ex).get? (s.heap.push tup).objs.size = some ex := Heap.get?_push_size _ hf
  have hed : ex.data = .fields #[Value.ref s.heap.objs.size, .none, .none, .none, .bool false, .none] := by subst hex; rfl
  have hec : ex.cls = .type "IndexError" := by subst hex; rfl
  have hnew : s.heap.get? (s.heap.push tup).objs.size = none := Heap.get?_none_of_le (by simp)
  refine wpAny_bind (wpAny_holding (wpAny_runValue (codeAny_builtin entry_unchain ?_)))
  show wpAny _ _ (field (.ref c) 2 >>= _) _ _ _
  refine wpAny_bind (wpAny_field (Heap.get?_push_of_some _ hoc') hd h2 ?_)
  refine wpAny_pure ?_
  show wpAny _ _ (setField (.ref _) 2 (.ref c) >>= _) _ _ _
  refine wpAny_bind (wpAny_setField hN hed (by simp) (wpAny_throw ?_))
  have hd₃ := Obj.data_mapFields hed (·.setIfInBounds 2 (Value.ref c))
  refine h _ _ _ (fun b o e => ?_) hnew ⟨_, .ref s.heap.objs.size, Heap.get?_update_self _ hN (Obj.isFreed_of_fields hd₃), (Obj.cls_mapFields _ _).trans hec, hd₃⟩
  exact (Heap.get?_update_other _ _ (fun q => by rw [← q, hnew] at e; cases e)).trans (Heap.get?_push_of_some _ (Heap.get?_push_of_some _ e))
noncomputable def HdOk (A : Around) (h : Heap) : Prop := A.handled = none ∨ ∃ c oc vs, A.handled = some (.ref c) ∧ h.get? c = some oc ∧ oc.data = .fields vs ∧ vs[2]? = some .none
theorem raise_x {α : Type} {msg : String} {Q : α → Shared → Prop} (hH : HdOk A s.heap) (J : FJ base outer env s₀ ρ s)
    (hE : ∀ h' tk e cx, XJ base outer env s₀ ρ e cx { s with heap := h', toks := tk } → (∀ b o, s.heap.get? b = some o → h'.get? b = some o) → (A.handled = none → cx = .none) → E (.ref e) { s with heap := h', toks := tk }) :
    wpAny (model prog w) A (raiseErrorWords "IndexError" msg : Sem α) Q E s := by
  have fin : ∀ h' tk, (∀ b o, s.heap.get? b = some o → h'.get? b = some o) → FJ base outer env s₀ ρ { s with heap := h', toks := tk } := fun h' tk k => by
    have g : Go (fsOf (env :: outer)) s { s with heap := h', toks := tk } := Go.of_keeps ⟨h', tk, rfl, k⟩
    exact ⟨J.1.slots g.keep.slots, J.2.go g⟩
  rcases hH with hh | ⟨c, oc, vs, hh, hoc, hd, h2⟩
  · refine wpAny_raiseErrorWords plainExc_IndexError hh fun h' tk e ⟨k, hn, ob, t, he, hc, hd⟩ => hE h' tk e .none ⟨fin h' tk k, nw_of J hn, .inl ⟨ob, _, he, hc, hd, rfl, rfl⟩⟩ k fun _ => rfl
  · exact raise_h hh ⟨oc, vs, hoc, hd, h2⟩ fun h' tk e k hn ⟨ob, t, he, hc, hd⟩ => hE h' tk e (.ref c) ⟨fin h' tk k, nw_of J hn, .inl ⟨ob, _, he, hc, hd, rfl, rfl⟩⟩ k fun q => by rw [hh] at q; cases q
theorem getItem_out {l : Addr} {items : Array Value} {k : Int} {t : Tok} {Q : Value → Shared → Prop} (hH : HdOk A s.heap) (J : FJ base outer env s₀ ρ s) (hl : s.heap.IsList l items) (hout : (items.size : Int) ≤ k) (hhi : k < 2 ^ 63)
    (hE : ∀ h' tk e cx, XJ base outer env s₀ ρ e cx { s with heap := h', toks := tk } → (∀ b o, s.heap.get? b = some o → h'.get? b = some o) → (A.handled = none → cx = .none) → E (.ref e) { s with heap := h', toks := tk }) :
    wpAny (model prog w) A (getItem (.ref l) (.int k t)) Q E s := by
  obtain ⟨o, ho, hc, ne, hd⟩ := id hl
  have hH' : HdOk A.in1 s.heap := hH
  have hr : ∀ (α : Type) (Q' : α → Shared → Prop), wpAny (model prog w) A.in1 (raiseErrorWords "IndexError" "list index out of range" : Sem α) Q' E s := fun α Q' => raise_x hH' J hE
  clear hE hH hH' J
  unfold getItem
  try with_reducible refine wpAny_holding ?_
  first | refine wpAny_bind (wpAny_pure ?_) | skip
  refine wpAny_bind (wpAny_sequenceKey hl.typeIs (by decide) ?_)
  refine wpAny_bind (wpAny_callSpecial?_slot (name := Str.ofString "__getitem__") hl.typeIs slot_list_getitem
    (wpAny_call_entry slot_list_getitem hl.typeIs entry_list_getitem ?_ (args_list_getitem _ _)))
  show wpAny _ _ (Builtin.List.listSubscript? (.int k t) >>= _) _ _ s
  refine wpAny_bind (wpAny_listSubscript_int (fitsIndex_both (by omega) hhi) ?_)
  clear hhi
  cases k with
  | ofNat j =>
    have hx : items[j]? = none := Array.getElem?_eq_none (by have : (items.size : Int) ≤ (j : Int) := hout; omega)
    show wpAny _ _ ((seqItemAt l j >>= fun r => pure (r.map (j, ·))) >>= _) _ _ s
    refine wpAny_bind (wpAny_bind (wpAny_seqItemAt ho hd (wpAny_pure ?_)))
    rw [hx]
    first
      | exact wpAny_bind (wpAny_rule (hr _ _))
      | exact wpAny_bind (wpAny_rule (wpAny_bind (hr _ _)))
      | exact wpAny_bind (wpAny_bind (wpAny_rule (hr _ _)))
      | exact wpAny_rule (hr _ _)
  | negSucc j => exact absurd hout (by have := Int.negSucc_lt_zero j; omega)
end
end Mine

namespace Mine
noncomputable abbrev dScope : Scope := { kind := .function, names := [("expected", .local), ("actual", .local), ("i", .local), ("j", .local), ("missing", .local), ("unexpected", .local), ("e", .local), ("a", .local), ("IndexError", .globalImplicit)], isGenerator := false, isCoroutine := false }
noncomputable abbrev dEnv (L : Addr) : Env := envOfC "sorted_list_difference" dScope L 787 (.ref 786)
structure LstIs (o : Obj) (v : List Value) (xs : List Int) : Prop where
  c : o.cls = .type "list"
  n : ∃ n, o.data = .seq v.toArray n
  i : IntsAre v xs
  z : xs.length ≤ 1000
structure IJ (i j : Nat) (eo ao : Option Int) (ρ : Rho) : Prop where
  hi : ρ.lookup ("i" : Str) = some (.int i)
  hj : ρ.lookup ("j" : Str) = some (.int j)
  he : ∀ v, eo = some v → ρ.lookup ("e" : Str) = some (.int v)
  ha : ∀ v, ao = some v → ρ.lookup ("a" : Str) = some (.int v)
theorem IJ.stI {i j : Nat} {eo ao : Option Int} {ρ : Rho} (x : IJ i j eo ao ρ) (k : Nat) : IJ k j eo ao (("i", .int k) :: ρ) :=
  ⟨rfl, by rw [lookup_cons_ne (by decide)]; exact x.hj, fun v h => by rw [lookup_cons_ne (by decide)]; exact x.he v h, fun v h => by rw [lookup_cons_ne (by decide)]; exact x.ha v h⟩
theorem IJ.stJ {i j : Nat} {eo ao : Option Int} {ρ : Rho} (x : IJ i j eo ao ρ) (k : Nat) : IJ i k eo ao (("j", .int k) :: ρ) :=
  ⟨by rw [lookup_cons_ne (by decide)]; exact x.hi, rfl, fun v h => by rw [lookup_cons_ne (by decide)]; exact x.he v h, fun v h => by rw [lookup_cons_ne (by decide)]; exact x.ha v h⟩
theorem IJ.stE {i j : Nat} {eo ao : Option Int} {ρ : Rho} (x : IJ i j eo ao ρ) (k : Int) : IJ i j (some k) ao (("e", .int k) :: ρ) :=
  ⟨by rw [lookup_cons_ne (by decide)]; exact x.hi, by rw [lookup_cons_ne (by decide)]; exact x.hj, fun v h => by cases h; rfl, fun v h => by rw [lookup_cons_ne (by decide)]; exact x.ha v h⟩
theorem IJ.stA {i j : Nat} {eo ao : Option Int} {ρ : Rho} (x : IJ i j eo ao ρ) (k : Int) : IJ i j eo (some k) (("a", .int k) :: ρ) :=
  ⟨by rw [lookup_cons_ne (by decide)]; exact x.hi, by rw [lookup_cons_ne (by decide)]; exact x.hj, fun v h => by rw [lookup_cons_ne (by decide)]; exact x.he v h, fun v h => by cases h; rfl⟩
theorem IJ.none {i j : Nat} {eo ao : Option Int} {ρ : Rho} (x : IJ i j eo ao ρ) : IJ i j .none .none ρ := ⟨x.hi, x.hj, fun _ h => (by cases h), fun _ h => (by cases h)⟩
structure DK (base : Heap) (outer : List Env) (L : Addr) (s₀ : Shared) (M U l1 l2 N : Nat) (o1 o2 : Obj) (v1 v2 : List Value) (xs ys : List Int) : Prop where
  hMN : N ≤ M
  hUN : N ≤ U
  hMU : M ≠ U
  hL : L < N
  hfr : ∀ b ∈ fsOf outer, b < N
  hb : ∀ b o, base.get? b = some o → b < N
  hs₀ : ∀ b o, s₀.heap.get? b = some o → b < N
  h1 : l1 < N
  h2 : l2 < N
  q1 : LstIs o1 v1 xs
  q2 : LstIs o2 v2 ys
structure SD (base : Heap) (outer : List Env) (L : Addr) (s₀ : Shared) (M U l1 l2 : Nat) (o1 o2 : Obj) (i j : Nat) (eo ao : Option Int) (ms us : List Int) (s : Shared) : Prop where
  fj : ∃ ρ, FJ base outer (dEnv L) s₀ ρ s ∧ (∀ z e, ρ.lookup z = some e → ∃ k, e = .int k) ∧ IJ i j eo ao ρ
  nm : ∃ m, s.heap.Ns L m ∧ m "missing" = some (.ref M) ∧ m "unexpected" = some (.ref U) ∧ m "expected" = some (.ref l1) ∧ m "actual" = some (.ref l2)
  k1 : s.heap.get? l1 = some o1
  k2 : s.heap.get? l2 = some o2
  lm : ∃ vs : List Value, s.heap.PlainList M vs.toArray ∧ IntsAre vs ms
  lu : ∃ vs : List Value, s.heap.PlainList U vs.toArray ∧ IntsAre vs us

section
variable {prog : Program} {w : World} {A : Around} {E : Value → Shared → Prop} {base : Heap} {outer : List Env} {L : Addr} {s₀ s : Shared} {M U l1 l2 N : Nat} {o1 o2 : Obj} {v1 v2 : List Value} {xs ys : List Int} {i j : Nat} {eo ao : Option Int} {ms us : List Int}
theorem SD.cx (S : SD base outer L s₀ M U l1 l2 o1 o2 i j eo ao ms us s) : Cx base outer (dEnv L) s₀ s := by obtain ⟨⟨ρ, h, _⟩, _⟩ := S; exact h.2
theorem SD.fj0 (S : SD base outer L s₀ M U l1 l2 o1 o2 i j eo ao ms us s) : FJ base outer (dEnv L) s₀ [] s := by obtain ⟨⟨ρ, h, _⟩, _⟩ := S; exact ⟨h.1.weaken Sub.nil, h.2⟩
theorem SD.forget (S : SD base outer L s₀ M U l1 l2 o1 o2 i j eo ao ms us s) : SD base outer L s₀ M U l1 l2 o1 o2 i j .none .none ms us s := by
  obtain ⟨⟨ρ, h, hf, x⟩, a, b, c, d, e⟩ := S
  exact ⟨⟨ρ, h, hf, x.none⟩, a, b, c, d, e⟩
theorem SD.xk (S : SD base outer L s₀ M U l1 l2 o1 o2 i j eo ao ms us s) (D : DK base outer L s₀ M U l1 l2 N o1 o2 v1 v2 xs ys) {s' : Shared} (C : Cx base outer (dEnv L) s₀ s') (k : Xk s.heap s'.heap) : SD base outer L s₀ M U l1 l2 o1 o2 i j eo ao ms us s' := by
  obtain ⟨⟨ρ, h, hf, x⟩, ⟨m, hn, r⟩, k1, k2, ⟨vm, pm, im⟩, ⟨vu, pu, iu⟩⟩ := S
  obtain ⟨n1, d1⟩ := D.q1.n
  obtain ⟨n2, d2⟩ := D.q2.n
  exact ⟨⟨ρ, ⟨h.1.slots k.1, C⟩, hf, x⟩, ⟨m, k.1.ns hn, r⟩, k.2 _ _ k1 ⟨_, _, d1⟩, k.2 _ _ k2 ⟨_, _, d2⟩, ⟨vm, k.plain pm, im⟩, ⟨vu, k.plain pu, iu⟩⟩
theorem SD.keeps (S : SD base outer L s₀ M U l1 l2 o1 o2 i j eo ao ms us s) (D : DK base outer L s₀ M U l1 l2 N o1 o2 v1 v2 xs ys) {s' : Shared} (k : Keeps s s') : SD base outer L s₀ M U l1 l2 o1 o2 i j eo ao ms us s' := by
  refine S.xk D (S.cx.go (Go.of_keeps k)) ?_
  obtain ⟨h, t, rfl, kk⟩ := k
  exact .of_keeps kk
theorem XT.keeps {e : Addr} {cx : Value} {env : Env} {ρ : Rho} (X : XT base outer env s₀ ρ e cx s) {s' : Shared} (J : FJ base outer env s₀ ρ s') (k : ∀ b o vs, s.heap.get? b = some o → o.data = .fields vs → s'.heap.get? b = some o) : XT base outer env s₀ ρ e cx s' := by
  obtain ⟨_, hn, T, hT, x⟩ := X
  exact ⟨J, hn, T, hT, x.keeps k⟩
theorem sd_store {x : Str} {v : Int} {t : Tok} {i' j' : Nat} {eo' ao' : Option Int} {Q : Unit → Shared → Prop} (D : DK base outer L s₀ M U l1 l2 N o1 o2 v1 v2 xs ys) (S : SD base outer L s₀ M U l1 l2 o1 o2 i j eo ao ms us s)
    (hx : (dEnv L).kindOf x = some .local) (hne : ("missing" : Str) ≠ x ∧ ("unexpected" : Str) ≠ x ∧ ("expected" : Str) ≠ x ∧ ("actual" : Str) ≠ x) (hr : ∀ ρ, IJ i j eo ao ρ → IJ i' j' eo' ao' ((x, .int v) :: ρ))
    (hQ : ∀ s', SD base outer L s₀ M U l1 l2 o1 o2 i' j' eo' ao' ms us s' → (∀ b o, b ≠ L → s.heap.get? b = some o → s'.heap.get? b = some o) → Q () s') :
    wpAny (model prog w) A (storeName (dEnv L) x (.int v t)) Q E s := by
  obtain ⟨⟨ρ, h, hf, y⟩, ⟨m, hn, r1, r2, r3, r4⟩, k1, k2, ⟨vm, ⟨nm, pm⟩, im⟩, ⟨vu, ⟨nu, pu⟩, iu⟩⟩ := S
  refine st_keep h rfl hx hn fun h' J' hn' kd hsz => hQ _ ?_ kd
  have hML : M ≠ L := Ne.symm (Nat.ne_of_lt (Nat.lt_of_lt_of_le D.hL D.hMN))
  have hUL : U ≠ L := Ne.symm (Nat.ne_of_lt (Nat.lt_of_lt_of_le D.hL D.hUN))
  have seqL : ∀ b o, s.heap.get? b = some o → (∃ xs n, o.data = .seq xs n) → b ≠ L := fun b o e ⟨xs, n, hd⟩ q => by
    obtain ⟨o', es, ep, ho, hd', _⟩ := hn
    rw [q, ho] at e; cases e; rw [hd] at hd'; cases hd'
  obtain ⟨n1, d1⟩ := D.q1.n
  obtain ⟨n2, d2⟩ := D.q2.n
  refine ⟨⟨_, J', fun z e hz => ?_, hr ρ y⟩, ⟨_, hn', ?_, ?_, ?_, ?_⟩, kd _ _ (seqL _ _ k1 ⟨_, _, d1⟩) k1, kd _ _ (seqL _ _ k2 ⟨_, _, d2⟩) k2, ⟨vm, ⟨nm, kd _ _ hML pm⟩, im⟩, ⟨vu, ⟨nu, kd _ _ hUL pu⟩, iu⟩⟩
  · rw [List.lookup_cons] at hz
    split at hz
    · cases hz; exact ⟨_, rfl⟩
    · exact hf z e hz
  · rw [if_neg hne.1]; exact r1
  · rw [if_neg hne.2.1]; exact r2
  · rw [if_neg hne.2.2.1]; exact r3
  · rw [if_neg hne.2.2.2]; exact r4
theorem fj_int {env : Env} {ρ : Rho} {x : Str} {k : Int} {m : Str → Option Value} (hc : env.cells = []) (h : FJ base outer env s₀ ρ s) (hx : ρ.lookup x = some (.int k)) (hn : s.heap.Ns env.locals m) : ∃ t, m x = some (.int k t) := by
  obtain ⟨⟨m', hm', hnm⟩, _⟩ := h
  have em : m' x = m x := by
    obtain ⟨o, es, ep, a, b, c, e⟩ := hn
    obtain ⟨o', es', ep', a', b', c', e'⟩ := hm'
    rw [a] at a'; cases a'
    rw [b] at b'; cases b'
    rw [← e x, ← e' x]
  rcases hnm x _ hx with ⟨_, v, hv, hd⟩ | ⟨_, c, _, hcc, _⟩
  · cases hd; exact ⟨_, em ▸ hv⟩
  · rw [hc] at hcc; cases hcc
theorem ints_get {vs : List Value} {ns : List Int} (h : IntsAre vs ns) : ∀ {k : Nat} {n : Int}, ns[k]? = some n → ∃ t, vs[k]? = some (.int n t) := by
  induction h with
  | nil => intro k n e; simp at e
  | cons a u r ih =>
    intro k n e
    cases k with
    | zero => simp at e; subst e; exact ⟨u, rfl⟩
    | succ k => exact ih (by simpa using e)
theorem sub_in {nm x : Str} {p1 p2 pos : Pos} {m : Str → Option Value} {l : Addr} {o : Obj} {vs : List Value} {ns : List Int} {k : Nat} {e : Int} {t : Tok} {Q : Value → Shared → Prop} (q : LstIs o vs ns)
    (hn : s.heap.Ns L m) (hl : m nm = some (.ref l)) (hx : m x = some (.int k t)) (ho : s.heap.get? l = some o) (he : ns[k]? = some e) (hQ : ∀ t, Q (.int e t) s)
    (h1 : (dEnv L).kindOf nm = some .local := by rfl) (h2 : (dEnv L).kindOf x = some .local := by rfl) (d1 : (nm == ("__debug__" : Str)) = false := by rfl) (d2 : (x == ("__debug__" : Str)) = false := by rfl) :
    wpAny (model prog w) A (eval (.Subscript (.Name nm p1) (.Name x p2) pos) (dEnv L)) Q E s := by
  have hk : k < ns.length := (List.getElem?_eq_some_iff.mp he).1
  have hz := q.z
  obtain ⟨n, hd⟩ := q.n
  have hL : s.heap.IsList l vs.toArray := ⟨o, ho, q.c, n, hd⟩
  obtain ⟨t', ht'⟩ := ints_get q.i he
  refine Subscript_ (wpAny_Name (wpAny_loadName_local rfl h1 hn hl (wpAny_Name (wpAny_loadName_local rfl h2 hn hx ?_) d2)) d1)
  exact subscriptTail_builtin hL.typeIs slot_list_getitem.lookup (wpAny_getItem_list hL (by omega) (by omega) (by simpa using ht') (hQ t')) rfl fun _ => rfl
theorem sub_out {nm x : Str} {p1 p2 pos : Pos} {m : Str → Option Value} {l : Addr} {o : Obj} {vs : List Value} {ns : List Int} {k : Nat} {t : Tok} {Q : Value → Shared → Prop} (q : LstIs o vs ns)
    (hn : s.heap.Ns L m) (hl : m nm = some (.ref l)) (hx : m x = some (.int k t)) (ho : s.heap.get? l = some o) (hk : k = ns.length) (hH : HdOk A s.heap) (J : FJ base outer (dEnv L) s₀ [] s)
    (hE : ∀ h' tk e cx, XJ base outer (dEnv L) s₀ [] e cx { s with heap := h', toks := tk } → (∀ b o, s.heap.get? b = some o → h'.get? b = some o) → (A.handled = none → cx = .none) → E (.ref e) { s with heap := h', toks := tk })
    (h1 : (dEnv L).kindOf nm = some .local := by rfl) (h2 : (dEnv L).kindOf x = some .local := by rfl) (d1 : (nm == ("__debug__" : Str)) = false := by rfl) (d2 : (x == ("__debug__" : Str)) = false := by rfl) :
    wpAny (model prog w) A (eval (.Subscript (.Name nm p1) (.Name x p2) pos) (dEnv L)) Q E s := by
  have hz := q.z
  obtain ⟨n, hd⟩ := q.n
  have hlen := q.i.length
  have hL : s.heap.IsList l vs.toArray := ⟨o, ho, q.c, n, hd⟩
  refine Subscript_ (wpAny_Name (wpAny_loadName_local rfl h1 hn hl (wpAny_Name (wpAny_loadName_local rfl h2 hn hx ?_) d2)) d1)
  exact subscriptTail_builtin hL.typeIs slot_list_getitem.lookup (getItem_out hH J hL (by simp; omega) (by omega) hE) rfl fun _ => rfl
end
end Mine

namespace Mine
theorem list_extend_fits {a b : Nat} {vs : Array Value} (ha : a ≤ 4000) (hb : b ≤ 4000) : ¬(!vs.isEmpty && Builtin.List.listTooLong (a + b)) = true := by
  have : Builtin.List.listTooLong (a + b) = false := by unfold Builtin.List.listTooLong sizeLine; simp; omega
  rw [this]; simp
section
variable {prog : Program} {w : World} {A : Around} {E : Value → Shared → Prop} {base : Heap} {outer : List Env} {L : Addr} {s₀ s : Shared} {M U l1 l2 N : Nat} {o1 o2 : Obj} {v1 v2 : List Value} {xs ys : List Int} {i j : Nat} {eo ao : Option Int} {ms us : List Int}
theorem wh_no {env : Env} {test : Expr} {body : List Stmt} {pos : Pos} {Q : Flow → Shared → Prop} (h : wpAny (model prog w) A (isTrue test env (eval test env)) (fun b s₂ => b = false ∧ Q .next s₂) (notedBy (model prog w) A env (cameBackBy (model prog w) A env E)) s) :
    wpAny (model prog w) A (exec (.While test body [] pos) env) Q E s := by
  refine wpAny_While (codeAny_whileLoop (fun n s' => n = 0 ∧ s' = s) ?_ 0 ⟨rfl, rfl⟩)
  rintro n s' ⟨rfl, rfl⟩
  refine wpAny_mono h (fun b s₂ h₂ => ?_) fun _ _ e => e
  obtain ⟨rfl, hq⟩ := h₂
  exact wpAny_execs_nil hq
theorem gx_of {env : Env} (C : Cx base outer env s₀ s) : GenX s₀.gens s.gens := by
  obtain ⟨_, _, g1, e1, _, hg1⟩ := C.grew
  have : s.gens = g1 := by rw [e1]
  rw [this]; exact hg1
theorem SD.putM (S : SD base outer L s₀ M U l1 l2 o1 o2 i j eo ao ms us s) (D : DK base outer L s₀ M U l1 l2 N o1 o2 v1 v2 xs ys) {h' : Heap} {tk : Nat} {ms' : List Int} (kd : ∀ b o, b ≠ M → s.heap.get? b = some o → h'.get? b = some o)
    (hp : ∃ vs : List Value, h'.PlainList M vs.toArray ∧ IntsAre vs ms') : SD base outer L s₀ M U l1 l2 o1 o2 i j eo ao ms' us { s with heap := h', toks := tk } := by
  obtain ⟨⟨ρ, h, hf, x⟩, ⟨m, hn, r⟩, k1, k2, _, ⟨vu, ⟨nu, pu⟩, iu⟩⟩ := S
  have kN : ∀ b o, b < N → s.heap.get? b = some o → h'.get? b = some o := fun b o hb e => kd b o (Nat.ne_of_lt (Nat.lt_of_lt_of_le hb D.hMN)) e
  exact ⟨⟨ρ, fj_above (N := N) (tk := tk) (g' := s.gens) h rfl hf kN D.hL D.hfr D.hb D.hs₀ (gx_of h.2), hf, x⟩, ⟨m, hn.at' fun o e => kN _ o D.hL e, r⟩, kN _ _ D.h1 k1, kN _ _ D.h2 k2, hp, ⟨vu, ⟨nu, kd _ _ (Ne.symm D.hMU) pu⟩, iu⟩⟩
theorem SD.putU (S : SD base outer L s₀ M U l1 l2 o1 o2 i j eo ao ms us s) (D : DK base outer L s₀ M U l1 l2 N o1 o2 v1 v2 xs ys) {h' : Heap} {tk : Nat} {us' : List Int} (kd : ∀ b o, b ≠ U → s.heap.get? b = some o → h'.get? b = some o)
    (hp : ∃ vs : List Value, h'.PlainList U vs.toArray ∧ IntsAre vs us') : SD base outer L s₀ M U l1 l2 o1 o2 i j eo ao ms us' { s with heap := h', toks := tk } := by
  obtain ⟨⟨ρ, h, hf, x⟩, ⟨m, hn, r⟩, k1, k2, ⟨vm, ⟨nm, pm⟩, im⟩, _⟩ := S
  have kN : ∀ b o, b < N → s.heap.get? b = some o → h'.get? b = some o := fun b o hb e => kd b o (Nat.ne_of_lt (Nat.lt_of_lt_of_le hb D.hUN)) e
  exact ⟨⟨ρ, fj_above (N := N) (tk := tk) (g' := s.gens) h rfl hf kN D.hL D.hfr D.hb D.hs₀ (gx_of h.2), hf, x⟩, ⟨m, hn.at' fun o e => kN _ o D.hL e, r⟩, kN _ _ D.h1 k1, kN _ _ D.h2 k2, ⟨vm, ⟨nm, kd _ _ D.hMU pm⟩, im⟩, hp⟩
theorem sd_inc {x : Str} {k : Nat} {i' j' : Nat} {kk : Nat} {p1 p2 pos : Pos} {Q : Flow → Shared → Prop} (D : DK base outer L s₀ M U l1 l2 N o1 o2 v1 v2 xs ys) (S : SD base outer L s₀ M U l1 l2 o1 o2 i j eo ao ms us s)
    (hρ : ∀ ρ, IJ i j eo ao ρ → ρ.lookup x = some (.int k)) (hx : (dEnv L).kindOf x = some .local) (hne : ("missing" : Str) ≠ x ∧ ("unexpected" : Str) ≠ x ∧ ("expected" : Str) ≠ x ∧ ("actual" : Str) ≠ x)
    (hr : ∀ ρ, IJ i j eo ao ρ → IJ i' j' eo ao ((x, .int ((k : Int) + 1)) :: ρ))
    (hQ : ∀ s', SD base outer L s₀ M U l1 l2 o1 o2 i' j' eo ao ms us s' → (∀ b o, b ≠ L → s.heap.get? b = some o → s'.heap.get? b = some o) → Q .next s') :
    wpAny (model prog w) A (exec (.AugAssign (.Name x p1) .Add (.Constant (.int 1) kk p2) pos) (dEnv L)) Q E s := by
  obtain ⟨⟨ρ, h, hf, y⟩, ⟨m, hn, r⟩, _⟩ := id S
  obtain ⟨t, ht⟩ := fj_int rfl h (hρ ρ y) hn
  refine wpAny_AugAssign_Name (wpAny_loadName_local rfl hx hn ht ?_)
  refine wpAny_Constant_int ?_
  refine P.iadd_int ?_
  exact sd_store D ((S.keeps D (keeps_tok s _)).keeps D (keeps_tok _ _)) hx hne hr hQ
theorem sd_while {nm x en : Str} {k : Nat} {v : Int} {l : Addr} {o : Obj} {vs : List Value} {ns : List Int} {p1 p2 p3 p4 p5 pos : Pos} {body : List Stmt} {Q : Flow → Shared → Prop} (q : LstIs o vs ns)
    (S : SD base outer L s₀ M U l1 l2 o1 o2 i j eo ao ms us s) (hnm : ∀ m : Str → Option Value, m "expected" = some (.ref l1) → m "actual" = some (.ref l2) → m nm = some (.ref l)) (ho : s.heap.get? l = some o)
    (hx : ∀ ρ, IJ i j eo ao ρ → ρ.lookup x = some (.int k)) (hv : ∀ ρ, IJ i j eo ao ρ → ρ.lookup en = some (.int v)) (hk : k ≤ ns.length) (hne : ∀ y, ns[k]? = some y → y ≠ v)
    (hu : A.units + 64 < cLine) (hfr : A.frames = some (dEnv L :: outer)) (hH : HdOk A s.heap)
    (hN : k < ns.length → ∀ s', Keeps s s' → Q .next s')
    (hE : k = ns.length → ∀ s' e cx, XT base outer (dEnv L) s₀ [] e cx s' → Xk s.heap s'.heap → (A.handled = none → cx = .none) → E (.ref e) s')
    (h1 : (dEnv L).kindOf nm = some .local := by rfl) (h2 : (dEnv L).kindOf x = some .local := by rfl) (h3 : (dEnv L).kindOf en = some .local := by rfl) (d1 : (nm == ("__debug__" : Str)) = false := by rfl) (d2 : (x == ("__debug__" : Str)) = false := by rfl) (d3 : (en == ("__debug__" : Str)) = false := by rfl) :
    wpAny (model prog w) A (exec (.While (.Compare (.Subscript (.Name nm p1) (.Name x p2) p3) [.Eq] [.Name en p4] p5) body [] pos) (dEnv L)) Q E s := by
  obtain ⟨⟨ρ, h, hf, y⟩, ⟨m, hn, _, _, r3, r4⟩, _⟩ := id S
  obtain ⟨t, ht⟩ := fj_int rfl h (hx ρ y) hn
  obtain ⟨t', ht'⟩ := fj_int rfl h (hv ρ y) hn
  refine wh_no ?_
  by_cases hlt : k < ns.length
  · have he : ns[k]? = some ns[k] := List.getElem?_eq_getElem hlt
    refine wpAny_isTrue_Compare1 (sub_in q hn (hnm m r3 r4) ht ho he (fun t'' => wpAny_Name (wpAny_loadName_local rfl h3 hn ht' ?_) d3) h1 h2 d1 d2) rfl
    have hb : cmpD .Eq (.int ns[k]) (.int v) = some false := by
      show some (ns[k] == v) = some false
      rw [beq_eq_false_iff_ne.mpr (hne _ he)]
    refine wpAny_mono (cmp_ok hb (.int _ _) (.int _ _) hu) (fun c s₃ h₃ => ?_) fun _ _ e => e
    obtain ⟨rfl, hk3⟩ := h₃
    exact wpAny_truthy_bool ⟨rfl, hN hlt _ hk3⟩
  · have hkl : k = ns.length := by omega
    refine wpAny_isTrue_Compare1 (sub_out q hn (hnm m r3 r4) ht ho hkl hH S.fj0 (fun h' tk e cx X kk hcx => ?_) h1 h2 d1 d2) rfl
    exact noted_x hfr X fun h'' X' k' => hE hkl _ e cx X' ((Xk.of_keeps kk).trans k') hcx
theorem ints_app {a b : List Value} {xs ys : List Int} (x : IntsAre a xs) (y : IntsAre b ys) : IntsAre (a ++ b) (xs ++ ys) := by
  induction x with
  | nil => exact y
  | cons n u r ih => exact .cons n u ih
theorem ints_drop {a : List Value} {xs : List Int} (x : IntsAre a xs) : ∀ k : Nat, IntsAre (a.drop k) (xs.drop k) := by
  induction x with
  | nil => intro k; simp; exact .nil
  | cons n u r ih => intro k; cases k with
    | zero => exact .cons n u r
    | succ k => exact ih k
theorem sd_extend {nm lst x : Str} {l X : Addr} {o : Obj} {vs ws : List Value} {ns rs : List Int} {k : Nat} {t : Tok} {m : Str → Option Value} {p1 p2 p3 p4 p5 ap pos pos' : Pos} {Q : Flow → Shared → Prop} (q : LstIs o vs ns)
    (hn : s.heap.Ns L m) (hX : m nm = some (.ref X)) (hl : m lst = some (.ref l)) (hx : m x = some (.int k t)) (ho : s.heap.get? l = some o) (hp : s.heap.PlainList X ws.toArray) (hi : IntsAre ws rs) (hr : rs.length ≤ 2000)
    (hline : (ap.endLine == pos.line) = true) (hs : swapsWith (.Call (.Attribute (.Name nm p1) "extend" ap) [.Subscript (.Name lst p2) (.Slice (some (.Name x p3)) none none p4) p5] [] pos) none pos'.line (dEnv L) = pure false)
    (hQ : ∀ h', (∃ vs : List Value, h'.PlainList X vs.toArray ∧ IntsAre vs (rs ++ ns.drop k)) → (∀ b o, b ≠ X → s.heap.get? b = some o → h'.get? b = some o) → Q .next { s with heap := h' })
    (h0 : (dEnv L).kindOf nm = some .local := by rfl) (h1 : (dEnv L).kindOf lst = some .local := by rfl) (h2 : (dEnv L).kindOf x = some .local := by rfl) (d0 : (nm == ("__debug__" : Str)) = false := by rfl) (d1 : (lst == ("__debug__" : Str)) = false := by rfl) (d2 : (x == ("__debug__" : Str)) = false := by rfl) :
    wpAny (model prog w) A (exec (.Expr (.Call (.Attribute (.Name nm p1) "extend" ap) [.Subscript (.Name lst p2) (.Slice (some (.Name x p3)) none none p4) p5] [] pos) pos') (dEnv L)) Q E s := by
  have hz := q.z
  obtain ⟨n, hd⟩ := q.n
  have hL : s.heap.IsList l vs.toArray := ⟨o, ho, q.c, n, hd⟩
  have hlen := q.i.length
  have hwl := hi.length
  obtain ⟨nX, hpX⟩ := id hp
  refine wpAny_Expr (Call_method1 rfl rfl hline (wpAny_Name (wpAny_loadName_local rfl h0 hn hX ?_) d0)) rfl hs
  refine ⟨"list", "list.extend", PySem.F.plainAttrs_list, PySem.F.slot_list_extend, PySem.F.type_list_extend, ⟨_, hpX, rfl⟩, ?_, ?_⟩
  · intro b hb; cases hb; exact ⟨_, hpX, rfl⟩
  refine Calls.callWith_builtin rfl (Calls.evalArgs_plain (Calls.spliced_cons ?_))
  refine Subscript_ (wpAny_Name (wpAny_loadName_local rfl h1 hn hl ?_) d1)
  refine wpAny_Slice ?_
  rw [evalPart_some]
  refine wpAny_Name (wpAny_loadName_local rfl h2 hn hx ?_) d2
  rw [evalPart_none]
  refine wpAny_pure ?_
  refine wpAny_pure ?_
  refine kba_turn (value' := .Name Str.empty default) (fun _ => rfl) ?_
  refine subscriptTail_ops (ops := [.ref s.heap.objs.size, .ref l]) (Heap.IsList.typeIs (s := { s with heap := _ }) (hL.push _)) list_getitem_lookup
    (wpAny_getItem_list_slice (hL.push _) (Heap.IsSliceOf.new ..) (.int _ _) .none .none (by simp) ?_ (by unfold sizeLine; simp; omega)) rfl (fun _ => rfl)
  rw [slicePick_from']
  refine Calls.spliced_nil ?_
  generalize hh1 : s.heap.push _ = h1
  have hk1 : ∀ b o, s.heap.get? b = some o → h1.get? b = some o := fun b o e => by subst hh1; exact Heap.get?_push_of_some _ e
  have hX2 : ∀ ob, (h1.push ob).get? X = some { cls := .type "list", dict := none, data := .seq ws.toArray nX, slots := #[] } := fun ob => Heap.get?_push_of_some _ (hk1 _ _ hpX)
  have hB : (h1.push { cls := .type "list", data := .seq (vs.toArray.toList.drop k).toArray }).get? h1.objs.size = some { cls := .type "list", dict := none, data := .seq (vs.drop k).toArray 0, slots := #[] } := by
    rw [Heap.get?_push_size _ rfl]
  have hbl : (vs.drop k).length ≤ 1000 := by rw [List.length_drop]; omega
  refine call_meets PySem.F.slot_list_extend ⟨_, hX2 _, rfl⟩ PySem.F.entry_list_extend (PySem.F.args_list_extend_2 _ _)
    (PySem.AutoSeq1.list_extend_list_list_0 X ws.toArray nX h1.objs.size (vs.drop k).toArray 0 (list_extend_fits (by simp; omega) (by simp; omega)) (by unfold sizeLine; simp; omega) (by unfold sizeLine; simp; omega)) ⟨hX2 _, hB, ?_⟩
  refine hQ _ ⟨ws ++ vs.drop k, ?_, ints_app hi (ints_drop q.i k)⟩ (fun b o' hb e => (Heap.get?_update_other _ _ (Ne.symm hb)).trans (Heap.get?_push_of_some _ (hk1 _ _ e)))
  have hup := Heap.get?_update_self (Obj.mapSeq fun x => x ++ (vs.drop k).toArray) (hX2 { cls := .type "list", data := .seq (vs.toArray.toList.drop k).toArray }) (by rfl)
  obtain ⟨n', e'⟩ : ∃ n', Obj.mapSeq (fun x => x ++ (vs.drop k).toArray) { cls := .type "list", data := .seq ws.toArray nX } = { cls := .type "list", dict := none, data := .seq (ws ++ vs.drop k).toArray n', slots := #[] } := by
    simp only [Obj.mapSeq]
    rw [← List.append_toArray]
    exact ⟨_, rfl⟩
  exact ⟨n', hup.trans (by rw [e'])⟩
end
end Mine

open PySem
namespace Mine
structure DI (xs ys : List Int) (i j : Nat) (ms us : List Int) : Prop where
  hi : i ≤ xs.length
  hj : j ≤ ys.length
  ms_eq : ms = (xs.take i).filter fun x => !ys.contains x
  us_eq : us = (ys.take j).filter fun y => !xs.contains y
  lo : ∀ x ∈ xs.take i, ∀ y ∈ ys.drop j, x < y
  up : ∀ y ∈ ys.take j, ∀ x ∈ xs.drop i, y < x
theorem DI.start (xs ys : List Int) : DI xs ys 0 0 [] [] := ⟨Nat.zero_le _, Nat.zero_le _, rfl, rfl, fun x h => by simp at h, fun x h => by simp at h⟩
theorem DI.swap {xs ys : List Int} {i j : Nat} {ms us : List Int} (h : DI xs ys i j ms us) : DI ys xs j i us ms := ⟨h.hj, h.hi, h.us_eq, h.ms_eq, h.up, h.lo⟩
theorem drop_of {xs : List Int} {i : Nat} {e : Int} (h : xs[i]? = some e) : xs.drop i = e :: xs.drop (i + 1) := by
  obtain ⟨hl, he⟩ := List.getElem?_eq_some_iff.mp h
  rw [List.drop_eq_getElem_cons hl, he]
theorem take_of {xs : List Int} {i : Nat} {e : Int} (h : xs[i]? = some e) : xs.take (i + 1) = xs.take i ++ [e] := by
  rw [List.take_add_one, h]; rfl
theorem sorted_drop {xs : List Int} (hs : xs.Pairwise (· < ·)) {i : Nat} {e : Int} (h : xs[i]? = some e) : ∀ x ∈ xs.drop (i + 1), e < x := by
  have := hs.sublist (List.drop_sublist i xs)
  rw [drop_of h] at this
  exact (List.pairwise_cons.mp this).1
theorem not_in {xs ys : List Int} (hy : ys.Pairwise (· < ·)) {i j : Nat} {ms us : List Int} (D : DI xs ys i j ms us) {e a : Int} (he : xs[i]? = some e) (ha : ys[j]? = some a) (hlt : e < a) : ys.contains e = false := by
  rw [Bool.eq_false_iff]
  intro hc
  have hm : e ∈ ys := by simpa using hc
  rw [← List.take_append_drop j ys] at hm
  rcases List.mem_append.mp hm with q | q
  · have := D.up e q e (by rw [drop_of he]; exact .head _)
    omega
  · rw [drop_of ha] at q
    rcases List.mem_cons.mp q with rfl | q
    · omega
    · have := sorted_drop hy ha e q
      omega
theorem DI.less {xs ys : List Int} (hx : xs.Pairwise (· < ·)) (hy : ys.Pairwise (· < ·)) {i j : Nat} {ms us : List Int} (D : DI xs ys i j ms us) {e a : Int} (he : xs[i]? = some e) (ha : ys[j]? = some a) (hlt : e < a) :
    DI xs ys (i + 1) j (ms ++ [e]) us := by
  have hl := (List.getElem?_eq_some_iff.mp he).1
  refine ⟨hl, D.hj, ?_, D.us_eq, fun x hxm y hym => ?_, fun y hym x hxm => D.up y hym x (by rw [drop_of he]; exact .tail _ hxm)⟩
  · rw [take_of he, List.filter_append, D.ms_eq]
    congr 1
    have := not_in hy D he ha hlt
    simp only [List.filter, this, Bool.not_false]
  · rw [take_of he] at hxm
    rcases List.mem_append.mp hxm with q | q
    · exact D.lo x q y hym
    · rw [List.mem_singleton.mp q]
      rw [drop_of ha] at hym
      rcases List.mem_cons.mp hym with rfl | hym
      · exact hlt
      · have := sorted_drop hy ha y hym
        omega
theorem DI.more {xs ys : List Int} (hx : xs.Pairwise (· < ·)) (hy : ys.Pairwise (· < ·)) {i j : Nat} {ms us : List Int} (D : DI xs ys i j ms us) {e a : Int} (he : xs[i]? = some e) (ha : ys[j]? = some a) (hlt : a < e) :
    DI xs ys i (j + 1) ms (us ++ [a]) := (D.swap.less hy hx ha he hlt).swap
theorem DI.same {xs ys : List Int} (hx : xs.Pairwise (· < ·)) (hy : ys.Pairwise (· < ·)) {i j : Nat} {ms us : List Int} (D : DI xs ys i j ms us) {e : Int} (he : xs[i]? = some e) (ha : ys[j]? = some e) :
    DI xs ys (i + 1) (j + 1) ms us := by
  have hl := (List.getElem?_eq_some_iff.mp he).1
  have hl' := (List.getElem?_eq_some_iff.mp ha).1
  have hxm : xs.contains e = true := by simpa using List.mem_of_getElem? he
  have hym : ys.contains e = true := by simpa using List.mem_of_getElem? ha
  refine ⟨hl, hl', ?_, ?_, fun x hxt y hyd => ?_, fun y hyt x hxd => ?_⟩
  · rw [take_of he, List.filter_append, D.ms_eq]
    simp only [List.filter, hym, Bool.not_true, List.append_nil]
  · rw [take_of ha, List.filter_append, D.us_eq]
    simp only [List.filter, hxm, Bool.not_true, List.append_nil]
  · rw [take_of he] at hxt
    rcases List.mem_append.mp hxt with q | q
    · exact D.lo x q y (by rw [drop_of ha]; exact .tail _ hyd)
    · rw [List.mem_singleton.mp q]; exact sorted_drop hy ha y hyd
  · rw [take_of ha] at hyt
    rcases List.mem_append.mp hyt with q | q
    · exact D.up y q x (by rw [drop_of he]; exact .tail _ hxd)
    · rw [List.mem_singleton.mp q]; exact sorted_drop hx he x hxd
theorem DI.done {xs ys : List Int} {i j : Nat} {ms us : List Int} (D : DI xs ys i j ms us) (h : i = xs.length ∨ j = ys.length) : ms ++ xs.drop i = xs.filter fun x => !ys.contains x := by
  rcases h with rfl | rfl
  · rw [D.ms_eq]; simp
  · conv => rhs; rw [← List.take_append_drop i xs]
    rw [List.filter_append, D.ms_eq]
    congr 1
    symm
    refine List.filter_eq_self.mpr fun x hx => ?_
    simp only [Bool.not_eq_true', Bool.eq_false_iff]
    intro hc
    have hm : x ∈ ys := by simpa using hc
    have := D.up x (by simpa using hm) x hx
    omega
end Mine

namespace Mine
theorem came_x2 {M : Model} {A A' : Around} {E : Value → Shared → Prop} {s : Shared} {base : Heap} {outer : List Env} {env : Env} {s₀ : Shared} {ρ : Rho} {e : Addr} {cx : Value} (hfr : A'.frames = some (env :: outer)) (X : XJ base outer env s₀ ρ e cx s)
    (hE : ∀ h', XT base outer env s₀ ρ e cx { s with heap := h' } → Xk s.heap h' → E (.ref e) { s with heap := h' }) : notedBy M A' env (cameBackBy M A env E) (.ref e) s :=
  note_x hfr X fun h' X' k' => came_x X' fun h'' X'' k'' => hE h'' X'' (k'.trans k'')
theorem hd_of {A : Around} {h : Heap} {e T : Addr} (hh : A.handled = some (.ref e)) (x : ExcT h e T .none) : HdOk A h := by
  obtain ⟨oe, vs, oT, ts, fl, he, hc, hd, h1, h2, _⟩ := x
  exact .inr ⟨e, oe, vs, hh, he, hd, h2⟩
theorem bb_IndexError : bootBuiltins "IndexError" = some (.type "IndexError") := by decide +kernel
theorem sub_IndexError : isSubtype (.type "IndexError") (.type "BaseException") = pure true := by rw [isSubtype_type]; kernel_rfl
theorem sub_IndexError' : isSubtype (.type "IndexError") (.type "IndexError") = pure true := by rw [isSubtype_type]; kernel_rfl
theorem sub_IndexErrorT : isSubtype (.type ((Manifest.find? "IndexError").elim "type" fun y => y.metatype)) (.type "tuple") = pure false := by
  have : (Manifest.find? "IndexError").elim "type" (fun y => y.metatype) = "type" := by kernel_rfl
  rw [this, isSubtype_type]; kernel_rfl
section
variable (base : Heap) (outer : List Env) (L : Addr) (s₀ : Shared) (M U l1 l2 : Nat) (o1 o2 : Obj) (xs ys : List Int)
noncomputable def TE (v : Value) (s : Shared) : Prop := ∃ e cx i j ms us, v = .ref e ∧ XJ base outer (dEnv L) s₀ [] e cx s ∧ SD base outer L s₀ M U l1 l2 o1 o2 i j none none ms us s ∧ DI xs ys i j ms us ∧ (i = xs.length ∨ j = ys.length)
noncomputable def TQ (k : Nat) (f : Flow) (s : Shared) : Prop := f = .next ∧ ∃ i j ms us, SD base outer L s₀ M U l1 l2 o1 o2 i j none none ms us s ∧ DI xs ys i j ms us ∧ k < i + j
end
theorem wpAny_gen2 {α : Type} {M : Model} {A : Around} {m : Sem α} {Q : α → Shared → Prop} {E : Value → Shared → Prop} {s : Shared} (h : ∀ (G : α → Shared → Prop) (E' : Value → Shared → Prop), (∀ v s', Q v s' → G v s') → (∀ v s', E v s' → E' v s') → wpAny M A m G E' s) : wpAny M A m Q E s := h Q E (fun _ _ x => x) fun _ _ x => x
theorem p_l (i j : Nat) : i + j < i + 1 + j := by omega
theorem p_b (i j : Nat) : i + j < i + 1 + (j + 1) := by omega
theorem p_m {i j i' j' n m : Nat} (h : i + j < i' + j') (h1 : i' ≤ n) (h2 : j' ≤ m) : n + m - (i' + j') < n + m - (i + j) := by omega
theorem p_2 {n : Nat} (k : Nat) (h : n ≤ 1000) : min k n ≤ 2000 := by omega
set_option maxRecDepth 100000 in
theorem diff_hold (w : World) : DiffOk w := by
  intro xs ys hx hy hlx hly
  k_fill
  refine' fn_intro0 (ns := ["expected", "actual"]) ?ho ?hcd ?hlen ?hbind ?hkind ?hnd ?hco ?hgen ?hk ?hbody
  case ho => k_is
  case hcd => k_is
  case hlen => rfl
  case hbind => (intro vs hv; rcases vs with _ | ⟨v1, _ | ⟨v2, _ | ⟨v3, _ | ⟨v4, _ | ⟨v5, _ | ⟨v6, vs⟩⟩⟩⟩⟩⟩ <;> first | rfl | (simp at hv; done))
  case hkind => decide +kernel
  case hnd => decide +kernel
  case hco => rfl
  case hgen => rfl
  case hk => rfl
  intro base outer A s₀ L W a s E hJ
  refine wpAny_gen fun G0 E0 hG0 => ?_
  obtain ⟨m, hn, hnm⟩ := id hJ.1
  obtain ⟨l1, v1, hm1, hl1, hi1⟩ : ∃ l1 v1, m "expected" = some (.ref l1) ∧ LstAt s.heap l1 (List.toArray v1) ∧ IntsAre v1 xs := by
    rcases hnm ("expected" : Str) _ rfl with ⟨_, v, hv, hd⟩ | ⟨hc, _⟩
    · cases hd with | list q r => exact ⟨_, _, hv, q, r.ints⟩
    · cases hc
  obtain ⟨l2, v2, hm2, hl2, hi2⟩ : ∃ l2 v2, m "actual" = some (.ref l2) ∧ LstAt s.heap l2 (List.toArray v2) ∧ IntsAre v2 ys := by
    rcases hnm ("actual" : Str) _ rfl with ⟨_, v, hv, hd⟩ | ⟨hc, _⟩
    · cases hd with | list q r => exact ⟨_, _, hv, q, r.ints⟩
    · cases hc
  obtain ⟨o1, ho1, hc1, _, hd1⟩ := hl1
  obtain ⟨o2, ho2, hc2, _, hd2⟩ := hl2
  have q1 : LstIs o1 v1 xs := ⟨hc1, hd1, hi1, hlx⟩
  have q2 : LstIs o2 v2 ys := ⟨hc2, hd2, hi2, hly⟩
  have hLs : ∀ b o, s.heap.get? b = some o → (∃ xs n, o.data = .seq xs n) → b ≠ L := fun b o e ⟨xs, n, hd⟩ q => by
    obtain ⟨o', es, ep, ho, hd', _⟩ := hn
    rw [q] at e
    have := Option.some.inj (e.symm.trans ho)
    subst this; rw [hd] at hd'; cases hd'
  -- i = j = 0
  have J0 : FJ base outer (dEnv L) s₀ [] s := ⟨hJ.1.weaken Sub.nil, hJ.2⟩
  refine wpAny_execs_cons (wpAny_Assign_two (wpAny_Constant_int ?_) rfl rfl)
  have J1 := (frMd rfl).inv _ _ J0 (Go.of_keeps (keeps_tok s (s.toks + 1)))
  refine wpAny_assign_Name (st_keep J1 rfl rfl hn (fun h2 J2 hn2 kd2 hsz2 => ?_))
  refine wpAny_assign_Name (st_keep J2 rfl rfl hn2 (fun h3 J3 hn3 kd3 hsz3 => ?_))
  show wpAny _ A (execs (_ :: _) _) _ _ _
  -- missing = []
  refine wpAny_execs_cons (wpAny_Assign_Name (List_ (Calls.spliced_nil ?_)) rfl)
  refine wpAny_newObj_type ?_ (by unfold sizeOk; decide)
  have J4 := (frMd rfl).inv _ _ J3 (Go.of_keeps (keeps_push _ { cls := .type "list", data := .seq #[] } (s.toks + 1 + 1 + 1)))
  have hn4 := hn3.keeps (fun b o e => Heap.get?_push_of_some (h := h3) { cls := .type "list", data := .seq #[] } e)
  have hM4 : (h3.push { cls := .type "list", data := .seq #[] }).get? h3.objs.size = some { cls := .type "list", data := .seq #[] } := Heap.get?_push_size _ rfl
  refine st_anyv J4 rfl rfl rfl hn4 (fun h5 J5 hn5 kd5 hsz5 => ?_)
  show wpAny _ A (execs (_ :: _) _) _ _ _
  -- unexpected = []
  refine wpAny_execs_cons (wpAny_Assign_Name (List_ (Calls.spliced_nil ?_)) rfl)
  refine wpAny_newObj_type ?_ (by unfold sizeOk; decide)
  have J6 := (frMd rfl).inv _ _ J5 (Go.of_keeps (keeps_push _ { cls := .type "list", data := .seq #[] } (s.toks + 1 + 1 + 1 + 1)))
  have hn6 := hn5.keeps (fun b o e => Heap.get?_push_of_some (h := h5) { cls := .type "list", data := .seq #[] } e)
  have hU6 : (h5.push { cls := .type "list", data := .seq #[] }).get? h5.objs.size = some { cls := .type "list", data := .seq #[] } := Heap.get?_push_size _ rfl
  refine st_anyv J6 rfl rfl rfl hn6 (fun h7 J7 hn7 kd7 hsz7 => ?_)
  show wpAny _ A (execs (_ :: _) _) _ _ _
  have hLlt : L < s.heap.objs.size := hn.lt
  have hs3 : h3.objs.size = s.heap.objs.size := hsz3.trans hsz2
  have hs5 : h5.objs.size = s.heap.objs.size + 1 := by rw [hsz5, Heap.size_push, hs3]
  have DKs : DK base outer L s₀ h3.objs.size h5.objs.size l1 l2 s.heap.objs.size o1 o2 v1 v2 xs ys :=
    { hMN := Nat.le_of_eq hs3.symm, hUN := Nat.le_of_lt (Nat.lt_of_lt_of_eq (Nat.lt_succ_self _) hs5.symm), hMU := fun q => absurd (hs3.symm.trans (q.trans hs5)) (Nat.ne_of_lt (Nat.lt_succ_self _)), hL := hLlt,
      hfr := fun b hb => by obtain ⟨o, _, _, h, _⟩ := hJ.2.dicts b hb; exact Heap.lt_size h,
      hb := fun b o e => let ⟨_, h⟩ := hJ.2.stay.is ⟨o, e⟩; Heap.lt_size h,
      hs₀ := fun b o e => let ⟨_, h⟩ := hJ.2.grew.keep.is ⟨o, e⟩; Heap.lt_size h,
      h1 := Heap.lt_size ho1, h2 := Heap.lt_size ho2, q1 := q1, q2 := q2 }
  have kall : ∀ b o, b ≠ L → s.heap.get? b = some o → h7.get? b = some o := fun b o q e => kd7 b o q (Heap.get?_push_of_some _ (kd5 b o q (Heap.get?_push_of_some _ (kd3 b o q (kd2 b o q e)))))
  have hML : h3.objs.size ≠ L := fun q => Nat.lt_irrefl _ (Nat.lt_of_lt_of_eq (q ▸ hLlt : h3.objs.size < s.heap.objs.size) hs3.symm)
  have hUL : h5.objs.size ≠ L := fun q => Nat.lt_irrefl _ (Nat.lt_trans (Nat.lt_succ_self _) (Nat.lt_of_le_of_lt (Nat.le_of_eq hs5.symm) (q ▸ hLlt : h5.objs.size < s.heap.objs.size)))
  have S0 : SD base outer L s₀ h3.objs.size h5.objs.size l1 l2 o1 o2 0 0 none none [] [] { s with heap := h7, toks := s.toks + 1 + 1 + 1 + 1 + 1 } :=
    { fj := ⟨_, J7, fun z e hz => by
        rw [List.lookup_cons] at hz
        split at hz
        · cases hz; exact ⟨_, rfl⟩
        · rw [List.lookup_cons] at hz
          split at hz
          · cases hz; exact ⟨_, rfl⟩
          · simp at hz, rfl, rfl, fun _ h => (by cases h), fun _ h => (by cases h)⟩,
      nm := ⟨_, hn7, by rw [if_neg (by decide), if_pos rfl], by rw [if_pos rfl], by rw [if_neg (by decide), if_neg (by decide), if_neg (by decide), if_neg (by decide)]; exact hm1,
        by rw [if_neg (by decide), if_neg (by decide), if_neg (by decide), if_neg (by decide)]; exact hm2⟩,
      k1 := kall _ _ (hLs _ _ ho1 (by obtain ⟨n, h⟩ := hd1; exact ⟨_, n, h⟩)) ho1, k2 := kall _ _ (hLs _ _ ho2 (by obtain ⟨n, h⟩ := hd2; exact ⟨_, n, h⟩)) ho2,
      lm := ⟨[], ⟨0, kd7 _ _ hML (Heap.get?_push_of_some _ (kd5 _ _ hML hM4))⟩, .nil⟩, lu := ⟨[], ⟨0, kd7 _ _ hUL hU6⟩, .nil⟩ }
  generalize hMd : h3.objs.size = M at *
  generalize hUd : h5.objs.size = U at *
  generalize hNd : s.heap.objs.size = N at *
  clear hn7 J7 hn6 J6 hn5 J5 hn4 J4 hn3 J3 hn2 J2 J1 J0 hM4 hU6 kall kd7 kd5 kd3 kd2
  refine wpAny_execs_cons (wpAny_While (codeAny_whileLoop (fun n s' => ∃ i j ms us, n = xs.length + ys.length - (i + j) ∧ SD base outer L s₀ M U l1 l2 o1 o2 i j none none ms us s' ∧ DI xs ys i j ms us) ?_ (xs.length + ys.length) ⟨0, 0, [], [], rfl, S0, DI.start xs ys⟩))
  clear S0
  rintro n s1 ⟨i, j, ms, us, rfl, S, Dm⟩
  refine et_use (b := true) (J := KJ base (dEnv L) []) (R := Keeps) ⟨S.fj0.1, S.cx.stay⟩ (tv_ok (keMd rfl) (ev_bool (keMd rfl)) rfl (fun _ => rfl)) (fun s2 hk2 => ?_)
  replace S := S.keeps DKs hk2
  clear hk2 s1
  rw [if_pos rfl]
  refine wpAny_execs_cons (wpAny_Try_except ?_)
  refine wpAny_mono (?tb : wpAny _ A _ (TQ base outer L s₀ M U l1 l2 o1 o2 xs ys (i + j)) (TE base outer L s₀ M U l1 l2 o1 o2 xs ys) s2) (fun f s3 h3 => ?_) (fun v s3 h3 => ?_)
  case tb =>
    refine wpAny_gen2 fun G E1 hG hE => ?_
    have hu := a.hu
    have hfr := a.frames
    have hh : HdOk A s2.heap := .inl a.handled
    obtain ⟨⟨ρ, hf, hfl, y⟩, ⟨m, hn, r1, r2, r3, r4⟩, k1, k2, _, _⟩ := id S
    obtain ⟨ti, hti⟩ := fj_int rfl hf y.hi hn
    -- e = expected[i]
    by_cases hil : i = xs.length
    · refine wpAny_execs_cons (wpAny_Assign_Name (sub_out q1 hn r3 hti k1 hil hh S.fj0 (fun h' tk e cx X kk hcx => ?_)) rfl)
      exact hE _ _ ⟨e, cx, i, j, ms, us, rfl, X, S.keeps DKs ⟨h', tk, rfl, kk⟩, Dm, .inl hil⟩
    have hi : i < xs.length := Nat.lt_of_le_of_ne Dm.hi hil
    have he : xs[i]? = some xs[i] := List.getElem?_eq_getElem hi
    generalize hev : xs[i] = e at he
    refine wpAny_execs_cons (wpAny_Assign_Name (sub_in q1 hn r3 hti k1 he (fun te => ?_)) rfl)
    refine sd_store DKs S rfl (by decide) (fun ρ y => y.stE e) (fun s3 S3 _ => ?_)
    show wpAny _ A (execs (_ :: _) _) _ _ _
    obtain ⟨⟨ρ, hf, hfl, y⟩, ⟨m, hn, r1, r2, r3, r4⟩, k1, k2, _, _⟩ := id S3
    obtain ⟨tj, htj⟩ := fj_int rfl hf y.hj hn
    -- a = actual[j]
    by_cases hjl : j = ys.length
    · refine wpAny_execs_cons (wpAny_Assign_Name (sub_out q2 hn r4 htj k2 hjl (.inl a.handled) S3.fj0 (fun h' tk e cx X kk hcx => ?_)) rfl)
      exact hE _ _ ⟨e, cx, i, j, ms, us, rfl, X, (S3.keeps DKs ⟨h', tk, rfl, kk⟩).forget, Dm, .inr hjl⟩
    have hj : j < ys.length := Nat.lt_of_le_of_ne Dm.hj hjl
    have ha : ys[j]? = some ys[j] := List.getElem?_eq_getElem hj
    generalize hav : ys[j] = b at ha
    refine wpAny_execs_cons (wpAny_Assign_Name (sub_in q2 hn r4 htj k2 ha (fun te => ?_)) rfl)
    refine sd_store DKs S3 rfl (by decide) (fun ρ y => y.stA b) (fun s4 S4 _ => ?_)
    show wpAny _ A (execs (_ :: _) _) _ _ _
    -- what comes behind the counts
    have hne1 : ∀ z, xs[i + 1]? = some z → z ≠ e := fun z hz => by
      have h2 := (List.getElem?_eq_some_iff.mp hz)
      have h1 := (List.getElem?_eq_some_iff.mp he)
      have := List.pairwise_iff_getElem.mp hx i (i + 1) h1.1 h2.1 (Nat.lt_succ_self _)
      rw [h1.2, h2.2] at this; exact (Int.ne_of_lt this).symm
    have hne2 : ∀ z, ys[j + 1]? = some z → z ≠ b := fun z hz => by
      have h2 := (List.getElem?_eq_some_iff.mp hz)
      have h1 := (List.getElem?_eq_some_iff.mp ha)
      have := List.pairwise_iff_getElem.mp hy j (j + 1) h1.1 h2.1 (Nat.lt_succ_self _)
      rw [h1.2, h2.2] at this; exact (Int.ne_of_lt this).symm
    have evE : ∀ {s : Shared} {ms' us' : List Int} {i' j' : Nat}, SD base outer L s₀ M U l1 l2 o1 o2 i' j' (some e) (some b) ms' us' s → ∃ ρ, FJ base outer (dEnv L) s₀ ρ s ∧ ρ.lookup ("e" : Str) = some (.int e) ∧ ρ.lookup ("a" : Str) = some (.int b) := fun S => by
      obtain ⟨⟨ρ, hf, _, y⟩, _⟩ := S
      exact ⟨ρ, hf, y.he _ rfl, y.ha _ rfl⟩
    obtain ⟨ρ, hf, he', ha'⟩ := evE S4
    refine wpAny_execs_cons (wpAny_If ?_)
    refine et_use (b := decide (e < b)) (J := KJ base (dEnv L) ρ) (R := Keeps) ⟨hf.1, hf.2.stay⟩ (tv_cmp (keMd rfl) a.hu (ev_name (keMd rfl) he' rfl) (ev_name (keMd rfl) ha' rfl) rfl rfl) (fun s5 hk5 => ?_)
    replace S4 := S4.keeps DKs hk5
    by_cases hlt : e < b
    · rw [if_pos (decide_eq_true hlt)]
      have D1 := Dm.less hx hy he ha hlt
      obtain ⟨⟨ρ, hf, hfl, y⟩, ⟨m, hn, r1, r2, r3, r4⟩, k1, k2, ⟨vm, pm, im⟩, _⟩ := id S4
      obtain ⟨te, hte⟩ := fj_int rfl hf (y.he _ rfl) hn
      have hmsl : ms.length ≤ 2000 := by rw [Dm.ms_eq]; exact Nat.le_trans (List.length_filter_le _ _) (by rw [List.length_take]; exact p_2 _ hlx)
      have hvl := im.length
      refine wpAny_execs_cons (wpAny_Expr (wpAny_Call_append rfl rfl rfl rfl (wpAny_Name (wpAny_loadName_local (v := .ref M) rfl rfl hn r1 ⟨M, vm.toArray, rfl, ?_, ?_⟩) rfl)) rfl rfl)
      · obtain ⟨nn, e⟩ := pm; exact ⟨_, nn, e, rfl, rfl, rfl⟩
      refine wpAny_Name (wpAny_loadName_local rfl rfl hn hte ?_) rfl
      refine wpAny_list_append_plain pm (fun h6 hp6 hs6 => ?_) (by unfold sizeLine; simp; omega)
      have S6 := S4.putM (tk := s5.toks) (ms' := ms ++ [e]) DKs (fun b o q e => (hs6.2 b q).trans e) ⟨vm ++ [.int e te], by simpa using hp6, ints_snoc im⟩
      show wpAny _ A (execs (_ :: _) _) _ _ _
      refine wpAny_execs_cons (sd_inc DKs S6 (fun ρ y => y.hi) rfl (by decide) (fun ρ y => y.stI (i + 1)) (fun s7 S7 _ => ?_))
      show wpAny _ A (execs (_ :: _) _) _ _ _
      refine wpAny_execs_cons (sd_while q1 S7 (fun m a _ => a) S7.k1 (fun ρ y => y.hi) (fun ρ y => y.he _ rfl) D1.hi hne1 hu hfr (.inl a.handled) (fun hl s8 hk8 => ?_) (fun hl s8 e8 cx X8 k8 hcx => ?_))
      · refine wpAny_execs_nil ?_
        refine wpAny_execs_nil ?_
        exact hG _ _ ⟨rfl, i + 1, j, _, us, (S7.keeps DKs hk8).forget, D1, p_l i j⟩
      · exact hE _ _ ⟨e8, cx, i + 1, j, _, us, rfl, X8.toJ, (S7.xk DKs X8.1.2 k8).forget, D1, .inl hl⟩
    rw [if_neg (by simpa using hlt)]
    obtain ⟨ρ, hf, he', ha'⟩ := evE S4
    refine wpAny_execs_cons (wpAny_If ?_)
    refine et_use (b := decide (b < e)) (J := KJ base (dEnv L) ρ) (R := Keeps) ⟨hf.1, hf.2.stay⟩ (tv_cmp (keMd rfl) a.hu (ev_name (keMd rfl) he' rfl) (ev_name (keMd rfl) ha' rfl) rfl rfl) (fun s6 hk6 => ?_)
    replace S4 := S4.keeps DKs hk6
    by_cases hgt : b < e
    · rw [if_pos (decide_eq_true hgt)]
      have D1 := Dm.more hx hy he ha hgt
      obtain ⟨⟨ρ, hf, hfl, y⟩, ⟨m, hn, r1, r2, r3, r4⟩, k1, k2, _, ⟨vu, pu, iu⟩⟩ := id S4
      obtain ⟨ta, hta⟩ := fj_int rfl hf (y.ha _ rfl) hn
      have husl : us.length ≤ 2000 := by rw [Dm.us_eq]; exact Nat.le_trans (List.length_filter_le _ _) (by rw [List.length_take]; exact p_2 _ hly)
      have hvl := iu.length
      refine wpAny_execs_cons (wpAny_Expr (wpAny_Call_append rfl rfl rfl rfl (wpAny_Name (wpAny_loadName_local (v := .ref U) rfl rfl hn r2 ⟨U, vu.toArray, rfl, ?_, ?_⟩) rfl)) rfl rfl)
      · obtain ⟨nn, e⟩ := pu; exact ⟨_, nn, e, rfl, rfl, rfl⟩
      refine wpAny_Name (wpAny_loadName_local rfl rfl hn hta ?_) rfl
      refine wpAny_list_append_plain pu (fun h6 hp6 hs6 => ?_) (by unfold sizeLine; simp; omega)
      have S6 := S4.putU (tk := s6.toks) (us' := us ++ [b]) DKs (fun b o q e => (hs6.2 b q).trans e) ⟨vu ++ [.int b ta], by simpa using hp6, ints_snoc iu⟩
      show wpAny _ A (execs (_ :: _) _) _ _ _
      refine wpAny_execs_cons (sd_inc DKs S6 (fun ρ y => y.hj) rfl (by decide) (fun ρ y => y.stJ (j + 1)) (fun s7 S7 _ => ?_))
      show wpAny _ A (execs (_ :: _) _) _ _ _
      refine wpAny_execs_cons (sd_while q2 S7 (fun m _ a => a) S7.k2 (fun ρ y => y.hj) (fun ρ y => y.ha _ rfl) D1.hj hne2 hu hfr (.inl a.handled) (fun hl s8 hk8 => ?_) (fun hl s8 e8 cx X8 k8 hcx => ?_))
      · refine wpAny_execs_nil ?_
        refine wpAny_execs_nil ?_
        refine wpAny_execs_nil ?_
        exact hG _ _ ⟨rfl, i, j + 1, ms, _, (S7.keeps DKs hk8).forget, D1, Nat.lt_succ_self _⟩
      · exact hE _ _ ⟨e8, cx, i, j + 1, ms, _, rfl, X8.toJ, (S7.xk DKs X8.1.2 k8).forget, D1, .inr hl⟩
    rw [if_neg (by simpa using hgt)]
    have hab : e = b := Int.le_antisymm (Int.not_lt.mp hgt) (Int.not_lt.mp hlt)
    subst hab
    have D1 := Dm.same hx hy he ha
    refine wpAny_execs_cons (sd_inc DKs S4 (fun ρ y => y.hi) rfl (by decide) (fun ρ y => y.stI (i + 1)) (fun s7 S7 _ => ?_))
    show wpAny _ A (execs (_ :: _) _) _ _ _
    refine wpAny_execs_cons (wpAny_Try_finally ?_)
    refine wpAny_execs_cons (sd_while q1 S7 (fun m a _ => a) S7.k1 (fun ρ y => y.hi) (fun ρ y => y.he _ rfl) D1.hi hne1 hu hfr (.inl a.handled) (fun hl s8 hk8 => ?_) (fun hl s8 e8 cx X8 k8 hcx => ?_))
    · replace S7 := S7.keeps DKs hk8
      refine wpAny_execs_nil ?_
      refine wpAny_execs_nil ?_
      refine wpAny_execs_cons (sd_inc DKs S7 (fun ρ y => y.hj) rfl (by decide) (fun ρ y => y.stJ (j + 1)) (fun s9 S9 _ => ?_))
      show wpAny _ A (execs (_ :: _) _) _ _ _
      refine wpAny_execs_cons (sd_while q2 S9 (fun m _ a => a) S9.k2 (fun ρ y => y.hj) (fun ρ y => y.ha _ rfl) D1.hj hne2 hu hfr (.inl a.handled) (fun hl s10 hk10 => ?_) (fun hl s10 e10 cx X10 k10 hcx => ?_))
      · refine wpAny_execs_nil ?_
        refine wpAny_execs_nil ?_
        refine wpAny_execs_nil ?_
        refine wpAny_execs_nil ?_
        exact hG _ _ ⟨rfl, i + 1, j + 1, ms, us, (S9.keeps DKs hk10).forget, D1, p_b i j⟩
      · refine noted_x hfr X10.toJ (fun h' X' k' => ?_)
        exact hE _ _ ⟨e10, cx, i + 1, j + 1, ms, us, rfl, X'.toJ, (S9.xk DKs X'.1.2 (k10.trans k')).forget, D1, .inr hl⟩
    · have hcx' := hcx a.handled
      subst hcx'
      have S8 := S7.xk DKs X8.1.2 k8
      refine note_x hfr X8.toJ (fun h9 X9 k9 => ⟨ref_ne_byPass _, ?_⟩)
      refine note_x hfr X9.toJ (fun h10 X10 k10 => flight_x X10 (fun h11 X11 k11 => ?_))
      have S11 := S8.xk DKs X11.1.2 (k9.trans (k10.trans k11))
      refine wpAny_execs_cons (sd_inc DKs S11 (fun ρ y => y.hj) rfl (by decide) (fun ρ y => y.stJ (j + 1)) (fun s12 S12 kd12 => ?_))
      have X12 : XT base outer (dEnv L) s₀ [] e8 .none s12 := X11.keeps S12.fj0 (fun b o vs e hd => kd12 b o (fun q => by
        obtain ⟨m, ⟨o', es, ep, ho, hd', _⟩, _⟩ := S11.nm
        rw [q] at e
        have := Option.some.inj (e.symm.trans ho)
        subst this; rw [hd] at hd'; cases hd') e)
      show wpAny _ _ (execs (_ :: _) _) _ _ _
      obtain ⟨_, _, T, _, xT⟩ := id X12
      refine wpAny_execs_cons (sd_while (A := A.mark (some (.ref e8))) q2 S12 (fun m _ a => a) S12.k2 (fun ρ y => y.hj) (fun ρ y => y.ha _ rfl) D1.hj hne2 hu hfr (hd_of rfl xT) (fun hl2 s13 hk13 => ?_) (fun hl2 s13 e13 cx13 X13 k13 hcx => ?_))
      · have S13 := S12.keeps DKs hk13
        have X13 : XT base outer (dEnv L) s₀ [] e8 .none s13 := X12.keeps S13.fj0 (fun b o vs e _ => by obtain ⟨h, t, rfl, kk⟩ := hk13; exact kk b o e)
        refine wpAny_execs_nil ?_
        refine pass_x X13 (fun h' X' k' => ?_)
        exact hE _ _ ⟨e8, .none, i + 1, j + 1, ms, us, rfl, X'.toJ, (S13.xk DKs X'.1.2 k').forget, D1, .inl hl⟩
      · refine came_x2 (A' := A.mark (some (.ref e8))) hfr X13.toJ (fun h' X' k' => ?_)
        exact hE _ _ ⟨e13, cx13, i + 1, j + 1, ms, us, rfl, X'.toJ, (S12.xk DKs X'.1.2 (k13.trans k')).forget, D1, .inl hl⟩
  · obtain ⟨rfl, i', j', ms', us', S', D', hlt⟩ := h3
    refine wpAny_execs_nil ?_
    refine wpAny_execs_nil ?_
    exact ⟨_, p_m hlt D'.hi D'.hj, i', j', ms', us', rfl, S', D'⟩
  · obtain ⟨e, cx, i', j', ms', us', rfl, X, S', D', hend⟩ := h3
    refine note_x a.frames X (fun h4 X4 k4 => flight_x X4 (fun h5 X5 k5 => ?_))
    have S5 := S'.xk DKs X5.1.2 (k4.trans k5)
    obtain ⟨J5, hnw, T, hT, hx5⟩ := X5
    obtain ⟨ob, hob, hobc⟩ := hx5.there
    refine wpAny_handleBy_builtin (b := true) sub_IndexError sub_IndexErrorT sub_IndexError' ?_
    refine (nm_builtin (ρ := []) W rfl rfl rfl rfl (by k_is) bb_IndexError (by decide) rfl) _ _ _ _ J5 ⟨rfl, ⟨ob, hob, hobc⟩, ?_⟩
    rw [if_pos rfl]
    refine flight_x (⟨J5, hnw, T, hT, hx5⟩ : XT base outer (dEnv L) s₀ [] e cx _) (fun h6 X6 k6 => ?_)
    have S6 := S5.xk DKs X6.1.2 k6
    -- missing.extend(expected[i:])
    obtain ⟨⟨ρ6, hf6, hfl6, y6⟩, ⟨m6, hn6, r1, r2, r3, r4⟩, k16, k26, ⟨vm6, pm6, im6⟩, _⟩ := id S6
    obtain ⟨ti, hti⟩ := fj_int rfl hf6 y6.hi hn6
    have hmsl : ms'.length ≤ 2000 := by
      have := D'.done hend
      have h2 : (ms' ++ xs.drop i').length ≤ xs.length := by rw [this]; exact List.length_filter_le _ _
      rw [List.length_append] at h2; omega
    have husl : us'.length ≤ 2000 := by
      have := D'.swap.done (Or.symm hend)
      have h2 : (us' ++ ys.drop j').length ≤ ys.length := by rw [this]; exact List.length_filter_le _ _
      rw [List.length_append] at h2; omega
    show wpAny _ _ (execs (_ :: _) _) _ _ _
    refine wpAny_execs_cons (sd_extend q1 hn6 r1 r3 hti k16 pm6 im6 hmsl rfl rfl (fun h7 hp7 kd7 => ?_))
    have S7 := S6.putM (tk := s2.toks) DKs kd7 hp7
    show wpAny _ _ (execs (_ :: _) _) _ _ _
    obtain ⟨⟨ρ7, hf7, hfl7, y7⟩, ⟨m7, hn7, r1, r2, r3, r4⟩, k17, k27, _, ⟨vu7, pu7, iu7⟩⟩ := id S7
    obtain ⟨tj, htj⟩ := fj_int rfl hf7 y7.hj hn7
    refine wpAny_execs_cons (sd_extend q2 hn7 r2 r4 htj k27 pu7 iu7 husl rfl rfl (fun h8 hp8 kd8 => ?_))
    have S8 := S7.putU (tk := s2.toks) DKs kd8 hp8
    show wpAny _ _ (execs (_ :: _) _) _ _ _
    refine wpAny_execs_cons (wpAny_Break ?_)
    show wpAny _ A (execs (_ :: _) _) _ _ _
    obtain ⟨_, ⟨m8, hn8, r1, r2, r3, r4⟩, _, _, ⟨vm8, ⟨nm8, pm8⟩, im8⟩, ⟨vu8, ⟨nu8, pu8⟩, iu8⟩⟩ := id S8
    rw [D'.done hend] at im8
    rw [D'.swap.done (Or.symm hend)] at iu8
    refine wpAny_execs_cons (wpAny_Return_some (Tuple_ (Calls.spliced_cons (wpAny_Name (wpAny_loadName_local rfl rfl hn8 r1 (Calls.spliced_cons (wpAny_Name (wpAny_loadName_local rfl rfl hn8 r2 (Calls.spliced_nil ?_)) rfl))) rfl))))
    refine wpAny_newObj_type (hG0 _ _ ⟨_, [], rfl, ?_, ?_⟩) (show (2 : Nat) ≤ sizeLine by unfold sizeLine; omega)
    · refine .tup (vs := [.ref M, .ref U]) ⟨_, Heap.get?_push_size _ rfl, rfl, _, rfl⟩ (.cons ?_ (.cons ?_ .nil))
      · exact .list ⟨_, Heap.get?_push_of_some _ pm8, rfl, rfl, _, rfl⟩ (dtAll_of_ints im8)
      · exact .list ⟨_, Heap.get?_push_of_some _ pu8, rfl, rfl, _, rfl⟩ (dtAll_of_ints iu8)
    · exact (frMd rfl).inv _ _ S8.fj0 (Go.of_keeps (keeps_push _ _ _))
end Mine

namespace Mine
theorem len_sub : ∀ (l names : List Str), l.Pairwise (· ≠ ·) → (∀ a ∈ l, a ∈ names) → l.length ≤ names.length
  | [], _, _, _ => Nat.zero_le _
  | a :: l, names, hp, hs => by
    have hp' := List.pairwise_cons.mp hp
    have ha := hs a (.head _)
    have ih := len_sub l (names.erase a) hp'.2 fun b hb => (List.mem_erase_of_ne (Ne.symm (hp'.1 b hb))).mpr (hs b (.tail _ hb))
    rw [List.length_erase_of_mem ha] at ih
    have : 0 < names.length := List.length_pos_of_mem ha
    rw [List.length_cons]; omega
noncomputable def keyStr (e : DictEntry) : Str := match e.key with | .str n _ => n | _ => Str.empty
theorem size_names {es : Array DictEntry} {σ : Str → Option Value} {names : List Str} (hk : StrKeys es) (hu : UniqKeys es) (hf : ∀ a, nsFind es a = σ a) (hs : ∀ a, σ a ≠ none → a ∈ names) : es.size ≤ names.length := by
  have key : ∀ e ∈ es.toList, e.key.isStr (keyStr e) = true := fun e he => by
    obtain ⟨n, t, h⟩ := hk e (Array.mem_toList_iff.mp he)
    unfold keyStr; rw [h]; simp [Value.isStr]
  have h1 : (es.toList.map keyStr).Pairwise (· ≠ ·) := by
    rw [List.pairwise_map]
    refine List.Pairwise.imp_of_mem (fun {a b} ha hb h q => ?_) hu
    have kb := key b hb
    rw [← q] at kb
    exact h (keyStr a) (key a ha) kb
  have h2 : ∀ a ∈ es.toList.map keyStr, a ∈ names := fun a ha => by
    obtain ⟨e, he, rfl⟩ := List.mem_map.mp ha
    refine hs _ fun q => ?_
    have := hf (keyStr e)
    rw [q] at this
    unfold nsFind findBy at this
    rw [Option.map_eq_none_iff, ← Array.find?_toList, List.find?_eq_none] at this
    exact this e he (key e he)
  have := len_sub _ names h1 h2
  rwa [List.length_map, Array.length_toList] at this
structure Own (h : Heap) (x dx C : Addr) (names : List Str) (σ : Str → Option Value) : Prop where
  obj : h.get? x = some (instObj C dx)
  ns1 : h.Ns1 dx σ
  sup : ∀ a, σ a ≠ none → a ∈ names
theorem Own.ns {h : Heap} {x dx C : Addr} {names : List Str} {σ : Str → Option Value} (O : Own h x dx C names σ) : h.Ns dx σ := O.ns1.ns
theorem Own.at' {h h' : Heap} {x dx C : Addr} {names : List Str} {σ : Str → Option Value} (O : Own h x dx C names σ) (k1 : ∀ o, h.get? x = some o → h'.get? x = some o) (k2 : ∀ o, h.get? dx = some o → h'.get? dx = some o) : Own h' x dx C names σ := ⟨k1 _ O.obj, O.ns1.at k2, O.sup⟩
theorem Own.inst {h : Heap} {x dx C : Addr} {names : List Str} {σ : Str → Option Value} (O : Own h x dx C names σ) : ∃ od, InstAt h x (instObj C dx) C (some od) ∧ h.get? dx = some od ∧ ∀ a, lookIn a od = some (σ a) := by
  obtain ⟨ho, ⟨o, es, ep, hd, hdd, hk, _, hf⟩, _⟩ := O
  refine ⟨o, ⟨ho, rfl, rfl, hd⟩, hd, fun a => ?_⟩
  unfold lookIn
  rw [hdd]
  dsimp only
  have hn := hf a
  unfold nsFind findBy at hn
  rw [← Array.find?_toList] at hn
  cases e : es.toList.find? (fun e => e.key.isStr a) with
  | some en => rw [e] at hn; rw [← hn]; rfl
  | none =>
    rw [e] at hn
    have : es.toList.any (·.refKey) = false := by
      rw [List.any_eq_false]
      intro en he
      obtain ⟨n, t, h⟩ := hk en (Array.mem_toList_iff.mp he)
      simp [DictEntry.refKey, h]
    rw [← hn, if_neg (by rw [this]; decide)]
    rfl
noncomputable def plainAt (K : Frag) (C : Addr) (a : Str) : Bool := plainGet K C a && hasDictIn K C && findIn K (.ref C) a == some none
noncomputable def storeAt (K : Frag) (C : Addr) (a : Str) : Bool := findIn K (.ref C) "__setattr__" == some (some (.builtin "object.__setattr__")) && plainOver K C && takerIn K C a == some none && hasDictIn K C
noncomputable def methAt (K : Frag) (C : Addr) (a : Str) (f : Addr) : Bool := plainGet K C a && findIn K (.ref C) a == some (some (.ref f)) && typeIn K (.ref f) == some (.type "function")
noncomputable def FV (v : Value) (d : PyData) : Prop := handedIn v = true ∧ ∀ h, Dt h v d
theorem FV.str {x : Str} {t : Tok} : FV (.str x t) (.str x) := ⟨rfl, fun _ => .str x t⟩
theorem FV.int {x : Int} {t : Tok} : FV (.int x t) (.int x) := ⟨rfl, fun _ => .int x t⟩
theorem FV.bool {b : Bool} : FV (.bool b) (.bool b) := ⟨rfl, fun _ => .bool b⟩
theorem FV.none : FV .none .none := ⟨rfl, fun _ => .none⟩
section
variable {prog : Program} {w : World} {A : Around} {E : Value → Shared → Prop} {s : Shared} {K : Frag} {x dx C : Addr} {names : List Str} {σ : Str → Option Value} {a : Str} {expr : Bool}
theorem at_get {v : Value} {Q : Value → Shared → Prop} (X : K.In s.heap) (O : Own s.heap x dx C names σ) (hp : plainAt K C a = true) (hv : σ a = some v) (hh : handedIn v = true) (h : Q v { s with toks := s.toks + 1 }) :
    wpAny (model prog w) A (getAttr (.ref x) a expr) Q E s := by
  obtain ⟨od, I, _, hl⟩ := O.inst
  simp only [plainAt, plainGet, hasDictIn, Bool.and_eq_true, beq_iff_eq] at hp
  obtain ⟨⟨⟨h1, h2⟩, h3⟩, h4⟩ := hp
  obtain ⟨cd, hc, hdd⟩ := any_some h3
  refine get_value X I h1 ?_ hh h
  unfold findObj
  rw [hc, h4]
  simp only [Option.bind_some]
  unfold W.ownOf
  rw [if_pos hdd]
  dsimp only
  rw [hl a, hv]
  rfl
theorem at_set {v : Value} {Q : Unit → Shared → Prop} (X : K.In s.heap) (O : Own s.heap x dx C names σ) (hp : storeAt K C a = true) (ha : a ∈ names) (hz : names.length ≤ 1000)
    (h : ∀ h' tk, Own h' x dx C names (fun y => if y = a then some v else σ y) → Heap.SameBut dx s.heap h' → Q () { s with heap := h', toks := tk }) :
    wpAny (model prog w) A (setAttr (.ref x) a v) Q E s := by
  obtain ⟨od, I, hdx, hl⟩ := O.inst
  simp only [storeAt, Bool.and_eq_true, beq_iff_eq] at hp
  obtain ⟨⟨⟨h1, h2⟩, h3⟩, h4⟩ := hp
  obtain ⟨cd, hc, hdd⟩ := any_some h4
  refine set_plain X I h1 (osa_open (s := { s with toks := s.toks + 1 }) X I h2 h3 fun b => ?_)
  have hxd : x ≠ dx := fun q => by
    obtain ⟨ho, ⟨o, es, ep, hd, hdd, _⟩, _⟩ := O
    rw [q, hd] at ho
    cases ho; cases hdd
  refine wpAny_bind (wpAny_pure (wpAny_bind (wpAny_bind (wpAny_loadPart O.obj (wpAny_bind (looks_clsIn (M := model prog w) X hc _ _ _ _ (fun _ _ e => e) ?_))))))
  rw [hdd]
  refine wpAny_pure (a := some dx) (wpAny_bind (wpAny_pure (wpAny_bind ?_)))
  refine wpAny_nsSet1 O.ns1 fun h' hn hs => ?_
  have hsup : ∀ y, (if y = a then some v else σ y) ≠ none → y ∈ names := fun y q => by
    by_cases e : y = a
    · rw [e]; exact ha
    · rw [if_neg e] at q; exact O.sup y q
  obtain ⟨o, es, ep, hd', hdd', hk, hu, hf⟩ := id hn
  have hsz := size_names hk hu hf hsup
  refine wpAny_bind (wpAny_lookBehind hd' (by rw [hdd']; exact pastItsLine_dict (by unfold sizeLine; omega)) ?_)
  exact wpAny_pure (h h' _ ⟨(hs.2 x hxd).trans O.obj, hn, hsup⟩ hs)
end
end Mine

namespace Mine
noncomputable def Km (ws : List Addr) (s s' : Shared) : Prop := ∃ h tk, s' = { s with heap := h, toks := tk } ∧ ∀ b o, b ∉ ws → s.heap.get? b = some o → h.get? b = some o
theorem Km.refl (ws : List Addr) (s : Shared) : Km ws s s := ⟨s.heap, s.toks, rfl, fun _ _ _ e => e⟩
theorem Km.of_keeps {ws : List Addr} {s s' : Shared} (k : Keeps s s') : Km ws s s' := by
  obtain ⟨h, t, rfl, kk⟩ := k
  exact ⟨h, t, rfl, fun b o _ e => kk b o e⟩
theorem Km.trans {ws : List Addr} {a b c : Shared} (x : Km ws a b) (y : Km ws b c) : Km ws a c := by
  obtain ⟨h, t, rfl, k⟩ := x
  obtain ⟨h', t', rfl, k'⟩ := y
  exact ⟨h', t', rfl, fun p o n e => k' p o n (k p o n e)⟩
theorem Km.sub {ws ws' : List Addr} {a b : Shared} (x : Km ws a b) (h : ∀ p ∈ ws, p ∈ ws') : Km ws' a b := by
  obtain ⟨h', t, rfl, k⟩ := x
  exact ⟨h', t, rfl, fun p o n e => k p o (fun q => n (h p q)) e⟩
theorem Km.get {ws : List Addr} {s s' : Shared} (x : Km ws s s') {b : Addr} {o : Obj} (n : b ∉ ws) (e : s.heap.get? b = some o) : s'.heap.get? b = some o := by
  obtain ⟨h', t, rfl, k⟩ := x
  exact k b o n e
theorem Km.drop {ws : List Addr} {L : Addr} {a b : Shared} (x : Km (L :: ws) a b) (h : a.heap.get? L = none) : Km ws a b := by
  obtain ⟨h', t, rfl, k⟩ := x
  exact ⟨h', t, rfl, fun p o n e => k p o (fun q => by rcases List.mem_cons.mp q with rfl | q; rw [h] at e; cases e; exact n q) e⟩
theorem Km.own {ws : List Addr} {s s' : Shared} {x dx C : Addr} {names : List Str} {σ : Str → Option Value} (k : Km ws s s') (O : Own s.heap x dx C names σ) (h1 : x ∉ ws) (h2 : dx ∉ ws) : Own s'.heap x dx C names σ :=
  O.at' (fun _ e => k.get h1 e) (fun _ e => k.get h2 e)
theorem KeepF.km {base : Heap} {ws : List Addr} {s s' : Shared} (x : KeepF [] base s.heap) (k : Km ws s s') (h : ∀ b ∈ ws, base.get? b = none) : KeepF [] base s'.heap := by
  obtain ⟨h', t, rfl, k⟩ := k
  exact x.butL k h

section
variable {prog : Program} {w : World} {A : Around} {E : Value → Shared → Prop} {s : Shared} {K : Frag} {base : Heap}
theorem code_def0 {f : Addr} {args : Args} {binds : List (Str × Value)} {name qual : Str} {params : Arguments} {body : List Stmt} {scope : Scope} {dV kV doc pm cdv ct oc : Value} {an od : Option Addr} {osl : Array (Option Value)} {Q : Value → Shared → Prop}
    (ho : K.lookup f = some ⟨oc, od, .func (fnOf name qual params body scope dV kV doc pm an cdv ct), osl⟩) (hcd : codeIn K cdv qual = true)
    (hbind : BindsTo s (fnOf name qual params body scope dV kV doc pm an cdv ct) args binds)
    (hkind : (binds.all fun y => scope.names.lookup y.1 == some .local || scope.names.lookup y.1 == some .cell) = true)
    (hco : scope.isCoroutine = false) (hgen : scope.isGenerator = false) (hk : scope.kind = .function)
    (W : Wd K base) (hd : A.depth < recursionLimit) (hst : KeepF [] base s.heap)
    (h : ∀ h₁ tk, (∀ b o, s.heap.get? b = some o → h₁.get? b = some o) → h₁.Ns s.heap.objs.size (bindL (envOfC qual scope s.heap.objs.size f cdv).kindOf binds fun _ => none) →
      wpAny (model prog w) (A.deeper (envOfC qual scope s.heap.objs.size f cdv)) (execs body (envOfC qual scope s.heap.objs.size f cdv)) (fun fl s' => Q (match fl with | .ret v => v | _ => .none) s')
        (fun e s' => wpAny (model prog w) (A.deeper (envOfC qual scope s.heap.objs.size f cdv)) (leaving (envOfC qual scope s.heap.objs.size f cdv) e) (fun _ s'' => E e s'') E s') { s with heap := h₁, toks := tk }) :
    codeAny (model prog w) A (.call (.ref f) args) (fun r s' => match r with | .ok (.ret v) => Q v s' | .ok _ => False | .error e => E e s') s := by
  obtain ⟨p, loose, mg, mb, T⟩ := W.T
  refine codeAny_call_function (fd := fnOf name qual params body scope dV kV doc pm an cdv ct) hd (W.at hst ho) rfl hco hgen rfl (codeRec_of (W.in hst) hcd) (hbind _ _ _ _ ?_)
  refine wpAny_newFunctionEnv_cells hk (kindsX hkind _) fun env' he s' x => ?_
  subst he
  refine ⟨(noLimit_keepF hst T.nolimit).keeps x.toInCall.keep, codeAny_func ?_⟩
  obtain ⟨h₁, tk, rfl, kk⟩ := x.done
  exact h h₁ tk kk x.toInCall.ns
theorem call_def {f : Addr} {args : Args} {binds : List (Str × Value)} {name qual : Str} {params : Arguments} {body : List Stmt} {scope : Scope} {dV kV doc pm cdv ct oc : Value} {an od : Option Addr} {osl : Array (Option Value)} {Q : Value → Shared → Prop}
    (ho : K.lookup f = some ⟨oc, od, .func (fnOf name qual params body scope dV kV doc pm an cdv ct), osl⟩) (hcd : codeIn K cdv qual = true)
    (hbind : BindsTo s (fnOf name qual params body scope dV kV doc pm an cdv ct) args binds)
    (hkind : (binds.all fun y => scope.names.lookup y.1 == some .local || scope.names.lookup y.1 == some .cell) = true)
    (hco : scope.isCoroutine = false) (hgen : scope.isGenerator = false) (hk : scope.kind = .function)
    (W : Wd K base) (hd : A.depth < recursionLimit) (hst : KeepF [] base s.heap)
    (h : ∀ h₁ tk, (∀ b o, s.heap.get? b = some o → h₁.get? b = some o) → h₁.Ns s.heap.objs.size (bindL (envOfC qual scope s.heap.objs.size f cdv).kindOf binds fun _ => none) →
      wpAny (model prog w) (A.deeper (envOfC qual scope s.heap.objs.size f cdv)) (execs body (envOfC qual scope s.heap.objs.size f cdv)) (fun fl s' => Q (match fl with | .ret v => v | _ => .none) s')
        (fun e s' => wpAny (model prog w) (A.deeper (envOfC qual scope s.heap.objs.size f cdv)) (leaving (envOfC qual scope s.heap.objs.size f cdv) e) (fun _ s'' => E e s'') E s') { s with heap := h₁, toks := tk }) :
    wpAny (model prog w) A (call (.ref f) args.pos args.kw) Q E s := wpAny_call (code_def0 ho hcd hbind hkind hco hgen hk W hd hst h)
end
noncomputable def NamesOf (env : Env) (m : Str → Option Value) (ρ : Rho) : Prop := ∀ x d, ρ.lookup x = some d → env.kindOf x = some .local ∧ ∃ v, m x = some v ∧ FV v d
theorem NamesOf.nil {env : Env} {m : Str → Option Value} : NamesOf env m [] := fun _ _ h => by simp at h
theorem NamesOf.cons {env : Env} {m : Str → Option Value} {ρ : Rho} {x : Str} {d : PyData} {v : Value} (hk : env.kindOf x = some .local) (hm : m x = some v) (hv : FV v d) (r : NamesOf env m ρ) : NamesOf env m ((x, d) :: ρ) := fun y e hy => by
  by_cases q : y = x
  · subst q; rw [List.lookup_cons_self] at hy; cases hy; exact ⟨hk, v, hm, hv⟩
  · rw [lookup_cons_ne q] at hy; exact r y e hy
structure MJ (base : Heap) (env : Env) (m : Str → Option Value) (x dx C : Addr) (names : List Str) (σ : Str → Option Value) (s : Shared) : Prop where
  st : KeepF [] base s.heap
  ns : s.heap.Ns env.locals m
  own : Own s.heap x dx C names σ
theorem MJ.keeps {base : Heap} {env : Env} {m : Str → Option Value} {x dx C : Addr} {names : List Str} {σ : Str → Option Value} {s s' : Shared} (J : MJ base env m x dx C names σ s) (k : Keeps s s') : MJ base env m x dx C names σ s' := by
  obtain ⟨h, t, rfl, kk⟩ := k
  exact ⟨J.st.trans (.of_keeps kk), J.ns.keeps kk, J.own.at' (fun _ e => kk _ _ e) (fun _ e => kk _ _ e)⟩
theorem mjMd {base : Heap} {env : Env} {m : Str → Option Value} {x dx C : Addr} {names : List Str} {σ : Str → Option Value} {ρ : Rho} (hk : env.scope.kind = .function) (hρ : NamesOf env m ρ) : Md env ρ (MJ base env m x dx C names σ) Keeps where
  kind := hk
  names := fun s J => ⟨m, J.ns, fun y d hy => let ⟨a, v, b, c⟩ := hρ y d hy; .inl ⟨a, v, b, c.2 _⟩⟩
  keeps := fun _ _ _ k => k
  trans := fun _ _ _ => keeps_trans
  inv := fun _ _ J k => J.keeps k
  seq := fun _ _ => keeps_seq
section
variable {prog : Program} {w : World} {A : Around} {E : Value → Shared → Prop} {s : Shared} {K : Frag} {base : Heap} {env : Env} {m : Str → Option Value} {x dx C : Addr} {names : List Str} {σ : Str → Option Value} {a : Str} {np pos : Pos}
theorem ev_self (hk : env.scope.kind = .function) (W : Wd K base) {sn : Str} (hs : m sn = some (.ref x)) (hn : env.kindOf sn = some .local) (hd : (sn == ("__debug__" : Str)) = false) (hp : plainAt K C a = true) {v : Value} {d : PyData} (hv : σ a = some v) (hf : FV v d) :
    EvP prog w A env (MJ base env m x dx C names σ) Keeps (.Attribute (.Name sn np) a pos) d := fun s E J =>
  Attribute_name (wpAny_Name (wpAny_loadName_local hk hn J.ns hs (at_get (W.in J.st) J.own hp hv hf.1 ⟨hf.2 _, keeps_tok s _⟩)) hd)
theorem meth_self {pl : Sem Bool} {f : Addr} {Q : Value × List Value → Shared → Prop} (X : K.In s.heap) (O : Own s.heap x dx C names σ) (hp : methAt K C a f = true) (hv : σ a = none) (h : Q (.ref f, [.ref x]) s) : wpAny (model prog w) A (getMethod (.ref x) a pl) Q E s := by
  obtain ⟨od, I, _, hl⟩ := O.inst
  simp only [methAt, plainGet, Bool.and_eq_true, beq_iff_eq] at hp
  obtain ⟨⟨⟨h1, h2⟩, h3⟩, h4⟩ := hp
  exact method_fn X I h1 h2 h3 h4 (by show (lookIn a od).map (·.isSome) = some false; rw [hl a, hv]; rfl) h
theorem mj_local {L : Addr} {y : Str} {v : Value} {Q : Unit → Shared → Prop} (J : MJ base env m x dx C names σ s) (hL : env.locals = L) (hk : env.scope.kind = .function) (hy : env.kindOf y = some .local) (hb : base.get? L = none) (hx : dx ≠ L)
    (h : ∀ s', MJ base env (fun z => if z = y then some v else m z) x dx C names σ s' → Km [L] s s' → Q () s') : wpAny (model prog w) A (storeName env y v) Q E s := by
  subst hL
  refine wpAny_storeName_local hy J.ns (fun h' hn hs => ?_) (by rw [hk]; rfl)
  have kd : ∀ b o, s.heap.get? b = some o → b ≠ env.locals → h'.get? b = some o := fun b o e q => (hs.2 b q).trans e
  have hxL : x ≠ env.locals := fun q => by
    obtain ⟨o, es, ep, ho, hd, _⟩ := J.ns
    have := J.own.obj
    rw [q, ho] at this
    cases this; cases hd
  exact h _ ⟨J.st.but (fun b o e q => kd b o e q) hb, hn, J.own.at' (fun o e => kd x o e hxL) (fun o e => kd dx o e hx)⟩ ⟨h', _, rfl, fun b o q e => kd b o e (fun z => q (by rw [z]; exact .head _))⟩
theorem mj_attr {v : Value} {Q : Unit → Shared → Prop} (W : Wd K base) (J : MJ base env m x dx C names σ s) (hp : storeAt K C a = true) (ha : a ∈ names) (hz : names.length ≤ 1000) (hb : base.get? dx = none) (hx : dx ≠ env.locals)
    (h : ∀ s', MJ base env m x dx C names (fun z => if z = a then some v else σ z) s' → Km [dx] s s' → Q () s') : wpAny (model prog w) A (setAttr (.ref x) a v) Q E s := by
  refine at_set (W.in J.st) J.own hp ha hz fun h' tk O' hs => ?_
  have kd : ∀ b o, s.heap.get? b = some o → b ≠ dx → h'.get? b = some o := fun b o e q => (hs.2 b q).trans e
  exact h _ ⟨J.st.but (fun b o e q => kd b o e q) hb, J.ns.at' (fun o e => kd _ o e (Ne.symm hx)), O'⟩ ⟨h', _, rfl, fun b o q e => kd b o e (fun z => q (by rw [z]; exact .head _))⟩
end
end Mine

namespace Mine
theorem plain_of {K : Frag} {C : Addr} {a : Str} (h1 : plainGet K C a = true) (h2 : hasDictIn K C = true) (h3 : findIn K (.ref C) a = some none) : plainAt K C a = true := by unfold plainAt; rw [h1, h2, h3]; rfl
theorem store_of {K : Frag} {C : Addr} {a : Str} (h1 : findIn K (.ref C) "__setattr__" = some (some (.builtin "object.__setattr__"))) (h2 : plainOver K C = true) (h3 : takerIn K C a = some none) (h4 : hasDictIn K C = true) : storeAt K C a = true := by unfold storeAt; rw [h1, h2, h3, h4]; rfl
theorem meth_of {K : Frag} {C : Addr} {a : Str} {f : Addr} (h1 : plainGet K C a = true) (h2 : findIn K (.ref C) a = some (some (.ref f))) (h3 : typeIn K (.ref f) = some (.type "function")) : methAt K C a f = true := by unfold methAt; rw [h1, h2, h3]; simp
noncomputable def lexNames : List Str := ["instream", "infile", "posix", "eof", "commenters", "wordchars", "whitespace", "whitespace_split", "quotes", "escape", "escapedquotes", "state", "pushback", "lineno", "debug", "token", "filestack", "source", "_punctuation_chars"]
noncomputable def ioNames : List Str := ["_StringIO__newline", "_StringIO__buf", "_StringIO__pos"]
set_option maxRecDepth 100000 in
theorem lex_ps (w : World) : ∀ a ∈ lexNames, plainAt (hd.heap_39 w.params) 753 a = true ∧ storeAt (hd.heap_39 w.params) 753 a = true := by
  have kf : (fun _ : Program => (hd.heap_39 w.params).lookup 0) PySem.Challenge.rw_oy0388_01.prog = (hd.heap_39 w.params).lookup 0 := by
    k_fill
    rfl
  clear kf
  have p0 : plainAt (hd.heap_39 w.params) 753 "instream" = true := plain_of (by k_is) (by k_is) (by k_is)
  have s0 : storeAt (hd.heap_39 w.params) 753 "instream" = true := store_of (by k_is) (by k_is) (by k_is) (by k_is)
  have p1 : plainAt (hd.heap_39 w.params) 753 "infile" = true := plain_of (by k_is) (by k_is) (by k_is)
  have s1 : storeAt (hd.heap_39 w.params) 753 "infile" = true := store_of (by k_is) (by k_is) (by k_is) (by k_is)
  have p2 : plainAt (hd.heap_39 w.params) 753 "posix" = true := plain_of (by k_is) (by k_is) (by k_is)
  have s2 : storeAt (hd.heap_39 w.params) 753 "posix" = true := store_of (by k_is) (by k_is) (by k_is) (by k_is)
  have p3 : plainAt (hd.heap_39 w.params) 753 "eof" = true := plain_of (by k_is) (by k_is) (by k_is)
  have s3 : storeAt (hd.heap_39 w.params) 753 "eof" = true := store_of (by k_is) (by k_is) (by k_is) (by k_is)
  have p4 : plainAt (hd.heap_39 w.params) 753 "commenters" = true := plain_of (by k_is) (by k_is) (by k_is)
  have s4 : storeAt (hd.heap_39 w.params) 753 "commenters" = true := store_of (by k_is) (by k_is) (by k_is) (by k_is)
  have p5 : plainAt (hd.heap_39 w.params) 753 "wordchars" = true := plain_of (by k_is) (by k_is) (by k_is)
  have s5 : storeAt (hd.heap_39 w.params) 753 "wordchars" = true := store_of (by k_is) (by k_is) (by k_is) (by k_is)
  have p6 : plainAt (hd.heap_39 w.params) 753 "whitespace" = true := plain_of (by k_is) (by k_is) (by k_is)
  have s6 : storeAt (hd.heap_39 w.params) 753 "whitespace" = true := store_of (by k_is) (by k_is) (by k_is) (by k_is)
  have p7 : plainAt (hd.heap_39 w.params) 753 "whitespace_split" = true := plain_of (by k_is) (by k_is) (by k_is)
  have s7 : storeAt (hd.heap_39 w.params) 753 "whitespace_split" = true := store_of (by k_is) (by k_is) (by k_is) (by k_is)
  have p8 : plainAt (hd.heap_39 w.params) 753 "quotes" = true := plain_of (by k_is) (by k_is) (by k_is)
  have s8 : storeAt (hd.heap_39 w.params) 753 "quotes" = true := store_of (by k_is) (by k_is) (by k_is) (by k_is)
  have p9 : plainAt (hd.heap_39 w.params) 753 "escape" = true := plain_of (by k_is) (by k_is) (by k_is)
  have s9 : storeAt (hd.heap_39 w.params) 753 "escape" = true := store_of (by k_is) (by k_is) (by k_is) (by k_is)
  have p10 : plainAt (hd.heap_39 w.params) 753 "escapedquotes" = true := plain_of (by k_is) (by k_is) (by k_is)
  have s10 : storeAt (hd.heap_39 w.params) 753 "escapedquotes" = true := store_of (by k_is) (by k_is) (by k_is) (by k_is)
  have p11 : plainAt (hd.heap_39 w.params) 753 "state" = true := plain_of (by k_is) (by k_is) (by k_is)
  have s11 : storeAt (hd.heap_39 w.params) 753 "state" = true := store_of (by k_is) (by k_is) (by k_is) (by k_is)
  have p12 : plainAt (hd.heap_39 w.params) 753 "pushback" = true := plain_of (by k_is) (by k_is) (by k_is)
  have s12 : storeAt (hd.heap_39 w.params) 753 "pushback" = true := store_of (by k_is) (by k_is) (by k_is) (by k_is)
  have p13 : plainAt (hd.heap_39 w.params) 753 "lineno" = true := plain_of (by k_is) (by k_is) (by k_is)
  have s13 : storeAt (hd.heap_39 w.params) 753 "lineno" = true := store_of (by k_is) (by k_is) (by k_is) (by k_is)
  have p14 : plainAt (hd.heap_39 w.params) 753 "debug" = true := plain_of (by k_is) (by k_is) (by k_is)
  have s14 : storeAt (hd.heap_39 w.params) 753 "debug" = true := store_of (by k_is) (by k_is) (by k_is) (by k_is)
  have p15 : plainAt (hd.heap_39 w.params) 753 "token" = true := plain_of (by k_is) (by k_is) (by k_is)
  have s15 : storeAt (hd.heap_39 w.params) 753 "token" = true := store_of (by k_is) (by k_is) (by k_is) (by k_is)
  have p16 : plainAt (hd.heap_39 w.params) 753 "filestack" = true := plain_of (by k_is) (by k_is) (by k_is)
  have s16 : storeAt (hd.heap_39 w.params) 753 "filestack" = true := store_of (by k_is) (by k_is) (by k_is) (by k_is)
  have p17 : plainAt (hd.heap_39 w.params) 753 "source" = true := plain_of (by k_is) (by k_is) (by k_is)
  have s17 : storeAt (hd.heap_39 w.params) 753 "source" = true := store_of (by k_is) (by k_is) (by k_is) (by k_is)
  have p18 : plainAt (hd.heap_39 w.params) 753 "_punctuation_chars" = true := plain_of (by k_is) (by k_is) (by k_is)
  have s18 : storeAt (hd.heap_39 w.params) 753 "_punctuation_chars" = true := store_of (by k_is) (by k_is) (by k_is) (by k_is)
  intro a ha
  simp only [lexNames, List.mem_cons, List.not_mem_nil, or_false] at ha
  rcases ha with rfl | rfl | rfl | rfl | rfl | rfl | rfl | rfl | rfl | rfl | rfl | rfl | rfl | rfl | rfl | rfl | rfl | rfl | rfl
  · exact ⟨p0, s0⟩
  · exact ⟨p1, s1⟩
  · exact ⟨p2, s2⟩
  · exact ⟨p3, s3⟩
  · exact ⟨p4, s4⟩
  · exact ⟨p5, s5⟩
  · exact ⟨p6, s6⟩
  · exact ⟨p7, s7⟩
  · exact ⟨p8, s8⟩
  · exact ⟨p9, s9⟩
  · exact ⟨p10, s10⟩
  · exact ⟨p11, s11⟩
  · exact ⟨p12, s12⟩
  · exact ⟨p13, s13⟩
  · exact ⟨p14, s14⟩
  · exact ⟨p15, s15⟩
  · exact ⟨p16, s16⟩
  · exact ⟨p17, s17⟩
  · exact ⟨p18, s18⟩
set_option maxRecDepth 100000 in
theorem io_ps (w : World) : ∀ a ∈ ioNames, plainAt (hd.heap_39 w.params) 618 a = true ∧ storeAt (hd.heap_39 w.params) 618 a = true := by
  have kf : (fun _ : Program => (hd.heap_39 w.params).lookup 0) PySem.Challenge.rw_oy0388_01.prog = (hd.heap_39 w.params).lookup 0 := by
    k_fill
    rfl
  clear kf
  have p0 : plainAt (hd.heap_39 w.params) 618 "_StringIO__newline" = true := plain_of (by k_is) (by k_is) (by k_is)
  have s0 : storeAt (hd.heap_39 w.params) 618 "_StringIO__newline" = true := store_of (by k_is) (by k_is) (by k_is) (by k_is)
  have p1 : plainAt (hd.heap_39 w.params) 618 "_StringIO__buf" = true := plain_of (by k_is) (by k_is) (by k_is)
  have s1 : storeAt (hd.heap_39 w.params) 618 "_StringIO__buf" = true := store_of (by k_is) (by k_is) (by k_is) (by k_is)
  have p2 : plainAt (hd.heap_39 w.params) 618 "_StringIO__pos" = true := plain_of (by k_is) (by k_is) (by k_is)
  have s2 : storeAt (hd.heap_39 w.params) 618 "_StringIO__pos" = true := store_of (by k_is) (by k_is) (by k_is) (by k_is)
  intro a ha
  simp only [ioNames, List.mem_cons, List.not_mem_nil, or_false] at ha
  rcases ha with rfl | rfl | rfl
  · exact ⟨p0, s0⟩
  · exact ⟨p1, s1⟩
  · exact ⟨p2, s2⟩
set_option maxRecDepth 100000 in
theorem m_get_token (w : World) : methAt (hd.heap_39 w.params) 753 "get_token" 714 = true := by
  have kf : (fun _ : Program => (hd.heap_39 w.params).lookup 0) PySem.Challenge.rw_oy0388_01.prog = (hd.heap_39 w.params).lookup 0 := by
    k_fill
    rfl
  clear kf
  exact meth_of (by k_is) (by k_is) (by k_is)
set_option maxRecDepth 100000 in
theorem m_read_token (w : World) : methAt (hd.heap_39 w.params) 753 "read_token" 721 = true := by
  have kf : (fun _ : Program => (hd.heap_39 w.params).lookup 0) PySem.Challenge.rw_oy0388_01.prog = (hd.heap_39 w.params).lookup 0 := by
    k_fill
    rfl
  clear kf
  exact meth_of (by k_is) (by k_is) (by k_is)
set_option maxRecDepth 100000 in
theorem m_read (w : World) : methAt (hd.heap_39 w.params) 618 "read" 564 = true := by
  have kf : (fun _ : Program => (hd.heap_39 w.params).lookup 0) PySem.Challenge.rw_oy0388_01.prog = (hd.heap_39 w.params).lookup 0 := by
    k_fill
    rfl
  clear kf
  exact meth_of (by k_is) (by k_is) (by k_is)
set_option maxRecDepth 100000 in
theorem m_StringIO__check (w : World) : methAt (hd.heap_39 w.params) 618 "_StringIO__check" 402 = true := by
  have kf : (fun _ : Program => (hd.heap_39 w.params).lookup 0) PySem.Challenge.rw_oy0388_01.prog = (hd.heap_39 w.params).lookup 0 := by
    k_fill
    rfl
  clear kf
  exact meth_of (by k_is) (by k_is) (by k_is)
set_option maxRecDepth 100000 in
theorem m_StringIO__translated (w : World) : methAt (hd.heap_39 w.params) 618 "_StringIO__translated" 395 = true := by
  have kf : (fun _ : Program => (hd.heap_39 w.params).lookup 0) PySem.Challenge.rw_oy0388_01.prog = (hd.heap_39 w.params).lookup 0 := by
    k_fill
    rfl
  clear kf
  exact meth_of (by k_is) (by k_is) (by k_is)
end Mine

namespace Mine
section
variable {prog : Program} {w : World} {A : Around} {K : Frag} {base : Heap} {env : Env} {ρ : Rho} {J : Shared → Prop} {R : Shared → Shared → Prop} {pos np p2 p3 : Pos} {l e : Expr} {d : PyData}
theorem nmJ_global (W : Wd K base) (hJ : ∀ s, J s → KeepF [] base s.heap) (hk : env.scope.kind = .function) (hg : env.globals = mainGlobals) {x : Str} {v : Value} (hx : env.kindOf x = some .globalImplicit) (e : nsIn K mainGlobals x = some (some v)) (hd : (x == ("__debug__" : Str)) = false) :
    NmP prog w A env J x v := by
  intro pos s Q E hs hQ
  obtain ⟨p, loose, mg, mb, T⟩ := W.T
  exact Calls.Name_function_global hk hx (Calls.loadGlobal_global (by rw [hg]; exact (hJ s hs).ns T.g) (mg_of W.X T.g e) hQ) hd
theorem nmJ_builtin (W : Wd K base) (hJ : ∀ s, J s → KeepF [] base s.heap) (hk : env.scope.kind = .function) (hg : env.globals = mainGlobals) (hb : env.builtins = builtinsNs) {x : Str} {v : Value} (hx : env.kindOf x = some .globalImplicit) (e : nsIn K mainGlobals x = some none)
    (hv : bootBuiltins x = some v) (hn : x ≠ "__name__") (hd : (x == ("__debug__" : Str)) = false) : NmP prog w A env J x v := by
  intro pos s Q E hs hQ
  obtain ⟨p, loose, mg, mb, T⟩ := W.T
  exact Calls.Name_function_global hk hx (Calls.loadGlobal_builtin (by rw [hg]; exact (hJ s hs).ns T.g) (mg_none_of W.X T.g e) (by rw [hb]; exact (hJ s hs).ns T.b) ((T.builtins x hn).trans hv) hQ) hd
theorem tv_type_isnot (md : Md env ρ J R) {x y : Str} {T : String} (hT : ∀ v (s : Shared), Dt s.heap v d → s.TypeIs v T) (hnb : (Value.type T == Value.type "builtin_function_or_method") = false) (h : EvP prog w A env J R e d)
    (n1 : NmP prog w A env J x (.type "type")) (n2 : NmP prog w A env J y (.type T)) (ht : backTo pos (starEach [e] env) = [(false, eval e env)]) :
    EvT prog w A env J R (.Compare (.Call (.Name x np) [e] [] pos) [.IsNot] [.Name y p2] p3) false := by
  intro s E hJ
  refine wpAny_isTrue_Compare1 (Call_Name ht (n1 _ s _ E hJ ?_)) rfl
  refine PySem.callWith_type rfl (Calls.evalArgs_plain (Calls.spliced_cons (wpAny_mono (h s E hJ) (fun v s₁ h₁ => Calls.spliced_nil ?_) fun _ _ e => e)))
  have J₁ := md.inv _ _ hJ h₁.2
  refine call_type_of (hT _ _ h₁.1) hnb ?_
  exact n2 _ s₁ _ E J₁ (isnot_type_same (wpAny_truthy_bool ⟨rfl, h₁.2⟩))
theorem tv_notNone (md : Md env ρ J R) {b : Bool} (hb : ∀ v (s : Shared), Dt s.heap v d → plainIs v .none = true ∧ (!(v == .none)) = b) (h : EvP prog w A env J R e d) {kk : Nat} : EvT prog w A env J R (.Compare e [.IsNot] [.Constant .none kk p2] pos) b := by
  intro s E hJ
  refine wpAny_isTrue_Compare1 (wpAny_mono (h s E hJ) (fun v s₁ h₁ => ?_) fun _ _ e => e) rfl
  rw [eval_Constant]
  obtain ⟨hp, he⟩ := hb _ _ h₁.1
  refine wpAny_pure ?_
  refine wpAny_isNot_plain hp ?_
  rw [he]
  exact wpAny_truthy_bool ⟨rfl, h₁.2⟩
theorem ev_int_int (md : Md env ρ J R) {x : Str} {i : Int} (h : EvP prog w A env J R e (.int i)) (n1 : NmP prog w A env J x (.type "int")) (ht : backTo pos (starEach [e] env) = [(false, eval e env)]) : EvP prog w A env J R (.Call (.Name x np) [e] [] pos) (.int i) := by
  intro s E hJ
  refine Call_Name ht (n1 _ s _ E hJ ?_)
  refine PySem.callWith_type rfl (Calls.evalArgs_plain (Calls.spliced_cons (wpAny_mono (h s E hJ) (fun v s₁ h₁ => Calls.spliced_nil ?_) fun _ _ e => e)))
  obtain ⟨hv, hR⟩ := h₁
  cases hv
  exact call_int_int ⟨.int _ _, hR⟩
end
theorem bb_type : bootBuiltins "type" = some (.type "type") := by decide +kernel
theorem bb_int : bootBuiltins "int" = some (.type "int") := by decide +kernel
theorem bb_str : bootBuiltins "str" = some (.type "str") := by decide +kernel
theorem ty_int {i : Int} : ∀ v (s : Shared), Dt s.heap v (.int i) → s.TypeIs v "int" := fun v s h => by cases h; rfl
theorem ty_str {x : Str} : ∀ v (s : Shared), Dt s.heap v (.str x) → s.TypeIs v "str" := fun v s h => by cases h; rfl
theorem nn_int {i : Int} : ∀ v (s : Shared), Dt s.heap v (.int i) → plainIs v .none = true ∧ (!(v == .none)) = true := fun v s h => by cases h; exact ⟨rfl, rfl⟩
theorem nn_str {x : Str} : ∀ v (s : Shared), Dt s.heap v (.str x) → plainIs v .none = true ∧ (!(v == .none)) = true := fun v s h => by cases h; exact ⟨rfl, rfl⟩
theorem nn_none : ∀ v (s : Shared), Dt s.heap v .none → plainIs v .none = true ∧ (!(v == .none)) = false := fun v s h => by cases h; exact ⟨rfl, rfl⟩
noncomputable def flatD : PyData → Bool
  | .none | .bool _ | .int _ | .str _ => true
  | _ => false
theorem fv_of {h : Heap} {v : Value} {d : PyData} (x : Dt h v d) (hf : flatD d = true) : FV v d := by
  cases x with
  | none => exact .none
  | bool b => exact .bool
  | int i t => exact .int
  | str x t => exact .str
  | list _ _ => cases hf
  | tup _ _ => cases hf
noncomputable def AttrsOf (σ : Str → Option Value) (α : Rho) : Prop := ∀ a d, α.lookup a = some d → ∃ v, σ a = some v ∧ FV v d
noncomputable def RefsOf (σ : Str → Option Value) (β : List (Str × Addr)) : Prop := ∀ a r, β.lookup a = some r → σ a = some (.ref r)
theorem AttrsOf.weaken {σ : Str → Option Value} {α α' : Rho} (x : AttrsOf σ α) (h : Sub α' α) : AttrsOf σ α' := fun a d e => x a d (h a d e)
theorem AttrsOf.upd {σ : Str → Option Value} {α : Rho} {a : Str} {v : Value} {d : PyData} (x : AttrsOf σ α) (hv : FV v d) : AttrsOf (fun z => if z = a then some v else σ z) ((a, d) :: α) := fun b e hb => by
  by_cases q : b = a
  · subst q; rw [List.lookup_cons_self] at hb; cases hb; exact ⟨v, if_pos rfl, hv⟩
  · rw [lookup_cons_ne q] at hb
    obtain ⟨u, h1, h2⟩ := x b e hb
    exact ⟨u, (if_neg q).trans h1, h2⟩
theorem AttrsOf.updN {σ : Str → Option Value} {α : Rho} {a : Str} {v : Value} (x : AttrsOf σ α) (h : α.lookup a = none) : AttrsOf (fun z => if z = a then some v else σ z) α := fun b e hb => by
  have q : b ≠ a := fun q => by rw [q, h] at hb; cases hb
  obtain ⟨u, h1, h2⟩ := x b e hb
  exact ⟨u, (if_neg q).trans h1, h2⟩
theorem RefsOf.updN {σ : Str → Option Value} {β : List (Str × Addr)} {a : Str} {v : Value} (x : RefsOf σ β) (h : β.lookup a = none) : RefsOf (fun z => if z = a then some v else σ z) β := fun b r hb => by
  have q : b ≠ a := fun q => by rw [q, h] at hb; cases hb
  exact (if_neg q).trans (x b r hb)
theorem RefsOf.upd {σ : Str → Option Value} {β : List (Str × Addr)} {a : Str} {r : Addr} (x : RefsOf σ β) : RefsOf (fun z => if z = a then some (.ref r) else σ z) ((a, r) :: β) := fun b e hb => by
  rw [List.lookup_cons] at hb
  split at hb
  · rename_i q
    have q : b = a := by simpa using q
    cases hb; exact if_pos q
  · rename_i q
    have q : b ≠ a := by simpa using q
    exact (if_neg q).trans (x b e hb)
theorem NamesOf.upd {env : Env} {m : Str → Option Value} {ρ : Rho} {y : Str} {v : Value} {d : PyData} (x : NamesOf env m ρ) (hk : env.kindOf y = some .local) (hv : FV v d) : NamesOf env (fun z => if z = y then some v else m z) ((y, d) :: ρ) := fun b e hb => by
  by_cases q : b = y
  · subst q; rw [List.lookup_cons_self] at hb; cases hb; exact ⟨hk, v, if_pos rfl, hv⟩
  · rw [lookup_cons_ne q] at hb
    obtain ⟨h0, u, h1, h2⟩ := x b e hb
    exact ⟨h0, u, (if_neg q).trans h1, h2⟩
noncomputable def OwnA (h : Heap) (x dx C : Addr) (names : List Str) (α : Rho) (β : List (Str × Addr)) : Prop := ∃ σ, Own h x dx C names σ ∧ AttrsOf σ α ∧ RefsOf σ β
theorem OwnA.weaken {h : Heap} {x dx C : Addr} {names : List Str} {α α' : Rho} {β : List (Str × Addr)} (O : OwnA h x dx C names α β) (hs : Sub α' α) : OwnA h x dx C names α' β := by
  obtain ⟨σ, a, b, c⟩ := O
  exact ⟨σ, a, b.weaken hs, c⟩
theorem OwnA.km {ws : List Addr} {s s' : Shared} {x dx C : Addr} {names : List Str} {α : Rho} {β : List (Str × Addr)} (O : OwnA s.heap x dx C names α β) (k : Km ws s s') (h1 : x ∉ ws) (h2 : dx ∉ ws) : OwnA s'.heap x dx C names α β := by
  obtain ⟨σ, a, b, c⟩ := O
  exact ⟨σ, k.own a h1 h2, b, c⟩
theorem OwnA.keeps {s s' : Shared} {x dx C : Addr} {names : List Str} {α : Rho} {β : List (Str × Addr)} (O : OwnA s.heap x dx C names α β) (k : Keeps s s') : OwnA s'.heap x dx C names α β := O.km (ws := []) (.of_keeps k) (by simp) (by simp)
noncomputable def PX (base : Heap) (env : Env) (ρ : Rho) (s : Shared) : Prop := ∃ m, KeepF [] base s.heap ∧ s.heap.Ns env.locals m ∧ NamesOf env m ρ
theorem PX.keeps {base : Heap} {env : Env} {ρ : Rho} {s s' : Shared} (J : PX base env ρ s) (k : Keeps s s') : PX base env ρ s' := by
  obtain ⟨m, a, b, c⟩ := J
  obtain ⟨h, t, rfl, kk⟩ := k
  exact ⟨m, a.trans (.of_keeps kk), b.keeps kk, c⟩
theorem PX.st {base : Heap} {env : Env} {ρ : Rho} {s : Shared} (J : PX base env ρ s) : KeepF [] base s.heap := by obtain ⟨m, a, _⟩ := J; exact a
theorem pxMd {base : Heap} {env : Env} {ρ : Rho} (hk : env.scope.kind = .function) : Md env ρ (PX base env ρ) Keeps where
  kind := hk
  names := fun s ⟨m, _, hn, hρ⟩ => ⟨m, hn, fun y d hy => let ⟨a, v, b, c⟩ := hρ y d hy; .inl ⟨a, v, b, c.2 _⟩⟩
  keeps := fun _ _ _ k => k
  trans := fun _ _ _ => keeps_trans
  inv := fun _ _ J k => J.keeps k
  seq := fun _ _ => keeps_seq
theorem PX.md {base : Heap} {env : Env} {ρ : Rho} {s : Shared} (_ : PX base env ρ s) (hk : env.scope.kind = .function) : Md env ρ (PX base env ρ) Keeps := pxMd hk
theorem px_assign {prog : Program} {w : World} {A : Around} {base : Heap} {env : Env} {ρ : Rho} {e : Expr} {d : PyData} {pos np : Pos} {s : Shared} {E : Value → Shared → Prop} {y : Str} {Q : Flow → Shared → Prop} (hk : env.scope.kind = .function) (hb : base.get? env.locals = none) (J : PX base env ρ s)
    (he : EvP prog w A env (PX base env ρ) Keeps e d) (hf : flatD d = true) (hy : env.kindOf y = some .local) (hs : swapsWith e (some (.Name y np)) pos.line env = pure false)
    (h : ∀ s', PX base env ((y, d) :: ρ) s' → Km [env.locals] s s' → Q .next s') : wpAny (model prog w) A (exec (.Assign [.Name y np] e pos) env) Q E s := by
  refine wpAny_Assign_Name (wpAny_mono (he s E J) (fun v s₁ h₁ => ?_) fun _ _ e => e) hs
  obtain ⟨m, hst, hn, hρ⟩ := J.keeps h₁.2
  have hv := fv_of h₁.1 hf
  refine wpAny_storeName_local hy hn (fun h' hn' hs => ?_) (by rw [hk]; rfl)
  have kd : ∀ b o, s₁.heap.get? b = some o → b ≠ env.locals → h'.get? b = some o := fun b o e q => (hs.2 b q).trans e
  exact h _ ⟨_, hst.but (fun b o e q => kd b o e q) hb, hn', hρ.upd hy hv⟩ ((Km.of_keeps h₁.2).trans ⟨h', _, rfl, fun b o q e => kd b o e (fun z => q (by rw [z]; exact .head _))⟩)
theorem px_if {prog : Program} {w : World} {A : Around} {base : Heap} {env : Env} {ρ : Rho} {e : Expr} {pos : Pos} {s : Shared} {E : Value → Shared → Prop} {b : Bool} {x1 x2 : List Stmt} {Q : Flow → Shared → Prop} (J : PX base env ρ s) (he : EvT prog w A env (PX base env ρ) Keeps e b)
    (h : ∀ s', PX base env ρ s' → Keeps s s' → wpAny (model prog w) A (execs (if b then x1 else x2) env) Q E s') : wpAny (model prog w) A (exec (.If e x1 x2 pos) env) Q E s := by
  refine wpAny_If (wpAny_mono (he s E J) (fun v s₁ h₁ => ?_) fun _ _ e => e)
  obtain ⟨rfl, h₁⟩ := h₁
  have := h s₁ (J.keeps h₁) h₁
  cases v <;> exact this
theorem px_start {M : Model} {A : Around} {E : Value → Shared → Prop} {base : Heap} {env : Env} {s : Shared} {h₁ : Heap} {tk : Nat} {binds : List (Str × Value)} {Q : Flow → Shared → Prop} {body : List Stmt} (ρ : Rho) (hst : KeepF [] base s.heap) (kk : ∀ b o, s.heap.get? b = some o → h₁.get? b = some o) (hn : h₁.Ns env.locals (bindL env.kindOf binds fun _ => none))
    (hN : NamesOf env (bindL env.kindOf binds fun _ => none) ρ) (k : PX base env ρ { s with heap := h₁, toks := tk } → wpAny M A (execs body env) Q E { s with heap := h₁, toks := tk }) : wpAny M A (execs body env) Q E { s with heap := h₁, toks := tk } :=
  k ⟨_, hst.trans (.of_keeps kk), hn, hN⟩
theorem Km.toKeeps {s s' : Shared} (k : Km [] s s') : Keeps s s' := by obtain ⟨h, t, rfl, kk⟩ := k; exact ⟨h, t, rfl, fun b o e => kk b o (by simp) e⟩
theorem base_none {base : Heap} {s : Shared} (st : KeepF [] base s.heap) {b : Addr} (h : s.heap.get? b = none) : base.get? b = none := by
  cases e : base.get? b with
  | none => rfl
  | some o => obtain ⟨o', q⟩ := st.is ⟨o, e⟩; rw [h] at q; cases q
noncomputable def MX (base : Heap) (env : Env) (x dx C : Addr) (names : List Str) (α : Rho) (β : List (Str × Addr)) (ρ : Rho) (s : Shared) : Prop :=
  ∃ m σ, MJ base env m x dx C names σ s ∧ m "self" = some (.ref x) ∧ NamesOf env m ρ ∧ AttrsOf σ α ∧ RefsOf σ β
structure MC (prog : Program) (K : Frag) (base : Heap) (env : Env) (dx C : Addr) (names : List Str) : Prop where
  W : Wd K base
  hk : env.scope.kind = .function
  self : env.kindOf "self" = some .local
  ps : ∀ a ∈ names, plainAt K C a = true ∧ storeAt K C a = true
  len : names.length ≤ 1000
  bL : base.get? env.locals = none
  bx : base.get? dx = none
  ne : dx ≠ env.locals
theorem MX.st {base : Heap} {env : Env} {x dx C : Addr} {names : List Str} {α : Rho} {β : List (Str × Addr)} {ρ : Rho} {s : Shared} (J : MX base env x dx C names α β ρ s) : KeepF [] base s.heap := by obtain ⟨m, σ, j, _⟩ := J; exact j.st
theorem MX.own {base : Heap} {env : Env} {x dx C : Addr} {names : List Str} {α : Rho} {β : List (Str × Addr)} {ρ : Rho} {s : Shared} (J : MX base env x dx C names α β ρ s) : OwnA s.heap x dx C names α β := by obtain ⟨m, σ, j, _, _, a, b⟩ := J; exact ⟨σ, j.own, a, b⟩
theorem MX.keeps {base : Heap} {env : Env} {x dx C : Addr} {names : List Str} {α : Rho} {β : List (Str × Addr)} {ρ : Rho} {s s' : Shared} (J : MX base env x dx C names α β ρ s) (k : Keeps s s') : MX base env x dx C names α β ρ s' := by
  obtain ⟨m, σ, j, r⟩ := J; exact ⟨m, σ, j.keeps k, r⟩
theorem MX.weaken {base : Heap} {env : Env} {x dx C : Addr} {names : List Str} {α α' : Rho} {β : List (Str × Addr)} {ρ ρ' : Rho} {s : Shared} (J : MX base env x dx C names α β ρ s) (h1 : Sub α' α) (h2 : Sub ρ' ρ) : MX base env x dx C names α' β ρ' s := by
  obtain ⟨m, σ, j, a, b, c, d⟩ := J; exact ⟨m, σ, j, a, fun y e h => b y e (h2 y e h), c.weaken h1, d⟩
theorem mx_start {prog : Program} {K : Frag} {M : Model} {A : Around} {E : Value → Shared → Prop} {base : Heap} {env : Env} {s : Shared} {h₁ : Heap} {tk : Nat} {binds : List (Str × Value)} {Q : Flow → Shared → Prop} {body : List Stmt} {x dx C : Addr} {names : List Str} {α : Rho} {β : List (Str × Addr)} (ρ : Rho) (hst : KeepF [] base s.heap) (kk : ∀ b o, s.heap.get? b = some o → h₁.get? b = some o) (hn : h₁.Ns env.locals (bindL env.kindOf binds fun _ => none))
    (O : OwnA s.heap x dx C names α β) (hs : bindL env.kindOf binds (fun _ => none) "self" = some (.ref x)) (hN : NamesOf env (bindL env.kindOf binds fun _ => none) ρ) (c : MC prog K base env dx C names)
    (k : MC prog K base env dx C names → MX base env x dx C names α β ρ { s with heap := h₁, toks := tk } → wpAny M A (execs body env) Q E { s with heap := h₁, toks := tk }) : wpAny M A (execs body env) Q E { s with heap := h₁, toks := tk } := by
  obtain ⟨σ, O, a, b⟩ := O.keeps (s' := { s with heap := h₁, toks := tk }) ⟨h₁, tk, rfl, kk⟩
  exact k c ⟨_, σ, ⟨hst.trans (.of_keeps kk), hn, O⟩, hs, hN, a, b⟩
theorem mxMd {base : Heap} {env : Env} {x dx C : Addr} {names : List Str} {α : Rho} {β : List (Str × Addr)} {ρ : Rho} (hk : env.scope.kind = .function) : Md env ρ (MX base env x dx C names α β ρ) Keeps where
  kind := hk
  names := fun s ⟨m, σ, j, _, hn, _⟩ => (mjMd (ρ := ρ) hk hn).names s j
  keeps := fun _ _ _ k => k
  trans := fun _ _ _ => keeps_trans
  inv := fun _ _ J k => J.keeps k
  seq := fun _ _ => keeps_seq
theorem mx_then {M : Model} {A : Around} {E : Value → Shared → Prop} {base : Heap} {env : Env} {s : Shared} {body : List Stmt} {Q : Flow → Shared → Prop} (ws : List Addr) (s₀ : Shared) (x dx C : Addr) (names : List Str) (α : Rho) (β : List (Str × Addr)) (ρ : Rho)
    (h : wpAny M A (execs body env) (fun f s' => f = .next ∧ MX base env x dx C names α β ρ s' ∧ Km ws s₀ s') E s) (k : ∀ s', MX base env x dx C names α β ρ s' → Km ws s₀ s' → Q .next s') : wpAny M A (execs body env) Q E s :=
  wpAny_mono h (fun f s' ⟨a, b, c⟩ => by subst a; exact k s' b c) fun _ _ e => e
theorem MX.md {base : Heap} {env : Env} {x dx C : Addr} {names : List Str} {α : Rho} {β : List (Str × Addr)} {ρ : Rho} {s : Shared} (_ : MX base env x dx C names α β ρ s) (hk : env.scope.kind = .function) : Md env ρ (MX base env x dx C names α β ρ) Keeps := mxMd hk
section
variable {prog : Program} {w : World} {K : Frag} {A : Around} {base : Heap} {env : Env} {x dx C : Addr} {names : List Str} {α : Rho} {β : List (Str × Addr)} {ρ : Rho} {e : Expr} {d : PyData} {pos np p2 p3 : Pos} {s : Shared} {E : Value → Shared → Prop}
theorem ev_at (c : MC prog K base env dx C names) {a : Str} (ha : a ∈ names) (hv : α.lookup a = some d) : EvP prog w A env (MX base env x dx C names α β ρ) Keeps (.Attribute (.Name "self" np) a pos) d := fun s E J => by
  obtain ⟨m, σ, j, hs, hn, hα, hβ⟩ := J
  obtain ⟨v, h1, h2⟩ := hα a d hv
  exact ev_self c.hk c.W hs c.self rfl (c.ps a ha).1 h1 h2 s E j
theorem at_ref (c : MC prog K base env dx C names) {a : Str} {r : Addr} (ha : a ∈ names) (hv : β.lookup a = some r) {Q : Value → Shared → Prop} (J : MX base env x dx C names α β ρ s) (h : ∀ s', Keeps s s' → MX base env x dx C names α β ρ s' → Q (.ref r) s') :
    wpAny (model prog w) A (eval (.Attribute (.Name "self" np) a pos) env) Q E s := by
  obtain ⟨m, σ, j, hs, r'⟩ := id J
  exact Attribute_name (wpAny_Name (wpAny_loadName_local c.hk c.self j.ns hs (at_get (c.W.in j.st) j.own (c.ps a ha).1 (r'.2.2 a r hv) rfl (h _ (keeps_tok s _) (J.keeps (keeps_tok s _))))) rfl)
theorem self_name (c : MC prog K base env dx C names) {Q : Value → Shared → Prop} (J : MX base env x dx C names α β ρ s) (h : Q (.ref x) s) : wpAny (model prog w) A (eval (.Name "self" np) env) Q E s := by
  obtain ⟨m, σ, j, hs, _⟩ := id J
  exact wpAny_Name (wpAny_loadName_local c.hk c.self j.ns hs h) rfl
theorem self_meth (c : MC prog K base env dx C names) {a : Str} {f : Addr} {pl : Sem Bool} {Q : Value × List Value → Shared → Prop} (J : MX base env x dx C names α β ρ s) (hp : methAt K C a f = true) (ha : a ∉ names) (h : Q (.ref f, [.ref x]) s) :
    wpAny (model prog w) A (getMethod (.ref x) a pl) Q E s := by
  obtain ⟨m, σ, j, _⟩ := id J
  refine meth_self (c.W.in j.st) j.own hp ?_ h
  cases e : σ a with
  | none => rfl
  | some v => exact absurd (j.own.sup a (by rw [e]; simp)) ha
theorem ms_assign (c : MC prog K base env dx C names) {y : Str} {Q : Flow → Shared → Prop} (J : MX base env x dx C names α β ρ s) (he : EvP prog w A env (MX base env x dx C names α β ρ) Keeps e d) (hf : flatD d = true) (hy : env.kindOf y = some .local) (hne : ("self" : Str) ≠ y)
    (hs : swapsWith e (some (.Name y np)) pos.line env = pure false) (h : ∀ s', MX base env x dx C names α β ((y, d) :: ρ) s' → Km [env.locals] s s' → Q .next s') : wpAny (model prog w) A (exec (.Assign [.Name y np] e pos) env) Q E s := by
  refine wpAny_Assign_Name (wpAny_mono (he s E J) (fun v s₁ h₁ => ?_) fun _ _ e => e) hs
  obtain ⟨m, σ, j, hself, hn, hα, hβ⟩ := J.keeps h₁.2
  have hv := fv_of h₁.1 hf
  refine mj_local j rfl c.hk hy c.bL c.ne fun s' j' k' => h s' ⟨_, σ, j', (if_neg hne).trans hself, hn.upd hy hv, hα, hβ⟩ ((Km.of_keeps h₁.2).trans k')
theorem ms_setattr (c : MC prog K base env dx C names) {a : Str} {Q : Flow → Shared → Prop} (J : MX base env x dx C names α β ρ s) (he : EvP prog w A env (MX base env x dx C names α β ρ) Keeps e d) (hf : flatD d = true) (ha : a ∈ names) (hb : β.lookup a = none)
    (hs : swapsWith e (some (.Attribute (.Name "self" np) a p2)) pos.line env = pure false) (h : ∀ s', MX base env x dx C names ((a, d) :: α) β ρ s' → Km [dx] s s' → Q .next s') : wpAny (model prog w) A (exec (.Assign [.Attribute (.Name "self" np) a p2] e pos) env) Q E s := by
  refine plainObj_wpAny_Assign_Attribute (wpAny_mono (he s E J) (fun v s₁ h₁ => ?_) fun _ _ e => e) hs
  have J₁ := J.keeps h₁.2
  refine self_name c J₁ ?_
  obtain ⟨m, σ, j, hself, hn, hα, hβ⟩ := J₁
  have hv := fv_of h₁.1 hf
  exact mj_attr c.W j (c.ps a ha).2 ha c.len c.bx c.ne fun s' j' k' => h s' ⟨m, _, j', hself, hn, hα.upd hv, hβ.updN hb⟩ ((Km.of_keeps h₁.2).trans k')
theorem ms_setref (c : MC prog K base env dx C names) {a : Str} {r : Addr} {Q : Unit → Shared → Prop} (J : MX base env x dx C names α β ρ s) (ha : a ∈ names) (hα : α.lookup a = none)
    (h : ∀ s', MX base env x dx C names α ((a, r) :: β) ρ s' → Km [dx] s s' → Q () s') : wpAny (model prog w) A (setAttr (.ref x) a (.ref r)) Q E s := by
  obtain ⟨m, σ, j, hself, hn, hα', hβ⟩ := J
  exact mj_attr c.W j (c.ps a ha).2 ha c.len c.bx c.ne fun s' j' k' => h s' ⟨m, _, j', hself, hn, hα'.updN hα, hβ.upd⟩ k'
theorem ms_if (c : MC prog K base env dx C names) {b : Bool} {x1 x2 : List Stmt} {Q : Flow → Shared → Prop} (J : MX base env x dx C names α β ρ s) (he : EvT prog w A env (MX base env x dx C names α β ρ) Keeps e b)
    (h : ∀ s', MX base env x dx C names α β ρ s' → Keeps s s' → wpAny (model prog w) A (execs (if b then x1 else x2) env) Q E s') : wpAny (model prog w) A (exec (.If e x1 x2 pos) env) Q E s := by
  refine wpAny_If (wpAny_mono (he s E J) (fun v s₁ h₁ => ?_) fun _ _ e => e)
  obtain ⟨rfl, h₁⟩ := h₁
  have := h s₁ (J.keeps h₁) h₁
  cases v <;> exact this
end
end Mine

namespace Mine
theorem cmp_gt_no {a b : Int} (h : ¬ b < a) : cmpD .Gt (.int a) (.int b) = some false := by simp only [cmpD, eqD, neD, ltD, gtD, leD, geD, inD, isD]; rw [decide_eq_false h]
theorem cmp_lt_no {a b : Int} (h : ¬ a < b) : cmpD .Lt (.int a) (.int b) = some false := by simp only [cmpD, eqD, neD, ltD, gtD, leD, geD, inD, isD]; rw [decide_eq_false h]
theorem none_size (h : Heap) : h.get? h.objs.size = none := Heap.get?_none_of_le (Nat.le_refl _)
set_option maxRecDepth 100000 in
theorem fn_index (w : World) (i : Int) (z : Str) (hi : -1000 ≤ i ∧ i ≤ 1000) : FnK PySem.Challenge.rw_oy0388_01.prog w (hd.heap_39 w.params) 84 1 [.int i, .str z] (.int i) := by
  k_fill
  intro base A s E vs W a hst hvs
  rcases hvs with _ | ⟨q1, _ | ⟨q2, _ | _⟩⟩
  have f1 := fv_of q1 rfl
  have f2 := fv_of q2 rfl
  rename_i v1 v2
  refine' call_def (f := 84) (args := ⟨[v1, v2], []⟩) (binds := [("n", v1), ("what", v2)]) ?ho ?hcd ?hbind ?hkind ?hco ?hgen ?hk W ?hd hst ?h
  case ho => k_is
  case hcd => k_is
  case hbind => exact BindsTo.of_eq rfl
  case hkind => rfl
  case hco => rfl
  case hgen => rfl
  case hk => rfl
  case hd => have := a.depth; omega
  intro h₁ tk kk hn
  have hnone := none_size s.heap
  generalize hL : s.heap.objs.size = L at *
  have hbn := base_none hst hnone
  refine px_start [("n", PyData.int i), ("what", .str z)] hst kk hn (.cons rfl rfl f1 (.cons rfl rfl f2 .nil)) (fun J => ?_)
  have K0 : Km [L] s { s with heap := h₁, toks := tk } := .of_keeps ⟨h₁, tk, rfl, kk⟩
  have hu : ∀ env, (A.deeper env).units + 64 < cLine := fun env => by have := a.units; rw [units_deeper]; omega
  refine wpAny_execs_cons (px_if J (b := false) (tv_and_stop (tv_type_isnot (d := .int i) (pxMd rfl) ty_int (by decide +kernel) (ev_name (pxMd rfl) rfl rfl) (nmJ_builtin W (fun _ h => h.st) rfl rfl rfl rfl (by k_is) bb_type (by decide) rfl) (nmJ_builtin W (fun _ h => h.st) rfl rfl rfl rfl (by k_is) bb_int (by decide) rfl) rfl)) (fun s2 J2 k2 => ?_))
  refine wpAny_execs_nil ?_
  show wpAny _ _ (execs (_ :: _) _) _ _ _
  refine wpAny_execs_cons (px_assign rfl hbn J2 (ev_int_int (pxMd rfl) (ev_name (pxMd rfl) rfl rfl) (nmJ_builtin W (fun _ h => h.st) rfl rfl rfl rfl (by k_is) bb_int (by decide) rfl) rfl) rfl rfl rfl (fun s3 J3 k3 => ?_))
  show wpAny _ _ (execs (_ :: _) _) _ _ _
  refine wpAny_execs_cons (px_if J3 (b := false) ?_ (fun s4 J4 k4 => ?_))
  · have md := J3.md rfl
    exact tv_or_go md (tv_cmp md (hu _) (ev_name md rfl rfl) (ev_int md) (cmp_gt_no (by omega)) rfl) (tv_or_go md (tv_cmp md (hu _) (ev_name md rfl rfl) (ev_neg md (ev_int md)) (cmp_lt_no (by omega)) rfl) (tv_or_nil md))
  refine wpAny_execs_nil ?_
  show wpAny _ _ (execs (_ :: _) _) _ _ _
  refine wpAny_execs_cons (wpAny_Return_some (ev_use (d := .int i) J4 (ev_name (pxMd rfl) rfl rfl) (fun v s5 hv k5 => ?_)))
  refine ⟨hv, ?_⟩
  have := (((K0.trans (.of_keeps k2)).trans k3).trans (.of_keeps k4)).trans (.of_keeps k5)
  exact (this.drop hnone).toKeeps
noncomputable abbrev IO (h : Heap) (Y DY : Addr) (buf : Str) (p : Nat) : Prop := OwnA h Y DY 618 ioNames [("_StringIO__buf", .str buf), ("_StringIO__pos", .int p)] []
noncomputable def signAt (x : Str) (p : Nat) : Str := match x.cps[p]? with | some c => ⟨#[c]⟩ | none => Str.empty
theorem io_mc {w : World} {base : Heap} (W : Wd (hd.heap_39 w.params) base) {env : Env} {DY : Addr} (hk : env.scope.kind = .function) (hs : env.kindOf "self" = some .local) (bL : base.get? env.locals = none) (bx : base.get? DY = none) (ne : DY ≠ env.locals) :
    MC PySem.Challenge.rw_oy0388_01.prog (hd.heap_39 w.params) base env DY 618 ioNames := ⟨W, hk, hs, io_ps w, by decide, bL, bx, ne⟩
theorem own_ne {h : Heap} {x dx C : Addr} {names : List Str} {α : Rho} {β : List (Str × Addr)} (O : OwnA h x dx C names α β) : dx < h.objs.size := by
  obtain ⟨σ, O, _⟩ := O
  exact O.ns.lt
set_option maxRecDepth 100000 in
theorem io_check (w : World) {base : Heap} {A : Around} {s : Shared} {E : Value → Shared → Prop} {Q : Value → Shared → Prop} {Y DY : Addr} {buf : Str} {p : Nat} (W : Wd (hd.heap_39 w.params) base) (a : AQ A 1) (hst : KeepF [] base s.heap) (bY : base.get? DY = none)
    (I : IO s.heap Y DY buf p) (hQ : ∀ s', Keeps s s' → Q .none s') : wpAny (model PySem.Challenge.rw_oy0388_01.prog w) A (call (.ref 402) [.ref Y]) Q E s := by
  k_fill
  refine' call_def (f := 402) (args := ⟨[.ref Y], []⟩) (binds := [("self", .ref Y)]) ?ho ?hcd ?hbind ?hkind ?hco ?hgen ?hk W ?hd hst ?h
  case ho => k_is
  case hcd => k_is
  case hbind => exact BindsTo.of_eq rfl
  case hkind => rfl
  case hco => rfl
  case hgen => rfl
  case hk => rfl
  case hd => have := a.depth; omega
  intro h₁ tk kk hn
  have hnone := none_size s.heap
  have hlt := own_ne I
  generalize hL : s.heap.objs.size = L at *
  have hbn := base_none hst hnone
  refine mx_start [] hst kk hn I rfl .nil (io_mc W rfl rfl hbn bY (Nat.ne_of_lt hlt)) (fun c J => ?_)
  have K0 : Km [L] s { s with heap := h₁, toks := tk } := .of_keeps ⟨h₁, tk, rfl, kk⟩
  have hu : ∀ env, (A.deeper env).units + 64 < cLine := fun env => by have := a.units; rw [units_deeper]; omega
  refine wpAny_execs_cons (ms_if c J (b := false) ?_ (fun s2 J2 k2 => ?_))
  · have md := J.md rfl
    exact tv_cmp md (hu _) (ev_at c (by decide) rfl) (ev_none md) rfl rfl
  refine wpAny_execs_nil ?_
  refine wpAny_execs_nil ?_
  exact hQ s2 ((K0.trans (.of_keeps k2)).drop hnone).toKeeps
theorem slice_one {x : Str} {p : Nat} (h : p < x.length) : Txt.slice x (some (p : Int)) (some ((p + 1 : Nat) : Int)) = signAt x p := by
  have e : Builtin.Str.strSliceIndices (some (p : Int)) (some ((p + 1 : Nat) : Int)) 1 x.length = [p] := by
    unfold Builtin.Str.strSliceIndices
    dsimp only
    have g1 : ¬ ((p : Int) < 0) := by omega
    have g2 : ¬ (((p + 1 : Nat) : Int) < 0) := by omega
    simp only [g1, g2, if_false, show ((1 : Int) > 0) = True from by simp, if_true]
    have e1 : max 0 (min (p : Int) (x.length : Int)) = p := by omega
    have e2 : max 0 (min ((p + 1 : Nat) : Int) (x.length : Int)) = ((p + 1 : Nat) : Int) := by omega
    rw [e1, e2]
    unfold sliceRange
    dsimp only
    rw [if_pos (by decide), if_pos (by omega)]
    have e3 : (((p + 1 : Nat) : Int) - p + 1 - 1) / 1 = 1 := by rw [Int.ediv_one]; omega
    rw [e3]
    simp [List.range, List.range.loop]
  unfold Txt.slice signAt
  rw [e]
  have hc : x.cps[p]? = some (x.cps[p]'h) := Array.getElem?_eq_getElem h
  simp only [List.length_cons, List.length_nil, hc, List.filterMap_cons, List.filterMap_nil]
  split
  · rename_i q
    have q : x.length = 1 := by have := of_decide_eq_true (by simpa using q : decide (1 = x.length) = true); omega
    have hp : p = 0 := by omega
    subst hp
    obtain ⟨⟨l⟩⟩ := x
    match l, q with
    | [a], _ => rfl
  · rfl
theorem tv_and_last {prog : Program} {w : World} {A : Around} {env : Env} {ρ : Rho} {J : Shared → Prop} {R : Shared → Shared → Prop} {l : Expr} {pos : Pos} (md : Md env ρ J R) {c : Bool} (hl : EvT prog w A env J R l c) : EvT prog w A env J R (.BoolOp .And [l] pos) c := by
  cases c with
  | true => exact tv_and_go md hl (tv_and_nil md)
  | false => exact tv_and_stop hl
theorem tv_or_last {prog : Program} {w : World} {A : Around} {env : Env} {ρ : Rho} {J : Shared → Prop} {R : Shared → Shared → Prop} {l : Expr} {pos : Pos} (md : Md env ρ J R) {c : Bool} (hl : EvT prog w A env J R l c) : EvT prog w A env J R (.BoolOp .Or [l] pos) c := by
  cases c with
  | true => exact tv_or_stop hl
  | false => exact tv_or_go md hl (tv_or_nil md)
theorem AQ.less {A : Around} {n m : Nat} (a : AQ A n) (h : m ≤ n) : AQ A m := ⟨a.handled, by have := a.depth; omega, by have := a.units; omega⟩
theorem aq_deep {A : Around} {n : Nat} {env : Env} (a : AQ A (n + 1)) : AQ (A.deeper env) n := ⟨a.handled, by have := a.depth; rw [depth_deeper]; omega, by have := a.units; rw [units_deeper]; omega⟩
set_option maxRecDepth 100000 in
theorem read_one (w : World) {base : Heap} {A : Around} {s : Shared} {E : Value → Shared → Prop} {Q : Value → Shared → Prop} {Y DY : Addr} {buf : Str} {p : Nat} {t : Tok} (W : Wd (hd.heap_39 w.params) base) (a : AQ A 3) (hst : KeepF [] base s.heap) (bY : base.get? DY = none)
    (I : IO s.heap Y DY buf p) (hp : p ≤ buf.length) (hl : buf.length ≤ 1000)
    (hQ : ∀ s' v, FV v (.str (signAt buf p)) → IO s'.heap Y DY buf (min (p + 1) buf.length) → Km [DY] s s' → Q v s') : wpAny (model PySem.Challenge.rw_oy0388_01.prog w) A (call (.ref 564) [.ref Y, .int 1 t]) Q E s := by
  k_fill
  refine' call_def (f := 564) (args := ⟨[.ref Y, .int 1 t], []⟩) (binds := [("self", .ref Y), ("size", .int 1 t)]) ?ho ?hcd ?hbind ?hkind ?hco ?hgen ?hk W ?hd hst ?h
  case ho => k_is
  case hcd => k_is
  case hbind => exact binds_K (W.in hst) rfl (by k_is) rfl rfl rfl
  case hkind => rfl
  case hco => rfl
  case hgen => rfl
  case hk => rfl
  case hd => have := a.depth; omega
  intro h₁ tk kk hn
  have hnone := none_size s.heap
  have hlt := own_ne I
  generalize hL : s.heap.objs.size = L at *
  have hbn := base_none hst hnone
  refine mx_start [("size", .int 1)] hst kk hn I rfl (.cons rfl rfl .int .nil) (io_mc W rfl rfl hbn bY (Nat.ne_of_lt hlt)) (fun c J => ?_)
  have K0 : Km [L, DY] s { s with heap := h₁, toks := tk } := .of_keeps ⟨h₁, tk, rfl, kk⟩
  have hu : ∀ env, (A.deeper env).units + 64 < cLine := fun env => by have := a.units; rw [units_deeper]; omega
  have aq : ∀ env, AQ (A.deeper env) 2 := fun env => aq_deep a
  -- size is None?
  refine wpAny_execs_cons (ms_if c J (b := false) ?_ (fun s2 J2 k2 => ?_))
  · have md := J.md rfl
    exact tv_cmp md (hu _) (ev_name md rfl rfl) (ev_none md) rfl rfl
  refine wpAny_execs_nil ?_
  show wpAny _ _ (execs (_ :: _) _) _ _ _
  -- size = _index(size, ..)
  refine wpAny_execs_cons (ms_assign (d := .int 1) c J2 ?_ rfl rfl (by decide) rfl (fun s3 J3 k3 => ?_))
  · have md := J2.md rfl
    exact ev_callF md (nmJ_global W (fun _ h => h.st) rfl rfl rfl (by k_is) rfl) rfl (sp_cons md (ev_name md rfl rfl) (sp_cons md (ev_str md) (sp_nil md))) (fnK_P (fn_index w 1 _ (by omega)) W ((aq _).less (by decide)) (by k_is) rfl (fun _ h => h.st))
  show wpAny _ _ (execs (_ :: _) _) _ _ _
  -- self.__check()
  refine wpAny_execs_cons (wpAny_Expr (MethodCall_ (self_name c J3 (self_meth c J3 (m_StringIO__check w) (by decide) (callWith_K0 (W.in J3.st) (by k_is) ?_)))) rfl rfl)
  refine io_check w W ((aq _).less (by decide)) J3.st bY J3.own (fun s4 k4 => ?_)
  have J4 := J3.keeps k4
  show wpAny _ _ (execs (_ :: _) _) _ _ _
  -- start = self.__pos
  refine wpAny_execs_cons (ms_assign (d := .int p) c J4 ?_ rfl rfl (by decide) rfl (fun s5 J5 k5 => ?_))
  · exact ev_at c (by decide) rfl
  show wpAny _ _ (execs (_ :: _) _) _ _ _
  -- stop = len(self.__buf)
  refine wpAny_execs_cons (ms_assign (d := .int buf.length) c J5 ?_ rfl rfl (by decide) rfl (fun s6 J6 k6 => ?_))
  · have md := J5.md rfl
    exact ev_call1 md (aq _).handled (nmJ_builtin W (fun _ h => h.st) rfl rfl rfl rfl (by k_is) bb_len (by decide) rfl) (ev_at c (by decide) rfl) (len_of (by omega)) rfl
  show wpAny _ _ (execs (_ :: _) _) _ _ _
  have sL : ∀ {a b : Shared}, Km [L] a b → Km [L, DY] a b := fun k => k.sub (by simp)
  have sD : ∀ {a b : Shared}, Km [DY] a b → Km [L, DY] a b := fun k => k.sub (by simp)
  have K6 : Km [L, DY] s s6 := ((((K0.trans (.of_keeps k2)).trans (sL k3)).trans (.of_keeps k4)).trans (sL k5)).trans (sL k6)
  -- start >= stop?
  refine wpAny_execs_cons (ms_if c J6 (b := decide ((buf.length : Int) ≤ p)) ?_ (fun s7 J7 k7 => ?_))
  · have md := J6.md rfl
    exact tv_cmp md (hu _) (ev_name md rfl rfl) (ev_name md rfl rfl) rfl rfl
  by_cases hpl : (buf.length : Int) ≤ p
  · rw [if_pos (decide_eq_true hpl)]
    refine wpAny_execs_cons (wpAny_Return_some (ev_use (d := .str Str.empty) J7 (ev_str (J7.md rfl)) (fun v s8 hv k8 => ?_)))
    have e1 : signAt buf p = Str.empty := by
      unfold signAt
      rw [Array.getElem?_eq_none (by show buf.length ≤ p; omega)]
    refine hQ s8 v (by rw [e1]; exact fv_of hv rfl) ?_ (((K6.trans (.of_keeps k7)).trans (.of_keeps k8)).drop hnone)
    have e2 : min (p + 1) buf.length = p := by omega
    rw [e2]
    exact (J7.keeps k8).own
  rw [if_neg (by simpa using hpl)]
  refine wpAny_execs_nil ?_
  show wpAny _ _ (execs (_ :: _) _) _ _ _
  -- size >= 0 and start + size < stop?
  refine wpAny_execs_cons (ms_if c J7 (b := decide ((p : Int) + 1 < buf.length)) ?_ (fun s8 J8 k8 => ?_))
  · have md := J7.md rfl
    exact tv_and_go md (tv_cmp md (hu _) (ev_name md rfl rfl) (ev_int md) rfl rfl) (tv_and_last md (tv_cmp md (hu _) (ev_bin md (ev_name md rfl rfl) (ev_name md rfl rfl) rfl) (ev_name md rfl rfl) rfl rfl))
  have K8 := (K6.trans (.of_keeps k7)).trans (.of_keeps k8)
  refine mx_then (base := base) [L, DY] s Y DY 618 ioNames [("_StringIO__buf", .str buf), ("_StringIO__pos", .int p)] [] [("start", .int p), ("stop", .int ((p + 1 : Nat) : Int))] ?_ (fun s9 J9 K9 => ?_)
  · by_cases hlt : (p : Int) + 1 < buf.length
    · rw [if_pos (decide_eq_true hlt)]
      refine wpAny_execs_cons (ms_assign (d := .int ((p + 1 : Nat) : Int)) c J8 ?_ rfl rfl (by decide) rfl (fun s9 J9 k9 => ?_))
      · have md := J8.md rfl
        exact ev_bin md (ev_name md rfl rfl) (ev_name md rfl rfl) rfl
      exact wpAny_execs_nil ⟨rfl, J9.weaken (.refl _) (.cons rfl (.cons rfl .nil)), K8.trans (sL k9)⟩
    · rw [if_neg (by simpa using hlt)]
      have e1 : buf.length = p + 1 := by omega
      exact wpAny_execs_nil ⟨rfl, J8.weaken (.refl _) (.cons rfl (.cons (by rw [← e1]; rfl) .nil)), K8⟩
  show wpAny _ _ (execs (_ :: _) _) _ _ _
  refine wpAny_execs_cons (ms_setattr (d := .int ((p + 1 : Nat) : Int)) c J9 (ev_name (J9.md rfl) rfl rfl) rfl (by decide) rfl rfl (fun s10 J10 k10 => ?_))
  show wpAny _ _ (execs (_ :: _) _) _ _ _
  have hp1 : p < buf.length := by omega
  refine wpAny_execs_cons (wpAny_Return_some (ev_use (d := .str (signAt buf p)) (R := Keeps) J10 ?_ (fun v s11 hv k11 => ?_)))
  · have md := J10.md rfl
    refine ev_slice (a := .str buf) (i := some (p : Int)) (j := some ((p + 1 : Nat) : Int)) md (ev_at c (by decide) rfl) ?_ ?_ ?_
    · exact ev_name md rfl rfl
    · exact ev_name md rfl rfl
    · simp only [sliceD]
      rw [if_pos (by omega), slice_one hp1]
  have e2 : min (p + 1) buf.length = p + 1 := by omega
  refine hQ s11 v (fv_of hv rfl) ?_ (((K9.trans (sD k10)).trans (.of_keeps k11)).drop hnone)
  rw [e2]
  exact (J10.keeps k11).own.weaken (.cons rfl (.cons rfl .nil))
end Mine

namespace Mine
noncomputable def lexA (wc : Str) : Rho := [("posix", .bool true), ("whitespace_split", .bool true), ("commenters", .str ""), ("whitespace", .str " \t\r\n"), ("quotes", .str "'\""), ("escape", .str "\\"), ("wordchars", .str wc), ("debug", .int 0), ("eof", .none), ("source", .none), ("_punctuation_chars", .str "")]
noncomputable abbrev lexS (st : PyData) (tok : Str) (wc : Str) : Rho := ("state", st) :: ("token", .str tok) :: lexA wc
noncomputable abbrev lexB (Y PB FS : Addr) : List (Str × Addr) := [("instream", Y), ("pushback", PB), ("filestack", FS)]
theorem MX.km {base : Heap} {env : Env} {x dx C : Addr} {names : List Str} {α : Rho} {β : List (Str × Addr)} {ρ : Rho} {ws : List Addr} {s s' : Shared} (J : MX base env x dx C names α β ρ s) (k : Km ws s s') (h1 : env.locals ∉ ws) (h2 : x ∉ ws) (h3 : dx ∉ ws) (hb : ∀ b ∈ ws, base.get? b = none) : MX base env x dx C names α β ρ s' := by
  obtain ⟨m, σ, j, r⟩ := J
  exact ⟨m, σ, ⟨j.st.km k hb, j.ns.at' fun _ e => k.get h1 e, k.own j.own h2 h3⟩, r⟩
structure RC (w : World) (base : Heap) (env : Env) (X DX Y DY : Addr) : Prop where
  c : MC PySem.Challenge.rw_oy0388_01.prog (hd.heap_39 w.params) base env DX 753 lexNames
  bY : base.get? DY = none
  n1 : Y ≠ env.locals
  n2 : DY ≠ env.locals
  n3 : Y ≠ DX
  n4 : DY ≠ DX
  n5 : X ≠ DY
structure RS (base : Heap) (env : Env) (X DX Y DY : Addr) (s₀ : Shared) (buf : Str) (p : Nat) (α : Rho) (β : List (Str × Addr)) (ρ : Rho) (s : Shared) : Prop where
  j : MX base env X DX 753 lexNames α β ρ s
  io : IO s.heap Y DY buf p
  k : Km [env.locals, DX, DY] s₀ s
section
variable {w : World} {A : Around} {base : Heap} {env : Env} {X DX Y DY : Addr} {s₀ s : Shared} {buf : Str} {p : Nat} {α : Rho} {β : List (Str × Addr)} {ρ : Rho} {e : Expr} {d : PyData} {pos np p2 : Pos} {E : Value → Shared → Prop} {Q : Flow → Shared → Prop}
theorem RS.keeps (R : RS base env X DX Y DY s₀ buf p α β ρ s) {s' : Shared} (k : Keeps s s') : RS base env X DX Y DY s₀ buf p α β ρ s' := ⟨R.j.keeps k, R.io.keeps k, R.k.trans (.of_keeps k)⟩
theorem RS.weaken {α' ρ' : Rho} (R : RS base env X DX Y DY s₀ buf p α β ρ s) (h1 : Sub α' α) (h2 : Sub ρ' ρ) : RS base env X DX Y DY s₀ buf p α' β ρ' s := ⟨R.j.weaken h1 h2, R.io, R.k⟩
theorem rs_if (c : RC w base env X DX Y DY) (R : RS base env X DX Y DY s₀ buf p α β ρ s) {b : Bool} {x1 x2 : List Stmt} (he : EvT PySem.Challenge.rw_oy0388_01.prog w A env (MX base env X DX 753 lexNames α β ρ) Keeps e b)
    (h : ∀ s', RS base env X DX Y DY s₀ buf p α β ρ s' → wpAny (model PySem.Challenge.rw_oy0388_01.prog w) A (execs (if b then x1 else x2) env) Q E s') : wpAny (model PySem.Challenge.rw_oy0388_01.prog w) A (exec (.If e x1 x2 pos) env) Q E s :=
  ms_if c.c R.j he fun s' _ k => h s' (R.keeps k)
theorem rs_assign (c : RC w base env X DX Y DY) (R : RS base env X DX Y DY s₀ buf p α β ρ s) {y : Str} (he : EvP PySem.Challenge.rw_oy0388_01.prog w A env (MX base env X DX 753 lexNames α β ρ) Keeps e d) (hf : flatD d = true) (hy : env.kindOf y = some .local) (hne : ("self" : Str) ≠ y)
    (hs : swapsWith e (some (.Name y np)) pos.line env = pure false) (h : ∀ s', RS base env X DX Y DY s₀ buf p α β ((y, d) :: ρ) s' → Q .next s') : wpAny (model PySem.Challenge.rw_oy0388_01.prog w) A (exec (.Assign [.Name y np] e pos) env) Q E s :=
  ms_assign c.c R.j he hf hy hne hs fun s' J' k' => h s' ⟨J', R.io.km k' (by simpa using c.n1) (by simpa using c.n2), R.k.trans (k'.sub (by simp))⟩
theorem rs_setattr (c : RC w base env X DX Y DY) (R : RS base env X DX Y DY s₀ buf p α β ρ s) {a : Str} (he : EvP PySem.Challenge.rw_oy0388_01.prog w A env (MX base env X DX 753 lexNames α β ρ) Keeps e d) (hf : flatD d = true) (ha : a ∈ lexNames) (hb : β.lookup a = none)
    (hs : swapsWith e (some (.Attribute (.Name "self" np) a p2)) pos.line env = pure false) (h : ∀ s', RS base env X DX Y DY s₀ buf p ((a, d) :: α) β ρ s' → Q .next s') : wpAny (model PySem.Challenge.rw_oy0388_01.prog w) A (exec (.Assign [.Attribute (.Name "self" np) a p2] e pos) env) Q E s :=
  ms_setattr c.c R.j he hf ha hb hs fun s' J' k' => h s' ⟨J', R.io.km k' (by simpa using c.n3) (by simpa using c.n4), R.k.trans (k'.sub (by simp))⟩
theorem rs_augattr (c : RC w base env X DX Y DY) (R : RS base env X DX Y DY s₀ buf p α β ρ s) {a : Str} {x y : Str} (hold : α.lookup a = some (.str x)) (he : EvP PySem.Challenge.rw_oy0388_01.prog w A env (MX base env X DX 753 lexNames α β ρ) Keeps e (.str y)) (hl : x.length + y.length ≤ 1048576) (ha : a ∈ lexNames) (hb : β.lookup a = none)
    (h : ∀ s', RS base env X DX Y DY s₀ buf p ((a, .str (x ++ y)) :: α) β ρ s' → Q .next s') : wpAny (model PySem.Challenge.rw_oy0388_01.prog w) A (exec (.AugAssign (.Attribute (.Name "self" np) a p2) .Add e pos) env) Q E s := by
  refine wpAny_AugAssign_AttributeAny (self_name c.c R.j ?_)
  have J := R.j
  obtain ⟨m, σ, j, hself, hn, hα, hβ⟩ := id J
  obtain ⟨v, hv, hf⟩ := hα a _ hold
  refine at_get (c.c.W.in j.st) j.own (c.c.ps a ha).1 hv hf.1 ?_
  have R1 := R.keeps (keeps_tok s (s.toks + 1))
  refine wpAny_mono (he _ E R1.j) (fun u s₁ h₁ => ?_) fun _ _ e => e
  have R2 := R1.keeps h₁.2
  have hb2 : binD .Add (.str x) (.str y) = some (.str (x ++ y)) := by simp only [binD, addD, subD, mulD, fdvD, modD]; rw [if_pos hl]
  refine wpAny_mono (inpl_ok hb2 (.inr ⟨x, y, rfl, rfl, rfl⟩) (hf.2 _) h₁.1) (fun r s₂ h₂ => ?_) fun _ _ e => e
  have R3 := R2.keeps h₂.2
  obtain ⟨m, σ, j, hself, hn, hα, hβ⟩ := R3.j
  have hr := fv_of h₂.1 rfl
  exact mj_attr c.c.W j (c.c.ps a ha).2 ha c.c.len c.c.bx c.c.ne fun s' j' k' => h s' ⟨⟨m, _, j', hself, hn, hα.upd hr, hβ.updN hb⟩, R3.io.km k' (by simpa using c.n3) (by simpa using c.n4), R3.k.trans (k'.sub (by simp))⟩
end
theorem lex_mc {w : World} {base : Heap} (W : Wd (hd.heap_39 w.params) base) {env : Env} {DX : Addr} (hk : env.scope.kind = .function) (hs : env.kindOf "self" = some .local) (bL : base.get? env.locals = none) (bx : base.get? DX = none) (ne : DX ≠ env.locals) :
    MC PySem.Challenge.rw_oy0388_01.prog (hd.heap_39 w.params) base env DX 753 lexNames := ⟨W, hk, hs, lex_ps w, by decide, bL, bx, ne⟩
theorem findObj_data {K : Frag} {C : Addr} {a : Str} {cd : ClassData} {p g : Value} {od : Option Obj} (h1 : clsIn K C = some cd) (h2 : findIn K (.ref C) a = some (some p)) (h3 : specialIn K p "__get__" = some (some g)) (h4 : takesIn K p = some true) : findObj K C od a = some (.bind g p) := by
  unfold findObj
  rw [h1, h2]
  simp only [Option.bind_some]
  rw [h3]
  simp only [Option.bind_some]
  rw [h4]
  rfl
set_option maxRecDepth 100000 in
theorem punct_call (w : World) {base : Heap} {A : Around} {s : Shared} {X DX : Addr} {α : Rho} {β : List (Str × Addr)} {R : Result → Shared → Prop} {d : PyData} (W : Wd (hd.heap_39 w.params) base) (a : AQ A 1) (hst : KeepF [] base s.heap) (bX : base.get? DX = none)
    (O : OwnA s.heap X DX 753 lexNames α β) (hα : α.lookup ("_punctuation_chars" : Str) = some d) (hf : flatD d = true) (hQ : ∀ v s', FV v d → Keeps s s' → R (.ok (.ret v)) s') : codeAny (model PySem.Challenge.rw_oy0388_01.prog w) A (.call (.ref 684) ⟨[.ref X], []⟩) R s := by
  have kf : (fun _ : Program => (hd.heap_39 w.params).lookup 0) PySem.Challenge.rw_oy0388_01.prog = (hd.heap_39 w.params).lookup 0 := by
    k_fill
    rfl
  clear kf
  refine' codeAny_mono (code_def0 (f := 684) (args := ⟨[.ref X], []⟩) (binds := [("self", .ref X)]) (Q := fun v s' => R (.ok (.ret v)) s') (E := fun e s' => R (.error e) s') ?ho ?hcd ?hbind ?hkind ?hco ?hgen ?hk W ?hd hst ?h) ?fin
  case ho => k_is
  case hcd => k_is
  case hbind => exact BindsTo.of_eq rfl
  case hkind => rfl
  case hco => rfl
  case hgen => rfl
  case hk => rfl
  case hd => have := a.depth; omega
  case fin =>
    intro r s' h
    rcases r with e | (v | _ | _ | _) <;> first | exact h | exact h.elim
  case h =>
    intro h₁ tk kk hn
    have hnone := none_size s.heap
    have hlt := own_ne O
    generalize hL : s.heap.objs.size = L at *
    have hbn := base_none hst hnone
    refine mx_start [] hst kk hn O rfl .nil (lex_mc W rfl rfl hbn bX (Nat.ne_of_lt hlt)) (fun c J => ?_)
    have K0 : Km [L] s { s with heap := h₁, toks := tk } := .of_keeps ⟨h₁, tk, rfl, kk⟩
    refine wpAny_execs_cons (wpAny_Return_some (ev_use (d := d) (R := Keeps) J ?_ (fun v s2 hv k2 => ?_)))
    · exact ev_at c (by decide) hα
    exact hQ v s2 (fv_of hv hf) ((K0.trans (.of_keeps k2)).drop hnone).toKeeps
set_option maxRecDepth 100000 in
theorem ev_punct (w : World) {base : Heap} {A : Around} {env : Env} {X DX : Addr} {α : Rho} {β : List (Str × Addr)} {ρ : Rho} {d : PyData} {pos np : Pos} (c : MC PySem.Challenge.rw_oy0388_01.prog (hd.heap_39 w.params) base env DX 753 lexNames) (a : AQ A 3) (hα : α.lookup ("_punctuation_chars" : Str) = some d) (hf : flatD d = true) :
    EvP PySem.Challenge.rw_oy0388_01.prog w A env (MX base env X DX 753 lexNames α β ρ) Keeps (.Attribute (.Name "self" np) "punctuation_chars" pos) d := by
  have kf : (fun _ : Program => (hd.heap_39 w.params).lookup 0) PySem.Challenge.rw_oy0388_01.prog = (hd.heap_39 w.params).lookup 0 := by
    k_fill
    rfl
  clear kf
  intro s E J
  obtain ⟨m, σ, j, hs, r⟩ := id J
  obtain ⟨od, I, _, _⟩ := j.own.inst
  have X' := c.W.in j.st
  have g0 : plainGet (hd.heap_39 w.params) 753 "punctuation_chars" = true := by k_is
  simp only [plainGet, Bool.and_eq_true, beq_iff_eq] at g0
  have hff : ∃ cd, clsIn (hd.heap_39 w.params) 753 = some cd := ⟨_, by k_is⟩
  obtain ⟨cd, hcd⟩ := hff
  have hfo : findObj (hd.heap_39 w.params) 753 (some od) "punctuation_chars" = some (.bind (.builtin "property.__get__") (.ref 685)) := findObj_data hcd (by k_is) (by k_is) (by k_is)
  refine Attribute_name (wpAny_Name (wpAny_loadName_local c.hk c.self j.ns hs ?_) rfl)
  refine get_bind X' I g0.1 hfo g0.2 ?_
  refine wpAny_call (prop_get (s := { s with toks := s.toks + 1 }) (rest := [.none, .none, .none, .str "punctuation_chars" 1151, .bool false]) X' (by k_is) ?_)
  refine punct_call w c.W ⟨a.handled, by have := a.depth; show A.depth + 1 < _; omega, by have := a.units; show A.units + 1 + 64 + 8 * 1 < _; omega⟩ (J.keeps (keeps_tok s (s.toks + 1))).st c.bx (J.keeps (keeps_tok s (s.toks + 1))).own hα hf (fun v s' hv k => ?_)
  show wpAny _ _ (handedOut v) _ _ _
  rw [handedOut_of hv.1]
  exact wpAny_pure ⟨hv.2 _, keeps_trans (keeps_tok s (s.toks + 1)) k⟩
end Mine

namespace Mine
inductive LexSt where
  | gap | quote | word | fin
noncomputable def LexSt.val : LexSt → PyData
  | .gap => .str " "
  | .quote => .str "'"
  | .word => .str "a"
  | .fin => .none
noncomputable def runT : LexSt → List Nat → List Nat → Option (Option (List Nat) × LexSt × List Nat)
  | .fin, _, r => some (none, .fin, r)
  | .gap, _, [] => some (none, .fin, [])
  | .gap, _, c :: r => if c = 32 then runT .gap [] r else if c = 39 then runT .quote [] r else runT .word [c] r
  | .quote, _, [] => none
  | .quote, t, c :: r => if c = 39 then runT .word t r else runT .quote (t ++ [c]) r
  | .word, t, [] => some (some t, .fin, [])
  | .word, t, c :: r => if c = 32 then some (some t, .gap, r) else if c = 39 then runT .quote t r else runT .word (t ++ [c]) r
noncomputable def lexOf (o : Option (Option (List Nat) × LexSt × List Nat)) : Option (List (List Nat)) := match o with
  | none => none
  | some (none, _, _) => some []
  | some (some t, .gap, r) => (lexD .gap [] r).map (t :: ·)
  | some (some t, _, _) => some [t]
theorem run_lex : ∀ (r t : List Nat), lexD .gap t r = lexOf (runT .gap t r) ∧ lexD .quote t r = lexOf (runT .quote t r) ∧ lexD .word t r = lexOf (runT .word t r)
  | [], t => ⟨rfl, rfl, rfl⟩
  | c :: r, t => by
    have ih := run_lex r
    refine ⟨?_, ?_, ?_⟩
    · simp only [lexD, runT]
      split
      · exact (ih []).1
      · split
        · exact (ih []).2.1
        · exact (ih [c]).2.2
    · simp only [lexD, runT]
      split
      · exact (ih t).2.2
      · exact (ih _).2.1
    · simp only [lexD, runT]
      split
      · rfl
      · split
        · exact (ih t).2.1
        · exact (ih _).2.2
noncomputable def resD : Option (List Nat) → PyData
  | none => .none
  | some t => .str (strOf t)
theorem strOf_snoc (t : List Nat) (c : Nat) : strOf t ++ ⟨#[c]⟩ = strOf (t ++ [c]) := by
  show (⟨t.toArray ++ #[c]⟩ : Str) = ⟨(t ++ [c]).toArray⟩
  simp
theorem sg_nl : ∀ c ∈ signs, cmpD .Eq (.str ⟨#[c]⟩) (.str "\n") = some false := by decide +kernel
theorem sg_ws : ∀ c ∈ signs, cmpD .In (.str ⟨#[c]⟩) (.str " \t\r\n") = some (c == 32) := by decide +kernel
theorem sg_co : ∀ c ∈ signs, cmpD .In (.str ⟨#[c]⟩) (.str "") = some false := by decide +kernel
theorem sg_es : ∀ c ∈ signs, cmpD .In (.str ⟨#[c]⟩) (.str "\\") = some false := by decide +kernel
theorem sg_qu : ∀ c ∈ signs, cmpD .In (.str ⟨#[c]⟩) (.str "'\"") = some (c == 39) := by decide +kernel
theorem sg_q1 : ∀ c ∈ signs, cmpD .Eq (.str ⟨#[c]⟩) (.str "'") = some (c == 39) := by decide +kernel
theorem sg_tr : ∀ c ∈ signs, trD (.str ⟨#[c]⟩) = some true := by decide +kernel
theorem sg_np : ∀ c ∈ signs, Txt.contains "" ⟨#[c]⟩ = false := by decide +kernel
theorem nl_e : cmpD .Eq (.str Str.empty) (.str "\n") = some false := by decide +kernel
theorem tr_e : trD (.str Str.empty) = some false := by decide +kernel
theorem st_gg : cmpD .Eq (.str " ") (.str " ") = some true := by decide +kernel
theorem st_qg : cmpD .Eq (.str "'") (.str " ") = some false := by decide +kernel
theorem st_ag : cmpD .Eq (.str "a") (.str " ") = some false := by decide +kernel
theorem st_qq : cmpD .In (.str "'") (.str "'\"") = some true := by decide +kernel
theorem st_aq : cmpD .In (.str "a") (.str "'\"") = some false := by decide +kernel
theorem st_ae : cmpD .In (.str "a") (.str "\\") = some false := by decide +kernel
theorem st_ac : cmpD .Eq (.str "a") (.str "c") = some false := by decide +kernel
theorem tr_strOf {t : List Nat} (h : t.length ≤ 1000) : trD (.str (strOf t)) = some (!t.isEmpty) := by
  simp only [trD]
  have e : (strOf t).length = t.length := by show t.toArray.size = _; simp
  rw [if_pos (by rw [e]; omega), e]
  cases t <;> simp
section
variable {prog : Program} {w : World} {A : Around} {env : Env} {ρ : Rho} {J : Shared → Prop} {R : Shared → Shared → Prop} {l r : Expr} {pos : Pos}
theorem tv_notin (md : Md env ρ J R) {x y : Str} (hl : EvP prog w A env J R l (.str y)) (hr : EvP prog w A env J R r (.str x)) (hm : behindInMarks .NotIn r = false) : EvT prog w A env J R (.Compare l [.NotIn] [r] pos) (!Txt.contains x y) := by
  intro s E hJ
  refine wpAny_isTrue_Compare1 (wpAny_mono (hl s E hJ) (fun v s₁ h₁ => ?_) fun _ _ e => e) hm
  have J₁ := md.inv _ _ hJ h₁.2
  refine wpAny_mono (hr s₁ E J₁) (fun u s₂ h₂ => ?_) fun _ _ e => e
  have hv := h₁.1.mono (md.seq _ _ h₂.2)
  obtain ⟨hu, hR⟩ := h₂
  cases hv
  cases hu
  exact SB.notContains (wpAny_truthy_bool ⟨rfl, md.trans _ _ _ h₁.2 hR⟩)
theorem tv_notin' (md : Md env ρ J R) {x y : Str} {b : Bool} (hb : (!Txt.contains x y) = b) (hl : EvP prog w A env J R l (.str y)) (hr : EvP prog w A env J R r (.str x)) (hm : behindInMarks .NotIn r = false) : EvT prog w A env J R (.Compare l [.NotIn] [r] pos) b := by
  subst hb; exact tv_notin md hl hr hm
theorem tv_in2 (md : Md env ρ J R) {x y1 y2 : Str} {k1 k2 k3 : Nat} {q1 q2 q3 : Pos} {b : Bool} (hl : EvP prog w A env J R l (.str x)) (hb : [y1, y2].any (· == x) = b) (hs : backTo q3 (starEach [.Constant (.str y1) k1 q1, .Constant (.str y2) k2 q2] env) = [(false, eval (.Constant (.str y1) k1 q1) env), (false, eval (.Constant (.str y2) k2 q2) env)]) :
    EvT prog w A env J R (.Compare l [.In] [.Tuple [.Constant (.str y1) k1 q1, .Constant (.str y2) k2 q2] k3 q3] pos) b := by
  intro s E hJ
  refine wpAny_isTrue_Compare1 (wpAny_mono (hl s E hJ) (fun v s₁ h₁ => ?_) fun _ _ e => e) rfl
  have J₁ := md.inv _ _ hJ h₁.2
  have ht : EvP prog w A env J R (.Tuple [.Constant (.str y1) k1 q1, .Constant (.str y2) k2 q2] k3 q3) (.tuple [.str y1, .str y2]) := ev_tuple md (by rw [hs]; exact sp_cons md (ev_str md) (sp_cons md (ev_str md) (sp_nil md))) (by simp)
  refine wpAny_mono (ht s₁ E J₁) (fun u s₂ h₂ => ?_) fun _ _ e => e
  have hv := h₁.1.mono (md.seq _ _ h₂.2)
  obtain ⟨hu, hR⟩ := h₂
  cases hv
  cases hu with
  | tup hi hr =>
  cases hr with
  | cons a1 hr =>
  cases hr with
  | cons a2 hr =>
  cases hr
  cases a1
  cases a2
  refine in_tuple_strs (ys := [y1, y2]) hi (by exact .cons _ _ (.cons _ _ .nil)) ?_
  rw [hb]
  exact wpAny_truthy_bool ⟨rfl, md.trans _ _ _ h₁.2 hR⟩
theorem eq_empty (t : List Nat) : cmpD .Eq (.str (strOf t)) (.str "") = some t.isEmpty := by
  simp only [cmpD, eqD, neD, ltD, gtD, leD, geD, inD, isD, strOf]
  cases t <;> rfl
end
theorem Sub.up {ρ α : Rho} {x : Str} {d : PyData} (h : ρ.lookup x = none) (s : Sub ρ α) : Sub ρ ((x, d) :: α) := fun y e hy => by
  have q : y ≠ x := fun q => by rw [q, h] at hy; cases hy
  rw [lookup_cons_ne q]; exact s y e hy
theorem subL {a : PyData} {b wc : Str} : Sub (lexA wc) (lexS a b wc) := Sub.up rfl (Sub.up rfl (Sub.refl _))
end Mine

namespace Mine
noncomputable abbrev rtScope : Scope := { kind := .function, names := [("self", .local), ("quoted", .local), ("escapedstate", .local), ("nextchar", .local), ("result", .local), ("print", .globalImplicit), ("ValueError", .globalImplicit), ("repr", .globalImplicit)], isGenerator := false, isCoroutine := false }
noncomputable abbrev rtEnv (L : Addr) : Env := envOfC "shlex.read_token" rtScope L 721 (.ref 720)
noncomputable def LxOk : LexSt → Nat → Nat → Prop
  | .gap, _, _ => True
  | .fin, p, n => p = n
  | _, _, _ => False
noncomputable def LpOk : LexSt → List Nat → Bool → Nat → Nat → Prop
  | .gap, t, q, _, _ => t = [] ∧ q = false
  | .word, t, q, _, _ => t ≠ [] ∨ q = true
  | .quote, _, _, _, _ => True
  | .fin, t, q, p, n => t = [] ∧ q = false ∧ p = n
theorem own_meth {prog : Program} {w : World} {A : Around} {E : Value → Shared → Prop} {s : Shared} {K : Frag} {x dx C : Addr} {names : List Str} {α : Rho} {β : List (Str × Addr)} {a : Str} {pl : Sem Bool} {f : Addr} {Q : Value × List Value → Shared → Prop} (X : K.In s.heap) (O : OwnA s.heap x dx C names α β) (hp : methAt K C a f = true) (ha : a ∉ names) (h : Q (.ref f, [.ref x]) s) : wpAny (model prog w) A (getMethod (.ref x) a pl) Q E s := by
  obtain ⟨σ, O, _⟩ := O
  refine meth_self X O hp ?_ h
  cases e : σ a with
  | none => rfl
  | some v => exact absurd (O.sup a (by rw [e]; simp)) ha
theorem callWith_1 {M : Model} {A : Around} {E : Value → Shared → Prop} {s : Shared} {K : Frag} {h₀ : Heap} {env : Env} {pos : Pos} {f : Value} {first : List Value} {e : Expr} {Q : Value → Shared → Prop} (X : K.In h₀) (hk : keepIn K f = true) (hs : starEach [e] env = [(false, eval e env)])
    (h : wpAny M A (eval e env) (fun v s₁ => K.In s₁.heap ∧ wpAny M A (call f (first ++ [v])) Q E s₁) E s) : wpAny M A (callWith pos f first (backTo pos (starEach [e] env)) []) Q E s := by
  refine callWith_K X hk ?_ hs rfl
  rw [hs]
  exact Calls.spliced_cons (wpAny_mono h (fun v s₁ h₁ => Calls.spliced_nil h₁) fun _ _ e => e)
theorem rs_local {w : World} {A : Around} {base : Heap} {env : Env} {X DX Y DY : Addr} {s₀ s : Shared} {buf : Str} {p : Nat} {α : Rho} {β : List (Str × Addr)} {ρ : Rho} {E : Value → Shared → Prop} {Q : Unit → Shared → Prop} {y : Str} {v : Value} {d : PyData}
    (c : RC w base env X DX Y DY) (R : RS base env X DX Y DY s₀ buf p α β ρ s) (hv : FV v d) (hy : env.kindOf y = some .local) (hne : ("self" : Str) ≠ y) (h : ∀ s', RS base env X DX Y DY s₀ buf p α β ((y, d) :: ρ) s' → Q () s') : wpAny (model PySem.Challenge.rw_oy0388_01.prog w) A (storeName env y v) Q E s := by
  obtain ⟨m, σ, j, hself, hn, hα, hβ⟩ := R.j
  exact mj_local j rfl c.c.hk hy c.c.bL c.c.ne fun s' j' k' => h s' ⟨⟨_, σ, j', (if_neg hne).trans hself, hn.upd hy hv, hα, hβ⟩, R.io.km k' (by simpa using c.n1) (by simpa using c.n2), R.k.trans (k'.sub (by simp))⟩
theorem drop_sign {buf : Str} {p : Nat} (h : p < buf.length) : ∃ c, signAt buf p = ⟨#[c]⟩ ∧ buf.cps.toList.drop p = c :: buf.cps.toList.drop (p + 1) ∧ c ∈ buf.cps.toList := by
  have hc : buf.cps[p]? = some (buf.cps[p]'h) := Array.getElem?_eq_getElem h
  refine ⟨buf.cps[p]'h, ?_, ?_, ?_⟩
  · unfold signAt; rw [hc]
  · have : p < buf.cps.toList.length := by rw [Array.length_toList]; exact h
    rw [List.drop_eq_getElem_cons this]; simp; rfl
  · exact Array.mem_toList_iff.mpr (Array.getElem_mem h)
theorem drop_end {buf : Str} {p : Nat} (h : p = buf.length) : signAt buf p = Str.empty ∧ buf.cps.toList.drop p = [] := by
  subst h
  refine ⟨?_, by apply List.drop_eq_nil_of_le; simp [Str.length]⟩
  unfold signAt
  have e : buf.cps[buf.length]? = none := Array.getElem?_eq_none (Nat.le_refl _)
  rw [e]
structure LT (base : Heap) (env : Env) (X DX Y DY PB FS : Addr) (wc : Str) (s₀ : Shared) (buf : Str) (out : Option (List Nat) × LexSt × List Nat) (st : LexSt) (t : List Nat) (q : Bool) (p : Nat) (s : Shared) : Prop where
  r : RS base env X DX Y DY s₀ buf p (lexS st.val (strOf t) wc) (lexB Y PB FS) [("quoted", .bool q), ("escapedstate", .str " ")] s
  run : runT st t (buf.cps.toList.drop p) = some out
  hp : p ≤ buf.length
  ht : t.length ≤ p
  ok : LpOk st t q p buf.length
structure LB (base : Heap) (env : Env) (X DX Y DY PB FS : Addr) (wc : Str) (s₀ : Shared) (buf : Str) (out : Option (List Nat) × LexSt × List Nat) (s : Shared) : Prop where
  ex : ∃ t q p, RS base env X DX Y DY s₀ buf p (lexS out.2.1.val (strOf t) wc) (lexB Y PB FS) [("quoted", .bool q)] s ∧ buf.cps.toList.drop p = out.2.2 ∧ p ≤ buf.length ∧ t.length ≤ buf.length ∧
    ((out.1 = none ∧ t = [] ∧ q = false) ∨ (out.1 = some t ∧ (t ≠ [] ∨ q = true)))
set_option maxRecDepth 100000 in
set_option maxHeartbeats 4000000 in
theorem read_token_ok (w : World) {base : Heap} {A : Around} {s : Shared} {E : Value → Shared → Prop} {Q : Value → Shared → Prop} {X DX Y DY PB FS : Addr} {wc buf : Str} {p : Nat} {st : LexSt} {out : Option (List Nat) × LexSt × List Nat}
    (W : Wd (hd.heap_39 w.params) base) (a : AQ A 5) (hst : KeepF [] base s.heap) (bX : base.get? DX = none) (bY : base.get? DY = none) (n3 : Y ≠ DX) (n4 : DY ≠ DX) (n5 : X ≠ DY)
    (O : OwnA s.heap X DX 753 lexNames (lexS st.val Str.empty wc) (lexB Y PB FS)) (I : IO s.heap Y DY buf p) (hp : p ≤ buf.length) (hl : buf.length ≤ 1000) (hsg : ∀ c ∈ buf.cps.toList, c ∈ signs)
    (hwc : Txt.contains wc ⟨#[39]⟩ = false)
    (hrun : runT st [] (buf.cps.toList.drop p) = some out) (hok : LxOk st p buf.length)
    (hQ : ∀ s' v p', FV v (resD out.1) → OwnA s'.heap X DX 753 lexNames (lexS out.2.1.val Str.empty wc) (lexB Y PB FS) → IO s'.heap Y DY buf p' → p' ≤ buf.length → buf.cps.toList.drop p' = out.2.2 → Km [DX, DY] s s' → Q v s') :
    wpAny (model PySem.Challenge.rw_oy0388_01.prog w) A (call (.ref 721) [.ref X]) Q E s := by
  have kf : (fun _ : Program => (hd.heap_39 w.params).lookup 0) PySem.Challenge.rw_oy0388_01.prog = (hd.heap_39 w.params).lookup 0 := by
    k_fill
    rfl
  clear kf
  refine' call_def (f := 721) (args := ⟨[.ref X], []⟩) (binds := [("self", .ref X)]) ?ho ?hcd ?hbind ?hkind ?hco ?hgen ?hk W ?hd hst ?h
  case ho => k_is
  case hcd => k_is
  case hbind => exact BindsTo.of_eq rfl
  case hkind => rfl
  case hco => rfl
  case hgen => rfl
  case hk => rfl
  case hd => have := a.depth; omega
  intro h₁ tk kk hn
  have hnone := none_size s.heap
  have hlX := own_ne O
  have hlY := own_ne I
  have hYL : Y < s.heap.objs.size := by obtain ⟨σ, O', _⟩ := I; exact Heap.lt_size O'.obj
  generalize hL : s.heap.objs.size = L at *
  have hbn := base_none hst hnone
  refine mx_start [] hst kk hn O rfl .nil (lex_mc W rfl rfl hbn bX (Nat.ne_of_lt hlX)) (fun cc J => ?_)
  have c : RC w base (rtEnv L) X DX Y DY := ⟨cc, bY, Nat.ne_of_lt hYL, Nat.ne_of_lt hlY, n3, n4, n5⟩
  have R0 : RS base (rtEnv L) X DX Y DY s buf p (lexS st.val Str.empty wc) (lexB Y PB FS) [] { s with heap := h₁, toks := tk } := ⟨J, I.keeps ⟨h₁, tk, rfl, kk⟩, .of_keeps ⟨h₁, tk, rfl, kk⟩⟩
  clear J
  have hu : ∀ env, (A.deeper env).units + 64 < cLine := fun env => by have := a.units; rw [units_deeper]; omega
  have aq : ∀ env, AQ (A.deeper env) 4 := fun env => aq_deep a
  refine wpAny_execs_cons (rs_assign (d := .bool false) c R0 (ev_bool (R0.j.md rfl)) rfl rfl (by decide) rfl (fun s1 R1 => ?_))
  show wpAny _ _ (execs (_ :: _) _) _ _ _
  refine wpAny_execs_cons (rs_assign (d := .str " ") c R1 (ev_str (R1.j.md rfl)) rfl rfl (by decide) rfl (fun s2 R2 => ?_))
  show wpAny _ _ (execs (_ :: _) _) _ _ _
  refine wpAny_execs_cons (wpAny_While ?_)
  refine codeAny_mono (R := fun r s' => r = .ok .next ∧ LB base (rtEnv L) X DX Y DY PB FS wc s buf out s') (codeAny_whileLoop (fun n s' => ∃ st t q p, n = buf.length - p ∧ LT base (rtEnv L) X DX Y DY PB FS wc s buf out st t q p s') ?turn (buf.length - p) ⟨st, [], false, p, rfl, ?init⟩) ?rest
  case init => 
    refine ⟨R2.weaken (.refl _) (.cons rfl (.cons rfl .nil)), hrun, hp, Nat.zero_le _, ?_⟩
    cases st <;> first | exact ⟨rfl, rfl⟩ | exact ⟨rfl, rfl, hok⟩ | exact hok.elim
  case turn =>
    rintro n s1 ⟨st, t, q, p, rfl, ⟨R, hrun, hp, ht, hok⟩⟩
    refine et_use (b := true) R.j (tv_ok (R.j.md rfl) (ev_bool (R.j.md rfl)) rfl (fun _ => rfl)) (fun s2 k2 => ?_)
    replace R := R.keeps k2
    clear k2
    rw [if_pos rfl]
    refine wpAny_gen fun G EG hG => ?_
    refine wpAny_execs_cons (rs_if c R (b := false) ?_ (fun s3 R => ?_))
    · have md := R.j.md rfl
      exact tv_and_stop (tv_ok md (ev_punct w cc ((aq _).less (by decide)) rfl rfl) tr_e (fun _ => rfl))
    -- nextchar = self.instream.read(1)
    refine wpAny_execs_cons (wpAny_Assign_Name (MethodCall_ (at_ref (r := Y) c.c (by decide) rfl R.j (fun s4 k4 _ => ?_))) rfl)
    replace R := R.keeps k4
    refine own_meth (W.in R.j.st) R.io (m_read w) (by decide) ?_
    refine callWith_1 (W.in R.j.st) (by k_is) rfl (wpAny_Constant_int ⟨W.in R.j.st, ?_⟩)
    replace R := R.keeps (keeps_tok s4 (s4.toks + 1))
    refine read_one w W ((aq _).less (by decide)) R.j.st bY R.io hp hl (fun s5 v hv I5 k5 => ?_)
    have R : RS base (rtEnv L) X DX Y DY s buf (min (p + 1) buf.length) _ _ _ s5 := ⟨R.j.km k5 (by simpa using Ne.symm c.n2) (by simpa using c.n5) (by simpa using Ne.symm c.n4) (by simpa using bY), I5, R.k.trans (k5.sub (by simp))⟩
    refine rs_local c R hv rfl (by decide) (fun s6 R => ?_)
    clear hv I5 k5
    refine wpAny_execs_nil ?_
    show wpAny _ _ (execs (_ :: _) _) _ _ _
    have lenS : ∀ t : List Nat, (strOf t).length = t.length := fun t => by show t.toArray.size = _; simp
    by_cases hpl : p < buf.length
    · obtain ⟨c₀, hsig, hdrop, hmem⟩ := drop_sign hpl
      have hc0 := hsg _ hmem
      have hmin : min (p + 1) buf.length = p + 1 := by omega
      rw [hsig, hmin] at R
      rw [hdrop] at hrun
      have hmeas : buf.length - (p + 1) < buf.length - p := by omega
      refine wpAny_execs_cons (rs_if c R (b := false) ?_ (fun s7 R => ?_))
      · have md := R.j.md rfl
        exact tv_cmp md (hu _) (ev_name md rfl rfl) (ev_str md) (sg_nl _ hc0) rfl
      refine wpAny_execs_nil ?_
      show wpAny _ _ (execs (_ :: _) _) _ _ _
      refine wpAny_execs_cons (rs_if c R (b := false) ?_ (fun s7 R => ?_))
      · have md := R.j.md rfl
        exact tv_cmp md (hu _) (ev_at c.c (by decide) rfl) (ev_int md) rfl rfl
      refine wpAny_execs_nil ?_
      show wpAny _ _ (execs (_ :: _) _) _ _ _
      cases st with
      | fin => exact absurd hok.2.2 (by omega)
      | gap =>
        obtain ⟨rfl, rfl⟩ := hok
        refine wpAny_execs_cons (rs_if c R (b := false) ?_ (fun s7 R => ?_))
        · have md := R.j.md rfl
          exact tv_cmp md (hu _) (ev_at c.c (by decide) rfl) (ev_none md) rfl rfl
        refine wpAny_execs_cons (rs_if c R (b := true) ?_ (fun s7 R => ?_))
        · have md := R.j.md rfl
          exact tv_cmp md (hu _) (ev_at c.c (by decide) rfl) (ev_str md) st_gg rfl
        refine wpAny_execs_cons (rs_if c R (b := false) ?_ (fun s7 R => ?_))
        · have md := R.j.md rfl
          exact tv_not (c := true) (tv_ok md (ev_name md rfl rfl) (sg_tr _ hc0) (fun _ => rfl))
        refine wpAny_execs_cons (rs_if c R (b := (c₀ == 32)) ?_ (fun s7 R => ?_))
        · have md := R.j.md rfl
          exact tv_cmp md (hu _) (ev_name md rfl rfl) (ev_at c.c (by decide) rfl) (sg_ws _ hc0) rfl
        by_cases h32 : c₀ = 32
        · rw [if_pos (by simpa using h32)]
          refine wpAny_execs_cons (rs_if c R (b := false) ?_ (fun s7 R => ?_))
          · have md := R.j.md rfl
            exact tv_cmp md (hu _) (ev_at c.c (by decide) rfl) (ev_int md) rfl rfl
          refine wpAny_execs_nil ?_
          show wpAny _ _ (execs (_ :: _) _) _ _ _
          refine wpAny_execs_cons (rs_if c R (b := false) ?_ (fun s7 R => ?_))
          · have md := R.j.md rfl
            exact tv_or_go md (tv_ok md (ev_at c.c (by decide) rfl) (tr_strOf (t := []) (by simp)) (fun _ => rfl)) (tv_or_last md (tv_and_go md (tv_ok md (ev_at c.c (by decide) rfl) rfl (fun _ => rfl)) (tv_and_last md (tv_ok md (ev_name md rfl rfl) rfl (fun _ => rfl)))))
          refine wpAny_execs_cons (wpAny_Continue ?_)
          rw [h32] at hrun
          exact hG _ _ ⟨_, hmeas, .gap, [], false, p + 1, rfl, R.weaken (.cons rfl (.cons rfl subL)) (.cons rfl (.cons rfl .nil)), by simpa [runT] using hrun, by omega, by simp, ⟨rfl, rfl⟩⟩
        rw [if_neg (by simpa using h32)]
        refine wpAny_execs_cons (rs_if c R (b := false) ?_ (fun s7 R => ?_))
        · have md := R.j.md rfl
          exact tv_cmp md (hu _) (ev_name md rfl rfl) (ev_at c.c (by decide) rfl) (sg_co _ hc0) rfl
        refine wpAny_execs_cons (rs_if c R (b := false) ?_ (fun s7 R => ?_))
        · have md := R.j.md rfl
          exact tv_and_go md (tv_ok md (ev_at c.c (by decide) rfl) rfl (fun _ => rfl)) (tv_and_last md (tv_cmp md (hu _) (ev_name md rfl rfl) (ev_at c.c (by decide) rfl) (sg_es _ hc0) rfl))
        have wordy : c₀ ≠ 39 → runT .word [c₀] (buf.cps.toList.drop (p + 1)) = some out := fun h39 => by simpa [runT, h32, h39] using hrun
        refine wpAny_execs_cons (rs_if c R (b := Txt.contains wc ⟨#[c₀]⟩) ?_ (fun s7 R => ?_))
        · have md := R.j.md rfl
          exact tv_cmp md (hu _) (ev_name md rfl rfl) (ev_at c.c (by decide) rfl) rfl rfl
        by_cases hw : Txt.contains wc ⟨#[c₀]⟩ = true
        · rw [if_pos hw]
          have h39 : c₀ ≠ 39 := fun q => by rw [q, hwc] at hw; cases hw
          refine wpAny_execs_cons (rs_setattr (d := .str ⟨#[c₀]⟩) c R ?_ rfl (by decide) rfl rfl (fun s7 R => ?_))
          · exact ev_name (R.j.md rfl) rfl rfl
          show wpAny _ _ (execs (_ :: _) _) _ _ _
          refine wpAny_execs_cons (rs_setattr (d := .str "a") c R ?_ rfl (by decide) rfl rfl (fun s7 R => ?_))
          · exact ev_str (R.j.md rfl)
          repeat refine wpAny_execs_nil ?_
          exact hG _ _ ⟨_, hmeas, .word, [c₀], false, p + 1, rfl, R.weaken (.cons rfl (.cons rfl (Sub.up rfl (Sub.up rfl subL)))) (.cons rfl (.cons rfl .nil)), wordy h39, by omega, by simp, .inl (by simp)⟩
        rw [if_neg hw]
        refine wpAny_execs_cons (rs_if c R (b := false) ?_ (fun s7 R => ?_))
        · have md := R.j.md rfl
          exact tv_cmp md (hu _) (ev_name md rfl rfl) (ev_punct w cc ((aq _).less (by decide)) rfl rfl) (sg_co _ hc0) rfl
        refine wpAny_execs_cons (rs_if c R (b := (c₀ == 39)) ?_ (fun s7 R => ?_))
        · have md := R.j.md rfl
          exact tv_cmp md (hu _) (ev_name md rfl rfl) (ev_at c.c (by decide) rfl) (sg_qu _ hc0) rfl
        by_cases h39 : c₀ = 39
        · rw [if_pos (by simpa using h39)]
          refine wpAny_execs_cons (rs_if c R (b := false) ?_ (fun s7 R => ?_))
          · have md := R.j.md rfl
            exact tv_not (c := true) (tv_ok md (ev_at c.c (by decide) rfl) rfl (fun _ => rfl))
          refine wpAny_execs_nil ?_
          show wpAny _ _ (execs (_ :: _) _) _ _ _
          refine wpAny_execs_cons (rs_setattr (d := .str ⟨#[c₀]⟩) c R ?_ rfl (by decide) rfl rfl (fun s7 R => ?_))
          · exact ev_name (R.j.md rfl) rfl rfl
          repeat refine wpAny_execs_nil ?_
          subst h39
          exact hG _ _ ⟨_, hmeas, .quote, [], false, p + 1, rfl, R.weaken (.cons rfl (.cons rfl (Sub.up rfl subL))) (.cons rfl (.cons rfl .nil)), by simpa [runT] using hrun, by omega, by simp, trivial⟩
        rw [if_neg (by simpa using h39)]
        refine wpAny_execs_cons (rs_if c R (b := true) ?_ (fun s7 R => ?_))
        · have md := R.j.md rfl
          exact tv_ok md (ev_at c.c (by decide) rfl) rfl (fun _ => rfl)
        refine wpAny_execs_cons (rs_setattr (d := .str ⟨#[c₀]⟩) c R ?_ rfl (by decide) rfl rfl (fun s7 R => ?_))
        · exact ev_name (R.j.md rfl) rfl rfl
        show wpAny _ _ (execs (_ :: _) _) _ _ _
        refine wpAny_execs_cons (rs_setattr (d := .str "a") c R ?_ rfl (by decide) rfl rfl (fun s7 R => ?_))
        · exact ev_str (R.j.md rfl)
        repeat refine wpAny_execs_nil ?_
        exact hG _ _ ⟨_, hmeas, .word, [c₀], false, p + 1, rfl, R.weaken (.cons rfl (.cons rfl (Sub.up rfl (Sub.up rfl subL)))) (.cons rfl (.cons rfl .nil)), wordy h39, by omega, by simp, .inl (by simp)⟩
      | quote =>
        refine wpAny_execs_cons (rs_if c R (b := false) ?_ (fun s7 R => ?_))
        · have md := R.j.md rfl
          exact tv_cmp md (hu _) (ev_at c.c (by decide) rfl) (ev_none md) rfl rfl
        refine wpAny_execs_cons (rs_if c R (b := false) ?_ (fun s7 R => ?_))
        · have md := R.j.md rfl
          exact tv_cmp md (hu _) (ev_at c.c (by decide) rfl) (ev_str md) st_qg rfl
        refine wpAny_execs_cons (rs_if c R (b := true) ?_ (fun s7 R => ?_))
        · have md := R.j.md rfl
          exact tv_cmp md (hu _) (ev_at c.c (by decide) rfl) (ev_at c.c (by decide) rfl) st_qq rfl
        refine wpAny_execs_cons (rs_assign (d := .bool true) c R (ev_bool (R.j.md rfl)) rfl rfl (by decide) rfl (fun s7 R => ?_))
        show wpAny _ _ (execs (_ :: _) _) _ _ _
        refine wpAny_execs_cons (rs_if c R (b := false) ?_ (fun s7 R => ?_))
        · have md := R.j.md rfl
          exact tv_not (c := true) (tv_ok md (ev_name md rfl rfl) (sg_tr _ hc0) (fun _ => rfl))
        refine wpAny_execs_nil ?_
        show wpAny _ _ (execs (_ :: _) _) _ _ _
        refine wpAny_execs_cons (rs_if c R (b := (c₀ == 39)) ?_ (fun s7 R => ?_))
        · have md := R.j.md rfl
          exact tv_cmp md (hu _) (ev_name md rfl rfl) (ev_at c.c (by decide) rfl) (sg_q1 _ hc0) rfl
        by_cases h39 : c₀ = 39
        · rw [if_pos (by simpa using h39)]
          refine wpAny_execs_cons (rs_if c R (b := false) ?_ (fun s7 R => ?_))
          · have md := R.j.md rfl
            exact tv_not (c := true) (tv_ok md (ev_at c.c (by decide) rfl) rfl (fun _ => rfl))
          refine wpAny_execs_cons (rs_setattr (d := .str "a") c R ?_ rfl (by decide) rfl rfl (fun s7 R => ?_))
          · exact ev_str (R.j.md rfl)
          repeat refine wpAny_execs_nil ?_
          subst h39
          exact hG _ _ ⟨_, hmeas, .word, t, true, p + 1, rfl, R.weaken (.cons rfl (.cons rfl (Sub.up rfl subL))) (.cons rfl (.cons rfl .nil)), by simpa [runT] using hrun, by omega, by omega, .inr rfl⟩
        rw [if_neg (by simpa using h39)]
        refine wpAny_execs_cons (rs_if c R (b := false) ?_ (fun s7 R => ?_))
        · have md := R.j.md rfl
          exact tv_and_go md (tv_ok md (ev_at c.c (by decide) rfl) rfl (fun _ => rfl)) (tv_and_stop (tv_cmp md (hu _) (ev_name md rfl rfl) (ev_at c.c (by decide) rfl) (sg_es _ hc0) rfl))
        refine wpAny_execs_cons (rs_augattr (x := strOf t) (y := ⟨#[c₀]⟩) c R rfl ?_ (by rw [lenS]; show t.length + 1 ≤ _; omega) (by decide) rfl (fun s7 R => ?_))
        · exact ev_name (R.j.md rfl) rfl rfl
        rw [strOf_snoc] at R
        repeat refine wpAny_execs_nil ?_
        exact hG _ _ ⟨_, hmeas, .quote, (t ++ [c₀]), true, p + 1, rfl, R.weaken (.cons rfl (.cons rfl (Sub.up rfl subL))) (.cons rfl (.cons rfl .nil)), by simpa [runT, h39] using hrun, by omega, by simp; omega, trivial⟩
      | word =>
        refine wpAny_execs_cons (rs_if c R (b := false) ?_ (fun s7 R => ?_))
        · have md := R.j.md rfl
          exact tv_cmp md (hu _) (ev_at c.c (by decide) rfl) (ev_none md) rfl rfl
        refine wpAny_execs_cons (rs_if c R (b := false) ?_ (fun s7 R => ?_))
        · have md := R.j.md rfl
          exact tv_cmp md (hu _) (ev_at c.c (by decide) rfl) (ev_str md) st_ag rfl
        refine wpAny_execs_cons (rs_if c R (b := false) ?_ (fun s7 R => ?_))
        · have md := R.j.md rfl
          exact tv_cmp md (hu _) (ev_at c.c (by decide) rfl) (ev_at c.c (by decide) rfl) st_aq rfl
        refine wpAny_execs_cons (rs_if c R (b := false) ?_ (fun s7 R => ?_))
        · have md := R.j.md rfl
          exact tv_cmp md (hu _) (ev_at c.c (by decide) rfl) (ev_at c.c (by decide) rfl) st_ae rfl
        refine wpAny_execs_cons (rs_if c R (b := true) ?_ (fun s7 R => ?_))
        · have md := R.j.md rfl
          exact tv_in2 md (ev_at c.c (by decide) rfl) rfl rfl
        refine wpAny_execs_cons (rs_if c R (b := false) ?_ (fun s7 R => ?_))
        · have md := R.j.md rfl
          exact tv_not (c := true) (tv_ok md (ev_name md rfl rfl) (sg_tr _ hc0) (fun _ => rfl))
        refine wpAny_execs_cons (rs_if c R (b := (c₀ == 32)) ?_ (fun s7 R => ?_))
        · have md := R.j.md rfl
          exact tv_cmp md (hu _) (ev_name md rfl rfl) (ev_at c.c (by decide) rfl) (sg_ws _ hc0) rfl
        by_cases h32 : c₀ = 32
        · rw [if_pos (by simpa using h32)]
          refine wpAny_execs_cons (rs_if c R (b := false) ?_ (fun s7 R => ?_))
          · have md := R.j.md rfl
            exact tv_cmp md (hu _) (ev_at c.c (by decide) rfl) (ev_int md) rfl rfl
          refine wpAny_execs_nil ?_
          show wpAny _ _ (execs (_ :: _) _) _ _ _
          refine wpAny_execs_cons (rs_setattr (d := .str " ") c R ?_ rfl (by decide) rfl rfl (fun s7 R => ?_))
          · exact ev_str (R.j.md rfl)
          show wpAny _ _ (execs (_ :: _) _) _ _ _
          refine wpAny_execs_cons (rs_if c R (b := true) ?_ (fun s7 R => ?_))
          · have md := R.j.md rfl
            cases t with
            | cons a r => exact tv_or_stop (tv_ok md (ev_at c.c (by decide) rfl) (tr_strOf (by omega)) (fun _ => rfl))
            | nil =>
              have hq : q = true := by rcases hok with h | h; exact absurd rfl h; exact h
              subst hq
              exact tv_or_go md (tv_ok md (ev_at c.c (by decide) rfl) (tr_strOf (t := []) (by simp)) (fun _ => rfl)) (tv_or_last md (tv_and_go md (tv_ok md (ev_at c.c (by decide) rfl) rfl (fun _ => rfl)) (tv_and_last md (tv_ok md (ev_name md rfl rfl) rfl (fun _ => rfl)))))
          refine wpAny_execs_cons (wpAny_Break ?_)
          subst h32
          have e : out = (some t, .gap, buf.cps.toList.drop (p + 1)) := by simpa [runT] using hrun.symm
          subst e
          exact hG _ _ ⟨rfl, t, q, p + 1, R.weaken (.cons rfl (.cons rfl (Sub.up rfl subL))) (.cons rfl .nil), rfl, by omega, by omega, .inr ⟨rfl, hok⟩⟩
        rw [if_neg (by simpa using h32)]
        refine wpAny_execs_cons (rs_if c R (b := false) ?_ (fun s7 R => ?_))
        · have md := R.j.md rfl
          exact tv_cmp md (hu _) (ev_name md rfl rfl) (ev_at c.c (by decide) rfl) (sg_co _ hc0) rfl
        refine wpAny_execs_cons (rs_if c R (b := false) ?_ (fun s7 R => ?_))
        · have md := R.j.md rfl
          exact tv_cmp md (hu _) (ev_at c.c (by decide) rfl) (ev_str md) st_ac rfl
        refine wpAny_execs_cons (rs_if c R (b := (c₀ == 39)) ?_ (fun s7 R => ?_))
        · have md := R.j.md rfl
          exact tv_and_go md (tv_ok md (ev_at c.c (by decide) rfl) rfl (fun _ => rfl)) (tv_and_last md (tv_cmp md (hu _) (ev_name md rfl rfl) (ev_at c.c (by decide) rfl) (sg_qu _ hc0) rfl))
        by_cases h39 : c₀ = 39
        · rw [if_pos (by simpa using h39)]
          refine wpAny_execs_cons (rs_setattr (d := .str ⟨#[c₀]⟩) c R ?_ rfl (by decide) rfl rfl (fun s7 R => ?_))
          · exact ev_name (R.j.md rfl) rfl rfl
          repeat refine wpAny_execs_nil ?_
          subst h39
          exact hG _ _ ⟨_, hmeas, .quote, t, q, p + 1, rfl, R.weaken (.cons rfl (.cons rfl (Sub.up rfl subL))) (.cons rfl (.cons rfl .nil)), by simpa [runT] using hrun, by omega, by omega, trivial⟩
        rw [if_neg (by simpa using h39)]
        refine wpAny_execs_cons (rs_if c R (b := false) ?_ (fun s7 R => ?_))
        · have md := R.j.md rfl
          exact tv_and_go md (tv_ok md (ev_at c.c (by decide) rfl) rfl (fun _ => rfl)) (tv_and_last md (tv_cmp md (hu _) (ev_name md rfl rfl) (ev_at c.c (by decide) rfl) (sg_es _ hc0) rfl))
        refine wpAny_execs_cons (rs_if c R (b := true) ?_ (fun s7 R => ?_))
        · have md := R.j.md rfl
          by_cases hw : Txt.contains wc ⟨#[c₀]⟩ = true
          · exact tv_or_stop (tv_cmp md (hu _) (ev_name md rfl rfl) (ev_at c.c (by decide) rfl) (by rw [← hw]; rfl) rfl)
          · have h39' : (c₀ == 39) = false := by simpa using h39
            refine tv_or_go md (tv_cmp md (hu _) (ev_name md rfl rfl) (ev_at c.c (by decide) rfl) (by show some (Txt.contains wc _) = some false; rw [Bool.eq_false_iff.mpr hw]) rfl) (tv_or_go md (tv_cmp md (hu _) (ev_name md rfl rfl) (ev_at c.c (by decide) rfl) ((sg_qu _ hc0).trans (by rw [h39'])) rfl) (tv_or_last md (tv_and_go md (tv_ok md (ev_at c.c (by decide) rfl) rfl (fun _ => rfl)) (tv_and_last md ?_))))
            exact tv_notin' md (x := "") (y := ⟨#[c₀]⟩) (by rw [sg_np _ hc0]; rfl) (ev_name md rfl rfl) (ev_punct w cc ((aq _).less (by decide)) rfl rfl) rfl
        refine wpAny_execs_cons (rs_augattr (x := strOf t) (y := ⟨#[c₀]⟩) c R rfl ?_ (by rw [lenS]; show t.length + 1 ≤ _; omega) (by decide) rfl (fun s7 R => ?_))
        · exact ev_name (R.j.md rfl) rfl rfl
        rw [strOf_snoc] at R
        repeat refine wpAny_execs_nil ?_
        exact hG _ _ ⟨_, hmeas, .word, (t ++ [c₀]), q, p + 1, rfl, R.weaken (.cons rfl (.cons rfl (Sub.up rfl subL))) (.cons rfl (.cons rfl .nil)), by simpa [runT, h32, h39] using hrun, by omega, by simp; omega, .inl (by simp)⟩
    · have hpe : p = buf.length := by omega
      obtain ⟨hsig, hdrop⟩ := drop_end hpe
      have hmin : min (p + 1) buf.length = p := by omega
      rw [hsig, hmin] at R
      rw [hdrop] at hrun
      refine wpAny_execs_cons (rs_if c R (b := false) ?_ (fun s7 R => ?_))
      · have md := R.j.md rfl
        exact tv_cmp md (hu _) (ev_name md rfl rfl) (ev_str md) nl_e rfl
      refine wpAny_execs_nil ?_
      show wpAny _ _ (execs (_ :: _) _) _ _ _
      refine wpAny_execs_cons (rs_if c R (b := false) ?_ (fun s7 R => ?_))
      · have md := R.j.md rfl
        exact tv_cmp md (hu _) (ev_at c.c (by decide) rfl) (ev_int md) rfl rfl
      refine wpAny_execs_nil ?_
      show wpAny _ _ (execs (_ :: _) _) _ _ _
      cases st with
      | fin =>
        obtain ⟨rfl, rfl, _⟩ := hok
        refine wpAny_execs_cons (rs_if c R (b := true) ?_ (fun s7 R => ?_))
        · have md := R.j.md rfl
          exact tv_cmp md (hu _) (ev_at c.c (by decide) rfl) (ev_none md) rfl rfl
        refine wpAny_execs_cons (rs_setattr (d := .str "") c R ?_ rfl (by decide) rfl rfl (fun s7 R => ?_))
        · exact ev_str (R.j.md rfl)
        show wpAny _ _ (execs (_ :: _) _) _ _ _
        refine wpAny_execs_cons (wpAny_Break ?_)
        have e : out = (none, .fin, []) := by simpa [runT] using hrun.symm
        subst e
        exact hG _ _ ⟨rfl, [], false, p, R.weaken (.cons rfl (.cons rfl (Sub.up rfl subL))) (.cons rfl .nil), hdrop, hp, by simp, .inl ⟨rfl, rfl, rfl⟩⟩
      | gap =>
        obtain ⟨rfl, rfl⟩ := hok
        refine wpAny_execs_cons (rs_if c R (b := false) ?_ (fun s7 R => ?_))
        · have md := R.j.md rfl
          exact tv_cmp md (hu _) (ev_at c.c (by decide) rfl) (ev_none md) rfl rfl
        refine wpAny_execs_cons (rs_if c R (b := true) ?_ (fun s7 R => ?_))
        · have md := R.j.md rfl
          exact tv_cmp md (hu _) (ev_at c.c (by decide) rfl) (ev_str md) st_gg rfl
        refine wpAny_execs_cons (rs_if c R (b := true) ?_ (fun s7 R => ?_))
        · have md := R.j.md rfl
          exact tv_not (c := false) (tv_ok md (ev_name md rfl rfl) tr_e (fun _ => rfl))
        refine wpAny_execs_cons (rs_setattr (d := .none) c R ?_ rfl (by decide) rfl rfl (fun s7 R => ?_))
        · exact ev_none (R.j.md rfl)
        show wpAny _ _ (execs (_ :: _) _) _ _ _
        refine wpAny_execs_cons (wpAny_Break ?_)
        have e : out = (none, .fin, []) := by simpa [runT] using hrun.symm
        subst e
        exact hG _ _ ⟨rfl, [], false, p, R.weaken (.cons rfl (.cons rfl (Sub.up rfl subL))) (.cons rfl .nil), hdrop, hp, by simp, .inl ⟨rfl, rfl, rfl⟩⟩
      | quote => cases hrun
      | word =>
        refine wpAny_execs_cons (rs_if c R (b := false) ?_ (fun s7 R => ?_))
        · have md := R.j.md rfl
          exact tv_cmp md (hu _) (ev_at c.c (by decide) rfl) (ev_none md) rfl rfl
        refine wpAny_execs_cons (rs_if c R (b := false) ?_ (fun s7 R => ?_))
        · have md := R.j.md rfl
          exact tv_cmp md (hu _) (ev_at c.c (by decide) rfl) (ev_str md) st_ag rfl
        refine wpAny_execs_cons (rs_if c R (b := false) ?_ (fun s7 R => ?_))
        · have md := R.j.md rfl
          exact tv_cmp md (hu _) (ev_at c.c (by decide) rfl) (ev_at c.c (by decide) rfl) st_aq rfl
        refine wpAny_execs_cons (rs_if c R (b := false) ?_ (fun s7 R => ?_))
        · have md := R.j.md rfl
          exact tv_cmp md (hu _) (ev_at c.c (by decide) rfl) (ev_at c.c (by decide) rfl) st_ae rfl
        refine wpAny_execs_cons (rs_if c R (b := true) ?_ (fun s7 R => ?_))
        · have md := R.j.md rfl
          exact tv_in2 md (ev_at c.c (by decide) rfl) rfl rfl
        refine wpAny_execs_cons (rs_if c R (b := true) ?_ (fun s7 R => ?_))
        · have md := R.j.md rfl
          exact tv_not (c := false) (tv_ok md (ev_name md rfl rfl) tr_e (fun _ => rfl))
        refine wpAny_execs_cons (rs_setattr (d := .none) c R ?_ rfl (by decide) rfl rfl (fun s7 R => ?_))
        · exact ev_none (R.j.md rfl)
        show wpAny _ _ (execs (_ :: _) _) _ _ _
        refine wpAny_execs_cons (wpAny_Break ?_)
        have e : out = (some t, .fin, []) := by simpa [runT] using hrun.symm
        subst e
        exact hG _ _ ⟨rfl, t, q, p, R.weaken (.cons rfl (.cons rfl (Sub.up rfl subL))) (.cons rfl .nil), hdrop, hp, by omega, .inr ⟨rfl, hok⟩⟩
  case rest =>
    rintro r s3 ⟨rfl, ⟨t, q, p', R, hdrop, hp', htl, hres⟩⟩
    show wpAny _ _ (execs (_ :: _) _) _ _ _
    have lenS : ∀ t : List Nat, (strOf t).length = t.length := fun t => by show t.toArray.size = _; simp
    refine wpAny_execs_cons (rs_assign (d := .str (strOf t)) c R ?_ rfl rfl (by decide) rfl (fun s7 R => ?_))
    · exact ev_at c.c (by decide) rfl
    show wpAny _ _ (execs (_ :: _) _) _ _ _
    refine wpAny_execs_cons (rs_setattr (d := .str Str.empty) c R ?_ rfl (by decide) rfl rfl (fun s7 R => ?_))
    · exact ev_str (R.j.md rfl)
    show wpAny _ _ (execs (_ :: _) _) _ _ _
    refine wpAny_execs_cons (rs_if c R (b := !q && t.isEmpty) ?_ (fun s7 R => ?_))
    · have md := R.j.md rfl
      refine tv_and_go md (tv_ok md (ev_at c.c (by decide) rfl) rfl (fun _ => rfl)) ?_
      cases q with
      | true => exact tv_and_stop (tv_not (c := true) (tv_ok md (ev_name md rfl rfl) rfl (fun _ => rfl)))
      | false => exact tv_and_go md (tv_not (c := false) (tv_ok md (ev_name md rfl rfl) rfl (fun _ => rfl))) (tv_and_last md (tv_cmp md (hu _) (ev_name md rfl rfl) (ev_str md) (eq_empty t) rfl))
    refine wpAny_mono (Q := fun f s' => f = .next ∧ RS base (rtEnv L) X DX Y DY s buf p' (lexS out.2.1.val Str.empty wc) (lexB Y PB FS) [("result", resD out.1)] s') ?_ (fun f s9 h9 => ?_) (fun _ _ e => e)
    · rcases hres with ⟨h1, rfl, rfl⟩ | ⟨h1, h2⟩
      · rw [if_pos (by rfl)]
        refine wpAny_execs_cons (rs_assign (d := .none) c R (ev_none (R.j.md rfl)) rfl rfl (by decide) rfl (fun s7 R => ?_))
        refine wpAny_execs_nil ⟨rfl, ?_⟩
        rw [h1]
        exact R.weaken (.cons rfl (.cons rfl (Sub.up rfl subL))) (.cons rfl .nil)
      · have hb : (!q && t.isEmpty) = false := by
          rcases h2 with h | h
          · cases t with
            | nil => exact absurd rfl h
            | cons _ _ => simp
          · rw [h]; rfl
        rw [hb]
        refine wpAny_execs_nil ⟨rfl, ?_⟩
        rw [h1]
        exact R.weaken (.cons rfl (.cons rfl (Sub.up rfl subL))) (.cons rfl .nil)
    obtain ⟨rfl, R⟩ := h9
    show wpAny _ _ (execs (_ :: _) _) _ _ _
    refine wpAny_execs_cons (rs_if c R (b := false) ?_ (fun s7 R => ?_))
    · have md := R.j.md rfl
      exact tv_cmp md (hu _) (ev_at c.c (by decide) rfl) (ev_int md) rfl rfl
    refine wpAny_execs_nil ?_
    show wpAny _ _ (execs (_ :: _) _) _ _ _
    refine wpAny_execs_cons (wpAny_Return_some (ev_use (d := resD out.1) (R := Keeps) R.j ?_ (fun v s10 hv k10 => ?_)))
    · exact ev_name (R.j.md rfl) rfl rfl
    replace R := R.keeps k10
    refine hQ s10 v p' (fv_of hv ?_) R.j.own R.io hp' hdrop (R.k.drop hnone)
    cases out.1 <;> rfl
end Mine

set_option maxRecDepth 100000
namespace Mine
noncomputable abbrev dqObj : Obj := { cls := .type "collections.deque", dict := none, data := .fields #[.none, rawInt 0] }
theorem dq_noBool : typeLookup (.type "collections.deque") "__bool__" = pure none := by rw [typeLookup_type, builtinLookup_eq_fast]; kernel_rfl
theorem dq_slotLen : Slot "collections.deque" "__len__" "collections.deque.__len__" :=
  .of (owner := "collections.deque") (n := "__len__") (by rw [typeLookup_type, builtinLookup_eq_fast]; kernel_rfl) (by decide +kernel) (by decide +kernel) (by decide +kernel)
    (by first | exact .inl (by decide +kernel) | exact .inr (by decide +kernel)) (by rw [isSubtype_type]; kernel_rfl)
theorem dq_slotInit : Slot "collections.deque" "__init__" "collections.deque.__init__" :=
  .of (owner := "collections.deque") (n := "__init__") (by rw [typeLookup_type, builtinLookup_eq_fast]; kernel_rfl) (by decide +kernel) (by decide +kernel) (by decide +kernel)
    (by first | exact .inl (by decide +kernel) | exact .inr (by decide +kernel)) (by rw [isSubtype_type]; kernel_rfl)
theorem dq_entryLen : entryFor table "collections.deque.__len__" = some Builtin.«collections.deque.__len__» := entryFor_of_tree (by kernel_rfl)
theorem dq_entryInit : entryFor table "collections.deque.__init__" = some Builtin.«collections.deque.__init__» := entryFor_of_tree (by kernel_rfl)
theorem dq_entryNew : entryFor table "collections.deque.__new__" = some Builtin.«collections.deque.__new__» := entryFor_of_tree (by kernel_rfl)
theorem dq_argsLen (a : Value) : argsOk "collections.deque.__len__" ⟨[a], []⟩ := by unfold argsOk; kernel_rfl
theorem dq_argsInit (a : Value) : argsOk "collections.deque.__init__" ⟨[a], []⟩ := by unfold argsOk; kernel_rfl
theorem dq_notType : (Value.type "collections.deque" == Value.type "type") = false := by decide +kernel
theorem dq_canMake : ((Manifest.find? "collections.deque").bind fun x => List.findSome? (fun t => (Manifest.find? t).bind fun b =>
    if b.noNew = true then some true else if (b.attrs.any fun x => x.fst == "__new__") = true then some false else none) x.mro).getD false = false := by kernel_rfl
theorem dq_check : checkTypeCall "collections.deque" ⟨[], []⟩ = pure () := by kernel_rfl
theorem dq_mro : mroOf (.type "collections.deque") = pure [.type "collections.deque", .type "object"] := by rw [mroOf_type]; kernel_rfl
theorem dq_madeBy : Bind.madeBy (.type "collections.deque") = pure (some "collections.deque.__new__") := by kernel_rfl
theorem dq_newOk : checkBuiltinCall "collections.deque.__new__" ⟨[.type "collections.deque"], []⟩ = pure () := by kernel_rfl
theorem dq_sub : isSubtype (.type "collections.deque") (.type "collections.deque") = pure true := by rw [isSubtype_type]; kernel_rfl
theorem dq_isType : isType (.type "collections.deque") = pure true := by first | rfl | kernel_rfl | (unfold isType; rw [isSubtype_type]; kernel_rfl)
theorem dq_hasDict : typeHasDict (.type "collections.deque") = false := by decide +kernel
section
variable {prog : Program} {w : World} {A : Around} {E : Value → Shared → Prop} {s : Shared}
theorem dq_truthy {l : Addr} {Q : Bool → Shared → Prop} (hl : s.heap.get? l = some dqObj) (h : Q false { s with toks := s.toks + 1 + 1 }) : wpAny (model prog w) A (truthy (.ref l)) Q E s := by
  have hT : s.TypeIs (.ref l) "collections.deque" := ⟨_, hl, rfl⟩
  have body : ∀ A', wpAny (model prog w) A' (Builtin.«len» ⟨[.ref l], []⟩) (fun fin s' => ∃ r, fin = .done (.ret r) ∧ r = .int 0 (s.toks + 1) ∧ Q false s') E s := by
    intro A'
    unfold Builtin.«len»
    refine wpAny_bind (m := oneArg "len" _) (wpAny_pure ?_)
    refine wpAny_bind (m := callSpecial? (.ref l) (Str.ofString "__len__")) (wpAny_callSpecial?_slot (name := Str.ofString "__len__") hT dq_slotLen
      (wpAny_call_entry dq_slotLen hT dq_entryLen ?_ (dq_argsLen _)))
    show wpAny _ _ (do retInt (← Builtin.Deque.size (.ref l))) _ _ s
    unfold Builtin.Deque.size
    refine wpAny_bind (wpAny_bind (wpAny_fieldsOf hl rfl (wpAny_pure ?_)))
    refine wpAny_bind (wpAny_mkInt (wpAny_pure ⟨_, rfl, ?_⟩))
    refine wpAny_bind (wpAny_holding (wpAny_pure ?_))
    refine wpAny_bind (wpAny_letGo ?_)
    exact wpAny_bind (wpAny_mkInt (wpAny_pure ⟨_, rfl, rfl, h⟩))
  have key : wpAny (model prog w) A (runValue (.builtin "len" ⟨[.ref l], []⟩)) (fun r s' => r = .int 0 (s.toks + 1) ∧ Q false s') E s := by
    refine wpAny_runValue (codeAny_builtin entry_len ?_)
    rw [Around.under_plainId plain_len _]
    exact wpAny_mono (body _) (fun fin s' h' => by obtain ⟨r, rfl, hq⟩ := h'; exact hq) fun _ _ e => e
  unfold truthy
  first
    | refine wpAny_bind (wpAny_callSpecial?_none (name := Str.ofString "__bool__") hT dq_noBool ?_)
    | refine wpAny_bind (wpAny_pure (wpAny_bind (wpAny_callSpecial?_none (name := Str.ofString "__bool__") hT dq_noBool ?_)))
  first
    | refine wpAny_bind (wpAny_specialOf (name := Str.ofString "__len__") hT dq_slotLen.lookup ?_)
    | refine wpAny_bind (wpAny_pure (wpAny_bind (wpAny_specialOf (name := Str.ofString "__len__") hT dq_slotLen.lookup ?_)))
  first
    | exact wpAny_bind (wpAny_mono key (fun r s' h' => by obtain ⟨rfl, hq⟩ := h'; exact wpAny_pure hq) fun _ _ e => e)
    | exact wpAny_bind (wpAny_pure (wpAny_bind (wpAny_mono key (fun r s' h' => by obtain ⟨rfl, hq⟩ := h'; exact wpAny_pure hq) fun _ _ e => e)))
theorem dq_init {a : Addr} {Q : Fin → Shared → Prop} (ha : s.heap.get? a = some dqObj) (h : ∀ h', h'.get? a = some dqObj → (∀ b o, s.heap.get? b = some o → h'.get? b = some o) → Q (.done (.ret .none)) { s with heap := h' }) :
    wpAny (model prog w) A (Builtin.«collections.deque.__init__» ⟨[.ref a], []⟩) Q E s := by
  unfold Builtin.«collections.deque.__init__»
  dsimp only [List.length_nil, List.isEmpty_nil]
  rw [if_neg (by decide)]
  refine wpAny_bind (wpAny_pure ?_)
  refine wpAny_bind (wpAny_pure ?_)
  refine wpAny_bind (wpAny_pure ?_)
  refine wpAny_bind (wpAny_setField ha rfl (by decide) ?_)
  have e : (s.heap.update a (Obj.mapFields (·.setIfInBounds 0 Value.none))).get? a = some dqObj := (Heap.get?_update_self _ ha rfl).trans rfl
  unfold Builtin.Deque.clear Builtin.Deque.items
  refine wpAny_bind (wpAny_bind (wpAny_bind (wpAny_fieldsOf e rfl (wpAny_pure ?_))))
  rw [if_neg (by decide)]
  refine wpAny_pure (wpAny_pure (h _ e fun b o q => ?_))
  by_cases z : b = a
  · rw [z] at q ⊢; rw [ha] at q; cases q; exact e
  · exact (Heap.get?_update_other _ _ (Ne.symm z)).trans q
set_option maxHeartbeats 4000000 in
theorem dq_call {Q : Value → Shared → Prop} (h : ∀ a h', (∀ b o, s.heap.get? b = some o → h'.get? b = some o) → s.heap.get? a = none → h'.get? a = some dqObj → Q (.ref a) { s with heap := h' }) : wpAny (model prog w) A (call (.type "collections.deque") []) Q E s := by
  obtain ⟨hp, g, d, tk, os⟩ := s
  refine wpAny_call (codeAny_of_tree ?_)
  show wpAny _ _ (callAny (.type "collections.deque") ⟨[], []⟩) _ _ _
  simp only [callAny]
  refine wpAny_pure ⟨Code.quiet_builtin _ (by decide +kernel), codeAny_builtin entry_type_call ?_⟩
  have hnt := dq_notType
  have hcan := dq_canMake
  have hchk := dq_check
  have hmro := dq_mro
  have hmade := dq_madeBy
  wp_walk
  refine codeAny_call_builtin_code (Code.quiet_builtin _ (by decide +kernel)) ?_
  rw [dq_newOk]
  refine wpAny_pure ?_
  refine codeAny_builtin dq_entryNew ?_
  unfold Builtin.«collections.deque.__new__»
  refine wpAny_bind ?_
  unfold Builtin.Deque.newArgs
  dsimp only
  rw [dq_isType]
  refine wpAny_bind (wpAny_pure ?_)
  rw [if_neg (by decide)]
  show wpAny _ _ (isSubtype (.type "collections.deque") (.type "collections.deque") >>= _) _ _ _
  rw [dq_sub]
  refine wpAny_bind (wpAny_pure ?_)
  rw [if_neg (by decide)]
  refine wpAny_pure ?_
  dsimp only
  unfold Builtin.Deque.new
  refine wpAny_bind ?_
  rw [if_neg (by decide), dq_hasDict, if_neg (by decide)]
  refine wpAny_bind (wpAny_pure ?_)
  refine wpAny_newObj_type (wpAny_pure ?_) (by unfold sizeOk; decide)
  dsimp only
  have hget : (hp.push dqObj).get? hp.objs.size = some dqObj := Heap.get?_push_size _ rfl
  have hT : ({ heap := hp.push dqObj, gens := g, drawn := d, toks := tk, os := os } : Shared).TypeIs (.ref hp.objs.size) "collections.deque" := ⟨_, hget, rfl⟩
  refine wpAny_bind (wpAny_isInstance hT dq_sub ?_)
  rw [if_neg (by decide)]
  refine wpAny_bind (wpAny_holding (wpAny_callSpecial?_slot (name := Str.ofString "__init__") hT dq_slotInit (wpAny_call_entry dq_slotInit hT dq_entryInit (dq_init hget fun h' e k => ⟨.none, rfl, ?_⟩) (dq_argsInit _))))
  dsimp only
  rw [if_neg (by decide)]
  exact wpAny_pure (h _ h' (fun b o q => k b o (Heap.get?_push_of_some _ q)) (Heap.get?_none_of_le (Nat.le_refl _)) e)
end
end Mine

namespace Mine
theorem MX.renew {base : Heap} {env : Env} {x dx C : Addr} {names : List Str} {α α' : Rho} {β β' : List (Str × Addr)} {ρ : Rho} {ws : List Addr} {s s' : Shared} (J : MX base env x dx C names α β ρ s) (k : Km ws s s') (O : OwnA s'.heap x dx C names α' β') (h1 : env.locals ∉ ws) (hb : ∀ b ∈ ws, base.get? b = none) : MX base env x dx C names α' β' ρ s' := by
  obtain ⟨m, σ, j, hs, hn, _⟩ := J
  obtain ⟨σ', O', a, b⟩ := O
  exact ⟨m, σ', ⟨j.st.km k hb, j.ns.at' fun _ e => k.get h1 e, O'⟩, hs, hn, a, b⟩
theorem mx_local {prog : Program} {w : World} {K : Frag} {A : Around} {base : Heap} {env : Env} {x dx C : Addr} {names : List Str} {α : Rho} {β : List (Str × Addr)} {ρ : Rho} {s : Shared} {E : Value → Shared → Prop} {Q : Unit → Shared → Prop} {y : Str} {v : Value} {d : PyData}
    (c : MC prog K base env dx C names) (J : MX base env x dx C names α β ρ s) (hv : FV v d) (hy : env.kindOf y = some .local) (hne : ("self" : Str) ≠ y) (h : ∀ s', MX base env x dx C names α β ((y, d) :: ρ) s' → Km [env.locals] s s' → Q () s') : wpAny (model prog w) A (storeName env y v) Q E s := by
  obtain ⟨m, σ, j, hself, hn, hα, hβ⟩ := J
  exact mj_local j rfl c.hk hy c.bL c.ne fun s' j' k' => h s' ⟨_, σ, j', (if_neg hne).trans hself, hn.upd hy hv, hα, hβ⟩ k'
theorem ms_tv_dq {prog : Program} {w : World} {K : Frag} {A : Around} {base : Heap} {env : Env} {x dx C : Addr} {names : List Str} {α : Rho} {β : List (Str × Addr)} {ρ : Rho} {s : Shared} {E : Value → Shared → Prop} {Q : Bool → Shared → Prop} {a : Str} {r : Addr} {np pos : Pos}
    (c : MC prog K base env dx C names) (J : MX base env x dx C names α β ρ s) (ha : a ∈ names) (hv : β.lookup a = some r) (hr : s.heap.get? r = some dqObj) (h : ∀ s', Keeps s s' → MX base env x dx C names α β ρ s' → Q false s')
    (he : ∀ whole, isTrue (.Attribute (.Name "self" np) a pos) env whole = (do let v ← whole; standAt pos; holding [v] (truthy v)) := by intro _; rfl) :
    wpAny (model prog w) A (isTrue (.Attribute (.Name "self" np) a pos) env (eval (.Attribute (.Name "self" np) a pos) env)) Q E s := by
  refine wpAny_isTrue_value (at_ref c ha hv J (fun s' k J' => ?_)) (he _)
  refine dq_truthy ?_ (h _ (keeps_trans k (keeps_tok s' (s'.toks + 1 + 1))) (J'.keeps (keeps_tok s' _)))
  obtain ⟨h', t, rfl, kk⟩ := k
  exact kk _ _ hr
structure LX (h : Heap) (X DX Y DY PB FS : Addr) (wc buf : Str) (st : LexSt) (p : Nat) : Prop where
  o : OwnA h X DX 753 lexNames (lexS st.val Str.empty wc) (lexB Y PB FS)
  i : IO h Y DY buf p
  pb : h.get? PB = some dqObj
  fs : h.get? FS = some dqObj
  n3 : Y ≠ DX
  n4 : DY ≠ DX
  n5 : X ≠ DY
  hp : p ≤ buf.length
  ok : LxOk st p buf.length
theorem LX.pbn {h : Heap} {X DX Y DY PB FS : Addr} {wc buf : Str} {st : LexSt} {p : Nat} (x : LX h X DX Y DY PB FS wc buf st p) : PB ∉ [DX, DY] ∧ FS ∉ [DX, DY] := by
  obtain ⟨σ, ⟨_, ⟨o, es, ep, ho, hd, _⟩, _⟩, _⟩ := x.o
  obtain ⟨σ', ⟨_, ⟨o', es', ep', ho', hd', _⟩, _⟩, _⟩ := x.i
  have key : ∀ b, h.get? b = some dqObj → b ∉ [DX, DY] := fun b e q => by
    simp only [List.mem_cons, List.not_mem_nil, or_false] at q
    rcases q with q | q
    · rw [q, ho] at e; cases e; cases hd
    · rw [q, ho'] at e; cases e; cases hd'
  exact ⟨key _ x.pb, key _ x.fs⟩
theorem LX.keeps {s s' : Shared} {X DX Y DY PB FS : Addr} {wc buf : Str} {st : LexSt} {p : Nat} (x : LX s.heap X DX Y DY PB FS wc buf st p) (k : Keeps s s') : LX s'.heap X DX Y DY PB FS wc buf st p := by
  refine ⟨x.o.keeps k, x.i.keeps k, ?_, ?_, x.n3, x.n4, x.n5, x.hp, x.ok⟩
  · obtain ⟨h', t, rfl, kk⟩ := k; exact kk _ _ x.pb
  · obtain ⟨h', t, rfl, kk⟩ := k; exact kk _ _ x.fs
set_option maxRecDepth 100000 in
set_option maxHeartbeats 4000000 in
theorem get_token_ok (w : World) {base : Heap} {A : Around} {s : Shared} {E : Value → Shared → Prop} {Q : Value → Shared → Prop} {X DX Y DY PB FS : Addr} {wc buf : Str} {p : Nat} {st : LexSt} {out : Option (List Nat) × LexSt × List Nat}
    (W : Wd (hd.heap_39 w.params) base) (a : AQ A 6) (hst : KeepF [] base s.heap) (bX : base.get? DX = none) (bY : base.get? DY = none) (x : LX s.heap X DX Y DY PB FS wc buf st p) (hl : buf.length ≤ 1000) (hsg : ∀ c ∈ buf.cps.toList, c ∈ signs) (hwc : Txt.contains wc ⟨#[39]⟩ = false)
    (hrun : runT st [] (buf.cps.toList.drop p) = some out) (hfin : out.2.1 = .gap ∨ (out.2.1 = .fin ∧ out.2.2 = []))
    (hQ : ∀ s' v p', FV v (resD out.1) → LX s'.heap X DX Y DY PB FS wc buf out.2.1 p' → buf.cps.toList.drop p' = out.2.2 → Km [DX, DY] s s' → Q v s') :
    wpAny (model PySem.Challenge.rw_oy0388_01.prog w) A (call (.ref 714) [.ref X]) Q E s := by
  have kf : (fun _ : Program => (hd.heap_39 w.params).lookup 0) PySem.Challenge.rw_oy0388_01.prog = (hd.heap_39 w.params).lookup 0 := by
    k_fill
    rfl
  clear kf
  refine' call_def (f := 714) (args := ⟨[.ref X], []⟩) (binds := [("self", .ref X)]) ?ho ?hcd ?hbind ?hkind ?hco ?hgen ?hk W ?hd hst ?h
  case ho => k_is
  case hcd => k_is
  case hbind => exact BindsTo.of_eq rfl
  case hkind => rfl
  case hco => rfl
  case hgen => rfl
  case hk => rfl
  case hd => have := a.depth; omega
  intro h₁ tk kk hn
  have hnone := none_size s.heap
  have hlX := own_ne x.o
  have hlY := own_ne x.i
  generalize hL : s.heap.objs.size = L at *
  have hbn := base_none hst hnone
  refine mx_start [] hst kk hn x.o rfl .nil (lex_mc W rfl rfl hbn bX (Nat.ne_of_lt hlX)) (fun c J => ?_)
  have K0 : Km [L, DX, DY] s { s with heap := h₁, toks := tk } := .of_keeps ⟨h₁, tk, rfl, kk⟩
  have x1 : LX h₁ X DX Y DY PB FS wc buf st p := x.keeps (s' := { s with heap := h₁, toks := tk }) ⟨h₁, tk, rfl, kk⟩
  have hu : ∀ env, (A.deeper env).units + 64 < cLine := fun env => by have := a.units; rw [units_deeper]; omega
  have aq : ∀ env, AQ (A.deeper env) 5 := fun env => aq_deep a
  -- if self.pushback
  refine wpAny_execs_cons (wpAny_If (ms_tv_dq (r := PB) c J (by decide) rfl x1.pb (fun s2 k2 J2 => ?_)))
  have x2 := x1.keeps (s := { s with heap := h₁, toks := tk }) k2
  rw [if_neg (by decide)]
  refine wpAny_execs_nil ?_
  show wpAny _ _ (execs (_ :: _) _) _ _ _
  -- raw = self.read_token()
  refine wpAny_execs_cons (wpAny_Assign_Name (MethodCall_ (self_name c J2 (self_meth c J2 (m_read_token w) (by decide) (callWith_K0 (W.in J2.st) (by k_is) ?_)))) rfl)
  refine read_token_ok w W (aq _) J2.st bX bY x2.n3 x2.n4 x2.n5 x2.o x2.i x2.hp hl hsg hwc hrun x2.ok (fun s3 v p' hv O3 I3 hp' hd' k3 => ?_)
  have J3 := J2.renew k3 O3 (by simp; exact ⟨Ne.symm (Nat.ne_of_lt hlX), Ne.symm (Nat.ne_of_lt hlY)⟩) (by simp; exact ⟨bX, bY⟩)
  refine mx_local c J3 hv rfl (by decide) (fun s4 J4 k4 => ?_)
  replace k4 : Km [L] s3 s4 := k4
  have K4 : Km [L, DX, DY] s s4 := ((K0.trans (.of_keeps k2)).trans (k3.sub (by simp))).trans (k4.sub (by simp))
  have x4 : LX s4.heap X DX Y DY PB FS wc buf out.2.1 p' := by
    have hLY : ∀ b o, s2.heap.get? b = some o → b ≠ DX → b ≠ DY → b ≠ L → s4.heap.get? b = some o := fun b o e n1 n2 n3 => k4.get (by simpa using n3) (k3.get (by simp; exact ⟨n1, n2⟩) e)
    have nL : ∀ b o, s.heap.get? b = some o → b ≠ L := fun b o e q => by rw [q, hnone] at e; cases e
    have npb := x2.pbn
    simp only [List.mem_cons, List.not_mem_nil, or_false, not_or] at npb
    obtain ⟨σ', O', _⟩ := id x.i
    refine ⟨J4.own, I3.km k4 ?_ ?_, hLY _ _ x2.pb npb.1.1 npb.1.2 (nL _ _ x.pb), hLY _ _ x2.fs npb.2.1 npb.2.2 (nL _ _ x.fs), x2.n3, x2.n4, x2.n5, hp', ?_⟩
    · simpa using nL _ _ O'.obj
    · simpa using Nat.ne_of_lt hlY
    · rcases hfin with h | ⟨h, h2⟩
      · rw [h]; trivial
      · rw [h]
        show p' = buf.length
        rw [h2] at hd'
        have := List.drop_eq_nil_iff.mp hd'
        rw [Array.length_toList] at this
        exact Nat.le_antisymm hp' this
  show wpAny _ _ (execs (_ :: _) _) _ _ _
  refine wpAny_execs_cons (ms_if c J4 (b := false) ?_ (fun s5 J5 k5 => ?_))
  · have md := J4.md rfl
    exact tv_notNone md nn_none (ev_at c (by decide) rfl)
  refine wpAny_execs_nil ?_
  show wpAny _ _ (execs (_ :: _) _) _ _ _
  replace x4 := x4.keeps k5
  replace K4 := K4.trans (.of_keeps k5)
  -- while raw == self.eof
  refine wpAny_execs_cons (wpAny_While (codeAny_whileLoop (fun n s' => n = 0 ∧ s' = s5) ?_ 0 ⟨rfl, rfl⟩))
  rintro n s' ⟨rfl, rfl⟩
  cases hout : out.1 with
  | none =>
    rw [hout] at J5 hv
    refine et_use (b := true) (R := Keeps) J5 ?_ (fun s6 k6 => ?_)
    · have md := J5.md rfl
      exact tv_cmp md (hu _) (ev_name md rfl rfl) (ev_at c (by decide) rfl) rfl rfl
    rw [if_pos rfl]
    have J6 := J5.keeps k6
    replace x4 := x4.keeps k6
    refine wpAny_execs_cons (wpAny_If (isTrue_not (ms_tv_dq (r := FS) c J6 (by decide) rfl x4.fs (fun s7 k7 J7 => ?_))))
    rw [if_pos (by rfl)]
    replace x4 := x4.keeps k7
    refine wpAny_execs_cons (wpAny_Return_some (ev_use (d := .none) (R := Keeps) J7 ?_ (fun v' s8 hv' k8 => ?_)))
    · exact ev_at c (by decide) rfl
    refine hQ s8 v' p' (by rw [hout]; exact fv_of hv' rfl) (x4.keeps k8) hd' ((((K4.trans (.of_keeps k6)).trans (.of_keeps k7)).trans (.of_keeps k8)).drop hnone)
  | some t =>
    rw [hout] at J5 hv
    refine et_use (b := false) (R := Keeps) J5 ?_ (fun s6 k6 => ?_)
    · have md := J5.md rfl
      exact tv_cmp md (hu _) (ev_name md rfl rfl) (ev_at c (by decide) rfl) rfl rfl
    rw [if_neg (by decide)]
    have J6 := J5.keeps k6
    replace x4 := x4.keeps k6
    refine wpAny_execs_nil ?_
    show wpAny _ _ (execs (_ :: _) _) _ _ _
    refine wpAny_execs_cons (ms_if c J6 (b := false) ?_ (fun s7 J7 k7 => ?_))
    · have md := J6.md rfl
      exact tv_cmp md (hu _) (ev_at c (by decide) rfl) (ev_int md) rfl rfl
    refine wpAny_execs_nil ?_
    show wpAny _ _ (execs (_ :: _) _) _ _ _
    replace x4 := x4.keeps k7
    refine wpAny_execs_cons (wpAny_Return_some (ev_use (d := resD (some t)) (R := Keeps) J7 ?_ (fun v' s8 hv' k8 => ?_)))
    · exact ev_name (J7.md rfl) rfl rfl
    refine hQ s8 v' p' (by rw [hout]; exact fv_of hv' rfl) (x4.keeps k8) hd' ((((K4.trans (.of_keeps k6)).trans (.of_keeps k7)).trans (.of_keeps k8)).drop hnone)
end Mine

namespace Mine
noncomputable def Ke (fs ws : List Addr) (s s' : Shared) : Prop := ∃ h tk, s' = { s with heap := h, toks := tk } ∧ ∀ b o, b ∉ ws → s.heap.get? b = some o → (b ∉ fs → h.get? b = some o) ∧ ∃ sl, h.get? b = some { o with slots := sl }
theorem frs_at {h h' base : Heap} : ∀ {l : List Env}, h.FunFrames base l → (∀ b ∈ fsOf l, ∀ o, h.get? b = some o → ∃ sl, h'.get? b = some { o with slots := sl }) → h'.FunFrames base l
  | [], _, _ => trivial
  | e :: r, ⟨a, ⟨L, o, b, c, d, f⟩, g⟩, k => by
    obtain ⟨sl, e'⟩ := k L (by unfold fsOf; rw [List.filterMap_cons, b]; exact .head _) o d
    refine ⟨a, ⟨L, _, b, c, e', f⟩, frs_at g fun p hp => k p ?_⟩
    unfold fsOf; rw [List.filterMap_cons, b]; exact List.mem_cons_of_mem _ hp
theorem mx_frs {prog : Program} {K : Frag} {base : Heap} {env : Env} {x dx C : Addr} {names : List Str} {α : Rho} {β : List (Str × Addr)} {ρ : Rho} {s : Shared} {l : List Env} (c : MC prog K base env dx C names) (J : MX base env x dx C names α β ρ s) (hf : env.frame = some env.locals) (F : s.heap.FunFrames base l) : s.heap.FunFrames base (env :: l) := by
  obtain ⟨m, σ, j, _⟩ := J
  exact Heap.FunFrames.cons (by rw [c.hk]; simp) hf j.ns c.bL F
theorem bb_StopIteration : bootBuiltins "StopIteration" = some (.type "StopIteration") := by decide +kernel
set_option maxRecDepth 100000 in
set_option maxHeartbeats 4000000 in
theorem next_ok (w : World) {base : Heap} {A : Around} {s : Shared} {E : Value → Shared → Prop} {Q : Value → Shared → Prop} {X DX Y DY PB FS : Addr} {wc buf : Str} {p : Nat} {st : LexSt} {out : Option (List Nat) × LexSt × List Nat} {l : List Env}
    (W : Wd (hd.heap_39 w.params) base) (a : AQ A 7) (hfr : A.frames = some l) (hF : s.heap.FunFrames base l) (hfD : ∀ b ∈ fsOf l, b ≠ DX ∧ b ≠ DY)
    (hst : KeepF [] base s.heap) (bX : base.get? DX = none) (bY : base.get? DY = none) (x : LX s.heap X DX Y DY PB FS wc buf st p) (hl : buf.length ≤ 1000) (hsg : ∀ c ∈ buf.cps.toList, c ∈ signs) (hwc : Txt.contains wc ⟨#[39]⟩ = false)
    (hrun : runT st [] (buf.cps.toList.drop p) = some out) (hfin : out.2.1 = .gap ∨ (out.2.1 = .fin ∧ out.2.2 = []))
    (hQ : ∀ t s' v p', out.1 = some t → FV v (.str (strOf t)) → LX s'.heap X DX Y DY PB FS wc buf out.2.1 p' → buf.cps.toList.drop p' = out.2.2 → Km [DX, DY] s s' → Q v s')
    (hE : out.1 = none → ∀ e s', s'.TypeIs (.ref e) "StopIteration" → Ke (fsOf l) [DX, DY] s s' → E (.ref e) s') :
    wpAny (model PySem.Challenge.rw_oy0388_01.prog w) A (call (.ref 750) [.ref X]) Q E s := by
  have kf : (fun _ : Program => (hd.heap_39 w.params).lookup 0) PySem.Challenge.rw_oy0388_01.prog = (hd.heap_39 w.params).lookup 0 := by
    k_fill
    rfl
  clear kf
  refine' call_def (f := 750) (args := ⟨[.ref X], []⟩) (binds := [("self", .ref X)]) ?ho ?hcd ?hbind ?hkind ?hco ?hgen ?hk W ?hd hst ?h
  case ho => k_is
  case hcd => k_is
  case hbind => exact BindsTo.of_eq rfl
  case hkind => rfl
  case hco => rfl
  case hgen => rfl
  case hk => rfl
  case hd => have := a.depth; omega
  intro h₁ tk kk hn
  have hnone := none_size s.heap
  have hlX := own_ne x.o
  have hlY := own_ne x.i
  generalize hL : s.heap.objs.size = L at *
  have hbn := base_none hst hnone
  refine mx_start [] hst kk hn x.o rfl .nil (lex_mc W rfl rfl hbn bX (Nat.ne_of_lt hlX)) (fun c J => ?_)
  have K0 : Km [L, DX, DY] s { s with heap := h₁, toks := tk } := .of_keeps ⟨h₁, tk, rfl, kk⟩
  have x1 : LX h₁ X DX Y DY PB FS wc buf st p := x.keeps (s' := { s with heap := h₁, toks := tk }) ⟨h₁, tk, rfl, kk⟩
  have hu : ∀ env, (A.deeper env).units + 64 < cLine := fun env => by have := a.units; rw [units_deeper]; omega
  have aq : ∀ env, AQ (A.deeper env) 6 := fun env => aq_deep a
  refine wpAny_execs_cons (wpAny_Assign_Name (MethodCall_ (self_name c J (self_meth c J (m_get_token w) (by decide) (callWith_K0 (W.in J.st) (by k_is) ?_)))) rfl)
  refine get_token_ok w W (aq _) J.st bX bY x1 hl hsg hwc hrun hfin (fun s3 v p' hv x3 hd' k3 => ?_)
  have J3 := J.renew k3 x3.o (by simp; exact ⟨Ne.symm (Nat.ne_of_lt hlX), Ne.symm (Nat.ne_of_lt hlY)⟩) (by simp; exact ⟨bX, bY⟩)
  refine mx_local c J3 hv rfl (by decide) (fun s4 J4 k4 => ?_)
  replace k4 : Km [L] s3 s4 := k4
  have K4 : Km [L, DX, DY] s s4 := (K0.trans (k3.sub (by simp))).trans (k4.sub (by simp))
  show wpAny _ _ (execs (_ :: _) _) _ _ _
  cases hout : out.1 with
  | some t =>
    rw [hout] at J4
    have x4 : LX s4.heap X DX Y DY PB FS wc buf out.2.1 p' := by
      have nL : ∀ b o, s.heap.get? b = some o → b ≠ L := fun b o e q => by rw [q, hnone] at e; cases e
      obtain ⟨σ', O', _⟩ := id x.i
      refine ⟨J4.own, x3.i.km k4 ?_ ?_, k4.get ?_ x3.pb, k4.get ?_ x3.fs, x3.n3, x3.n4, x3.n5, x3.hp, x3.ok⟩
      · simpa using nL _ _ O'.obj
      · simpa using Nat.ne_of_lt hlY
      · simpa using nL _ _ x.pb
      · simpa using nL _ _ x.fs
    refine wpAny_execs_cons (ms_if c J4 (b := false) ?_ (fun s5 J5 k5 => ?_))
    · have md := J4.md rfl
      exact tv_cmp md (hu _) (ev_name md rfl rfl) (ev_at c (by decide) rfl) rfl rfl
    refine wpAny_execs_nil ?_
    show wpAny _ _ (execs (_ :: _) _) _ _ _
    refine wpAny_execs_cons (wpAny_Return_some (ev_use (d := .str (strOf t)) (R := Keeps) J5 ?_ (fun v' s8 hv' k8 => ?_)))
    · exact ev_name (J5.md rfl) rfl rfl
    exact hQ t s8 v' p' hout (fv_of hv' rfl) ((x4.keeps k5).keeps k8) hd' (((K4.trans (.of_keeps k5)).trans (.of_keeps k8)).drop hnone)
  | none =>
    rw [hout] at J4
    refine wpAny_execs_cons (ms_if c J4 (b := true) ?_ (fun s5 J5 k5 => ?_))
    · have md := J4.md rfl
      exact tv_cmp md (hu _) (ev_name md rfl rfl) (ev_at c (by decide) rfl) rfl rfl
    have K5 := K4.trans (.of_keeps k5)
    rw [if_pos rfl]
    refine wpAny_execs_cons (owsi_raiseC a.handled ((nmJ_builtin (J := MX base _ X DX 753 lexNames _ _ _) W (fun _ h => h.st) rfl rfl rfl rfl (by k_is) bb_StopIteration (by decide) rfl) _ _ _ _ J5 ⟨rfl, rfl⟩) (fun h6 e hm => ?_))
    -- it leaves the frame
    have kfr : ∀ b ∈ fsOf l, ∀ o, s.heap.get? b = some o → s5.heap.get? b = some o := fun b hb o e => K5.get (by
      simp only [List.mem_cons, List.not_mem_nil, or_false, not_or]
      exact ⟨(fun q => by rw [q, hnone] at e; cases e), (hfD b hb).1, (hfD b hb).2⟩) e
    have F5 : s5.heap.FunFrames base l := frs_at hF fun b hb o e => ⟨o.slots, kfr b hb o e⟩
    have F6 := mx_frs c J5 rfl F5
    refine wpAny_leaves_madeW (base := hideAll s5.heap (L :: fsOf l)) (h := s5.heap) (outer := l) (Around.frames_deeper hfr) rfl (fun b o q => of_hideAll _ q) (funFrames_hide F6 ?_) ⟨hm.keeps, hm.new, hm.there⟩ (fun h7 t hfl htp hbt hus => ?_)
    · intro env he b hb
      rcases List.mem_cons.mp he with rfl | he
      · cases hb; exact .head _
      · exact List.mem_cons_of_mem _ (List.mem_filterMap.mpr ⟨env, he, hb⟩)
    · refine hE hout e _ (by obtain ⟨ob, h1, h2⟩ := hfl.there; exact ⟨ob, h1, h2⟩) ?_
      obtain ⟨h5, t5, rfl, kk5⟩ := K5
      refine ⟨h7, _, rfl, fun b o hb e => ?_⟩
      have hbL : b ≠ L := fun q => by rw [q, hnone] at e; cases e
      have e5 : h5.get? b = some o := kk5 b o (by simp only [List.mem_cons, List.not_mem_nil, or_false, not_or] at hb ⊢; exact ⟨hbL, hb⟩) e
      have ex : b ∉ fsOf l → h7.get? b = some o := fun q => hfl.1 b o (hideAll_get _ e5 (by simp only [List.mem_cons, not_or]; exact ⟨hbL, q⟩))
      refine ⟨ex, ?_⟩
      by_cases q : b ∈ fsOf l
      · refine hus b o (hm.keeps b o e5) ?_
        obtain ⟨_, o', ho', hnf⟩ := F5.mem q
        rw [e5] at ho'; cases ho'
        exact hnf
      · exact ⟨o.slots, ex q⟩
end Mine

namespace Mine
theorem runT_end : ∀ (r t : List Nat) (m : LexSt) (out : Option (List Nat) × LexSt × List Nat), m ≠ .fin → runT m t r = some out → (out.1 = none → out.2.1 = .fin ∧ out.2.2 = []) ∧ (out.2.1 = .gap ∨ (out.2.1 = .fin ∧ out.2.2 = []))
  | [], t, m, out, hm, h => by
    cases m with
    | fin => exact absurd rfl hm
    | gap => simp only [runT, Option.some.injEq] at h; subst h; exact ⟨fun _ => ⟨rfl, rfl⟩, .inr ⟨rfl, rfl⟩⟩
    | quote => cases h
    | word => simp only [runT, Option.some.injEq] at h; subst h; exact ⟨(fun q => by cases q), .inr ⟨rfl, rfl⟩⟩
  | c :: r, t, m, out, hm, h => by
    have ih := fun t m => runT_end r t m out
    cases m with
    | fin => exact absurd rfl hm
    | gap =>
      simp only [runT] at h
      split at h
      · exact ih _ _ (by simp) h
      · split at h
        · exact ih _ _ (by simp) h
        · exact ih _ _ (by simp) h
    | quote =>
      simp only [runT] at h
      split at h
      · exact ih _ _ (by simp) h
      · exact ih _ _ (by simp) h
    | word =>
      simp only [runT] at h
      split at h
      · simp only [Option.some.injEq] at h; subst h; exact ⟨(fun q => by cases q), .inl rfl⟩
      · split at h
        · exact ih _ _ (by simp) h
        · exact ih _ _ (by simp) h
noncomputable def Words (buf : Str) (st : LexSt) (p : Nat) (ws : List (List Nat)) : Prop := match st with
  | .gap => lexD .gap [] (buf.cps.toList.drop p) = some ws
  | .fin => ws = [] ∧ p = buf.length
  | _ => False
theorem words_nil {buf : Str} {st : LexSt} {p : Nat} (h : Words buf st p []) : ∃ out, runT st [] (buf.cps.toList.drop p) = some out ∧ out.1 = none ∧ (out.2.1 = .gap ∨ (out.2.1 = .fin ∧ out.2.2 = [])) := by
  cases st with
  | gap =>
    have e : lexOf (runT .gap [] (buf.cps.toList.drop p)) = some [] := (run_lex _ _).1 ▸ h
    cases hr : runT .gap [] (buf.cps.toList.drop p) with
    | none => rw [hr] at e; cases e
    | some out =>
      have he := runT_end _ _ _ _ (by simp) hr
      refine ⟨out, rfl, ?_, he.2⟩
      rw [hr] at e
      obtain ⟨o1, o2, o3⟩ := out
      cases o1 with
      | none => rfl
      | some t =>
        rcases he.2 with h | ⟨h, _⟩
        · simp only at h; subst h
          simp only [lexOf, Option.map_eq_some_iff] at e
          obtain ⟨_, _, q⟩ := e
          cases q
        · simp only at h; subst h; simp [lexOf] at e
  | fin =>
    have : buf.cps.toList.drop p = [] := by rw [h.2]; exact (drop_end rfl).2
    rw [this]
    exact ⟨_, rfl, rfl, .inr ⟨rfl, rfl⟩⟩
  | _ => exact h.elim
theorem words_cons {buf : Str} {st : LexSt} {p : Nat} {t : List Nat} {ws : List (List Nat)} (h : Words buf st p (t :: ws)) : ∃ out, runT st [] (buf.cps.toList.drop p) = some out ∧ out.1 = some t ∧ (out.2.1 = .gap ∨ (out.2.1 = .fin ∧ out.2.2 = [])) ∧
    ∀ p', p' ≤ buf.length → buf.cps.toList.drop p' = out.2.2 → Words buf out.2.1 p' ws := by
  cases st with
  | gap =>
    have e : lexOf (runT .gap [] (buf.cps.toList.drop p)) = some (t :: ws) := (run_lex _ _).1 ▸ h
    cases hr : runT .gap [] (buf.cps.toList.drop p) with
    | none => rw [hr] at e; cases e
    | some out =>
      have he := runT_end _ _ _ _ (by simp) hr
      rw [hr] at e
      obtain ⟨o1, o2, o3⟩ := out
      cases o1 with
      | none => simp [lexOf] at e
      | some t' =>
        rcases he.2 with h | ⟨h, h2⟩
        · simp only at h; subst h
          simp only [lexOf, Option.map_eq_some_iff] at e
          obtain ⟨ws', e1, e2⟩ := e
          cases e2
          exact ⟨_, rfl, rfl, .inl rfl, fun p' _ hd => by show lexD .gap [] (buf.cps.toList.drop p') = some _; rw [hd]; exact e1⟩
        · simp only at h h2; subst h; subst h2
          simp only [lexOf, Option.some.injEq, List.cons.injEq] at e
          obtain ⟨rfl, rfl⟩ := e
          refine ⟨_, rfl, rfl, .inr ⟨rfl, rfl⟩, fun p' hp hd => ⟨rfl, ?_⟩⟩
          have := List.drop_eq_nil_iff.mp hd
          rw [Array.length_toList] at this
          exact Nat.le_antisymm hp this
  | fin => cases h.1
  | _ => exact h.elim
theorem own_next {M : Model} {A : Around} {E : Value → Shared → Prop} {s : Shared} {K : Frag} {x C f : Addr} {ox : Obj} {od : Option Obj} {Q : Option Value → Shared → Prop} (X : K.In s.heap) (I : InstAt s.heap x ox C od) (hs : findIn K (.ref C) "__next__" = some (some (.ref f))) (hf : typeIn K (.ref f) = some (.type "function"))
    (h : wpAny M A (call (.ref f) [.ref x]) (fun v s' => Q (some v) s') (OwitStop M A Q E) s) : wpAny M A (pyNext (.ref x)) Q E s := by
  unfold pyNext
  refine wpAny_bind (wpAny_attempt (special_fn (name := "__next__") (args := []) X I hs hf (wpAny_mono h (fun v s' hq => ?_) (fun e s' he => ?_))))
  · exact wpAny_pure hq
  · refine wpAny_bind (wpAny_mono he (fun b s₂ hb => ?_) fun _ _ z => z)
    cases b with
    | true => exact wpAny_pure hb
    | false => exact wpAny_throw hb
theorem own_iter {M : Model} {A : Around} {E : Value → Shared → Prop} {s : Shared} {K : Frag} {x C f : Addr} {ox : Obj} {od : Option Obj} {Q : Value → Shared → Prop} (X : K.In s.heap) (I : InstAt s.heap x ox C od) (hs : findIn K (.ref C) "__iter__" = some (some (.ref f))) (hf : typeIn K (.ref f) = some (.type "function"))
    (h : wpAny M A (call (.ref f) [.ref x]) (OwitIt M A Q E) E s) : wpAny M A (pyIter (.ref x)) Q E s := by
  have fin : wpAny M A (call (.ref f) [.ref x] >>= fun v => pure (some v)) (fun r s' => ∃ v, r = some v ∧ OwitIt M A Q E v s') E s :=
    wpAny_bind (wpAny_mono h (fun v s' h' => wpAny_pure ⟨v, rfl, h'⟩) fun _ _ z => z)
  have one : ∀ refuse : Sem Value, wpAny M A (callSpecialIfBoundUnlessNone? (.ref x) "__iter__" refuse) (fun r s' => ∃ v, r = some v ∧ OwitIt M A Q E v s') E s := by
    intro refuse
    simp only [callSpecialIfBoundUnlessNone?, bindSpecialIfBound?]
    refine wpAny_holding (wpAny_bind (wpAny_bind (wpAny_bind (I.type.here ((looks_findIn X hs).here ?_)))))
    refine wpAny_bind (wpAny_askSetting (wpAny_ite ?_))
    have fin2 : wpAny M A (if (Value.ref f == Value.none) = true then (refuse >>= fun v => pure (some v)) else (call (.ref f) [.ref x] >>= fun v => pure (some v))) (fun r s' => ∃ v, r = some v ∧ OwitIt M A Q E v s') E s := by
      rw [if_neg (show ¬ ((Value.ref f == Value.none) = true) from Bool.false_ne_true)]
      exact fin
    split
    · exact wpAny_bind ((bind_fn X _ hf).here (wpAny_pure (by exact fin2)))
    · exact wpAny_tryCatch (wpAny_bind ((bind_fn X _ hf).here (wpAny_pure (by exact fin2))))
  unfold pyIter
  refine wpAny_bind (wpAny_bind (I.type.here ((looks_findIn X hs).here ?_)))
  show wpAny M A (callSpecialIfBoundUnlessNone? (.ref x) "__iter__" _ >>= _) Q E s
  refine wpAny_bind (wpAny_mono (one _) (fun r s' hr => ?_) fun _ _ z => z)
  obtain ⟨v, rfl, hv⟩ := hr
  refine wpAny_bind (wpAny_mono hv (fun r s₂ hr => ?_) fun _ _ z => z)
  cases r with
  | none => exact hr.elim
  | some g => exact wpAny_pure hr
theorem sub_Stop : isSubtype (.type "StopIteration") (.type "StopIteration") = pure true := by rw [isSubtype_type]; kernel_rfl
theorem Ke.of_km {fs ws : List Addr} {a b c : Shared} (k : Km ws a b) (x : Ke fs ws b c) : Ke fs ws a c := by
  obtain ⟨h, t, rfl, kk⟩ := k
  obtain ⟨h', t', rfl, kx⟩ := x
  exact ⟨h', t', rfl, fun p o n e => kx p o n (kk p o n e)⟩
theorem Ke.sub {fs ws ws' : List Addr} {a b : Shared} (x : Ke fs ws a b) (h : ∀ p ∈ ws, p ∈ ws') : Ke fs ws' a b := by
  obtain ⟨h', t, rfl, k⟩ := x
  exact ⟨h', t, rfl, fun p o n e => k p o (fun q => n (h p q)) e⟩
noncomputable abbrev lstObj (acc : Array Value) (n : Nat) : Obj := { cls := .type "list", dict := none, data := .seq acc n, slots := #[] }
theorem LX.ne {h : Heap} {X DX Y DY PB FS : Addr} {wc buf : Str} {st : LexSt} {p : Nat} (x : LX h X DX Y DY PB FS wc buf st p) {S : Addr} {acc : Array Value} {n : Nat} (hS : h.get? S = some (lstObj acc n)) : X ≠ S ∧ DX ≠ S ∧ Y ≠ S ∧ DY ≠ S ∧ PB ≠ S ∧ FS ≠ S := by
  obtain ⟨σ, ⟨ox, ⟨o, es, ep, ho, hd, _⟩, _⟩, _⟩ := x.o
  obtain ⟨σ', ⟨oy, ⟨o', es', ep', ho', hd', _⟩, _⟩, _⟩ := x.i
  have hp := x.pb
  have hf := x.fs
  refine ⟨fun q => ?_, fun q => ?_, fun q => ?_, fun q => ?_, fun q => ?_, fun q => ?_⟩
  · rw [q, hS] at ox; cases ox
  · rw [q, hS] at ho; cases ho; cases hd
  · rw [q, hS] at oy; cases oy
  · rw [q, hS] at ho'; cases ho'; cases hd'
  · rw [q, hS] at hp; have z := congrArg Obj.data (Option.some.inj hp); cases z
  · rw [q, hS] at hf; have z := congrArg Obj.data (Option.some.inj hf); cases z
theorem LX.km {s s' : Shared} {X DX Y DY PB FS S : Addr} {wc buf : Str} {st : LexSt} {p : Nat} (x : LX s.heap X DX Y DY PB FS wc buf st p) (k : Km [S] s s') (n : X ≠ S ∧ DX ≠ S ∧ Y ≠ S ∧ DY ≠ S ∧ PB ≠ S ∧ FS ≠ S) : LX s'.heap X DX Y DY PB FS wc buf st p := by
  obtain ⟨a, b, c, d, e, f⟩ := n
  exact ⟨x.o.km k (by simpa using a) (by simpa using b), x.i.km k (by simpa using c) (by simpa using d), k.get (by simpa using e) x.pb, k.get (by simpa using f) x.fs, x.n3, x.n4, x.n5, x.hp, x.ok⟩
inductive StrVs : List Value → List Str → Prop
  | nil : StrVs [] []
  | cons {v : Value} {x : Str} {vs : List Value} {xs : List Str} : FV v (.str x) → StrVs vs xs → StrVs (v :: vs) (x :: xs)
set_option maxRecDepth 100000 in
theorem lex_loop (w : World) {base : Heap} {A : Around} {X DX Y DY PB FS S : Addr} {wc buf : Str} {l : List Env} {R : Result → Shared → Prop} (W : Wd (hd.heap_39 w.params) base) (a : AQ A 8) (hfr : A.frames = some l) (hfD : ∀ b ∈ fsOf l, b ≠ DX ∧ b ≠ DY ∧ b ≠ S)
    (bX : base.get? DX = none) (bY : base.get? DY = none) (bS : base.get? S = none) (hl : buf.length ≤ 1000) (hsg : ∀ c ∈ buf.cps.toList, c ∈ signs) (hwc : Txt.contains wc ⟨#[39]⟩ = false) :
    ∀ (ws : List (List Nat)) (s : Shared) (st : LexSt) (p : Nat) (acc : Array Value) (n : Nat), KeepF [] base s.heap → s.heap.FunFrames base l → LX s.heap X DX Y DY PB FS wc buf st p → Words buf st p ws → s.heap.get? S = some (lstObj acc n) → acc.size + ws.length ≤ 100000 →
      (∀ s' vs n', s'.heap.get? S = some (lstObj (acc ++ vs.toArray) n') → StrVs vs (ws.map strOf) → Ke (fsOf l) [DX, DY, S] s s' → R (.ok (.ret .none)) s') →
      codeAny (model PySem.Challenge.rw_oy0388_01.prog w) A (.builtin "list.extend.loop" ⟨[.ref S, .ref X, .none], []⟩) R s := by
  have kf : (fun _ : Program => (hd.heap_39 w.params).lookup 0) PySem.Challenge.rw_oy0388_01.prog = (hd.heap_39 w.params).lookup 0 := by
    k_fill
    rfl
  clear kf
  have f1 : findIn (hd.heap_39 w.params) (.ref 753) "__next__" = some (some (.ref 750)) := by k_is
  have f2 : typeIn (hd.heap_39 w.params) (.ref 750) = some (.type "function") := by k_is
  have aq : AQ A.in1 7 := ⟨a.handled, by have := a.depth; show A.depth + 7 < _; omega, by have := a.units; show A.units + 1 + 64 + 8 * 7 < _; omega⟩
  intro ws
  induction ws with
  | nil =>
    intro s st p acc n hst hF x hw hS hsz hR
    obtain ⟨out, hrun, h1, h2⟩ := words_nil hw
    obtain ⟨od, I, _, _⟩ := (show ∃ σ, Own s.heap X DX 753 lexNames σ from let ⟨σ, O, _⟩ := x.o; ⟨σ, O⟩).choose_spec.inst
    refine codeAny_builtin F.entry_extend_loop ?_
    rw [Around.under_plainId F.plain_extend_loop _]
    show wpAny _ A.in1 (pyNext (.ref X) >>= _) _ _ s
    refine wpAny_bind (own_next (W.in hst) I f1 f2 (next_ok w W aq hfr hF (fun b hb => ⟨(hfD b hb).1, (hfD b hb).2.1⟩) hst bX bY x hl hsg hwc hrun h2 (fun t _ _ _ q => by rw [h1] at q; cases q) (fun _ e s' hT hk => ?_)))
    unfold OwitStop
    refine wpAny_isInstance hT sub_Stop ?_
    rw [if_pos rfl]
    refine wpAny_pure (hR s' [] n ?_ .nil (hk.sub (by simp)))
    obtain ⟨h', t', rfl, kk⟩ := hk
    have nS := x.ne hS
    have e := (kk S _ (by simp; exact ⟨Ne.symm nS.2.1, Ne.symm nS.2.2.2.1⟩) hS).1 (fun q => (hfD S q).2.2 rfl)
    simpa using e
  | cons t ws ih =>
    intro s st p acc n hst hF x hw hS hsz hR
    obtain ⟨out, hrun, h1, h2, hnext⟩ := words_cons hw
    obtain ⟨od, I, _, _⟩ := (show ∃ σ, Own s.heap X DX 753 lexNames σ from let ⟨σ, O, _⟩ := x.o; ⟨σ, O⟩).choose_spec.inst
    refine codeAny_builtin F.entry_extend_loop ?_
    rw [Around.under_plainId F.plain_extend_loop _]
    show wpAny _ A.in1 (pyNext (.ref X) >>= _) _ _ s
    refine wpAny_bind (own_next (W.in hst) I f1 f2 (next_ok w W aq hfr hF (fun b hb => ⟨(hfD b hb).1, (hfD b hb).2.1⟩) hst bX bY x hl hsg hwc hrun h2 (fun t' s1 v p' q hv x1 hd1 k1 => ?_) (fun q => by rw [h1] at q; cases q)))
    rw [h1] at q
    cases q
    have nS := x.ne hS
    have hS1 : s1.heap.get? S = some (lstObj acc n) := k1.get (by simp; exact ⟨Ne.symm nS.2.1, Ne.symm nS.2.2.2.1⟩) hS
    show wpAny _ A.in1 (updateSeq S (·.push v) >>= _) _ _ _
    refine wpAny_bind ?_
    rw [List.length_cons] at hsz
    refine wpAny_updateSeq hS1 rfl (wpAny_pure ⟨plainId_quiet F.plain_extend_loop _, ?_⟩) (by unfold sizeLine; omega) (by show (acc.push v).size ≤ _; rw [Array.size_push]; unfold sizeLine; omega)
    have hS2 := Heap.get?_update_self (Obj.mapSeq (·.push v)) hS1 rfl
    have k2 : Km [S] s1 { s1 with heap := s1.heap.update S (Obj.mapSeq (·.push v)) } := ⟨_, s1.toks, rfl, fun b o hb e => (Heap.get?_update_other _ _ (fun q => hb (by rw [q]; exact .head _))).trans e⟩
    have K : Km [DX, DY, S] s { s1 with heap := s1.heap.update S (Obj.mapSeq (·.push v)) } := (k1.sub (by simp)).trans (k2.sub (by simp))
    have hS3 : (s1.heap.update S (Obj.mapSeq (·.push v))).get? S = some (lstObj (acc.push v) (n + 1)) := by
      rw [hS2]
      simp [Obj.mapSeq]
    refine ih _ out.2.1 p' (acc.push v) (n + 1) (hst.km K (by simp; exact ⟨bX, bY, bS⟩)) (frs_at hF fun b hb o e => ⟨o.slots, K.get (by simp; exact hfD b hb) e⟩) (x1.km k2 nS) (hnext p' x1.hp hd1) hS3 (by rw [Array.size_push]; omega) (fun s' vs n' hS' hv' hk => ?_)
    refine hR s' (v :: vs) n' ?_ (.cons hv hv') (Ke.of_km K hk)
    rw [hS']
    simp
set_option maxRecDepth 100000 in
theorem iter_self (w : World) {base : Heap} {A : Around} {s : Shared} {E : Value → Shared → Prop} {Q : Value → Shared → Prop} {X DX : Addr} {α : Rho} {β : List (Str × Addr)}
    (W : Wd (hd.heap_39 w.params) base) (a : AQ A 1) (hst : KeepF [] base s.heap) (bX : base.get? DX = none) (O : OwnA s.heap X DX 753 lexNames α β) (hQ : ∀ s', Keeps s s' → Q (.ref X) s') : wpAny (model PySem.Challenge.rw_oy0388_01.prog w) A (call (.ref 743) [.ref X]) Q E s := by
  have kf : (fun _ : Program => (hd.heap_39 w.params).lookup 0) PySem.Challenge.rw_oy0388_01.prog = (hd.heap_39 w.params).lookup 0 := by
    k_fill
    rfl
  clear kf
  refine' call_def (f := 743) (args := ⟨[.ref X], []⟩) (binds := [("self", .ref X)]) ?ho ?hcd ?hbind ?hkind ?hco ?hgen ?hk W ?hd hst ?h
  case ho => k_is
  case hcd => k_is
  case hbind => exact BindsTo.of_eq rfl
  case hkind => rfl
  case hco => rfl
  case hgen => rfl
  case hk => rfl
  case hd => have := a.depth; omega
  intro h₁ tk kk hn
  have hnone := none_size s.heap
  have hlX := own_ne O
  generalize hL : s.heap.objs.size = L at *
  have hbn := base_none hst hnone
  refine mx_start [] hst kk hn O rfl .nil (lex_mc W rfl rfl hbn bX (Nat.ne_of_lt hlX)) (fun c J => ?_)
  exact wpAny_execs_cons (wpAny_Return_some (self_name c J (hQ _ ⟨h₁, tk, rfl, kk⟩)))
set_option maxRecDepth 100000 in
theorem lex_f (w : World) : (findIn (hd.heap_39 w.params) (.ref 753) "__iter__" = some (some (.ref 743)) ∧ typeIn (hd.heap_39 w.params) (.ref 743) = some (.type "function") ∧ findIn (hd.heap_39 w.params) (.ref 753) "__next__" = some (some (.ref 750))) ∧
    findIn (hd.heap_39 w.params) (.ref 753) "__len__" = some none ∧ findIn (hd.heap_39 w.params) (.ref 753) "__length_hint__" = some none := by
  have kf : (fun _ : Program => (hd.heap_39 w.params).lookup 0) PySem.Challenge.rw_oy0388_01.prog = (hd.heap_39 w.params).lookup 0 := by
    k_fill
    rfl
  clear kf
  refine ⟨⟨?_, ?_, ?_⟩, ?_, ?_⟩ <;> k_is
set_option maxRecDepth 100000 in
set_option maxHeartbeats 4000000 in
theorem list_lex (w : World) {base : Heap} {A : Around} {s : Shared} {E : Value → Shared → Prop} {Q : Value → Shared → Prop} {X DX Y DY PB FS : Addr} {wc buf : Str} {l : List Env} {st : LexSt} {p : Nat} {ws : List (List Nat)} (W : Wd (hd.heap_39 w.params) base) (a : AQ A 9) (hfr : A.frames = some l) (hF : s.heap.FunFrames base l) (hfD : ∀ b ∈ fsOf l, b ≠ DX ∧ b ≠ DY)
    (hst : KeepF [] base s.heap) (bX : base.get? DX = none) (bY : base.get? DY = none) (hl : buf.length ≤ 1000) (hsg : ∀ c ∈ buf.cps.toList, c ∈ signs) (hwc : Txt.contains wc ⟨#[39]⟩ = false)
    (x : LX s.heap X DX Y DY PB FS wc buf st p) (hw : Words buf st p ws) (hn : ws.length ≤ 10000)
    (hQ : ∀ s' vs n', s'.heap.get? s.heap.objs.size = some (lstObj vs.toArray n') → StrVs vs (ws.map strOf) → Ke (fsOf l) [DX, DY, s.heap.objs.size] s s' → Q (.ref s.heap.objs.size) s') :
    wpAny (model PySem.Challenge.rw_oy0388_01.prog w) A (call (.type "list") [.ref X]) Q E s := by
  refine callType_codes (Q₁ := fun obj s₁ => obj = .ref s.heap.objs.size ∧ s₁ = { s with heap := s.heap.push { cls := .type "list", data := .seq #[] } }) F.called_list (F.typeCall_list_1 _) F.entry_list_init
    (code_list_new _ ⟨rfl, rfl⟩) fun obj s₁ h₁ => ?_
  obtain ⟨rfl, rfl⟩ := h₁
  have hS : (s.heap.push { cls := .type "list", data := .seq #[] }).get? s.heap.objs.size = some (lstObj #[] 0) := Heap.get?_push_size _ rfl
  refine ⟨⟨_, hS, rfl⟩, F.args_list_init_2 _ _, ?_⟩
  have hnone := none_size s.heap
  have hbn := base_none hst hnone
  have hfS : ∀ b ∈ fsOf l, b ≠ s.heap.objs.size := fun b hb q => by
    obtain ⟨_, o, ho, _⟩ := hF.mem hb
    rw [q, hnone] at ho; cases ho
  generalize hSz : s.heap.objs.size = S at *
  have k0 : Keeps s { s with heap := s.heap.push { cls := .type "list", data := .seq #[] } } := keeps_push s _ s.toks
  have x1 := x.keeps k0
  have nS := x1.ne hS
  have st1 : KeepF [] base (s.heap.push { cls := .type "list", data := .seq #[] }) := hst.trans (.of_keeps fun _ _ e => Heap.get?_push_of_some _ e)
  generalize hh1 : s.heap.push { cls := .type "list", data := .seq #[] } = h1 at *
  show wpAny _ A.in1.in1 (do let old ← Builtin.List.listItems (.ref S); Builtin.List.listUpdate (.ref S) (fun _ => #[]); letGo old.toList.reverse; Builtin.List.listExtendWith (.ref S) (.ref X) .none) _ _ _
  refine wpAny_bind ?_
  unfold Builtin.List.listItems
  refine wpAny_bind (wpAny_seqItems hS rfl (wpAny_pure ?_))
  show wpAny _ A.in1.in1 (updateSeq S (fun _ => #[]) >>= fun _ => letGo (#[] : Array Value).toList.reverse >>= fun _ => Builtin.List.listExtendWith (.ref S) (.ref X) .none) _ _ _
  refine wpAny_bind (wpAny_updateSeq hS rfl ?_)
  have hS2 : (h1.update S (Obj.mapSeq (fun _ => (#[] : Array Value)))).get? S = some (lstObj #[] 0) := (Heap.get?_update_self _ hS rfl).trans rfl
  have k2 : Km [S] { s with heap := h1 } { s with heap := h1.update S (Obj.mapSeq (fun _ => (#[] : Array Value))) } := ⟨_, s.toks, rfl, fun b o hb e => (Heap.get?_update_other _ _ (fun q => hb (by rw [q]; exact .head _))).trans e⟩
  refine wpAny_bind (wpAny_letGo ?_)
  have x2 := x1.km (s := { s with heap := h1 }) k2 nS
  have st2 : KeepF [] base (h1.update S (Obj.mapSeq (fun _ => (#[] : Array Value)))) := KeepF.km (s := { s with heap := h1 }) st1 k2 (by simpa using hbn)
  generalize hh2 : h1.update S (Obj.mapSeq (fun _ => (#[] : Array Value))) = h2 at *
  obtain ⟨od, I, _, _⟩ := (show ∃ σ, Own h2 X DX 753 lexNames σ from let ⟨σ, O, _⟩ := x2.o; ⟨σ, O⟩).choose_spec.inst
  unfold Builtin.List.listExtendWith
  refine wpAny_bind (I.type.at ?_)
  have e1 : Builtin.List.listSameRef (.ref S) (.ref X) = false := by simp [Builtin.List.listSameRef, Ne.symm nS.1]
  have e2 : (Value.ref 753 == Value.type "list") = false := by decide
  have e3 : (Value.ref 753 == Value.type "tuple") = false := by decide
  simp only [e1, e2, e3, Bool.or_false, Bool.false_eq_true, if_false]
  have aq2 : AQ A.in1.in1 1 := ⟨a.handled, by have := a.depth; show A.depth + 1 < _; omega, by have := a.units; show A.units + 1 + 1 + 64 + 8 * 1 < _; omega⟩
  refine wpAny_bind (own_iter (s := { s with heap := h2 }) (W.in st2) I (lex_f w).1.1 (lex_f w).1.2.1 (iter_self w W aq2 st2 bX x2.o (fun s3 k3 => ?_)))
  have x3 := x2.keeps (s := { s with heap := h2 }) k3
  have st3 : KeepF [] base s3.heap := KeepF.km (ws := []) st2 (.of_keeps k3) (by simp)
  obtain ⟨od3, I3, _, _⟩ := (show ∃ σ, Own s3.heap X DX 753 lexNames σ from let ⟨σ, O, _⟩ := x3.o; ⟨σ, O⟩).choose_spec.inst
  have hS3 : s3.heap.get? S = some (lstObj #[] 0) := by obtain ⟨h', t, rfl, kk⟩ := k3; exact kk _ _ hS2
  unfold OwitIt
  refine wpAny_bind (I3.type.here ((looks_findIn (W.in st3) (lex_f w).1.2.2).here ?_))
  dsimp only
  refine wpAny_bind (wpAny_holding ?_)
  unfold Builtin.List.listLengthHint
  refine wpAny_bind (wpAny_bind (I3.type.here ((looks_findIn (W.in st3) (lex_f w).2.1).here ?_)))
  show wpAny _ A.in1.in1 (specialOf (Value.ref X) (Str.ofString "__length_hint__") >>= _) _ _ _
  refine wpAny_bind (wpAny_bind (I3.type.here ((looks_findIn (W.in st3) (lex_f w).2.2).here ?_)))
  refine wpAny_pure ?_
  show wpAny _ A.in1.in1 (rule "list.extend.makes-room" >>= fun _ => Builtin.List.listTouch (.ref S) >>= fun _ =>
    again (.builtin "list.extend.loop" ⟨[.ref S, .ref X, .none], []⟩)) _ _ _
  refine wpAny_bind (wpAny_rule ?_)
  refine wpAny_bind ?_
  show wpAny _ A.in1.in1 (updateSeq S (·.push .none) >>= fun _ => updateSeq S (·.pop)) _ _ _
  refine wpAny_bind (wpAny_updateSeq hS3 rfl ?_)
  have hS4 := Heap.get?_update_self (Obj.mapSeq (·.push Value.none)) hS3 rfl
  refine wpAny_updateSeq (hz := by seq_fits) hS4 rfl ?_
  obtain ⟨n5, hS5⟩ : ∃ n5, ((s3.heap.update S (Obj.mapSeq (·.push Value.none))).update S (Obj.mapSeq (·.pop))).get? S = some (lstObj #[] n5) := ⟨_, Heap.get?_update_self (Obj.mapSeq (·.pop)) hS4 rfl⟩
  have k5 : Km [S] s3 { s3 with heap := (s3.heap.update S (Obj.mapSeq (·.push Value.none))).update S (Obj.mapSeq (·.pop)) } :=
    ⟨_, s3.toks, rfl, fun b o hb e => (Heap.get?_update_other _ _ (fun q => hb (by rw [q]; exact .head _))).trans ((Heap.get?_update_other _ _ (fun q => hb (by rw [q]; exact .head _))).trans e)⟩
  have x5 := x3.km k5 nS
  have K5 : Km [S] s { s3 with heap := (s3.heap.update S (Obj.mapSeq (·.push Value.none))).update S (Obj.mapSeq (·.pop)) } := (((Km.of_keeps k0).trans k2).trans (.of_keeps k3)).trans k5
  have aq1 : AQ A.in1 8 := ⟨a.handled, by have := a.depth; show A.depth + 8 < _; omega, by have := a.units; show A.units + 1 + 64 + 8 * 8 < _; omega⟩
  refine wpAny_pure ⟨plainId_quiet F.plain_extend_loop _, lex_loop w W aq1 hfr (fun b hb => ⟨(hfD b hb).1, (hfD b hb).2, hfS b hb⟩) bX bY hbn hl hsg hwc ws _ st p #[] n5 (hst.km K5 (by simpa using hbn)) (frs_at hF fun b hb o e => ⟨o.slots, K5.get (by simpa using hfS b hb) e⟩) x5 hw hS5 (by simp; omega) (fun s' vs n' h1' h2' h3' => ?_)⟩
  refine ⟨rfl, hQ s' vs n' (by simpa using h1') h2' (Ke.of_km (K5.sub (by simp)) h3')⟩
end Mine

namespace Mine
set_option maxRecDepth 100000 in
theorem io_made (w : World) {h : Heap} (X : (hd.heap_39 w.params).In h) : Looks (model PySem.Challenge.rw_oy0388_01.prog w) h (Bind.madeBy (.ref 618)) none := Looks.of_peek X (by kernel_rfl)
set_option maxRecDepth 100000 in
theorem io_base (w : World) {h : Heap} (X : (hd.heap_39 w.params).In h) : Looks (model PySem.Challenge.rw_oy0388_01.prog w) h (Bind.staticBase (.ref 618)) (.type "object") := Looks.of_peek X (by kernel_rfl)
set_option maxRecDepth 100000 in
theorem io_madeO (w : World) {h : Heap} (X : (hd.heap_39 w.params).In h) : Looks (model PySem.Challenge.rw_oy0388_01.prog w) h (Bind.madeBy (.type "object")) (some "object.__new__") := Looks.of_peek X (by kernel_rfl)
set_option maxRecDepth 100000 in
theorem io_check0 (w : World) {h : Heap} (X : (hd.heap_39 w.params).In h) : Looks (model PySem.Challenge.rw_oy0388_01.prog w) h (checkBuiltinCall "object.__new__" ⟨[.ref 618], []⟩) () := Looks.of_peek X (by kernel_rfl)
set_option maxRecDepth 100000 in
theorem io_call (w : World) {h : Heap} (X : (hd.heap_39 w.params).In h) : Looks (model PySem.Challenge.rw_oy0388_01.prog w) h (specialOf (.ref 618) "__call__") (some (.builtin "type.__call__")) := Looks.of_peek X (by kernel_rfl)
set_option maxRecDepth 100000 in
theorem io_mro (w : World) {h : Heap} (X : (hd.heap_39 w.params).In h) : Looks (model PySem.Challenge.rw_oy0388_01.prog w) h (mroOf (.ref 618)) [.ref 618, .ref 141, .ref 114, .type "object"] := Looks.of_peek X (by kernel_rfl)
set_option maxRecDepth 100000 in
theorem io_type (w : World) {h : Heap} (X : (hd.heap_39 w.params).In h) : Looks (model PySem.Challenge.rw_oy0388_01.prog w) h (isInstance (.ref 618) (.type "type")) true := Looks.of_peek X (by kernel_rfl)
set_option maxRecDepth 100000 in
theorem io_here (w : World) {h : Heap} (X : (hd.heap_39 w.params).In h) : Looks (model PySem.Challenge.rw_oy0388_01.prog w) h (Bind.madeHere "object.__new__" (.ref 618)) () := Looks.of_peek X (by kernel_rfl)
set_option maxRecDepth 100000 in
theorem io_isType (w : World) {h : Heap} (X : (hd.heap_39 w.params).In h) : Looks (model PySem.Challenge.rw_oy0388_01.prog w) h (isType (.ref 618)) true := Looks.of_peek X (by kernel_rfl)
set_option maxRecDepth 100000 in
theorem io_init (w : World) {h : Heap} (X : (hd.heap_39 w.params).In h) : Looks (model PySem.Challenge.rw_oy0388_01.prog w) h (typeLookup (.ref 618) "__init__") (some (.ref 388)) := Looks.of_peek X (by kernel_rfl)
set_option maxRecDepth 100000 in
theorem io_self (w : World) {h : Heap} (X : (hd.heap_39 w.params).In h) : Looks (model PySem.Challenge.rw_oy0388_01.prog w) h (isSubtype (.ref 618) (.ref 618)) true := Looks.of_peek X (by kernel_rfl)
end Mine

namespace Mine
theorem bb_object : bootBuiltins "object" = some (.type "object") := by decide +kernel
theorem ty_object : typeOf (.type "object") = pure (.type "type") := by kernel_rfl
theorem stub_object : Manifest.isStub "object" = false := by decide +kernel
theorem meth_type {prog : Program} {w : World} {A : Around} {E : Value → Shared → Prop} {s : Shared} {K : Frag} {name : Str} {T : String} {pl : Sem Bool} {v : Value} {Q : Value × List Value → Shared → Prop} (X : K.In s.heap) (ht : typeOf (.type T) = pure (.type "type")) (hs : Manifest.isStub T = false)
    (e : findCls K (.type T) (.type "type") name = some (.val v)) (hh : handedIn v = true) (h : Q (v, []) { s with toks := s.toks + 1 }) : wpAny (model prog w) A (getMethod (.type T) name pl) Q E s := by
  have hstub : opaqueClassAbove (.type T) = pure none := by unfold opaqueClassAbove; dsimp only; rw [hs]; rfl
  have L0 : Looks (model prog w) s.heap (typeOf (.type T)) (.type "type") := Looks.of_pure ht
  have hg : findIn K (.type "type") "__getattribute__" = some (some (.builtin "type.__getattribute__")) := type_tga
  unfold getMethod specialOf
  refine wpAny_bind (wpAny_bind (L0.here ((looks_findIn X hg).here ?_)))
  dsimp only
  rw [if_pos canon_tga]
  refine wpAny_bind (wpAny_mono (Q := fun v => Q (v, [])) (E := E) ?_ (fun _ _ z => wpAny_pure z) fun _ _ z => z)
  have LO : Looks (model prog w) s.heap (opaqueClassAbove (.type T)) none := Looks.of_pure hstub
  refine cls_open X LO L0 hg (looks_hook X (r := none) (by rfl)) (by show subIn K _ _ = _; rfl) e
    (wpAny_pure (by show wpAny _ _ (handedOut v) _ _ _; rw [handedOut_of hh]; exact wpAny_pure h))
theorem io_obj (w : World) {A : Around} {E : Value → Shared → Prop} {s : Shared} {Q : Value → Shared → Prop} (X : (hd.heap_39 w.params).In s.heap)
    (h : Q (.ref (s.heap.objs.size + 1)) { s with heap := (s.heap.push emptyDict).push (instObj 618 s.heap.objs.size) }) : wpAny (model PySem.Challenge.rw_oy0388_01.prog w) A (call (.builtin "object.__new__") [.ref 618]) Q E s := by
  have kf : (fun _ : Program => (hd.heap_39 w.params).lookup 0) PySem.Challenge.rw_oy0388_01.prog = (hd.heap_39 w.params).lookup 0 := by
    k_fill
    rfl
  clear kf
  obtain ⟨oc, od, cd, sl, hk, e1, e2⟩ : ∃ oc od cd sl, (hd.heap_39 w.params).lookup 618 = some ⟨oc, od, .cls cd, sl⟩ ∧ cd.abstract = false ∧ cd.hasDel = false := ⟨_, _, _, _, by k_is, rfl, rfl⟩
  have hC := X _ _ hk
  have hcd : clsIn (hd.heap_39 w.params) 618 = some cd := by unfold clsIn; rw [hk]
  obtain ⟨hh, g, d, t, os⟩ := s
  have F := PySem.F.objNew
  refine wpAny_call (codeAny_call_builtin_code (Code.quiet_builtin _ F.quiet) ((io_check0 w X).at ?_))
  refine codeAny_builtin F.entry ?_
  unfold Builtin.«object.__new__»
  dsimp only
  refine wpAny_bind ((io_isType w X).at ?_)
  rw [if_neg (by decide)]
  refine wpAny_bind ((io_here w X).at ?_)
  rw [if_neg (by decide)]
  refine wpAny_bind ((looks_clsIn (M := model PySem.Challenge.rw_oy0388_01.prog w) X hcd).at ?_)
  rw [e1, if_neg (by decide)]
  show wpAny _ _ ((alloc emptyDict >>= fun x => pure (some x)) >>= _) _ _ _
  refine wpAny_bind (wpAny_bind (wpAny_alloc (wpAny_pure (wpAny_bind ?_))))
  show wpAny _ _ (newObjAsIs _ _ _) _ _ _
  unfold newObjAsIs classHasDel
  refine wpAny_bind (wpAny_alloc (wpAny_bind (wpAny_bind (wpAny_load (Heap.get?_push_of_some _ (Heap.get?_push_of_some _ hC)) (wpAny_pure ?_)))))
  dsimp only
  rw [e2]
  refine wpAny_pure (wpAny_pure ?_)
  rw [Heap.size_push]
  exact h
theorem bind_use {M : Model} {A : Around} {E : Value → Shared → Prop} {s : Shared} {fd : FuncData} {args : Args} {t : Sem (List (Str × Value))} {Q : List (Str × Value) → Shared → Prop} (e : bindArgs fd args = t) (h : wpAny M A t Q E s) : wpAny M A (bindArgs fd args) Q E s := e ▸ h
theorem nm_go {pos : Pos} {prog : Program} {w : World} {A : Around} {env : Env} {J : Shared → Prop} {x : Str} {v : Value} {Q : Value → Shared → Prop} {E : Value → Shared → Prop} {s : Shared} (j : J s) (n : NmP prog w A env J x v) (h : Q v s) : wpAny (model prog w) A (eval (.Name x pos) env) Q E s := n _ s _ E j h
noncomputable def CJ (base : Heap) (env : Env) (s : Shared) : Prop := ∃ m, KeepF [] base s.heap ∧ s.heap.Ns env.locals m ∧ m "cls" = some (.ref 618)
theorem cjMd {base : Heap} {env : Env} (hk : env.scope.kind = .function) : Md env [] (CJ base env) Keeps where
  kind := hk
  names := fun s ⟨m, _, hn, _⟩ => ⟨m, hn, fun y d hy => by simp at hy⟩
  keeps := fun _ _ _ k => k
  trans := fun _ _ _ => keeps_trans
  inv := fun _ _ ⟨m, a, b, c⟩ k => by
    obtain ⟨h, t, rfl, kk⟩ := k
    exact ⟨m, a.trans (.of_keeps kk), b.keeps kk, c⟩
  seq := fun _ _ => keeps_seq
theorem CJ.md {base : Heap} {env : Env} {s : Shared} (_ : CJ base env s) (hk : env.scope.kind = .function) : Md env [] (CJ base env) Keeps := cjMd hk
theorem CJ.st {base : Heap} {env : Env} {s : Shared} (h : CJ base env s) : KeepF [] base s.heap := h.choose_spec.1
theorem tv_cls_is {w : World} {A : Around} {base : Heap} {env : Env} {pos p1 p2 : Pos} {x : Str} {b : Addr} (W : Wd (hd.heap_39 w.params) base) (hk : env.scope.kind = .function) (hc : env.kindOf "cls" = some .local) (n : NmP PySem.Challenge.rw_oy0388_01.prog w A env (CJ base env) x (.ref b))
    {o o2 : Obj} (h1 : (hd.heap_39 w.params).lookup 618 = some o) (h2 : (hd.heap_39 w.params).lookup b = some o2) (ht : o.cls ≠ .type "tuple") {c : Bool} (hcc : decide (b ≠ 618) = c) : EvT PySem.Challenge.rw_oy0388_01.prog w A env (CJ base env) Keeps (.Compare (.Name "cls" p1) [.IsNot] [.Name x p2] pos) c := by
  subst hcc
  intro s E J
  obtain ⟨m, hst, hn, hm⟩ := id J
  refine wpAny_isTrue_Compare1 (wpAny_Name (wpAny_loadName_local hk hc hn hm (n _ s _ E J ?_)) rfl) rfl
  by_cases q : b = 618
  · subst q
    exact wpAny_isNot_ref_self (wpAny_truthy_bool ⟨by simp, keeps_refl s⟩)
  · exact wpAny_isNot_ref_other (Ne.symm q) (W.at hst h1) (W.at hst h2) ht (wpAny_truthy_bool ⟨by simp [q], keeps_refl s⟩)
set_option maxRecDepth 100000 in
set_option maxHeartbeats 4000000 in
theorem io_new (w : World) {base : Heap} {A : Around} {E : Value → Shared → Prop} {s : Shared} {Q : Value → Shared → Prop} {v : Value} (W : Wd (hd.heap_39 w.params) base) (a : AQ A 2) (hst : KeepF [] base s.heap)
    (h : ∀ x dx h' tk, (∀ b o, s.heap.get? b = some o → h'.get? b = some o) → s.heap.get? x = none → s.heap.get? dx = none → h'.get? x = some (instObj 618 dx) → h'.get? dx = some emptyDict → Q (.ref x) { s with heap := h', toks := tk }) :
    wpAny (model PySem.Challenge.rw_oy0388_01.prog w) A (call (.ref 111) [.ref 618, v]) Q E s := by
  have kf : (fun _ : Program => (hd.heap_39 w.params).lookup 0) PySem.Challenge.rw_oy0388_01.prog = (hd.heap_39 w.params).lookup 0 := by
    k_fill
    rfl
  clear kf
  obtain ⟨p, loose, mg, mb, T⟩ := W.T
  refine wpAny_call ?_
  refine codeAny_call_function (by have := a.depth; omega) (W.at hst (by k_is)) rfl rfl rfl rfl (codeRec_of (W.in hst) (by k_is)) ?_
  refine bind_use (t := newTuple [v] >>= fun t => alloc { cls := .type "dict", data := .dict #[] } >>= fun d => pure [(("cls" : Str), Value.ref 618), (("args" : Str), t), (("kwargs" : Str), .ref d)]) rfl ?_
  unfold newTuple
  refine wpAny_bind (wpAny_newObj_type (wpAny_bind (wpAny_alloc (wpAny_pure ?_))) (by unfold sizeOk; show (1 : Nat) ≤ sizeLine; unfold sizeLine; omega))
  dsimp only
  have k1 : ∀ b o, s.heap.get? b = some o → ((s.heap.push { cls := .type "tuple", data := .seq #[v] }).push { cls := .type "dict", data := .dict #[] }).get? b = some o := fun b o e => Heap.get?_push_of_some _ (Heap.get?_push_of_some _ e)
  have st1 : KeepF [] base ((s.heap.push { cls := .type "tuple", data := .seq #[v] }).push { cls := .type "dict", data := .dict #[] }) := hst.trans (.of_keeps k1)
  generalize hh1 : (s.heap.push { cls := .type "tuple", data := .seq #[v] }).push { cls := .type "dict", data := .dict #[] } = h1 at *
  refine wpAny_newFunctionEnv_cells rfl (kindsX rfl _) fun env' he s' x => ?_
  subst he
  refine ⟨(noLimit_keepF st1 T.nolimit).keeps x.toInCall.keep, codeAny_func ?_⟩
  obtain ⟨h₁, tk, rfl, kk⟩ := x.done
  have J : CJ base _ { s with heap := h₁, toks := tk } := ⟨_, st1.trans (.of_keeps kk), x.toInCall.ns, rfl⟩
  have K0 : Keeps s { s with heap := h₁, toks := tk } := ⟨h₁, tk, rfl, fun b o e => kk b o (k1 b o e)⟩
  refine wpAny_execs_cons (wpAny_If (et_use (b := false) (R := Keeps) J ?_ (fun s2 k2 => ?_)))
  · have md := J.md rfl
    exact tv_and_go md (tv_cls_is W rfl rfl (nmJ_global W (fun _ h => h.st) rfl rfl rfl (by k_is) rfl) (by k_is) (by k_is) (fun q => absurd (Value.type.inj q) (by decide)) rfl)
      (tv_and_last md (tv_cls_is W rfl rfl (nmJ_global W (fun _ h => h.st) rfl rfl rfl (by k_is) rfl) (by k_is) (by k_is) (fun q => absurd (Value.type.inj q) (by decide)) rfl))
  have J2 := (cjMd (base := base) rfl).inv _ _ J k2
  rw [if_neg (by decide)]
  refine wpAny_execs_nil ?_
  show wpAny _ _ (execs (_ :: _) _) _ _ _
  have K2 := keeps_trans K0 k2
  refine wpAny_execs_cons (wpAny_Return_some (MethodCall_ ?_))
  refine nm_go J2 (nmJ_builtin W (fun _ h => h.st) rfl rfl rfl rfl (by k_is) bb_object (by decide) rfl) ?_
  have X0 := W.in J2.st
  have e0 : findCls (hd.heap_39 w.params) (.type "object") (.type "type") "__new__" = some (.val (.builtin "object.__new__")) := by kernel_rfl
  refine meth_type (name := "__new__") (T := "object") X0 ty_object stub_object e0 (by kernel_rfl) ?_
  have J3 := (cjMd (base := base) rfl).inv _ _ J2 (keeps_tok s2 (s2.toks + 1))
  have K3 := keeps_trans K2 (keeps_tok s2 (s2.toks + 1))
  obtain ⟨m3, st3, hn3, hm3⟩ := id J3
  refine Calls.callWith_builtin rfl (Calls.evalArgs_plain (Calls.spliced_cons (wpAny_Name (wpAny_loadName_local rfl rfl hn3 hm3 (Calls.spliced_nil ?_)) rfl)))
  refine io_obj w (W.in st3) ?_
  obtain ⟨h4, t4, e4, kk4⟩ := K3
  have e4' : s2.heap = h4 := congrArg Shared.heap e4
  have fresh : ∀ b, s2.heap.objs.size ≤ b → s.heap.get? b = none := fun b hb => by
    cases q : s.heap.get? b with
    | none => rfl
    | some o => have := Heap.lt_size (kk4 b o q); rw [← e4'] at this; exact absurd hb (Nat.not_le.mpr this)
  have fin := h (s2.heap.objs.size + 1) s2.heap.objs.size ((s2.heap.push emptyDict).push (instObj 618 s2.heap.objs.size)) t4 (fun b o q => Heap.get?_push_of_some _ (Heap.get?_push_of_some _ (e4' ▸ kk4 b o q))) (fresh _ (Nat.le_succ _)) (fresh _ (Nat.le_refl _))
    (by have := Heap.get?_push_size (s2.heap.push emptyDict) (o := instObj 618 s2.heap.objs.size) rfl; rwa [Heap.size_push] at this) (Heap.get?_push_of_some _ (Heap.get?_push_size _ rfl))
  have e5 : ({ s2 with heap := (s2.heap.push emptyDict).push (instObj 618 s2.heap.objs.size), toks := s2.toks + 1 } : Shared) = { s with heap := (s2.heap.push emptyDict).push (instObj 618 s2.heap.objs.size), toks := t4 } := by
    have := congrArg (fun z : Shared => ({ z with heap := (s2.heap.push emptyDict).push (instObj 618 s2.heap.objs.size) } : Shared)) e4
    exact this
  rw [← e5] at fin
  exact fin
end Mine

namespace Mine
theorem ne1 : cmpD .NotEq (.str "\n") (.str "") = some true := by decide +kernel
theorem ne2 : cmpD .NotEq (.str "\n") (.str "\n") = some false := by decide +kernel
theorem eq1 : cmpD .Eq (.str "\n") (.str "\r") = some false := by decide +kernel
theorem eq2 : cmpD .Eq (.str "\n") (.str "\r\n") = some false := by decide +kernel
set_option maxRecDepth 100000 in
set_option maxHeartbeats 4000000 in
theorem io_translated (w : World) {base : Heap} {A : Around} {s : Shared} {E : Value → Shared → Prop} {Q : Value → Shared → Prop} {Y DY : Addr} {buf : Str} {t : Tok} {α : Rho} {β : List (Str × Addr)} (W : Wd (hd.heap_39 w.params) base) (a : AQ A 1) (hst : KeepF [] base s.heap) (bY : base.get? DY = none)
    (O : OwnA s.heap Y DY 618 ioNames α β) (hα : α.lookup ("_StringIO__newline" : Str) = some (.str "\n")) (hQ : ∀ s' v, FV v (.str buf) → Keeps s s' → Q v s') : wpAny (model PySem.Challenge.rw_oy0388_01.prog w) A (call (.ref 395) [.ref Y, .str buf t]) Q E s := by
  have kf : (fun _ : Program => (hd.heap_39 w.params).lookup 0) PySem.Challenge.rw_oy0388_01.prog = (hd.heap_39 w.params).lookup 0 := by
    k_fill
    rfl
  clear kf
  refine' call_def (f := 395) (args := ⟨[.ref Y, .str buf t], []⟩) (binds := [("self", .ref Y), ("s", .str buf t)]) ?ho ?hcd ?hbind ?hkind ?hco ?hgen ?hk W ?hd hst ?h
  case ho => k_is
  case hcd => k_is
  case hbind => exact BindsTo.of_eq rfl
  case hkind => rfl
  case hco => rfl
  case hgen => rfl
  case hk => rfl
  case hd => have := a.depth; omega
  intro h₁ tk kk hn
  have hnone := none_size s.heap
  have hlt := own_ne O
  generalize hL : s.heap.objs.size = L at *
  have hbn := base_none hst hnone
  refine mx_start [("s", .str buf)] hst kk hn O rfl (.cons rfl rfl .str .nil) (io_mc W rfl rfl hbn bY (Nat.ne_of_lt hlt)) (fun c J => ?_)
  have K0 : Km [L] s { s with heap := h₁, toks := tk } := .of_keeps ⟨h₁, tk, rfl, kk⟩
  have hu : ∀ env, (A.deeper env).units + 64 < cLine := fun env => by have := a.units; rw [units_deeper]; omega
  refine wpAny_execs_cons (ms_assign (d := (.str "\n")) c J ?_ rfl rfl (by decide) rfl (fun s2 J2 k2 => ?_))
  · exact ev_at c (by decide) hα
  show wpAny _ _ (execs (_ :: _) _) _ _ _
  refine wpAny_execs_cons (ms_if c J2 (b := false) ?_ (fun s3 J3 k3 => ?_))
  · have md := J2.md rfl
    exact tv_cmp md (hu _) (ev_name md rfl rfl) (ev_none md) rfl rfl
  refine wpAny_execs_nil ?_
  show wpAny _ _ (execs (_ :: _) _) _ _ _
  refine wpAny_execs_cons (ms_if c J3 (b := false) ?_ (fun s4 J4 k4 => ?_))
  · have md := J3.md rfl
    exact tv_or_go md (tv_cmp md (hu _) (ev_name md rfl rfl) (ev_str md) eq1 rfl) (tv_or_last md (tv_cmp md (hu _) (ev_name md rfl rfl) (ev_str md) eq2 rfl))
  refine wpAny_execs_nil ?_
  show wpAny _ _ (execs (_ :: _) _) _ _ _
  refine wpAny_execs_cons (wpAny_Return_some (ev_use (d := .str buf) (R := Keeps) J4 ?_ (fun v s5 hv k5 => ?_)))
  · exact ev_name (J4.md rfl) rfl rfl
  exact hQ s5 v (fv_of hv rfl) (((((K0.trans k2).trans (.of_keeps k3)).trans (.of_keeps k4)).trans (.of_keeps k5)).drop hnone).toKeeps
set_option maxRecDepth 100000 in
set_option maxHeartbeats 4000000 in
theorem io_init_ok (w : World) {base : Heap} {A : Around} {s : Shared} {E : Value → Shared → Prop} {Q : Value → Shared → Prop} {Y DY : Addr} {buf : Str} {t : Tok} (W : Wd (hd.heap_39 w.params) base) (a : AQ A 2) (hst : KeepF [] base s.heap) (bY : base.get? DY = none)
    (O : OwnA s.heap Y DY 618 ioNames [] []) (hQ : ∀ s', IO s'.heap Y DY buf 0 → Km [DY] s s' → Q .none s') : wpAny (model PySem.Challenge.rw_oy0388_01.prog w) A (call (.ref 388) [.ref Y, .str buf t]) Q E s := by
  have kf : (fun _ : Program => (hd.heap_39 w.params).lookup 0) PySem.Challenge.rw_oy0388_01.prog = (hd.heap_39 w.params).lookup 0 := by
    k_fill
    rfl
  clear kf
  refine' call_def (f := 388) (args := ⟨[.ref Y, .str buf t], []⟩) ?ho ?hcd ?hbind ?hkind ?hco ?hgen ?hk W ?hd hst ?h
  case ho => k_is
  case hcd => k_is
  case hbind => exact binds_K (W.in hst) rfl (by k_is) rfl rfl rfl
  case hkind => rfl
  case hco => rfl
  case hgen => rfl
  case hk => rfl
  case hd => have := a.depth; omega
  intro h₁ tk kk hn
  have hnone := none_size s.heap
  have hlt := own_ne O
  generalize hL : s.heap.objs.size = L at *
  have hbn := base_none hst hnone
  refine mx_start [("initial_value", .str buf), ("newline", (.str "\n"))] hst kk hn O rfl (.cons rfl rfl .str (.cons rfl rfl .str .nil)) (io_mc W rfl rfl hbn bY (Nat.ne_of_lt hlt)) (fun c J => ?_)
  have K0 : Km [L, DY] s { s with heap := h₁, toks := tk } := .of_keeps ⟨h₁, tk, rfl, kk⟩
  have hu : ∀ env, (A.deeper env).units + 64 < cLine := fun env => by have := a.units; rw [units_deeper]; omega
  have aq : ∀ env, AQ (A.deeper env) 1 := fun env => aq_deep a
  refine wpAny_execs_cons (ms_if c J (b := false) ?_ (fun s2 J2 k2 => ?_))
  · have md := J.md rfl
    exact tv_and_go md (tv_notNone md nn_str (ev_name md rfl rfl)) (tv_and_last md (tv_type_isnot (d := (.str "\n")) md ty_str (by decide +kernel) (ev_name md rfl rfl) (nmJ_builtin W (fun _ h => h.st) rfl rfl rfl rfl (by k_is) bb_type (by decide) rfl) (nmJ_builtin W (fun _ h => h.st) rfl rfl rfl rfl (by k_is) bb_str (by decide) rfl) rfl))
  refine wpAny_execs_nil ?_
  show wpAny _ _ (execs (_ :: _) _) _ _ _
  refine wpAny_execs_cons (ms_if c J2 (b := false) ?_ (fun s3 J3 k3 => ?_))
  · have md := J2.md rfl
    exact tv_and_go md (tv_notNone md nn_str (ev_name md rfl rfl)) (tv_and_go md (tv_cmp md (hu _) (ev_name md rfl rfl) (ev_str md) ne1 rfl) (tv_and_stop (tv_cmp md (hu _) (ev_name md rfl rfl) (ev_str md) ne2 rfl)))
  refine wpAny_execs_nil ?_
  show wpAny _ _ (execs (_ :: _) _) _ _ _
  refine wpAny_execs_cons (ms_if c J3 (b := false) ?_ (fun s4 J4 k4 => ?_))
  · have md := J3.md rfl
    exact tv_and_go md (tv_notNone md nn_str (ev_name md rfl rfl)) (tv_and_last md (tv_type_isnot (d := .str buf) md ty_str (by decide +kernel) (ev_name md rfl rfl) (nmJ_builtin W (fun _ h => h.st) rfl rfl rfl rfl (by k_is) bb_type (by decide) rfl) (nmJ_builtin W (fun _ h => h.st) rfl rfl rfl rfl (by k_is) bb_str (by decide) rfl) rfl))
  refine wpAny_execs_nil ?_
  show wpAny _ _ (execs (_ :: _) _) _ _ _
  refine wpAny_execs_cons (ms_setattr (d := (.str "\n")) c J4 (ev_name (J4.md rfl) rfl rfl) rfl (by decide) rfl rfl (fun s5 J5 k5 => ?_))
  show wpAny _ _ (execs (_ :: _) _) _ _ _
  refine wpAny_execs_cons (ms_setattr (d := .str "") c J5 (ev_str (J5.md rfl)) rfl (by decide) rfl rfl (fun s6 J6 k6 => ?_))
  show wpAny _ _ (execs (_ :: _) _) _ _ _
  refine wpAny_execs_cons (ms_setattr (d := .int 0) c J6 (ev_int (J6.md rfl)) rfl (by decide) rfl rfl (fun s7 J7 k7 => ?_))
  show wpAny _ _ (execs (_ :: _) _) _ _ _
  refine wpAny_execs_cons (ms_if c J7 (b := true) ?_ (fun s8 J8 k8 => ?_))
  · have md := J7.md rfl
    exact tv_notNone md nn_str (ev_name md rfl rfl)
  rw [if_pos rfl]
  -- self.__buf = self.__translated(initial_value)
  refine wpAny_execs_cons (plainObj_wpAny_Assign_Attribute (MethodCall_ (self_name c J8 (self_meth c J8 (m_StringIO__translated w) (by decide) (callWith_1 (W.in J8.st) (by k_is) rfl ?_)))) rfl)
  refine ev_use (d := .str buf) (R := Keeps) J8 (ev_name (J8.md rfl) rfl rfl) (fun v s9 hv k9 => ?_)
  have J9 := J8.keeps k9
  refine ⟨W.in J9.st, ?_⟩
  cases hv
  refine io_translated w W (aq _) J9.st bY J9.own rfl (fun s10 v hv k10 => ?_)
  have J10 := J9.keeps k10
  refine self_name c J10 ?_
  obtain ⟨m, σ, j, hself, hnn, hα, hβ⟩ := J10
  refine mj_attr c.W j (c.ps _ (by decide)).2 (by decide) c.len c.bx c.ne (fun s11 j11 k11 => ?_)
  refine wpAny_execs_nil ?_
  refine wpAny_execs_nil ?_
  have O11 : OwnA s11.heap Y DY 618 ioNames _ [] := ⟨_, j11.own, hα.upd hv, hβ.updN rfl⟩
  have sD : ∀ {a b : Shared}, Km [DY] a b → Km [L, DY] a b := fun k => k.sub (by simp)
  have K : Km [L, DY] s s11 := (((((((((K0.trans (.of_keeps k2)).trans (.of_keeps k3)).trans (.of_keeps k4)).trans (sD k5)).trans (sD k6)).trans (sD k7)).trans (.of_keeps k8)).trans (.of_keeps k9)).trans (.of_keeps k10)).trans (sD k11)
  exact hQ s11 (O11.weaken (.cons rfl (.cons rfl .nil))) (K.drop hnone)
end Mine

namespace Mine
theorem aq_make {A : Around} {n : Nat} {C : Addr} {rest : List Value} {kw : List (Str × Value)} (a : AQ A (n + 1)) : AQ (A.under (.builtin "type.__call__" ⟨.ref C :: rest, kw⟩)) n :=
  ⟨a.handled, by have := a.depth; show A.depth + 1 + n < _; omega, by have := a.units; show A.units + 1 + 64 + 8 * n < _; omega⟩
theorem own_empty {h : Heap} {x dx C : Addr} {names : List Str} (h1 : h.get? x = some (instObj C dx)) (h2 : h.get? dx = some emptyDict) : OwnA h x dx C names [] [] := by
  refine ⟨fun _ => none, ⟨h1, Heap.Ns1.of_empty ⟨_, #[], _, h2, rfl, fun e he => absurd he (by simp), fun _ => rfl⟩, fun a h => absurd rfl h⟩, ?_, ?_⟩
  · intro _ _ e; cases e
  · intro _ _ e; cases e
set_option maxRecDepth 100000 in
set_option maxHeartbeats 4000000 in
theorem io_call_ok (w : World) {base : Heap} {A : Around} {E : Value → Shared → Prop} {s : Shared} {Q : Value → Shared → Prop} {buf : Str} {t : Tok} (W : Wd (hd.heap_39 w.params) base) (a : AQ A 4) (hst : KeepF [] base s.heap)
    (hQ : ∀ s' Y DY, IO s'.heap Y DY buf 0 → s.heap.get? Y = none → s.heap.get? DY = none → Keeps s s' → Q (.ref Y) s') :
    wpAny (model PySem.Challenge.rw_oy0388_01.prog w) A (call (.ref 618) [.str buf t]) Q E s := by
  have kf : (fun _ : Program => (hd.heap_39 w.params).lookup 0) PySem.Challenge.rw_oy0388_01.prog = (hd.heap_39 w.params).lookup 0 := by
    k_fill
    rfl
  clear kf
  have X := W.in hst
  refine wpAny_call (codeAny_of_tree ?_)
  show wpAny _ _ (callAny (.ref 618) _) _ _ _
  refine nd_load (X 618 _ (by k_is)) ?_
  show wpAny _ _ (callAny.viaDunder (.ref 618) _) _ _ _
  unfold callAny.viaDunder
  refine wpAny_bind ((io_call w X).here ?_)
  dsimp only
  rw [tc_bind]
  refine wpAny_bind (wpAny_pure (wpAny_bind (wpAny_pure ?_)))
  refine wpAny_pure (a := Fin.again (.call (.builtin "type.__call__") ⟨[.ref 618, .str buf t], []⟩)) (And.intro rfl ?_)
  refine codeAny_call_builtin_at (Code.quiet_builtin _ (by decide +kernel)) entry_typeCall (check_slot tc_kind tc_split (io_type w X) (tc_args _ _ _) ?_)
  have aq := aq_make (C := 618) (rest := [.str buf t]) (kw := []) a
  generalize A.under (.builtin "type.__call__" ⟨.ref 618 :: [.str buf t], []⟩) = B at aq ⊢
  unfold Builtin.«type.__call__»
  dsimp only
  rw [if_neg (by decide)]
  refine wpAny_bind ((io_mro w X).here ?_)
  rw [if_neg (by decide)]
  refine wpAny_bind ((io_made w X).here ?_)
  dsimp only
  refine wpAny_bind (cls_bind (mc := .type "type") (g := .builtin "staticmethod.__get__") (a := .ref 115) (obj := .none) (tp := .ref 618) X (by k_is) (by k_is) (wpAny_call (sm_get X (f := .ref 111) (rest := []) (by k_is) (handed_on rfl ?_))))
  refine wpAny_bind (wpAny_holding (io_new w (a := ⟨aq.handled, by have := aq.depth; omega, by have := aq.units; omega⟩) W hst (fun Y DY h1 tk kk fY fD hY hD => ?_)))
  have O1 : OwnA h1 Y DY 618 ioNames [] [] := own_empty hY hD
  have k1 : Keeps s { s with heap := h1, toks := tk } := ⟨h1, tk, rfl, kk⟩
  have st1 : KeepF [] base h1 := hst.trans (.of_keeps kk)
  obtain ⟨od, I, _, _⟩ := (show ∃ σ, Own h1 Y DY 618 ioNames σ from let ⟨σ, O, _⟩ := O1; ⟨σ, O⟩).choose_spec.inst
  have t1 : Looks (model PySem.Challenge.rw_oy0388_01.prog w) h1 (isInstance (.ref Y) (.ref 618)) true := I.type.andThen (io_self w (W.in st1))
  refine wpAny_bind (t1.here ?_)
  rw [if_neg (by decide)]
  refine wpAny_bind (wpAny_holding (special_fn (s := { s with heap := h1, toks := tk }) (f := 388) (W.in st1) I (by k_is) (by k_is) ?_))
  refine io_init_ok (s := { s with heap := h1, toks := tk }) w W (⟨aq.handled, by have := aq.depth; omega, by have := aq.units; omega⟩) st1 (base_none hst fD) O1 (fun s2 i2 k2 => ?_)
  dsimp only
  rw [if_neg (by decide)]
  refine wpAny_pure ?_
  exact hQ s2 Y DY i2 fY fD (((Km.of_keeps (ws := [DY]) k1).trans k2).drop fD).toKeeps
end Mine

namespace Mine
noncomputable def wcOf : Str := ("abcdfeghijklmnopqrstuvwxyzABCDEFGHIJKLMNOPQRSTUVWXYZ0123456789_" : Str) ++ ("ßàáâãäåæçèéêëìíîïðñòóôõöøùúûüýþÿÀÁÂÃÄÅÆÇÈÉÊËÌÍÎÏÐÑÒÓÔÕÖØÙÚÛÜÝÞ" : Str)
theorem wc_q : Txt.contains wcOf ⟨#[39]⟩ = false := by decide +kernel
theorem bb_isinstance : bootBuiltins "isinstance" = some (.builtin "isinstance") := by decide +kernel
theorem NamesOf.updN {env : Env} {m : Str → Option Value} {ρ : Rho} {y : Str} {v : Value} (x : NamesOf env m ρ) (h : ρ.lookup y = none) : NamesOf env (fun z => if z = y then some v else m z) ρ := fun b e hb => by
  have q : b ≠ y := fun q => by rw [q, h] at hb; cases hb
  obtain ⟨h0, u, h1, h2⟩ := x b e hb
  exact ⟨h0, u, (if_neg q).trans h1, h2⟩
theorem NamesOf.weaken {env : Env} {m : Str → Option Value} {ρ ρ' : Rho} (x : NamesOf env m ρ) (h : Sub ρ' ρ) : NamesOf env m ρ' := fun y d e => x y d (h y d e)
theorem RefsOf.cons {σ : Str → Option Value} {a : Str} {r : Addr} {β : List (Str × Addr)} (h : σ a = some (.ref r)) (x : RefsOf σ β) : RefsOf σ ((a, r) :: β) := fun b q hb => by
  by_cases z : b = a
  · subst z; rw [List.lookup_cons_self] at hb; cases hb; exact h
  · have e : (b == a) = false := by simpa using z
    rw [List.lookup_cons, e] at hb
    exact x b q hb
theorem RefsOf.nil {σ : Str → Option Value} : RefsOf σ [] := fun b q hb => by cases hb
section
variable {w : World} {A : Around} {base : Heap} {env : Env} {X DX Y DY : Addr} {s₀ s : Shared} {buf : Str} {p : Nat} {α : Rho} {β : List (Str × Addr)} {ρ : Rho} {E : Value → Shared → Prop}
theorem rs_setref (c : RC w base env X DX Y DY) (R : RS base env X DX Y DY s₀ buf p α β ρ s) {a : Str} {r : Addr} {Q : Unit → Shared → Prop} (ha : a ∈ lexNames) (hα : α.lookup a = none) (h : ∀ s', RS base env X DX Y DY s₀ buf p α ((a, r) :: β) ρ s' → Q () s') :
    wpAny (model PySem.Challenge.rw_oy0388_01.prog w) A (setAttr (.ref X) a (.ref r)) Q E s :=
  ms_setref c.c R.j ha hα fun s' J' k' => h s' ⟨J', R.io.km k' (by simpa using c.n3) (by simpa using c.n4), R.k.trans (k'.sub (by simp))⟩
theorem RS.live (R : RS base env X DX Y DY s₀ buf p α β ρ s) {b : Addr} (h : s.heap.get? b = none) : b ∉ [env.locals, DX, DY] := by
  obtain ⟨m, σ, j, _⟩ := R.j
  obtain ⟨o1, _, _, h1, _⟩ := j.ns
  obtain ⟨_, ⟨o2, _, _, h2, _⟩, _⟩ := j.own
  obtain ⟨σ', ⟨_, ⟨o3, _, _, h3, _⟩, _⟩, _⟩ := R.io
  intro q
  simp only [List.mem_cons, List.not_mem_nil, or_false] at q
  rcases q with q | q | q
  · rw [q, h1] at h; cases h
  · rw [q, h2] at h; cases h
  · rw [q, h3] at h; cases h
theorem RS.anew (R : RS base env X DX Y DY s₀ buf p α β ρ s) : RS base env X DX Y DY s buf p α β ρ s := ⟨R.j, R.io, .refl _ _⟩
theorem rs_deque (W : Wd (hd.heap_39 w.params) base) (c : RC w base env X DX Y DY) (R : RS base env X DX Y DY s₀ buf p α β ρ s) {a : Str} {np p2 q1 q2 pos : Pos} {Q : Flow → Shared → Prop} (ha : a ∈ lexNames) (hα : α.lookup a = none) (hg : env.globals = mainGlobals) (hx : env.kindOf "deque" = some .globalImplicit)
    (he : nsIn (hd.heap_39 w.params) mainGlobals "deque" = some (some (.type "collections.deque")))
    (h : ∀ s' r, RS base env X DX Y DY s₀ buf p α ((a, r) :: β) ρ s' → s'.heap.get? r = some dqObj → r ∉ [env.locals, DX, DY] → Q .next s')
    (hs : swapsWith (.Call (.Name "deque" q1) [] [] q2) (some (.Attribute (.Name "self" np) a p2)) pos.line env = pure false) : wpAny (model PySem.Challenge.rw_oy0388_01.prog w) A (exec (.Assign [.Attribute (.Name "self" np) a p2] (.Call (.Name "deque" q1) [] [] q2) pos) env) Q E s := by
  refine plainObj_wpAny_Assign_Attribute (Call_Name0 (nmJ_global (J := MX base env X DX 753 lexNames α β ρ) W (fun _ h => h.st) c.c.hk hg hx he rfl _ _ _ _ R.j (PySem.callWith_type rfl (evalArgs_nil3 (dq_call (fun r h' kk fr hr => ?_)))))) hs
  have n := R.live fr
  have R1 := R.keeps (s' := { s with heap := h' }) ⟨h', s.toks, rfl, kk⟩
  refine self_name c.c R1.j ?_
  refine ms_setref c.c R1.j ha hα fun s' J' k' => h s' r ⟨J', R1.io.km k' (by simpa using c.n3) (by simpa using c.n4), R1.k.trans (k'.sub (by simp))⟩ (k'.get ?_ hr) n
  simp only [List.mem_cons, List.not_mem_nil, or_false, not_or] at n ⊢
  exact n.2.1
end
noncomputable abbrev lexI : Rho := [("_punctuation_chars", .str ""), ("source", .none), ("token", .str ""), ("debug", .int 0), ("state", .str " "), ("escape", .str "\\"), ("quotes", .str "'\""), ("whitespace", .str " \t\r\n"), ("wordchars", .str wcOf), ("eof", .none), ("posix", .bool true)]
set_option maxRecDepth 100000 in
set_option maxHeartbeats 4000000 in
theorem shlex_init_ok (w : World) {base : Heap} {A : Around} {s : Shared} {E : Value → Shared → Prop} {Q : Value → Shared → Prop} {X DX : Addr} {buf : Str} {t : Tok} (W : Wd (hd.heap_39 w.params) base) (a : AQ A 5) (hst : KeepF [] base s.heap) (bX : base.get? DX = none)
    (O : OwnA s.heap X DX 753 lexNames [] [])
    (hQ : ∀ s' Y DY PB FS, OwnA s'.heap X DX 753 lexNames lexI (lexB Y PB FS) → IO s'.heap Y DY buf 0 → s'.heap.get? PB = some dqObj → s'.heap.get? FS = some dqObj → s.heap.get? Y = none → s.heap.get? DY = none → Km [DX] s s' → Q .none s') :
    codeAny (model PySem.Challenge.rw_oy0388_01.prog w) A (.call (.ref 677) ⟨[.ref X, .str buf t], [("posix", .bool true)]⟩) (fun r s' => match r with | .ok (.ret v) => Q v s' | .ok _ => False | .error e => E e s') s := by
  have kf : (fun _ : Program => (hd.heap_39 w.params).lookup 0) PySem.Challenge.rw_oy0388_01.prog = (hd.heap_39 w.params).lookup 0 := by
    k_fill
    rfl
  clear kf
  refine' code_def0 (f := 677) (args := ⟨[.ref X, .str buf t], [("posix", .bool true)]⟩) (binds := [("self", .ref X), ("instream", .str buf t), ("infile", .none), ("posix", .bool true), ("punctuation_chars", .bool false)]) ?ho ?hcd ?hbind ?hkind ?hco ?hgen ?hk W ?hd hst ?h
  case ho => k_is
  case hcd => k_is
  case hbind => exact binds_K (W.in hst) rfl (by k_is) rfl rfl rfl
  case hkind => rfl
  case hco => rfl
  case hgen => rfl
  case hk => rfl
  case hd => have := a.depth; omega
  intro h₁ tk kk hn
  have hnone := none_size s.heap
  have hlt := own_ne O
  generalize hL : s.heap.objs.size = L at *
  have hbn := base_none hst hnone
  refine mx_start [("instream", .str buf), ("infile", .none), ("posix", .bool true), ("punctuation_chars", .bool false)] hst kk hn O rfl (.cons rfl rfl .str (.cons rfl rfl .none (.cons rfl rfl .bool (.cons rfl rfl .bool .nil)))) (lex_mc W rfl rfl hbn bX (Nat.ne_of_lt hlt)) (fun c J => ?_)
  have K0 : Km [L] s { s with heap := h₁, toks := tk } := .of_keeps ⟨h₁, tk, rfl, kk⟩
  have hu : ∀ env, (A.deeper env).units + 64 < cLine := fun env => by have := a.units; rw [units_deeper]; omega
  have aq : ∀ env, AQ (A.deeper env) 4 := fun env => aq_deep a
  refine wpAny_execs_cons (wpAny_If (wpAny_isTrue_value (Call_Name2 (nmJ_builtin (J := MX base _ X DX 753 lexNames [] [] _) W (fun _ h => h.st) rfl rfl rfl rfl (by k_is) bb_isinstance (by decide) rfl _ _ _ _ J ?_))))
  refine Calls.callWith_builtin rfl (Calls.evalArgs_plain (Calls.spliced_cons (ev_use (d := .str buf) (R := Keeps) J (ev_name (J.md rfl) rfl rfl) (fun v s2 hv k2 => ?_))))
  cases hv
  have J2 := J.keeps k2
  refine Calls.spliced_cons (nmJ_builtin (J := MX base _ X DX 753 lexNames [] [] _) W (fun _ h => h.st) rfl rfl rfl rfl (by k_is) bb_str (by decide) rfl _ _ _ _ J2 (Calls.spliced_nil ?_))
  refine IsiPair.str_str (wpAny_truthy_bool ?_)
  rw [if_pos rfl]
  -- instream = StringIO(instream)
  refine wpAny_execs_cons (wpAny_Assign_Name (Call_Name1 (nmJ_global (J := MX base _ X DX 753 lexNames [] [] _) (v := .ref 618) W (fun _ h => h.st) rfl rfl rfl (by k_is) rfl _ _ _ _ J2 ?_)) rfl)
  refine callWith_1 (W.in J2.st) (by k_is) rfl (ev_use (d := .str buf) (R := Keeps) J2 (ev_name (J2.md rfl) rfl rfl) (fun v s3 hv k3 => ?_))
  cases hv
  have J3 := J2.keeps k3
  refine ⟨W.in J3.st, io_call_ok w W (aq _) J3.st (fun s4 Y DY i4 fY fD k4 => ?_)⟩
  have J4 := J3.keeps k4
  obtain ⟨m, σ, j, hself, hn4, hα, hβ⟩ := J4
  refine mj_local j rfl c.hk rfl c.bL c.ne (fun s5 j5 k5 => ?_)
  refine wpAny_execs_nil ?_
  show wpAny _ _ (execs (_ :: _) _) _ _ _
  -- if instream is not None
  refine wpAny_execs_cons (wpAny_If (wpAny_isTrue_Compare1 (wpAny_Name (wpAny_loadName_local rfl rfl j5.ns (if_pos rfl) ?_) rfl) rfl))
  rw [eval_Constant]
  refine wpAny_pure (isnot_ref_none (wpAny_truthy_bool ?_))
  rw [if_pos rfl]
  refine wpAny_execs_cons (plainObj_wpAny_Assign_Attribute (wpAny_Name (wpAny_loadName_local rfl rfl j5.ns (if_pos rfl) ?_) rfl) rfl)
  refine wpAny_Name (wpAny_loadName_local rfl rfl j5.ns ((if_neg (by decide)).trans hself) ?_) rfl
  refine mj_attr c.W j5 (c.ps _ (by decide)).2 (by decide) c.len c.bx c.ne (fun s6 j6 k6 => ?_)
  have K3 : Km [L] s s3 := (K0.trans (.of_keeps k2)).trans (.of_keeps k3)
  obtain ⟨m3, σ3, j3, _⟩ := id J3
  obtain ⟨o1, _, _, l1, _⟩ := j3.ns
  obtain ⟨lX, ⟨o2, _, _, l2, _⟩, _⟩ := j3.own
  have neq : ∀ {a b : Addr} {o : Obj}, s3.heap.get? a = none → s3.heap.get? b = some o → a ≠ b := fun h1 h2 q => by rw [q, h2] at h1; cases h1
  have rc : RC w base _ X DX Y DY := ⟨c, base_none J3.st fD, neq fY l1, neq fD l1, neq fY l2, neq fD l2, Ne.symm (neq fD lX)⟩
  have R6 : RS base _ X DX Y DY s4 buf 0 [] [("instream", Y)] [("infile", .none), ("posix", .bool true), ("punctuation_chars", .bool false)] s6 := ⟨⟨_, _, j6, (if_neg (by decide)).trans hself, (hn4.weaken (.cons rfl (.cons rfl (.cons rfl .nil)))).updN rfl, hα.updN rfl, hβ.upd⟩, (i4.km k5 (by simpa using rc.n1) (by simpa using rc.n2)).km k6 (by simpa using rc.n3) (by simpa using rc.n4), (k5.sub (by intro b hb; simp only [List.mem_cons, List.not_mem_nil, or_false] at hb ⊢; exact .inl hb)).trans (k6.sub (by simp))⟩
  show wpAny _ _ (execs (_ :: _) _) _ _ _
  refine wpAny_execs_cons (rs_setattr (d := .none) rc R6 (ev_name (R6.j.md rfl) rfl rfl) rfl (by decide) rfl rfl (fun s7 R7 => ?_))
  refine wpAny_execs_nil ?_
  show wpAny _ _ (execs (_ :: _) _) _ _ _
  refine wpAny_execs_cons (rs_setattr (d := .bool true) rc R7 (ev_name (R7.j.md rfl) rfl rfl) rfl (by decide) rfl rfl (fun s8 R8 => ?_))
  show wpAny _ _ (execs (_ :: _) _) _ _ _
  refine wpAny_execs_cons (rs_if rc R8 (b := true) (tv_ok (R8.j.md rfl) (ev_name (R8.j.md rfl) rfl rfl) rfl (fun _ => rfl)) (fun s9 R9 => ?_))
  rw [if_pos rfl]
  refine wpAny_execs_cons (rs_setattr (d := .none) rc R9 (ev_none (R9.j.md rfl)) rfl (by decide) rfl rfl (fun s10 R10 => ?_))
  refine wpAny_execs_nil ?_
  show wpAny _ _ (execs (_ :: _) _) _ _ _
  refine wpAny_execs_cons (rs_setattr (d := .str "#") rc R10 (ev_str (R10.j.md rfl)) rfl (by decide) rfl rfl (fun s11 R11 => ?_))
  show wpAny _ _ (execs (_ :: _) _) _ _ _
  refine wpAny_execs_cons (rs_setattr (d := .str "abcdfeghijklmnopqrstuvwxyzABCDEFGHIJKLMNOPQRSTUVWXYZ0123456789_") rc R11 (ev_str (R11.j.md rfl)) rfl (by decide) rfl rfl (fun s12 R12 => ?_))
  show wpAny _ _ (execs (_ :: _) _) _ _ _
  refine wpAny_execs_cons (rs_if rc R12 (b := true) (tv_ok (R12.j.md rfl) (ev_at c (by decide) rfl) rfl (fun _ => rfl)) (fun s13 R13 => ?_))
  rw [if_pos rfl]
  refine wpAny_execs_cons (rs_augattr rc R13 rfl (ev_str (R13.j.md rfl)) (by decide +kernel) (by decide) rfl (fun s14 R14 => ?_))
  refine wpAny_execs_nil ?_
  show wpAny _ _ (execs (_ :: _) _) _ _ _
  refine wpAny_execs_cons (rs_setattr (d := .str " \t\r\n") rc R14 (ev_str (R14.j.md rfl)) rfl (by decide) rfl rfl (fun s15 R15 => ?_))
  show wpAny _ _ (execs (_ :: _) _) _ _ _
  refine wpAny_execs_cons (rs_setattr (d := .bool false) rc R15 (ev_bool (R15.j.md rfl)) rfl (by decide) rfl rfl (fun s16 R16 => ?_))
  show wpAny _ _ (execs (_ :: _) _) _ _ _
  refine wpAny_execs_cons (rs_setattr (d := .str "'\"") rc R16 (ev_str (R16.j.md rfl)) rfl (by decide) rfl rfl (fun s17 R17 => ?_))
  show wpAny _ _ (execs (_ :: _) _) _ _ _
  refine wpAny_execs_cons (rs_setattr (d := .str "\\") rc R17 (ev_str (R17.j.md rfl)) rfl (by decide) rfl rfl (fun s18 R18 => ?_))
  show wpAny _ _ (execs (_ :: _) _) _ _ _
  refine wpAny_execs_cons (rs_setattr (d := .str "\"") rc R18 (ev_str (R18.j.md rfl)) rfl (by decide) rfl rfl (fun s19 R19 => ?_))
  show wpAny _ _ (execs (_ :: _) _) _ _ _
  refine wpAny_execs_cons (rs_setattr (d := .str " ") rc R19 (ev_str (R19.j.md rfl)) rfl (by decide) rfl rfl (fun s20 R20 => ?_))
  show wpAny _ _ (execs (_ :: _) _) _ _ _
  refine wpAny_execs_cons (rs_deque W rc R20 (by decide) rfl rfl rfl (by k_is) (fun s21 PB R21 ePB nPB => ?_) rfl)
  have kPB := R21.k
  replace R21 := R21.anew
  show wpAny _ _ (execs (_ :: _) _) _ _ _
  refine wpAny_execs_cons (rs_setattr (d := .int 1) rc R21 (ev_int (R21.j.md rfl)) rfl (by decide) rfl rfl (fun s22 R22 => ?_))
  show wpAny _ _ (execs (_ :: _) _) _ _ _
  refine wpAny_execs_cons (rs_setattr (d := .int 0) rc R22 (ev_int (R22.j.md rfl)) rfl (by decide) rfl rfl (fun s23 R23 => ?_))
  show wpAny _ _ (execs (_ :: _) _) _ _ _
  refine wpAny_execs_cons (rs_setattr (d := .str "") rc R23 (ev_str (R23.j.md rfl)) rfl (by decide) rfl rfl (fun s24 R24 => ?_))
  show wpAny _ _ (execs (_ :: _) _) _ _ _
  refine wpAny_execs_cons (rs_deque W rc R24 (by decide) rfl rfl rfl (by k_is) (fun s25 FS R25 eFS nFS => ?_) rfl)
  have kFS := R25.k
  replace R25 := R25.anew
  show wpAny _ _ (execs (_ :: _) _) _ _ _
  refine wpAny_execs_cons (rs_setattr (d := .none) rc R25 (ev_none (R25.j.md rfl)) rfl (by decide) rfl rfl (fun s26 R26 => ?_))
  show wpAny _ _ (execs (_ :: _) _) _ _ _
  refine wpAny_execs_cons (rs_if rc R26 (b := true) (tv_not (c := false) (tv_ok (R26.j.md rfl) (ev_name (R26.j.md rfl) rfl rfl) rfl (fun _ => rfl))) (fun s27 R27 => ?_))
  rw [if_pos rfl]
  refine wpAny_execs_cons (rs_assign (d := .str "") rc R27 (ev_str (R27.j.md rfl)) rfl rfl (by decide) rfl (fun s28 R28 => ?_))
  refine wpAny_execs_nil ?_
  show wpAny _ _ (execs (_ :: _) _) _ _ _
  refine wpAny_execs_cons (rs_setattr (d := .str "") rc R28 (ev_name (R28.j.md rfl) rfl rfl) rfl (by decide) rfl rfl (fun s29 R29 => ?_))
  show wpAny _ _ (execs (_ :: _) _) _ _ _
  refine wpAny_execs_cons (rs_if rc R29 (b := false) (tv_ok (R29.j.md rfl) (ev_name (R29.j.md rfl) rfl rfl) rfl (fun _ => rfl)) (fun s30 R30 => ?_))
  rw [if_neg (by decide)]
  refine wpAny_execs_nil ?_
  refine wpAny_execs_nil ?_
  have kk1 : Km [L, DX, DY] s s4 := ((K3.sub (by simp)).trans (.of_keeps k4))
  have K : Km [L, DX, DY] s s30 := ((kk1.trans kPB).trans kFS).trans R30.k
  have ePB' := R30.k.get nPB (kFS.get nPB ePB)
  have eFS' := R30.k.get nFS eFS
  have fr : ∀ b, s3.heap.get? b = none → s.heap.get? b = none := fun b h => by
    cases q : s.heap.get? b with
    | none => rfl
    | some o => rw [(K3.drop hnone).get (by simp) q] at h; cases h
  have fDs := fr _ fD
  obtain ⟨σ, O', hA, hB⟩ := R30.j.own
  have K' : Km [DY, DX] s s30 := (K.drop hnone).sub (by simp)
  refine hQ s30 Y DY PB FS ⟨σ, O', hA.weaken ?_, .cons (hB _ _ rfl) (.cons (hB _ _ rfl) (.cons (hB _ _ rfl) .nil))⟩ R30.io ePB' eFS' (fr _ fY) fDs (K'.drop fDs)
  exact .cons rfl (.cons rfl (.cons rfl (.cons rfl (.cons rfl (.cons rfl (.cons rfl (.cons rfl (.cons rfl (.cons rfl (.cons rfl .nil))))))))))
end Mine

namespace Mine
set_option maxRecDepth 100000 in
set_option maxHeartbeats 4000000 in
theorem shlex_call_ok (w : World) {base : Heap} {A : Around} {s : Shared} {E : Value → Shared → Prop} {Q : Value → Shared → Prop} {buf : Str} {t : Tok} (W : Wd (hd.heap_39 w.params) base) (a : AQ A 6) (hst : KeepF [] base s.heap)
    (hQ : ∀ s' X DX Y DY PB FS, OwnA s'.heap X DX 753 lexNames lexI (lexB Y PB FS) → IO s'.heap Y DY buf 0 → s'.heap.get? PB = some dqObj → s'.heap.get? FS = some dqObj → s.heap.get? DX = none → s.heap.get? DY = none → Y ≠ DX → DY ≠ DX → X ≠ DY → Keeps s s' → Q (.ref X) s') :
    wpAny (model PySem.Challenge.rw_oy0388_01.prog w) A (call (.ref 753) [.str buf t] [("posix", .bool true)]) Q E s := by
  have kf : (fun _ : Program => (hd.heap_39 w.params).lookup 0) PySem.Challenge.rw_oy0388_01.prog = (hd.heap_39 w.params).lookup 0 := by
    k_fill
    rfl
  clear kf
  have X := W.in hst
  obtain ⟨hh, g, d, tk, os⟩ := s
  have hi : findIn (hd.heap_39 w.params) (.ref 753) "__init__" = some (some (.ref 677)) := by k_is
  have hf : typeIn (hd.heap_39 w.params) (.ref 677) = some (.type "function") := by k_is
  have hm : makesIn (hd.heap_39 w.params) 753 = true := by k_is
  refine wpAny_call (make_core (makes_of X hm) (looks_findIn X hi) (fun self => bind_fn X self hf) (.inl rfl) ?_)
  have aq := aq_make (C := 753) (rest := [.str buf t]) (kw := [("posix", .bool true)]) a
  have kk : ∀ b o, hh.get? b = some o → ((hh.push emptyDict).push (instObj 753 hh.objs.size)).get? b = some o := fun b o e => Heap.get?_push_of_some _ (Heap.get?_push_of_some _ e)
  have none' : ∀ b, hh.objs.size ≤ b → hh.get? b = none := fun b hb => by
    cases q : hh.get? b with
    | none => rfl
    | some o => exact absurd (Heap.lt_size q) (Nat.not_lt.mpr hb)
  have st1 : KeepF [] base ((hh.push emptyDict).push (instObj 753 hh.objs.size)) := hst.trans (.of_keeps kk)
  have hx : ((hh.push emptyDict).push (instObj 753 hh.objs.size)).get? (hh.objs.size + 1) = some (instObj 753 hh.objs.size) := by
    have := Heap.get?_push_size (hh.push emptyDict) (o := instObj 753 hh.objs.size) rfl; rwa [Heap.size_push] at this
  have hdx : ((hh.push emptyDict).push (instObj 753 hh.objs.size)).get? hh.objs.size = some emptyDict := Heap.get?_push_of_some _ (Heap.get?_push_size _ rfl)
  refine codeAny_mono (shlex_init_ok (s := ⟨(hh.push emptyDict).push (instObj 753 hh.objs.size), g, d, tk, os⟩) (E := E) (Q := fun v s' => v = .none ∧ Q (.ref (hh.objs.size + 1)) s') w W aq st1 (base_none hst (none' _ (Nat.le_refl _))) (own_empty hx hdx) (fun s' Y DY PB FS O' I' ePB eFS fY fD k => ⟨rfl, ?_⟩)) (fun r s' z => ?_)
  · have down : ∀ b, ((hh.push emptyDict).push (instObj 753 hh.objs.size)).get? b = none → hh.get? b = none := fun b h => by
      cases q : hh.get? b with
      | none => rfl
      | some o => rw [kk b o q] at h; cases h
    have n1 : Y ≠ hh.objs.size := fun q => by rw [q, hdx] at fY; cases fY
    have n2 : DY ≠ hh.objs.size := fun q => by rw [q, hdx] at fD; cases fD
    have n3 : hh.objs.size + 1 ≠ DY := fun q => by rw [← q, hx] at fD; cases fD
    refine hQ s' (hh.objs.size + 1) hh.objs.size Y DY PB FS O' I' ePB eFS (none' _ (Nat.le_refl _)) (down _ fD) n1 n2 n3 ?_
    have K0 : Km [hh.objs.size] ⟨hh, g, d, tk, os⟩ ⟨(hh.push emptyDict).push (instObj 753 hh.objs.size), g, d, tk, os⟩ := .of_keeps ⟨_, tk, rfl, kk⟩
    exact ((K0.trans k).drop (none' _ (Nat.le_refl _))).toKeeps
  · rcases r with e | (v | _ | _ | _) <;> first | exact z | exact z.elim | skip
end Mine

namespace Mine
theorem lexD_len : ∀ (r : List Nat) (m : LexMode) (t : List Nat) (ws : List (List Nat)), lexD m t r = some ws → ws.length ≤ r.length + 1
  | [], m, t, ws, h => by
    cases m with
    | gap => simp only [lexD, Option.some.injEq] at h; subst h; simp
    | quote => simp [lexD] at h
    | word => simp only [lexD, Option.some.injEq] at h; subst h; simp
  | c :: r, m, t, ws, h => by
    have ih := fun m t ws => lexD_len r m t ws
    rw [List.length_cons]
    cases m with
    | gap =>
      simp only [lexD] at h
      split at h
      · have := ih _ _ _ h; omega
      · split at h
        · have := ih _ _ _ h; omega
        · have := ih _ _ _ h; omega
    | quote =>
      simp only [lexD] at h
      split at h
      · have := ih _ _ _ h; omega
      · have := ih _ _ _ h; omega
    | word =>
      simp only [lexD] at h
      split at h
      · obtain ⟨ws', e1, e2⟩ := Option.map_eq_some_iff.mp h
        have := ih _ _ _ e1
        rw [← e2, List.length_cons]; omega
      · split at h
        · have := ih _ _ _ h; omega
        · have := ih _ _ _ h; omega
theorem strs_dt {h : Heap} : ∀ {vs : List Value} {xs : List Str}, StrVs vs xs → DtAll h vs (xs.map .str)
  | _, _, .nil => .nil
  | _, _, .cons hv r => .cons (hv.2 _) (strs_dt r)
section
variable {prog : Program} {w : World} {A : Around} {env : Env} {ρ : Rho} {J : Shared → Prop} {R : Shared → Shared → Prop} {pos p2 : Pos} {e : Expr} {d : PyData}
theorem tv_isNone (md : Md env ρ J R) {b : Bool} (hb : ∀ v (s : Shared), Dt s.heap v d → plainIs v .none = true ∧ (v == .none) = b) (h : EvP prog w A env J R e d) {kk : Nat} : EvT prog w A env J R (.Compare e [.Is] [.Constant .none kk p2] pos) b := by
  intro s E hJ
  refine wpAny_isTrue_Compare1 (wpAny_mono (h s E hJ) (fun v s₁ h₁ => ?_) fun _ _ e => e) rfl
  rw [eval_Constant]
  obtain ⟨hp, he⟩ := hb _ _ h₁.1
  refine wpAny_pure ?_
  refine wpAny_is_plain hp ?_
  rw [he]
  exact wpAny_truthy_bool ⟨rfl, h₁.2⟩
end
theorem Call_NameKw {M : Model} {A : Around} {E : Value → Shared → Prop} {s : Shared} {env : Env} {x : Str} {p pos : Pos} {args : List Expr} {kws : List Keyword} {Q : Value → Shared → Prop}
    (h : wpAny M A (eval (.Name x p) env) (fun f s₁ => wpAny M A (callWith pos f [] (backTo pos (starEach args env)) (backToKw pos (keywordEach kws env))) Q E s₁) E s) : wpAny M A (eval (.Call (.Name x p) args kws pos) env) Q E s := wpAny_bind h
theorem bb_list : bootBuiltins "list" = some (.type "list") := by decide +kernel
theorem isn_str {x : Str} : ∀ v (s : Shared), Dt s.heap v (.str x) → plainIs v .none = true ∧ (v == .none) = false := fun v s h => by cases h; exact ⟨rfl, rfl⟩
noncomputable abbrev spEnv (L : Addr) : Env := envOfC "split" { kind := .function, names := [("s", .local), ("comments", .local), ("posix", .local), ("lex", .local), ("ValueError", .globalImplicit), ("shlex", .globalImplicit), ("list", .globalImplicit)], isGenerator := false, isCoroutine := false } L 765 (.ref 764)
set_option maxRecDepth 100000 in
set_option maxHeartbeats 4000000 in
theorem split_hold (w : World) : SplitOk w := by
  intro x ss hsp hl hsg base outer A s E vs W a hst hfr hdc hvs
  have kf : (fun _ : Program => (hd.heap_39 w.params).lookup 0) PySem.Challenge.rw_oy0388_01.prog = (hd.heap_39 w.params).lookup 0 := by
    k_fill
    rfl
  clear kf
  obtain ⟨ws, hws, rfl⟩ := Option.map_eq_some_iff.mp hsp
  obtain ⟨t, rfl⟩ : ∃ t, vs = [.str x t] := by
    cases hvs with
    | cons hv r => cases r; cases hv; exact ⟨_, rfl⟩
  refine' call_def (f := 765) (args := ⟨[.str x t], []⟩) (binds := [("s", .str x t), ("comments", .bool false), ("posix", .bool true)]) ?ho ?hcd ?hbind ?hkind ?hco ?hgen ?hk W ?hd hst ?h
  case ho => k_is
  case hcd => k_is
  case hbind => exact binds_K (W.in hst) rfl (by k_is) rfl rfl rfl
  case hkind => rfl
  case hco => rfl
  case hgen => rfl
  case hk => rfl
  case hd => have := a.depth; omega
  intro h₁ tk kk hn
  have hnone := none_size s.heap
  generalize hL : s.heap.objs.size = L at *
  have hbn := base_none hst hnone
  have aq : ∀ env, AQ (A.deeper env) 11 := fun env => ⟨a.handled, by have := a.depth; rw [depth_deeper]; omega, by have := a.units; rw [units_deeper]; omega⟩
  refine px_start [("s", .str x), ("comments", .bool false), ("posix", .bool true)] hst kk hn (.cons rfl rfl .str (.cons rfl rfl .bool (.cons rfl rfl .bool .nil))) (fun J => ?_)
  have K0 : Km [L] s { s with heap := h₁, toks := tk } := .of_keeps ⟨h₁, tk, rfl, kk⟩
  refine wpAny_execs_cons (px_if J (b := false) (tv_isNone (J.md rfl) isn_str (ev_name (J.md rfl) rfl rfl)) (fun s2 J2 k2 => ?_))
  rw [if_neg (by decide)]
  refine wpAny_execs_nil ?_
  show wpAny _ _ (execs (_ :: _) _) _ _ _
  -- lex = shlex(s, posix=posix)
  refine wpAny_execs_cons (wpAny_Assign_Name (Call_NameKw (nmJ_global (J := PX base _ _) (v := .ref 753) W (fun _ h => h.st) rfl rfl rfl (by k_is) rfl _ _ _ _ J2 ?_)) rfl)
  refine callWith_KW (W.in J2.st) (by k_is) rfl ?_
  refine Calls.spliced_cons (ev_use (d := .str x) (R := Keeps) J2 (ev_name (J2.md rfl) rfl rfl) (fun v s3 hv k3 => Calls.spliced_nil ?_))
  cases hv
  have J3 := J2.keeps k3
  refine kwAll_cons (ev_use (d := .bool true) (R := Keeps) J3 (ev_name (J3.md rfl) rfl rfl) (fun v s4 hv k4 => kwAll_nil ?_))
  cases hv
  have J4 := J3.keeps k4
  refine ⟨W.in J4.st, ?_⟩
  refine shlex_call_ok w W (AQ.less (aq _) (by omega)) J4.st (fun s5 X DX Y DY PB FS O5 I5 ePB eFS fX fY n1 n2 n3 k5 => ?_)
  have K5 : Km [L] s s5 := (((K0.trans (.of_keeps k2)).trans (.of_keeps k3)).trans (.of_keeps k4)).trans (.of_keeps k5)
  obtain ⟨m4, st4, hn4, hN4⟩ := id J4
  obtain ⟨m, st5, hn5, hN5⟩ := J4.keeps k5
  obtain ⟨o4, _, _, l4, _⟩ := hn4
  replace l4 : s4.heap.get? L = some o4 := l4
  have nL : ∀ {b : Addr}, s4.heap.get? b = none → b ≠ L := fun h q => by rw [q, l4] at h; cases h
  have bX := base_none J4.st fX
  have bY := base_none J4.st fY
  have ne := nL fX
  obtain ⟨σ, Ow, hA, hB⟩ := O5
  have j5 : MJ base (spEnv L) m X DX 753 lexNames σ s5 := ⟨st5, hn5, Ow⟩
  refine mj_local j5 rfl rfl rfl hbn ne (fun s6 j6 k6 => ?_)
  show wpAny _ _ (execs (_ :: _) _) _ _ _
  -- lex.whitespace_split = True
  refine wpAny_execs_cons (plainObj_wpAny_Assign_Attribute (ev_use (d := .bool true) (R := Keeps) j6 (ev_bool (mjMd (ρ := []) rfl .nil)) (fun v s7 hv k7 => ?_)) rfl)
  have hv := fv_of hv rfl
  have j7 := j6.keeps k7
  refine wpAny_Name (wpAny_loadName_local rfl rfl j7.ns (if_pos rfl) ?_) rfl
  refine mj_attr W j7 (lex_ps w _ (by decide)).2 (by decide) (by decide) bX ne (fun s8 j8 k8 => ?_)
  show wpAny _ _ (execs (_ :: _) _) _ _ _
  -- if not comments
  have hN8 : NamesOf (spEnv L) (fun z => if z = "lex" then some (.ref X) else m z) [("s", .str x), ("comments", .bool false), ("posix", .bool true)] := hN5.updN rfl
  refine wpAny_execs_cons (wpAny_If (et_use (b := true) (R := Keeps) j8 (tv_not (c := false) (tv_ok (mjMd rfl hN8) (ev_name (mjMd rfl hN8) rfl rfl) rfl (fun _ => rfl))) (fun s9 k9 => ?_)))
  have j9 := j8.keeps k9
  rw [if_pos rfl]
  refine wpAny_execs_cons (plainObj_wpAny_Assign_Attribute (ev_use (d := .str "") (R := Keeps) j9 (ev_str (mjMd (ρ := []) rfl .nil)) (fun v10 s10 hv10 k10 => ?_)) rfl)
  have hv10 := fv_of hv10 rfl
  have j10 := j9.keeps k10
  refine wpAny_Name (wpAny_loadName_local rfl rfl j10.ns (if_pos rfl) ?_) rfl
  refine mj_attr W j10 (lex_ps w _ (by decide)).2 (by decide) (by decide) bX ne (fun s11 j11 k11 => ?_)
  refine wpAny_execs_nil ?_
  show wpAny _ _ (execs (_ :: _) _) _ _ _
  have k511 : Km [L, DX] s5 s11 := ((((Km.sub (ws := [L]) k6 (by simp)).trans (.of_keeps k7)).trans (Km.sub (ws := [DX]) k8 (by simp))).trans (.of_keeps k9)).trans ((Km.of_keeps k10).trans (Km.sub (ws := [DX]) k11 (by simp)))
  have key : ∀ b o, s5.heap.get? b = some o → (∀ es n, o.data ≠ .dict es n) → b ∉ [L, DX] := fun b o e hd q => by
    simp only [List.mem_cons, List.not_mem_nil, or_false] at q
    obtain ⟨o1, es1, ep1, l1, d1, _⟩ := id hn5
    obtain ⟨_, ⟨o2, es2, ep2, l2, d2, _⟩, _⟩ := id Ow
    replace l1 : s5.heap.get? L = some o1 := l1
    rcases q with q | q
    · rw [q, l1] at e; cases e; exact hd _ _ d1
    · rw [q, l2] at e; cases e; exact hd _ _ d2
  obtain ⟨σi, Oi, _⟩ := id I5
  have iY : Y ∉ [L, DX] := key _ _ Oi.obj (fun _ _ q => by cases q)
  have iD : DY ∉ [L, DX] := by simp; exact ⟨nL fY, n2⟩
  have ePB' := k511.get (key _ _ ePB (fun _ _ q => by cases q)) ePB
  have eFS' := k511.get (key _ _ eFS (fun _ _ q => by cases q)) eFS
  have lx : LX s11.heap X DX Y DY PB FS wcOf x .gap 0 := by
    refine ⟨⟨_, j11.own, ((hA.upd hv).upd hv10).weaken ?_, (hB.updN rfl).updN rfl⟩, I5.km k511 iY iD, ePB', eFS', n1, n2, n3, Nat.zero_le _, trivial⟩
    exact .cons rfl (.cons rfl (.cons rfl (.cons rfl (.cons rfl (.cons rfl (.cons rfl (.cons rfl (.cons rfl (.cons rfl (.cons rfl (.cons rfl (.cons rfl .nil))))))))))))
  have down : ∀ b, s4.heap.get? b = none → s.heap.get? b = none := fun b h => by
    cases q : s.heap.get? b with
    | none => rfl
    | some o =>
      have K4 : Km [L] s s4 := ((K0.trans (.of_keeps k2)).trans (.of_keeps k3)).trans (.of_keeps k4)
      rw [(K4.drop hnone).get (by simp) q] at h; cases h
  have K11 : Keeps s s11 := ((((K5.sub (by simp)).trans k511).drop hnone).drop (down _ fX)).toKeeps
  have st11 := j11.st
  have frs : s11.heap.FunFrames base (spEnv L :: outer) := Heap.FunFrames.cons (show ScopeKind.function ≠ ScopeKind.module by decide) rfl j11.ns hbn (by obtain ⟨h', t', rfl, kk'⟩ := K11; exact hfr.of_keeps fun b o e _ => ⟨o, kk' b o e, rfl⟩)
  have hfD : ∀ b ∈ fsOf (spEnv L :: outer), b ≠ DX ∧ b ≠ DY := fun b hb => by
    replace hb : b ∈ L :: fsOf outer := hb
    rcases List.mem_cons.mp hb with rfl | hb
    · exact ⟨Ne.symm (nL fX), Ne.symm (nL fY)⟩
    · obtain ⟨o, es, n, ho, _⟩ := hdc b hb
      exact ⟨fun q => (by rw [q, down _ fX] at ho; cases ho), fun q => (by rw [q, down _ fY] at ho; cases ho)⟩
  have hwl : ws.length ≤ 10000 := by
    have q1 := lexD_len _ _ _ _ hws
    have q2 : x.cps.toList.length ≤ 1000 := by rw [Array.length_toList]; exact hl
    exact Nat.le_trans q1 (by omega)
  -- return list(lex)
  refine wpAny_execs_cons (wpAny_Return_some (Call_Name1 (nmJ_builtin (J := MJ base _ _ X DX 753 lexNames _) W (fun _ h => h.st) rfl rfl rfl rfl (by k_is) bb_list (by decide) rfl _ _ _ _ j11 ?_)))
  refine PySem.callWith_type rfl (Calls.evalArgs_plain (Calls.spliced_cons (wpAny_Name (wpAny_loadName_local rfl rfl j11.ns (if_pos rfl) (Calls.spliced_nil ?_)) rfl)))
  refine list_lex w (l := spEnv L :: outer) W (AQ.less (aq _) (by omega)) (Around.frames_deeper a.frames) frs hfD st11 bX bY hl hsg wc_q lx (ws := ws) (by show lexD .gap [] (x.cps.toList.drop 0) = some ws; exact hws) hwl (fun s12 vs n' hS hvs kE => ?_)
  refine ⟨.list ⟨_, hS, rfl, rfl, n', rfl⟩ (strs_dt hvs), ?_⟩
  have hnS := none_size s11.heap
  have dX := down _ fX
  have dY := down _ fY
  obtain ⟨h11, t11, rfl, kk11⟩ := K11
  obtain ⟨h12, t12, rfl, kk12⟩ := kE
  refine ⟨h12, t12, s.gens, rfl, fun b o e => ?_, .refl _⟩
  have e11 := kk11 b o e
  have hb : b ∉ [DX, DY, h11.objs.size] := fun q => by
    simp only [List.mem_cons, List.not_mem_nil, or_false] at q
    rcases q with q | q | q
    · rw [q, dX] at e; cases e
    · rw [q, dY] at e; cases e
    · rw [q, hnS] at e11; cases e11
  obtain ⟨c1, c2⟩ := kk12 b o hb e11
  have hout : b ∉ fsOf outer → h12.get? b = some o := fun q => c1 (fun z => by
    replace z : b ∈ L :: fsOf outer := z
    rcases List.mem_cons.mp z with z | z
    · rw [z, hnone] at e; cases e
    · exact q z)
  refine ⟨fun q _ => hout q, fun _ _ => c2, fun vs' _ _ hd' => ⟨#[], ?_, triples_nil⟩⟩
  rw [hout fun q => by obtain ⟨o', es, n, ho, hd2⟩ := hdc b q; rw [e] at ho; cases ho; rw [hd'] at hd2; cases hd2]
  cases o
  subst hd'
  simp
end Mine

namespace Mine
set_option pp.maxSteps 2000
set_option pp.deepTerms.threshold 6
set_option maxRecDepth 100000 in
set_option maxHeartbeats 8000000 in
theorem fin (hM : ∀ w, MarksOk w) (hDf : ∀ w, DiffOk w) (hS : ∀ w, SplitOk w) (hJn : ∀ w, JoinOk w) (hAg : AgainOk) (hAH : AllHeld) : PySem.Challenge.rw_oy0388_01.Holds := hd (by
  k_fill
  intro w s₀ s₁ mg mb G Y fa o pm cd doc dV kV ho hfd hcd hD hmg hg args vals as hpre hlay hrd hwl hlo
  have KX := kIn_of Y
  refine Ground.open G ?_
  intro T B D TE TW
  try clear D
  wrow_args hpre hlay hrd hwl hlo
  rename_i ns _ _ _ _ _ _ _ _ _ _ _ _ hw1 _ _ _ hlen _
  have hfa : fa = 840 := by
    have e : nsIn (Mine.hd.heap_39 w.params) mainGlobals (Str.ofString "law") = some (some (.ref 840)) := by k_is
    have h' := mg_of KX T.g e
    have h2 : mg (Str.ofString "law") = some (.ref fa) := hmg
    rw [h2] at h'
    cases h'; rfl
  subst hfa
  have htab : s₁.heap.get? 767 = some { cls := .none, data := .fields #[] } := by
    have hj : nsIn (Mine.hd.heap_39 w.params) mainGlobals (Str.ofString "join") = some (some (.ref 772)) := by k_is
    have hjm := mg_of KX T.g hj
    have hr : ∃ d ∈ recsOf Mine.hd.view_39, d.name = Str.ofString "join" := by
      have h : ((recsOf Mine.hd.view_39).any fun d => d.name == Str.ofString "join") = true := by decide +kernel
      obtain ⟨d, h1, h2⟩ := List.any_eq_true.mp h
      exact ⟨d, h1, by simpa using h2⟩
    obtain ⟨d, hd1, hd2⟩ := hr
    obtain ⟨a, o', fd, c, P, h1, h2, h3, h4, h5, h6⟩ := T.tab d hd1
    rw [hd2, hjm] at h1
    cases h1
    have h7 : s₁.heap.get? 772 = some _ := KX _ _ (by k_is)
    rw [h7] at h2
    cases h2
    cases h3
    cases h4
    obtain ⟨⟨o2, vs, e1, e2, e3, e4⟩, e5⟩ := h6
    have h8 : s₁.heap.get? 771 = some _ := KX _ _ (by k_is)
    rw [h8] at e1
    cases e1
    cases e3
    cases e4
    exact e5
  cases hw1 with
  | @list l vs xs hl hwa =>
  have hda : ∀ (ns : List Int) (vs : List Value), WellAll w.params s₁.heap vs (ofPys (ns.map PyData.int)) → DtAll s₁.heap vs (ns.map .int) := by
    intro ns
    induction ns with
    | nil => intro vs h; cases h; exact .nil
    | cons n r ih => intro vs h; cases h with | cons hv hr => cases hv; exact .cons (.int _ _) (ih _ hr)
  refine wpAny_mono (fn_law w (hM w) (hDf w) (hS w) (hJn w) hAg hAH ns (by omega) s₁.heap [] callerA s₁ _ [.ref _] ⟨KX, ⟨_, _, _, _, topRead_of T⟩, (by first | kernel_rfl | rfl), htab, (let ⟨bm, ob, b1, b2, b3, b4, b5, b6⟩ := T.bmain; ⟨mg, bm, ob, T.g, b1, b2, b3, b4, b5, b6⟩)⟩ ⟨rfl, rfl, by decide +kernel, by decide +kernel⟩ (.of_keeps fun _ _ e => e) trivial (fun b hb => by cases hb) (.cons (.list ⟨_, hl, rfl, rfl, _, rfl⟩ (hda _ _ hwa)) .nil)) (fun v s' h => ?_) fun _ _ e => e
  obtain ⟨hv, h', tk, g, rfl, hk, hgx⟩ := h
  cases hv
  refine ⟨.inl ⟨_, .bool true, [], rfl, fun _ => rfl, .bool _, ?_, ?_⟩, ?_, rfl, hgx.bare (.of_eq hg)⟩
  · first | kernel_rfl | with_unfolding_all rfl | (simp only [PySem.W.OpenRow.toRowW]; rfl)
  · intro h; exact ⟨.nil, fun _ ha => nomatch ha⟩
  · refine ⟨fun b o e => ?_, fun b o e => hk.is ⟨o, e⟩⟩
    by_cases ht : Tab b o
    · obtain ⟨rfl, hc, vs, hdt⟩ := ht
      obtain ⟨more, e', _⟩ := (hk _ o e).2.2 vs rfl hc hdt
      refine .inr (.inl ⟨?_, hc, vs, more, hdt, e'⟩)
      exact ⟨771, _, _, KX _ _ (by k_is), rfl, rfl, rfl⟩
    · exact .inl ((hk b o e).1 (by intro q; cases q) ht))
end Mine

theorem PySem.Challenge.cw_oy0388_01_holds : PySem.Challenge.rw_oy0388_01.Holds :=
  Mine.fin Mine.marks_hold Mine.diff_hold Mine.split_hold Mine.join_holds Mine.again_ok Mine.all_held
