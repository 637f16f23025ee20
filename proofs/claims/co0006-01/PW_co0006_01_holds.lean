import PyProof.Rows.All
import Wide.All
import OpenK.AllK
import Wide.FinOn
import Lean
import PySem.Challenge.RW_co0006_01
set_option Elab.async false
set_option pp.deepTerms false
set_option linter.all false
namespace Mine
section
open PySem PySem.W PyProof.Rows
set_option maxRecDepth 100000 in
set_option maxHeartbeats 8000000 in
open_top hd for PySem.Challenge.rw_co0006_01
end
section
open PySem PySem.W PyProof.Rows PySem.Calls
/-- a key as a value: its text and its token -/
abbrev sv (p : Str × Nat) : Value := .str p.1 p.2
abbrev svs (ps : List (Str × Nat)) : Array Value := (ps.map sv).toArray
abbrev keysOf (ps : List (Str × Nat)) : List Str := ps.map (·.1)
def rm (ps : List (Str × Nat)) (k : Str) : List (Str × Nat) := ps.eraseP fun p => p.1 == k

theorem rm_len (ps : List (Str × Nat)) (k : Str) : (rm ps k).length ≤ ps.length := List.length_eraseP_le

/-- the queue's keys are the mapping's -/
def Matches (ps : List (Str × Nat)) (kvs : List (Str × Value)) : Prop := ∀ k, k ∈ keysOf ps ↔ (valueAt kvs k).isSome = true
theorem mem_of {ps : List (Str × Nat)} {kvs : List (Str × Value)} {k : Str} (hm : Matches ps kvs) (h : (valueAt kvs k).isSome = true) : k ∈ keysOf ps := (hm k).mpr h
theorem head_of {ps : List (Str × Nat)} {kvs : List (Str × Value)} (hm : Matches ps kvs) (h : 0 < ps.length) : (valueAt kvs (ps.headD (Str.empty, 0)).1).isSome = true := by
  cases ps with
  | nil => exact absurd h (Nat.lt_irrefl _)
  | cons p r => exact (hm p.1).mp (by simp [keysOf])
/-- what a store makes of the queue and of the mapping -/
def setQ (cap : Int) (ps : List (Str × Nat)) (kvs : List (Str × Value)) (key : Str) (t : Nat) : List (Str × Nat) :=
  if (valueAt kvs key).isSome = true then rm ps key ++ [(key, t)] else if (kvs.length : Int) = cap then ps.tail ++ [(key, t)] else ps ++ [(key, t)]
def setM (cap : Int) (ps : List (Str × Nat)) (kvs : List (Str × Value)) (key : Str) (v : Value) : List (Str × Value) :=
  if (valueAt kvs key).isSome = true then stored kvs key v else if (kvs.length : Int) = cap then stored (without kvs (ps.headD (Str.empty, 0)).1) key v else stored kvs key v
/-- what a found key makes of the queue -/
def touchQ (ps : List (Str × Nat)) (key : Str) (t : Nat) : List (Str × Nat) := if ((ps.getLastD (Str.empty, 0)).1 != key) = true then rm ps key ++ [(key, t)] else ps
theorem ne_of {ps : List (Str × Nat)} {kvs : List (Str × Value)} {k : Str} (hm : Matches ps kvs) (h : (valueAt kvs k).isSome = true) : 0 < ps.length := by
  have := mem_of hm h
  cases ps with
  | nil => cases this
  | cons _ _ => exact Nat.succ_pos _
theorem without_len (kvs : List (Str × Value)) (k : Str) : (without kvs k).length ≤ kvs.length := List.length_filter_le ..

def isK (k : Str) : Value → Bool
  | .str a _ => decide (a = k)
  | _ => false
theorem isK_gives {ps : List (Str × Nat)} {k : Str} {t : Tok} : ∀ y, y ∈ svs ps → MeetsSeq.EqGives y (.str k t) (isK k y) := by
  intro y hy
  have hy' : y ∈ ps.map sv := by simpa [svs] using hy
  obtain ⟨p, _, rfl⟩ := List.mem_map.mp hy'
  exact fun _ _ _ _ _ _ h => wpAny_eqBool_str h

theorem any_isK (ps : List (Str × Nat)) (k : Str) : (svs ps).any (isK k) = decide (k ∈ keysOf ps) := by
  rw [← Array.any_toList]
  induction ps with
  | nil => rfl
  | cons p r ih =>
    simp only [svs, keysOf, List.map_cons, List.any_cons, List.mem_cons] at ih ⊢
    rw [ih]
    by_cases h : p.1 = k
    · simp [isK, h]
    · have h' : ¬ k = p.1 := fun e => h e.symm
      simp [isK, h, h']

theorem map_erase (f : Str × Nat → Value) : ∀ (ps : List (Str × Nat)) (j : Nat), (ps.map f).eraseIdx j = (ps.eraseIdx j).map f
  | [], _ => rfl
  | _ :: _, 0 => rfl
  | p :: r, j + 1 => by simp [map_erase f r j]
theorem upd_at {D : Addr} {o o' : Obj} {post : List (Addr × Obj)} (b : ∀ p ∈ post, p.1 ≠ D) : ∀ pre : List (Addr × Obj), (∀ p ∈ pre, p.1 ≠ D) → Upd D o o' (pre ++ (D, o) :: post) (pre ++ (D, o') :: post)
  | [], _ => .head b
  | _ :: r, a => .tail (a _ (.head _)) (upd_at b r fun x hx => a x (.tail _ hx))

section
variable {prog : Program} {w : World} {A : Around} {E : Value → Shared → Prop} {s : Shared} {h₀ : Heap} {L D : Addr} {m : Str → Option Value} {news : List (Addr × Obj)} {g : Obj → List (Addr × Obj)} {ps : List (Str × Nat)} {n : Nat} {k : Str} {t : Tok} {Q : Value → Shared → Prop}

theorem findK {ps : List (Str × Nat)} {k : Str} (h : k ∈ keysOf ps) : ∃ j, ∃ hj : j < ps.length, ps[j].1 = k ∧ (∀ i (hi : i < ps.length), i < j → ps[i].1 ≠ k) ∧ rm ps k = ps.eraseIdx j := by
  induction ps with
  | nil => cases h
  | cons p r ih =>
    by_cases e : p.1 = k
    · exact ⟨0, Nat.succ_pos _, e, fun i _ hi => absurd hi (Nat.not_lt_zero _), by simp [rm, e]⟩
    · have h' : k ∈ keysOf r := by
        rcases List.mem_cons.mp h with h | h
        · exact absurd h.symm e
        · exact h
      obtain ⟨j, hj, a, b, c⟩ := ih h'
      refine ⟨j + 1, Nat.succ_lt_succ hj, a, fun i hi hlt => ?_, ?_⟩
      · cases i with
        | zero => exact e
        | succ i => exact b i (Nat.lt_of_succ_lt_succ hi) (Nat.lt_of_succ_lt_succ hlt)
      · have e' : (p.1 == k) = false := by simpa using e
        simp only [rm, List.eraseP_cons, e', List.eraseIdx_cons_succ] at c ⊢
        simpa using c

theorem news_list (f : Array Value → Array Value) {its its' : Array Value} {h : Heap} (F : Fr h₀ L h m) (N : News h₀ L h news) (U : UpdF D (listOf its n) news g) (he : f its = its') :
    ∃ n', Fr h₀ L (h.update D (Obj.mapSeq f)) m ∧ News h₀ L (h.update D (Obj.mapSeq f)) (g (listOf its' n')) := by
  obtain ⟨pre, post, rfl, hg, a, b⟩ := U.split
  have z := N (D, listOf its n) (List.mem_append.mpr (.inr (.head _)))
  refine ⟨if its'.size == its.size then n else n + 1, F.change (Heap.SameBut.update ..) z.2.1 z.2.2, ?_⟩
  rw [hg]
  refine news_set N a b (Heap.SameBut.update ..) ?_
  have q := PySem.IsL.update z.1 f
  rw [he] at q
  exact q

theorem mem_updF {o : Obj} (U : UpdF D o news g) : (D, o) ∈ news := by
  obtain ⟨pre, post, rfl, _, _, _⟩ := U.split
  exact List.mem_append.mpr (.inr (.head _))

theorem q_remove (F : Fr h₀ L s.heap m) (N : News h₀ L s.heap news) (U : UpdF D (listOf (svs ps) n) news g) (hm : k ∈ keysOf ps) (hz : ps.length ≤ 1000)
    (h : ∀ h' n', Fr h₀ L h' m → News h₀ L h' (g (listOf (svs (rm ps k)) n')) → Q .none { s with heap := h' }) : wpAny (model prog w) A (call (.builtin "list.remove") [.ref D, .str k t]) Q E s := by
  have z := N _ (mem_updF U)
  obtain ⟨j, hj, a, b, c⟩ := findK hm
  have hs : (svs ps).size = ps.length := by simp [svs]
  obtain ⟨n', F', N'⟩ := news_list (fun xs => xs.eraseIdxIfInBounds j) F N U (its' := svs (rm ps k)) (by
    rw [c]
    apply Array.toList_inj.mp
    simp [svs, map_erase])
  refine call_meets PySem.F.slot_list_remove ⟨_, z.1, rfl⟩ PySem.F.entry_list_remove (PySem.F.args_list_remove_2 _ _)
    (MeetsSeq.list_remove D (svs ps) n (.str k t) (isK k) isK_gives j (by omega) (by simpa [svs, isK] using a) (fun i hi hlt => by simpa [svs, isK] using b i (by omega) hlt) (by rw [hs, sizeLine_eq]; omega))
    ⟨z.1, h _ n' F' N'⟩

theorem q_append (F : Fr h₀ L s.heap m) (N : News h₀ L s.heap news) (U : UpdF D (listOf (svs ps) n) news g) (hz : ps.length ≤ 1000)
    (h : ∀ h' n', Fr h₀ L h' m → News h₀ L h' (g (listOf (svs (ps ++ [(k, t)])) n')) → Q .none { s with heap := h' }) : wpAny (model prog w) A (call (.builtin "list.append") [.ref D, .str k t]) Q E s := by
  obtain ⟨pre, post, rfl, hg, a, b⟩ := U.split
  have z := N (D, listOf (svs ps) n) (List.mem_append.mpr (.inr (.head _)))
  refine append_at (hsz := by simp [svs, sizeLine_eq]; omega) z.1 fun h' hs ho' => h h' (n + 1) (F.change hs z.2.1 z.2.2) ?_
  rw [hg]
  have e : (svs ps).push (.str k t) = svs (ps ++ [(k, t)]) := by apply Array.toList_inj.mp; simp [svs, sv]
  rw [e] at ho'
  exact news_set N a b hs ho'

theorem q_pop0 {i : Int} {u : Tok} (hi : i = 0) (F : Fr h₀ L s.heap m) (N : News h₀ L s.heap news) (U : UpdF D (listOf (svs ps) n) news g) (hne : 0 < ps.length) (hz : ps.length ≤ 1000)
    (h : ∀ h' n', Fr h₀ L h' m → News h₀ L h' (g (listOf (svs ps.tail) n')) → Q (.str (ps.headD (Str.empty, 0)).1 (ps.headD (Str.empty, 0)).2) { s with heap := h' }) : wpAny (model prog w) A (call (.builtin "list.pop") [.ref D, .int i u]) Q E s := by
  subst hi
  obtain ⟨p, ps, rfl⟩ : ∃ p q, ps = p :: q := by
    cases ps with
    | nil => exact absurd hne (Nat.lt_irrefl _)
    | cons p q => exact ⟨p, q, rfl⟩
  obtain ⟨pre, post, rfl, hg, a, b⟩ := U.split
  have U' := upd_at (o := listOf (svs (p :: ps)) n) (o' := listOf ([] ++ ps.map sv).toArray (n + 1)) b pre a
  simp only [List.length_cons] at hz
  refine kl_popAt F N (by decide) (k := 0) (by simp [seqIndex?]) (p := []) (q := ps.map sv) (y := .str p.1 p.2) (by simp [kl_cut]) U' (by simp [sizeLine_eq]; omega) fun h' F' N' => h h' (n + 1) F' ?_
  rw [hg]
  simpa [svs] using N'

theorem q_clear (F : Fr h₀ L s.heap m) (N : News h₀ L s.heap news) (U : UpdF D (listOf (svs ps) n) news g) (hz : ps.length ≤ 1000)
    (h : ∀ h' n', Fr h₀ L h' m → News h₀ L h' (g (listOf (svs []) n')) → Q .none { s with heap := h' }) : wpAny (model prog w) A (call (.builtin "list.clear") [.ref D]) Q E s := by
  have z := N _ (mem_updF U)
  obtain ⟨n', F', N'⟩ := news_list (fun _ => #[]) F N U (its' := svs []) rfl
  exact call_meets PySem.F.slot_list_clear ⟨_, z.1, rfl⟩ PySem.F.entry_list_clear (PySem.F.args_list_clear_1 _) (PySem.AutoSeq1.list_clear_list_0 D (svs ps) n (by simp [svs, sizeLine_eq]; omega)) ⟨z.1, h _ n' F' N'⟩

theorem q_method {its : Array Value} {name : Str} {id : String} {pl : Sem Bool} {Q : Value × List Value → Shared → Prop} (N : News h₀ L s.heap news) (hm : (D, listOf its n) ∈ news) (slot : Slot "list" name id) (hty : typeOf (.builtin id) = pure (.type "method_descriptor"))
    (h : Q (.builtin id, [.ref D]) s) : wpAny (model prog w) A (getMethod (.ref D) name pl) Q E s :=
  getMethod_builtin ⟨_, (N _ hm).1, rfl⟩ PySem.F.plainAttrs_list slot hty (fun a e => by cases e; exact ⟨_, (N _ hm).1, rfl⟩) h

theorem q_last {u : Tok} {value slice : PySem.Expr} {i : Int} (hi : i = -1) (N : News h₀ L s.heap news) (hm : (D, listOf (svs ps) n) ∈ news) (hne : 0 < ps.length) (hz : ps.length ≤ 1000) (h : Q (.str (ps.getLastD (Str.empty, 0)).1 (ps.getLastD (Str.empty, 0)).2) s)
    (hs : subscripted slice false (.ref D) (.int i u) = operate [.ref D, .int i u] (getItem (.ref D) (.int i u)) := by with_unfolding_all rfl) :
    wpAny (model prog w) A (subscriptTail value slice (.ref D) (.int i u)) Q E s := by
  subst hi
  have hl : s.heap.IsList D (svs ps) := ⟨_, (N _ hm).1, rfl, n, rfl⟩
  refine tail_any hl.typeIs slot_list_getitem.lookup (wpAny_getItem_list_neg hl (by decide) ?_ (by decide) ?_ h) hs
  · simp [svs]; omega
  · have e : ((-1 : Int) + ((svs ps).size : Int)).toNat = ps.length - 1 := by simp [svs]; omega
    rw [e]
    cases ps with
    | nil => exact absurd hne (Nat.lt_irrefl _)
    | cons p r =>
      have e1 : (p :: r).getLastD (Str.empty, 0) = (p :: r)[r.length] := by simp [List.getLast?_eq_getElem?, List.getLastD_eq_getLast?]
      rw [e1, List.getElem?_toArray, List.getElem?_map, List.getElem?_eq_getElem (by simp)]
      rfl

/-- the dict's missing key -/
theorem d_missing {o : Obj} {kvs : List (Str × Value)} (hh : A.handled = none) (N : News h₀ L s.heap news) (hp : (D, o) ∈ news) (hd : o.IsDictOf (strKind prog w) kvs) (lo : (D == sysModules) = false) (hv : valueAt kvs k = none)
    (h : ∀ h' e, Heap.NewExc s.heap h' e "KeyError" → E (.ref e) { s with heap := h', toks := s.toks + 1 }) : wpAny (model prog w) A (getItem (.ref D) (.str k t)) Q E s :=
  wpAny_getItem_missing_of (strKind_is _ _ _ _) lo hh (kda_dict N hp hd).mapOf hv h
theorem d_clear {o : Obj} {kvs : List (Str × Value)} (F : Fr h₀ L s.heap m) (N : News h₀ L s.heap news) (U : UpdF D o news g) (hd : o.IsDictOf (strKind prog w) kvs) (hz : kvs.length ≤ 1000)
    (h : ∀ h' o', Fr h₀ L h' m → News h₀ L h' (g o') → o'.IsDictOf (strKind prog w) [] → Q .none { s with heap := h' }) : wpAny (model prog w) A (call (.builtin "dict.clear") [.ref D]) Q E s := by
  obtain ⟨pre, post, rfl, hg, a, b⟩ := U.split
  have hm := N (D, o) (List.mem_append_right _ (.head _))
  have hD : s.heap.DictOf (strKind prog w) D kvs := Heap.dictOf_iff.mpr ⟨o, hm.1, hd⟩
  refine call_meetsIn PySem.F.slot_dict_clear hD.typeIs PySem.F.entry_dict_clear (PySem.F.args_dict_clear_1 _) (meets_dict_clear _ D) ⟨kvs, hD, by rw [sizeLine_eq]; omega, fun h' hmm hs => ?_⟩
  obtain ⟨o', ho', hd'⟩ := Heap.dictOf_iff.mp hmm
  exact h h' o' (F.change hs hm.2.1 hm.2.2) (hg o' ▸ N.setIn a b hs ho') hd'
end
end
section
open PySem PySem.W PyProof.Rows PySem.Calls
set_option maxRecDepth 100000
section
theorem slot_rv_init : Slot "reversed" "__init__" "object.__init__" :=
  .of (owner := "object") (n := "__init__") (by rw [typeLookup_type, builtinLookup_eq_fast]; kernel_rfl) (by decide +kernel) (by decide +kernel) (by decide +kernel)
    (by first | exact .inl (by decide +kernel) | exact .inr (by decide +kernel)) (by rw [isSubtype_type]; kernel_rfl)
theorem called_reversed : TypeCalled "reversed" "reversed.__new__" "object.__init__" :=
  ⟨by decide +kernel, PySem.F.create_reversed, ⟨_, _, PySem.F.mro_reversed⟩, PySem.F.made_reversed, PySem.F.plain_reversed_new, PySem.F.sub_reversed_self, slot_rv_init⟩
theorem tup_no_rev : typeLookup (.type "tuple") "__reversed__" = pure none := by rw [typeLookup_type, builtinLookup_eq_fast]; kernel_rfl
theorem tup_no_dict : isSubtype (.type "tuple") (.type "dict") = pure false := by rw [isSubtype_type]; kernel_rfl
theorem rv_no_len : typeLookup (.type "reversed") "__len__" = pure none := by rw [typeLookup_type, builtinLookup_eq_fast]; kernel_rfl
theorem slot_rv_next : Slot "reversed" "__next__" "reversed.__next__" :=
  .of (owner := "reversed") (n := "__next__") (by rw [typeLookup_type, builtinLookup_eq_fast]; kernel_rfl) (by decide +kernel) (by decide +kernel) (by decide +kernel)
    (by first | exact .inl (by decide +kernel) | exact .inr (by decide +kernel)) (by rw [isSubtype_type]; kernel_rfl)
theorem entry_rv_next : entryFor table "reversed.__next__" = some Builtin.«reversed.__next__» := entryFor_of_tree (by kernel_rfl)
theorem args_rv_next (a : Value) : argsOk "reversed.__next__" ⟨[a], []⟩ := by unfold argsOk; kernel_rfl
theorem slot_rv_iter : Slot "reversed" "__iter__" "reversed.__iter__" :=
  .of (owner := "reversed") (n := "__iter__") (by rw [typeLookup_type, builtinLookup_eq_fast]; kernel_rfl) (by decide +kernel) (by decide +kernel) (by decide +kernel)
    (by first | exact .inl (by decide +kernel) | exact .inr (by decide +kernel)) (by rw [isSubtype_type]; kernel_rfl)
theorem args_rv_iter (a : Value) : argsOk "reversed.__iter__" ⟨[a], []⟩ := by unfold argsOk; kernel_rfl
theorem entry_rv_iter : entryFor table "reversed.__iter__" = some Builtin.«dict_keyiterator.__iter__» :=
  entryFor_alias (id' := "dict_keyiterator.__iter__") (by kernel_rfl) (by first | rfl | decide +kernel | (unfold String.splitOn; simp +decide [String.splitOnAux])) (by decide +kernel) (by kernel_rfl)
end
section
variable {prog : Program} {w : World} {A : Around} {E : Value → Shared → Prop} {s : Shared}
abbrev rvObj (t : Addr) (i : Int) : Obj := { cls := .type "reversed", data := .fields #[.ref t, rawInt i] }
theorem code_rv_new {t : Addr} {items : Array Value} {Q₁ : Value → Shared → Prop} (ht : IsTup s.heap t items) (hz : (items.size : Int) < 2 ^ 63)
    (h : ∀ tk, Q₁ (.ref s.heap.objs.size) { s with heap := s.heap.push (rvObj t ((items.size : Int) - 1)), toks := tk }) :
    codeAny (model prog w) A (.call (.builtin "reversed.__new__") ⟨[.type "reversed", .ref t], []⟩) (wants Q₁ E) s := by
  refine codeAny_of_tree ?_
  show wpAny _ A.in1 (do checkBuiltinCall "reversed.__new__" ⟨[.type "reversed", .ref t], []⟩; again (.builtin "reversed.__new__" ⟨[.type "reversed", .ref t], []⟩)) _ _ s
  refine wpAny_bind (wpAny_of_eq (PySem.F.newCall_reversed_1 _) (wpAny_pure ⟨plainId_quiet PySem.F.plain_reversed_new _, codeAny_builtin PySem.F.entry_reversed_new ?_⟩))
  rw [Around.under_plainId PySem.F.plain_reversed_new _]
  unfold Builtin.«reversed.__new__»
  refine wpAny_bind (wpAny_of_eq (newClass_reversed _) ?_)
  try dsimp only
  refine wpAny_bind (wpAny_of_eq (a := ()) (by first | rfl | kernel_rfl) ?_)
  refine wpAny_bind (wpAny_of_eq (a := ()) (by first | rfl | kernel_rfl) ?_)
  try dsimp only
  refine wpAny_bind (wpAny_specialOf ht.typeIs tup_no_rev ?_)
  try dsimp only
  have e1 : ((["tuple.__getitem__", "str.__getitem__", "bytes.__getitem__", "bytearray.__getitem__", "memoryview.__getitem__", "numpy.ndarray.__getitem__", "sqlite3.Row.__getitem__"] : List String).contains "tuple.__getitem__") = true := by decide +kernel
  refine wpAny_bind ?_
  wp_delta
  refine wpAny_bind (wpAny_isInstance ht.typeIs tup_no_dict ?_)
  simp only [Bool.false_eq_true, if_false]
  refine wpAny_bind (wpAny_specialOf ht.typeIs slot_tuple_getitem.lookup ?_)
  dsimp only
  rw [if_pos e1]
  refine wpAny_pure ?_
  show wpAny _ _ (call (Value.builtin "len") [Value.ref t] >>= _) _ _ _
  refine wpAny_bind (len_tuple ht hz ?_)
  refine wpAny_bind (wpAny_of_eq (a := some (items.size : Int)) rfl ?_)
  dsimp only
  refine wpAny_bind ?_
  show wpAny _ _ (newObj (.type "reversed") (.fields #[.ref t, rawInt ((items.size : Int) - 1)])) _ _ _
  refine wpAny_newObj_type ?_ (by size_fits)
  exact wpAny_pure (h _)

theorem call_rv {t : Addr} {items : Array Value} {Q : Value → Shared → Prop} (ht : IsTup s.heap t items) (hz : (items.size : Int) < 2 ^ 63)
    (h : ∀ tk, Q (.ref s.heap.objs.size) { s with heap := s.heap.push (rvObj t ((items.size : Int) - 1)), toks := tk }) :
    wpAny (model prog w) A (call (.type "reversed") [.ref t]) Q E s := by
  refine callType_codes (Q₁ := fun obj s₁ => obj = .ref s.heap.objs.size ∧ ∃ tk, s₁ = { s with heap := s.heap.push (rvObj t ((items.size : Int) - 1)), toks := tk }) called_reversed (PySem.F.typeCall_reversed_1 _) PySem.F.entry_object_init
    (code_rv_new ht hz fun tk => ⟨rfl, tk, rfl⟩) fun obj s₁ h₁ => ?_
  obtain ⟨rfl, tk, rfl⟩ := h₁
  have hT : Shared.TypeIs { s with heap := s.heap.push (rvObj t ((items.size : Int) - 1)), toks := tk } (.ref s.heap.objs.size) "reversed" := ⟨_, Heap.get?_push_size _ rfl, rfl⟩
  exact ⟨hT, PySem.F.args_object_init_2 _ _, object_init_meets called_reversed.init.lookup called_reversed.made (by decide) prog w A.in1 _ _ ⟨hT, rfl, h tk⟩⟩

def IsRv (h : Heap) (a t : Addr) (i : Int) : Prop := ∃ o, h.get? a = some o ∧ o.cls = .type "reversed" ∧ o.data = .fields #[.ref t, rawInt i]
theorem IsRv.typeIs {a t : Addr} {i : Int} (x : IsRv s.heap a t i) : s.TypeIs (.ref a) "reversed" := let ⟨o, ho, hc, _⟩ := x; ⟨o, ho, hc⟩
theorem IsRv.at {h h' : Heap} {a t : Addr} {i : Int} (x : IsRv h a t i) (e : ∀ o, h.get? a = some o → h'.get? a = some o) : IsRv h' a t i := let ⟨o, ho, r⟩ := x; ⟨o, e _ ho, r⟩

theorem rv_item {it t : Addr} {i : Nat} {items : Array Value} {x : Value} {Q : Option Value → Shared → Prop} (hit : IsRv s.heap it t (i : Int)) (ht : IsTup s.heap t items) (hx : items[i]? = some x) (hi : (i : Int) < 2 ^ 63)
    (hQ : ∀ h' tk, IsRv h' it t ((i : Int) - 1) → Heap.SameBut it s.heap h' → Q (some x) { s with heap := h', toks := tk }) : wpAny (model prog w) A (pyNext (.ref it)) Q E s := by
  obtain ⟨o, ho, hc, hd⟩ := id hit
  unfold pyNext
  refine wpAny_bind (wpAny_attempt (wpAny_callSpecial?_slot (name := Str.ofString "__next__") hit.typeIs slot_rv_next
    (wpAny_call_entry slot_rv_next hit.typeIs entry_rv_next ?_ (args_rv_next _))))
  unfold Builtin.«reversed.__next__»
  refine wpAny_bind (wpAny_of_eq (a := (Value.ref it, [])) rfl ?_)
  try dsimp only
  refine wpAny_bind (wpAny_field ho hd (x := .ref t) rfl ?_)
  refine wpAny_bind (wpAny_field ho hd (x := rawInt (i : Int)) rfl ?_)
  show wpAny _ _ (if (i : Int) < 0 then _ else _) _ _ s
  rw [if_neg (by omega)]
  refine wpAny_bind (wpAny_specialOf ht.typeIs slot_tuple_getitem.lookup ?_)
  rw [if_neg (by simp)]
  refine wpAny_bind (wpAny_mkInt ?_)
  refine wpAny_bind (wpAny_attempt (getItem_tuple (j := i) (x := x) (s := { s with toks := s.toks + 1 }) ht (by omega) hi ?_ hx ?_))
  · have hlt : i < items.size := by
      rcases Nat.lt_or_ge i items.size with h | h
      · exact h
      · rw [Array.getElem?_eq_none h] at hx; cases hx
    have h0 : ¬ ((i : Int) < 0) := by omega
    have h1 : (i : Int) < (items.size : Int) := by omega
    simp [seqIndex?, h0, hlt]
  dsimp only
  refine wpAny_bind (wpAny_field (s := { s with toks := s.toks + 1 }) ho hd (x := rawInt (i : Int)) rfl ?_)
  show wpAny _ _ (setField (.ref it) 1 (rawInt ((i : Int) - 1)) >>= _) _ _ _
  refine wpAny_bind (wpAny_setField (s := { s with toks := s.toks + 1 }) ho hd (by simp) ?_)
  refine wpAny_pure ⟨x, rfl, wpAny_pure (hQ _ _ ?_ (Heap.SameBut.update ..))⟩
  exact ⟨_, Heap.get?_update_self _ ho (Obj.isFreed_of_fields (Obj.data_mapFields hd _)), (Obj.cls_mapFields ..).trans hc, by
    rw [Obj.data_mapFields hd]; simp⟩

theorem rv_end {it t : Addr} {Q : Option Value → Shared → Prop} (hh : A.handled = none) (hit : IsRv s.heap it t (-1))
    (hQ : ∀ h', Heap.ExtBut it s.heap h' → Q none { s with heap := h' }) : wpAny (model prog w) A (pyNext (.ref it)) Q E s := by
  obtain ⟨o, ho, hc, hd⟩ := id hit
  unfold pyNext
  refine wpAny_bind (wpAny_attempt (wpAny_callSpecial?_slot (name := Str.ofString "__next__") hit.typeIs slot_rv_next
    (wpAny_call_entry slot_rv_next hit.typeIs entry_rv_next ?_ (args_rv_next _))))
  unfold Builtin.«reversed.__next__»
  refine wpAny_bind (wpAny_of_eq (a := (Value.ref it, [])) rfl ?_)
  try dsimp only
  refine wpAny_bind (wpAny_field ho hd (x := .ref t) rfl ?_)
  refine wpAny_bind (wpAny_field ho hd (x := rawInt (-1)) rfl ?_)
  show wpAny _ _ (if (-1 : Int) < 0 then _ else _) _ _ s
  rw [if_pos (by decide)]
  refine wpAny_bind (wpAny_rule ?_)
  refine wpAny_bind ?_
  wp_delta
  refine wpAny_bind (wpAny_setField ho hd (by simp) ?_)
  have hd2 := Obj.data_mapFields hd (·.setIfInBounds 1 (rawInt (-1)))
  refine wpAny_setField (Heap.get?_update_self _ ho (Obj.isFreed_of_fields hd2)) hd2 (by simp) ?_
  refine wpAny_bind ?_
  show wpAny _ _ (newExc (.type "StopIteration") [] >>= _) _ _ _
  refine wpAny_bind ?_
  simp only [newExc, newTuple]
  refine wpAny_bind (wpAny_newObj_type ?_ (by size_fits))
  refine wpAny_bind (m := firstArgMember _ _) (wpAny_of_eq (a := Value.none) (by first | rfl | (simp only [firstArgMember]; rfl)) ?_)
  refine wpAny_newObj_type ?_ (by size_fits)
  simp only [raiseNew]
  refine wpAny_bind (wpAny_handled ?_)
  first | rw [show A.in1.handled = none from hh] | rw [hh]
  refine wpAny_bind (wpAny_pure (wpAny_throw ?_))
  refine wpAny_bind (wpAny_isInstance (T := "StopIteration") (b := true) ⟨_, Heap.get?_push_size _ rfl, rfl⟩ isSubtype_stop ?_)
  refine wpAny_pure (hQ _ ?_)
  exact ((Heap.ExtBut.trans (Heap.SameBut.update ..).extBut (Heap.SameBut.update ..).extBut).push _).push _

theorem rv_iter {it t : Addr} {i : Int} {Q : Value → Shared → Prop} (hit : IsRv s.heap it t i) (h : Q (.ref it) s) : wpAny (model prog w) A (pyIter (.ref it)) Q E s := by
  refine wpAny_pyIter_slot hit.typeIs slot_rv_iter (wpAny_call_entry slot_rv_iter hit.typeIs entry_rv_iter ?_ (args_rv_iter _))
  show wpAny _ _ (ret (.ref it)) _ _ s
  exact wpAny_pure ⟨_, rfl, "reversed", _, hit.typeIs, slot_rv_next.lookup, h⟩
end

theorem rv_walks {prog : Program} {w : World} {A : Around} (hh : A.handled = none) (I t : Addr) (hne : t ≠ I) (items : Array Value) (hz : (items.size : Int) < 2 ^ 63) :
    Walks prog w A I [I, t] [I] items.size (fun i v => items[items.size - 1 - i]? = some v) (fun i h => i ≤ items.size ∧ IsRv h I t ((items.size : Int) - 1 - (i : Int)) ∧ IsTup h t items) where
  sub := fun b hb => by simp at hb; simp [hb]
  frame := fun _ _ _ x hk => ⟨x.1, x.2.1.at fun o e => hk I (by simp) o e, let ⟨o, ho, r⟩ := x.2.2; ⟨o, hk t (by simp) o ho, r⟩⟩
  item := fun i s Q E hi x hQ => by
    have e : (items.size : Int) - 1 - (i : Int) = ((items.size - 1 - i : Nat) : Int) := by omega
    have hit := x.2.1
    rw [e] at hit
    have hx : items[items.size - 1 - i]? = some (items[items.size - 1 - i]'(by omega)) := Array.getElem?_eq_getElem (by omega)
    refine rv_item hit x.2.2 hx (by omega) fun h' tk hit' hs' => ?_
    have e2 : ((items.size - 1 - i : Nat) : Int) - 1 = (items.size : Int) - 1 - ((i + 1 : Nat) : Int) := by omega
    rw [e2] at hit'
    exact hQ _ h' tk hx ⟨hi, hit', let ⟨o, ho, r⟩ := x.2.2; ⟨o, (hs'.2 t hne).trans ho, r⟩⟩ fun b o hb eo => hs'.extBut b o (fun h => hb (by simp [h])) eo
  done := fun s Q E x hQ => by
    have e : (items.size : Int) - 1 - (items.size : Int) = -1 := by omega
    have hit := x.2.1
    rw [e] at hit
    exact rv_end hh hit fun h' he' => hQ h' s.toks fun b o hb eo => he' b o (fun h => hb (by simp [h])) eo
  self := fun _ _ _ _ x hQ => rv_iter x.2.1 hQ
end
section
open PySem PySem.W PyProof.Rows PySem.Calls
set_option maxRecDepth 100000
theorem forall_of_allLt {d : Addr} {l : List (Addr × Obj)} (h : AllLt d l) : ∀ p ∈ l, p.1 < d := by
  induction l with
  | nil => intro p hp; cases hp
  | cons q r ih =>
    intro p hp
    rcases List.mem_cons.mp hp with e | hp
    · rw [e]; exact h.1
    · exact ih h.2 p hp
theorem off_new {I : Addr} {o : Obj} {rest : List (Addr × Obj)} {adr : List Addr} (h : OwnOff rest adr) (hl : ∀ b ∈ adr, b < I) : OwnOff ((I, o) :: rest) adr := by
  intro p hp b hb
  rcases List.mem_cons.mp hp with rfl | hp
  · exact Nat.ne_of_gt (hl b hb)
  · exact h p hp b hb
theorem fr_moved {h₀ h h' : Heap} {L : Addr} {m : Str → Option Value} {news : List (Addr × Obj)} {wr : List Addr} (F : Fr h₀ L h m) (N : News h₀ L h news) (hk : ∀ b o, b ∉ wr → h.get? b = some o → h'.get? b = some o)
    (hw : ∀ b ∈ wr, ∃ o, (b, o) ∈ news) : Fr h₀ L h' m := by
  refine ⟨?_, fun b o e => hk b o (fun hb => ?_) (F.keep b o e), F.above⟩
  · obtain ⟨oL, a1, a2, hL, a3⟩ := F.ns
    exact ⟨oL, a1, a2, hk _ _ (fun hb => by obtain ⟨o, ho⟩ := hw _ hb; exact (N _ ho).2.1 rfl) hL, a3⟩
  · obtain ⟨o', ho⟩ := hw _ hb
    have := (N _ ho).2.2
    rw [show ((b, o').1 : Addr) = b from rfl, e] at this
    cases this
theorem news_moved {h₀ h h' : Heap} {L : Addr} {news : List (Addr × Obj)} {wr : List Addr} (N : News h₀ L h news) (hk : ∀ b o, b ∉ wr → h.get? b = some o → h'.get? b = some o) (hn : ∀ p ∈ news, p.1 ∉ wr) : News h₀ L h' news :=
  fun p hp => ⟨hk _ _ (hn p hp) (N p hp).1, (N p hp).2⟩
section
variable {prog : Program} {w : World} {A : Around} {E : Value → Shared → Prop} {s : Shared} {h₀ : Heap} {L D T : Addr} {m : Str → Option Value} {news : List (Addr × Obj)} {ps : List (Str × Nat)} {n : Nat} {Q : Value → Shared → Prop}
abbrev tupOf (its : Array Value) : Obj := { cls := .type "tuple", data := .seq its }
theorem tup_led (F : Fr h₀ L s.heap m) (N : News h₀ L s.heap news) (hm : (D, listOf (svs ps) n) ∈ news) (hz : ps.length ≤ 1000)
    (h : ∀ T h', Fr h₀ L h' m → News h₀ L h' ((T, tupOf (svs ps)) :: news) → (∀ p ∈ news, p.1 < T) → Q (.ref T) { s with heap := h' }) :
    wpAny (model prog w) A (call (.type "tuple") [.ref D]) Q E s := by
  have hl : s.heap.IsList D (svs ps) := ⟨_, (N _ hm).1, rfl, n, rfl⟩
  refine call_tuple_list hl (fun h' hk => ?_) (by simp [svs, sizeLine_eq]; omega)
  have F' : Fr h₀ L h' m := F.keeps hk
  have N' : News h₀ L h' news := fun p hp => ⟨hk _ _ (N p hp).1, (N p hp).2⟩
  exact h _ _ (F'.push _) (N'.push F' _) fun p hp => Heap.lt_size (N' p hp).1
theorem rv_led (F : Fr h₀ L s.heap m) (N : News h₀ L s.heap news) (hm : (T, tupOf (svs ps)) ∈ news) (hz : ps.length ≤ 1000)
    (h : ∀ D h' tk, Fr h₀ L h' m → News h₀ L h' ((D, rvObj T ((ps.length : Int) - 1)) :: news) → (∀ p ∈ news, p.1 < D) → Q (.ref D) { s with heap := h', toks := tk }) :
    wpAny (model prog w) A (call (.type "reversed") [.ref T]) Q E s := by
  have ht : IsTup s.heap T (svs ps) := ⟨_, (N _ hm).1, rfl, 0, rfl⟩
  have e : (((svs ps).size : Nat) : Int) - 1 = (ps.length : Int) - 1 := by simp [svs]
  refine call_rv ht (by simp [svs]; omega) fun tk => ?_
  rw [e]
  exact h _ _ tk (F.push _) (N.push F _) fun p hp => Heap.lt_size (N p hp).1
theorem it_led (F : Fr h₀ L s.heap m) (N : News h₀ L s.heap news) (hm : (T, tupOf (svs ps)) ∈ news)
    (h : ∀ D h', Fr h₀ L h' m → News h₀ L h' ((D, ({ cls := .type "tuple_iterator", data := .fields #[.ref T, .int 0 0] } : Obj)) :: news) → (∀ p ∈ news, p.1 < D) → Q (.ref D) { s with heap := h' }) :
    wpAny (model prog w) A (call (.builtin "iter") [.ref T]) Q E s := by
  have ht : s.heap.IsTuple T (svs ps) := ⟨_, (N _ hm).1, rfl, 0, rfl⟩
  refine call_function_entry (by decide +kernel) (by decide +kernel) kdk_entry_iter (kdk_args_iter _) ?_
  unfold Builtin.«iter»
  refine wpAny_bind (m := someArgs "iter" 1 2 _) (wpAny_of_eq (a := [Value.ref T]) (by first | rfl | kernel_rfl!) ?_)
  show wpAny _ _ (pyIter (.ref T) >>= _) _ _ _
  refine wpAny_bind (wpAny_pyIter_tuple ht ?_)
  exact wpAny_pure ⟨_, rfl, h _ _ (F.push _) (N.push F _) fun p hp => Heap.lt_size (N p hp).1⟩
end
end
section
open PySem PySem.W PyProof.Rows PySem.Calls

abbrev TT (mean : ExcName → Option Value) (mg mb : Str → Option Value) (h : Heap) : Prop := Top hd.view_39 (looseW hd.view_39 []) mean mg mb h

/-- what a call needs of the frame that makes it -/
structure Cx (w : World) (A₀ A : Around) (base h₀ : Heap) (outer : List Env) (env : Env) (L : Addr) (m : Str → Option Value) (mean : ExcName → Option Value) (mg mb : Str → Option Value) (h : Heap) (news : List (Addr × Obj)) : Prop where
  B : Below A₀ base outer h₀
  F : Fr h₀ L h m
  X : (hd.heap_39 w.params).In h₀
  N : News h₀ L h news
  T : TT mean mg mb h₀
  hA : A.frames = some (env :: outer)
  hf : env.frame = some L
  hk : env.scope.kind = .function
  hd : A.depth < 460
  hu : A.units < 1000

/-- the dict of a cache's own names -/
abbrev cdObj (w : World) (dm dq lk : Nat) (cap : Int) (u t1 t2 t3 t4 : Nat) : Obj :=
  dictOf [⟨PyData.keyHash w.params (Str.ofString "capacity"), .str (Str.ofString "capacity") t1, .int cap u⟩, ⟨PyData.keyHash w.params (Str.ofString "_mapping"), .str (Str.ofString "_mapping") t2, .ref dm⟩,
    ⟨PyData.keyHash w.params (Str.ofString "_queue"), .str (Str.ofString "_queue") t3, .ref dq⟩, ⟨PyData.keyHash w.params (Str.ofString "_wlock"), .str (Str.ofString "_wlock") t4, .ref lk⟩] 4

theorem fillK : (PySem.Challenge.rw_co0006_01 = PySem.Challenge.rw_co0006_01 ∧ hd.heap_39 = hd.heap_39) := by
  k_fill
  exact ⟨rfl, rfl⟩
end
section
open PySem PySem.W PyProof.Rows PySem.Calls
section
variable {prog : Program} {w : World} {A : Around} {E : Value → Shared → Prop} {s : Shared} {h₀ : Heap} {L : Addr} {m : Str → Option Value} {env : Env}
theorem comp_of {elt : Expr} {x : Str} {scope : Scope} {cl : List (Str × Addr)} {S : List (Addr × Obj) → Prop} {P : Nat → Value → Prop} {Fin : List Value → List (Addr × Obj) → Prop} {n : Nat} {news : List (Addr × Obj)}
    (J : Nat → List Value → List (Addr × Obj) → Prop) (h0 : J 0 [] news)
    (turn : ∀ i ys nw, i < n → J i ys nw → ∀ v I oI C oC D m₂ h tk (E' : Value → Shared → Prop), P i v → LCg.NsObj oC m₂ → m₂ x = some v → Fr h₀ L h m → News h₀ L h ((I, oI) :: (C, oC) :: (D, LCg.lst ys) :: nw) → LCg.Off3 I C D nw → ((@Ne Nat I C) ∧ (@Ne Nat I D) ∧ (@Ne Nat C D)) →
      wpAny (model prog w) A (eval elt (compEnvC scope cl C env)) (LCg.CompEnd h₀ L m { s with heap := h, toks := tk } I oI C oC D (LCg.lst ys) S (fun y nw' => J (i + 1) (ys ++ [y]) nw')) E' { s with heap := h, toks := tk })
    (fin : ∀ ys nw, J n ys nw → Fin ys nw) : LCg.CompRest prog w A h₀ L m env elt x scope cl s S P Fin n 0 [] news := by
  have key : ∀ (j i : Nat) (ys : List Value) (nw : List (Addr × Obj)), i + j = n → J i ys nw → LCg.CompRest prog w A h₀ L m env elt x scope cl s S P Fin j i ys nw := by
    intro j
    induction j with
    | zero => intro i ys nw e hJ; exact LCg.CompRest.zero (fin ys nw (by rw [Nat.add_zero] at e; rw [← e]; exact hJ))
    | succ j ih =>
      intro i ys nw e hJ
      refine LCg.CompRest.succ fun v I oI C oC D m₂ h tk E' hP hC hx F N off ne => ?_
      refine wpAny_mono (turn i ys nw (by omega) hJ v I oI C oC D m₂ h tk E' hP hC hx F N off ne) (fun y s₁ r => ?_) fun _ _ z => z
      obtain ⟨h', tk', nw', e', F', N', off', hS, hJ'⟩ := r
      exact ⟨h', tk', nw', e', F', N', off', hS, ih (i + 1) _ nw' (by omega) hJ'⟩
  exact key n 0 [] news (by omega) h0
theorem compT_of {ct elt : Expr} {x : Str} {scope : Scope} {cl : List (Str × Addr)} {S : List (Addr × Obj) → Prop} {P : Nat → Value → Prop} {Fin : List Value → List (Addr × Obj) → Prop} {n : Nat} {news : List (Addr × Obj)}
    (J : Nat → List Value → List (Addr × Obj) → Prop) (h0 : J 0 [] news)
    (turn : ∀ i ys nw, i < n → J i ys nw → ∀ v I oI C oC D m₂ h tk (E' : Value → Shared → Prop), P i v → LCg.NsObj oC m₂ → m₂ x = some v → Fr h₀ L h m → News h₀ L h ((I, oI) :: (C, oC) :: (D, LCg.lst ys) :: nw) → LCg.Off3 I C D nw → ((@Ne Nat I C) ∧ (@Ne Nat I D) ∧ (@Ne Nat C D)) →
      wpAny (model prog w) A (isTrue ct (compEnvC scope cl C env) (eval ct (compEnvC scope cl C env))) (fun ok s' => if ok = true then
        wpAny (model prog w) A (eval elt (compEnvC scope cl C env)) (LCg.CompEnd h₀ L m { s with heap := h, toks := tk } I oI C oC D (LCg.lst ys) S (fun y nw' => J (i + 1) (ys ++ [y]) nw')) E' s'
        else LCg.CompEnd h₀ L m { s with heap := h, toks := tk } I oI C oC D (LCg.lst ys) S (fun _ nw' => J (i + 1) ys nw') Value.none s') E' { s with heap := h, toks := tk })
    (fin : ∀ ys nw, J n ys nw → Fin ys nw) : LCt.CompRestT prog w A h₀ L m env ct elt x scope cl s S P Fin n 0 [] news := by
  have key : ∀ (j i : Nat) (ys : List Value) (nw : List (Addr × Obj)), i + j = n → J i ys nw → LCt.CompRestT prog w A h₀ L m env ct elt x scope cl s S P Fin j i ys nw := by
    intro j
    induction j with
    | zero => intro i ys nw e hJ; exact LCt.CompRestT.zero (fin ys nw (by rw [Nat.add_zero] at e; rw [← e]; exact hJ))
    | succ j ih =>
      intro i ys nw e hJ
      refine LCt.CompRestT.succ fun v I oI C oC D m₂ h tk E' hP hC hx F N off ne => ?_
      refine wpAny_mono (turn i ys nw (by omega) hJ v I oI C oC D m₂ h tk E' hP hC hx F N off ne) (fun ok s₁ r => ?_) fun _ _ z => z
      cases ok with
      | true =>
        simp only [if_true] at r ⊢
        refine wpAny_mono r (fun y s₂ r' => ?_) fun _ _ z => z
        obtain ⟨h', tk', nw', e', F', N', off', hS, hJ'⟩ := r'
        exact ⟨h', tk', nw', e', F', N', off', hS, ih (i + 1) _ nw' (by omega) hJ'⟩
      | false =>
        simp only [Bool.false_eq_true, if_false] at r ⊢
        obtain ⟨h', tk', nw', e', F', N', off', hS, hJ'⟩ := r
        exact ⟨h', tk', nw', e', F', N', off', hS, ih (i + 1) _ nw' (by omega) hJ'⟩
  exact key n 0 [] news (by omega) h0
end
end
section
open PySem PySem.W PyProof.Rows PySem.Calls
inductive TupsAt : List (Addr × Obj) → List Value → List (Str × Value) → Prop
  | nil {nw} : TupsAt nw [] []
  | cons {nw : List (Addr × Obj)} {a : Nat} {t : Tok} {k : Str} {v : Value} {ys ps} (h : (a, tupOf #[.str k t, v]) ∈ nw) (r : TupsAt nw ys ps) : TupsAt nw (.ref a :: ys) ((k, v) :: ps)
theorem TupsAt.mono {nw nw' : List (Addr × Obj)} (sub : ∀ p ∈ nw, p ∈ nw') {ys ps} (x : TupsAt nw ys ps) : TupsAt nw' ys ps := by
  induction x with
  | nil => exact .nil
  | cons h _ ih => exact .cons (sub _ h) ih
theorem TupsAt.append {nw : List (Addr × Obj)} {ys ys' ps ps'} (x : TupsAt nw ys ps) (y : TupsAt nw ys' ps') : TupsAt nw (ys ++ ys') (ps ++ ps') := by
  induction x with
  | nil => exact y
  | cons h _ ih => exact .cons h ih
theorem TupsAt.reverse {nw : List (Addr × Obj)} {ys ps} (x : TupsAt nw ys ps) : TupsAt nw ys.reverse ps.reverse := by
  induction x with
  | nil => exact .nil
  | cons h _ ih => rw [List.reverse_cons, List.reverse_cons]; exact ih.append (.cons h .nil)
theorem TupsAt.len {nw : List (Addr × Obj)} {ys ps} (x : TupsAt nw ys ps) : ys.length = ps.length := by
  induction x with
  | nil => rfl
  | cons h _ ih => simp [ih]
theorem TupsAt.at {nw : List (Addr × Obj)} {ys ps} (x : TupsAt nw ys ps) : ∀ {i : Nat} {v : Value}, ys[i]? = some v → ∃ (a : Nat) (t : Tok) (k : Str) (u : Value), v = .ref a ∧ ps[i]? = some (k, u) ∧ (a, tupOf #[.str k t, u]) ∈ nw := by
  induction x with
  | nil => intro i v e; simp at e
  | cons h _ ih =>
    intro i v e
    cases i with
    | zero => simp at e; subst e; exact ⟨_, _, _, _, rfl, rfl, h⟩
    | succ i => exact ih (by simpa using e)
/-- the pairs that a cache tells, the oldest first -/
def prs (kvs : List (Str × Value)) (ps : List (Str × Nat)) : List (Str × Value) := ps.map fun p => (p.1, (valueAt kvs p.1).getD .none)
theorem prs_take {kvs : List (Str × Value)} {ps : List (Str × Nat)} {i : Nat} {p : Str × Nat} {v : Value} (e : ps[i]? = some p) (hv : valueAt kvs p.1 = some v) :
    (prs kvs ps).take (i + 1) = (prs kvs ps).take i ++ [(p.1, v)] := by
  have e' : (prs kvs ps)[i]? = some (p.1, v) := by simp [prs, e, hv]
  rw [List.take_add_one, e']; rfl
theorem svs_at {ps : List (Str × Nat)} {i : Nat} {v : Value} (e : (svs ps)[i]? = some v) : ∃ p, ps[i]? = some p ∧ v = .str p.1 p.2 := by
  simp [svs] at e
  obtain ⟨a, b, e1, e2⟩ := e
  exact ⟨_, e1, e2.symm⟩
theorem at_of {ps : List (Str × Nat)} {kvs : List (Str × Value)} {i : Nat} {p : Str × Nat} (hm : Matches ps kvs) (e : ps[i]? = some p) : ∃ v, valueAt kvs p.1 = some v :=
  Option.isSome_iff_exists.mp ((hm p.1).mp (List.mem_map.mpr ⟨p, List.mem_of_getElem? e, rfl⟩))
theorem own_of {D : Addr} : ∀ {l : List (Addr × Obj)}, LCg.Off1 D l → OwnOff l [D]
  | [], _ => fun _ h => nomatch h
  | _ :: _, x => fun q hq b hb => by
    rcases List.mem_cons.mp hq with rfl | hq
    · rw [List.mem_singleton.mp hb]; exact x.1
    · exact own_of x.2 q hq b hb
theorem off1_of {D : Addr} : ∀ {l : List (Addr × Obj)}, OwnOff l [D] → LCg.Off1 D l
  | [], _ => trivial
  | p :: r, h => ⟨h p List.mem_cons_self D (List.mem_singleton.mpr rfl), off1_of fun q hq => h q (List.mem_cons_of_mem _ hq)⟩
end
section
open PySem PySem.W PyProof.Rows PySem.Calls PySem.Spec
set_option maxRecDepth 100000
section
variable {prog : Program} {w : World} {M : Model} {A : Around} {E : Value → Shared → Prop} {s : Shared} {env : Env} {K : Frag} {x C L fe fx : Addr} {h₀ : Heap} {m : Str → Option Value} {ox : Obj} {od : Option Obj} {pos : Pos}

/-- what a with statement does with an exception of its body -/
def KwFail (prog : Program) (w : World) (A : Around) (E : Value → Shared → Prop) (env : Env) (x fx : Addr) (Q : Flow → Shared → Prop) (ev : Value) (s : Shared) : Prop :=
  wpAny (model prog w) A (noteFrame ev env) (fun _ s₁ => wpAny (model prog w) A (setFlight ev none) (fun _ s₂ =>
    wpAny (model prog w) A (typeOf ev) (fun te s₃ => wpAny (model prog w) A (tracebackOf ev) (fun tb s₄ =>
      ev ≠ byPass ∧ codeAny (model prog w) (A.mark (some ev)) (.call (.ref fx) ⟨[.ref x, te, ev, tb], []⟩) (fun r s₅ => r = .ok (.ret (.bool false)) ∧ wpAny (model prog w) A (passOn (α := Flow) "with" ev env) Q E s₅) s₄) E s₃) E s₂) E s₁) E s

theorem kw_coreR {bdy : Sem Flow} {Q : Flow → Shared → Prop} (X : K.In s.heap) (I : InstAt s.heap x ox C od) (he : findIn K (.ref C) "__enter__" = some (some (.ref fe))) (hfe : isFn K (.ref fe) = true) (hx : findIn K (.ref C) "__exit__" = some (some (.ref fx))) (hfx : isFn K (.ref fx) = true)
    (h : wpAny (model prog w) A (call (.ref fe) [.ref x]) (fun v s₂ => wpAny (model prog w) A bdy (fun f s₄ => wpAny (model prog w) A (call (.ref fx) [.ref x, .none, .none, .none]) (fun _ s₅ => Q f s₅) E s₄) (KwFail prog w A E env x fx Q) s₂) E s) :
    wpAny (model prog w) A (withItem false pos env (pure (.ref x)) none bdy) Q E s := by
  obtain ⟨cd, hcd, ae⟩ := kw_along he
  obtain ⟨cd', hcd', ax⟩ := kw_along hx
  cases hcd.symm.trans hcd'
  obtain ⟨hh, g, d, tt, os⟩ := s
  have L1 : Looks (model prog w) hh (specialOnItsLine (.ref x) "__enter__") (some (.ref fe), cd.mro) := kw_special X I hcd ae
  have L2 : Looks (model prog w) hh (specialOnItsLine (.ref x) "__exit__") (some (.ref fx), cd.mro) := kw_special X I hcd ax
  have L3 : Looks (model prog w) hh (bindSpecial (.ref fe) (.ref x)) (.ref fe, [.ref x]) := bind_fn X _ (beq_iff_eq.mp hfe)
  have L4 : Looks (model prog w) hh (bindSpecial (.ref fx) (.ref x)) (.ref fx, [.ref x]) := bind_fn X _ (beq_iff_eq.mp hfx)
  have L5 : Looks (model prog w) hh (aMethodOfAnotherBuiltinTypeStops (.ref fe) cd.mro) () := Looks.of_pure rfl
  have L6 : Looks (model prog w) hh (aMethodOfAnotherBuiltinTypeStops (.ref fx) cd.mro) () := Looks.of_pure rfl
  unfold withItem
  refine wpAny_bind (wpAny_pure ?_)
  refine wpAny_bind (wpAny_standAt ?_)
  simp only [Bool.false_eq_true, if_false]
  repeat ((fail_if_success (with_reducible show wpAny _ _ (call _ _) _ _ _)); (fail_if_success (with_reducible show wpAny _ _ (Sem.attempt _) _ _ _)); first | with_reducible refine wpAny_standAt ?_ | lk)
  refine wpAny_mono h (fun v s₂ h₂ => ?_) fun _ _ z => z
  repeat ((fail_if_success (with_reducible show wpAny _ _ (call _ _) _ _ _)); (fail_if_success (with_reducible show wpAny _ _ (Sem.attempt _) _ _ _)); first | with_reducible refine wpAny_standAt ?_ | lk)
  refine wpAny_attempt (kw_held ?_)
  show wpAny _ _ bdy _ _ _
  refine wpAny_mono h₂ (fun f s₄ h₄ => ?_) fun ev s₃ z => ?_
  · repeat ((fail_if_success (with_reducible show wpAny _ _ (call _ _) _ _ _)); (fail_if_success (with_reducible show wpAny _ _ (Sem.attempt _) _ _ _)); first | with_reducible refine wpAny_standAt ?_ | lk)
    refine wpAny_mono h₄ (fun _ s₅ h₅ => ?_) fun _ _ z => z
    repeat ((fail_if_success (with_reducible show wpAny _ _ (call _ _) _ _ _)); (fail_if_success (with_reducible show wpAny _ _ (Sem.attempt _) _ _ _)); first | with_reducible refine wpAny_standAt ?_ | lk)
    exact h₅
  · dsimp only
    refine wpAny_bind (wpAny_mono z (fun _ s₄ z => ?_) fun _ _ y => y)
    refine wpAny_bind (wpAny_mono z (fun _ s₅ z => ?_) fun _ _ y => y)
    refine wpAny_bind (wpAny_standAt ?_)
    refine wpAny_holding ?_
    refine wpAny_bind (wpAny_mono z (fun te s₆ z => ?_) fun _ _ y => y)
    refine wpAny_bind (wpAny_mono z (fun tb s₇ z => ?_) fun _ _ y => y)
    refine wpAny_bind ?_
    unfold withItem.marked
    refine wpAny_bind (wpAny_run (codeAny_mono z.2 fun r s₈ hr => ?_) (fun q => z.1 (Option.some.inj q)))
    obtain ⟨rfl, hr⟩ := hr
    dsimp only
    refine wpAny_pure ?_
    refine wpAny_bind (wpAny_pure ?_)
    dsimp only
    refine wpAny_bind (wpAny_pure ?_)
    simp only [Bool.false_eq_true, if_false]
    exact hr

theorem kw_inR {py : Pos} {body : List Stmt} {Q : Flow → Shared → Prop} (F : Fr h₀ L s.heap m) (X₀ : K.In h₀) (I : InstAt s.heap x ox C od) (he : findIn K (.ref C) "__enter__" = some (some (.ref fe))) (hfe : isFn K (.ref fe) = true)
    (hx : findIn K (.ref C) "__exit__" = some (some (.ref fx))) (hfx : isFn K (.ref fx) = true)
    (h : wpAny (model prog w) A (call (.ref fe) [.ref x]) (fun _ s₂ => wpAny (model prog w) A (execs body env) (KwOut prog w A E x fx Q) (KwFail prog w A E env x fx Q) s₂) E s) :
    KwIn prog w A E env pos none py body Q (.ref x) s :=
  kw_coreR (X₀.keeps F.keep) I he hfe hx hfx h
end

/-- an exception, under way to the frames `l` -/
def RaisedM (base G : Heap) (l : List Env) (e : Addr) (cls : Value) (news : List (Addr × Obj)) (h : Heap) : Prop :=
  ∃ B a0, base.StaysIn B ∧ (∀ b o, G.get? b = some o → b ∉ l.filterMap (·.frame) → B.get? b = some o) ∧ (∀ q ∈ news, B.get? q.1 = some q.2 ∧ G.get? q.1 = none ∧ base.get? q.1 = none) ∧ Heap.FlyingW B l e cls a0 h

section
variable {M : Model} {A : Around} {E : Value → Shared → Prop} {s s' : Shared} {base g g₂ h : Heap} {outer : List Env} {L a e t : Addr} {m : Str → Option Value} {name : Str} {scope : Scope} {cd : Value} {Q : Unit → Shared → Prop} {news : List (Addr × Obj)}
theorem note_firstW {env : Env} {oe : Obj} {vs : Array Value} {a0 : Value}
    (hfr : A.frames = some (env :: outer)) (hl : s.heap.FunFrames base (env :: outer)) (hf : env.frame = some L)
    (he : s.heap.get? e = some oe) (hkb : base.StaysIn s.heap) (hen : base.get? e = none) (hd : oe.data = .fields vs) (h1 : vs[1]? = some .none) (h0 : vs[0]? = some a0)
    (h : ∀ h', Heap.NotedW base (env :: outer) e oe.cls a0 (rawInt L) s.heap h' → Q () { s with heap := h' }) : wpAny M A (noteFrame (.ref e) env) Q E s := by
  unfold noteFrame
  simp only [hf]
  refine wpAny_bind (wpAny_field he hd h1 ?_)
  rw [if_neg (by decide)]
  exact wpAny_entryW hfr hl hf he hkb hen hd (Array.getElem?_eq_some_iff.mp h1).1 h0 h

theorem leave_onM {cls : Value} (K : Below A base outer g) (F : Fr g L g₂ m) (R : RaisedM base g₂ (envOf name scope L a cd :: outer) e cls news s'.heap) (hsm : g₂.UpToSlots s'.heap)
    (hQ : ∀ h', RaisedM base g outer e cls news h' → g.UpToSlots h' → Q () { s' with heap := h' }) :
    wpAny M (A.deeper (envOf name scope L a cd)) (leaving (envOf name scope L a cd) (.ref e)) Q E s' := by
  obtain ⟨B, a0, hB, hBG, hl, hfl⟩ := R
  refine wpAny_leaves_onW (Around.frames_deeper K.stack) rfl hfl fun h' x1 x2 => hQ h' ⟨B, a0, hB, fun b o q nm => hBG b o (F.keep b o q) (fun hm => ?_), fun q hq => ⟨(hl q hq).1, kts_none F.keep (hl q hq).2.1, (hl q hq).2.2⟩, x1⟩ ((Heap.UpToSlots.of_keeps F.keep).trans (hsm.trans x2))
  rcases kts_mem hm with z | z
  · rw [z, kts_self F] at q; cases q
  · exact nm z

/-- the frame that a with statement has passed the exception on out of -/
theorem leave_heldM {cls a0 : Value} {oe oT : Obj} {vs ts : Array Value} {T : Addr} (K : Below A base outer g) (F : Fr g L h m) (N : News g L h ((e, oe) :: (T, oT) :: news))
    (hc : oe.cls = cls) (h0 : vs[0]? = some a0) (hd : oe.data = .fields vs) (h1 : vs[1]? = some (.ref T)) (hdT : oT.data = .fields ts) (h3 : 3 < ts.size) (hTe : T ≠ e) (hoff : ∀ q ∈ news, q.1 ≠ e ∧ q.1 ≠ T)
    (hs' : s'.heap = h.update T (Obj.mapFields (·.setIfInBounds 3 (rawInt L)))) (hk : scope.kind = .function)
    (hQ : ∀ h', RaisedM base g outer e cls news h' → g.UpToSlots h' → Q () { s' with heap := h' }) :
    wpAny M (A.deeper (envOf name scope L a cd)) (leaving (envOf name scope L a cd) (.ref e)) Q E s' := by
  have K' := K.push (name := name) (a := a) (cd := cd) F hk
  have he := N (e, oe) (.head _)
  have hT := N (T, oT) (.tail _ (.head _))
  obtain ⟨he1, he2, he3⟩ := he
  obtain ⟨hT1, hT2, hT3⟩ := hT
  dsimp only at he1 he2 he3 hT1 hT2 hT3
  have hin : ∀ env ∈ (envOf name scope L a cd :: outer), ∀ b, env.frame = some b → b ∈ e :: T :: (envOf name scope L a cd :: outer).filterMap (·.frame) := fun env he b hb => .tail _ (.tail _ (List.mem_filterMap.mpr ⟨env, he, hb⟩))
  have other : ∀ b, b ≠ T → s'.heap.get? b = h.get? b := fun b hb => by rw [hs']; exact Heap.get?_update_other _ _ (Ne.symm hb)
  have noRecord : ∀ b o, h.get? b = some o → (∀ vs, o.data ≠ .fields vs) → b ≠ T := fun b o hb hnf q => by
    rw [q, hT1] at hb; injection hb with hb; subst hb; exact hnf ts hdT
  have hB1 : (hideAll h (e :: T :: (envOf name scope L a cd :: outer).filterMap (·.frame))).StaysIn s'.heap := fun b o q => by
    have nT : b ≠ T := fun z => by rw [z, hideAll_none _ (.tail _ (.head _))] at q; cases q
    exact (other b nT).trans (of_hideAll _ q)
  have hFF : s'.heap.FunFrames (hideAll h (e :: T :: (envOf name scope L a cd :: outer).filterMap (·.frame))) (envOf name scope L a cd :: outer) :=
    (funFrames_hide K'.frames hin).of_keeps fun b o hb hnf => ⟨o, (other b (noRecord b o hb hnf)).trans hb, rfl⟩
  have hT' : s'.heap.get? T = some (Obj.mapFields (·.setIfInBounds 3 (rawInt L)) oT) := by
    rw [hs']; exact Heap.get?_update_self _ hT1 (Obj.isFreed_of_fields (Obj.data_mapFields hdT _))
  have held : Heap.HeldW (hideAll h (e :: T :: (envOf name scope L a cd :: outer).filterMap (·.frame))) (envOf name scope L a cd :: outer) e cls a0 L s'.heap :=
    ⟨hB1, hideAll_none _ (.head _), hFF, oe, vs, T, _, _, (other e (Ne.symm hTe)).trans he1, ⟨hc, h0⟩, hd, h1, hideAll_none _ (.tail _ (.head _)), hTe, hT', Obj.data_mapFields hdT _, by simp [h3]⟩
  unfold leaving
  refine wpAny_bind (wpAny_noteFrame_againW (L := L) rfl held.2.2.2 ?_)
  refine wpAny_landsW held fun h' hfl hsm => ?_
  obtain ⟨k1, k2, ⟨_, _, k3⟩, k4⟩ := hfl
  have up : g.UpToSlots h' := by
    refine (Heap.UpToSlots.of_keeps F.keep).trans (Heap.UpToSlots.trans (h₂ := s'.heap) (fun b o hb hnf => ⟨o.slots, (other b (noRecord b o hb hnf)).trans hb⟩) hsm)
  have nfr : ∀ b o, g.get? b = some o → b ∉ outer.filterMap (·.frame) → b ∉ e :: T :: (envOf name scope L a cd :: outer).filterMap (·.frame) := fun b o q nm hm => by
    rcases List.mem_cons.mp hm with z | hm
    · rw [z, he3] at q; cases q
    rcases List.mem_cons.mp hm with z | hm
    · rw [z, hT3] at q; cases q
    rcases kts_mem hm with z | z
    · rw [z, kts_self F] at q; cases q
    · exact nm z
  refine hQ h' ⟨_, a0, fun b o q => hideAll_get _ (K'.stays b o q) (nfr b o (K.stays b o q) fun hm => ?_), fun b o q nm => hideAll_get _ (F.keep b o q) (nfr b o q nm), fun q hq => ?_, k1, k2, k3, k4⟩ up
  · rw [(K.frames.mem hm).1] at q; cases q
  · have z := N q (.tail _ (.tail _ hq))
    refine ⟨hideAll_get _ z.1 fun hm => ?_, z.2.2, fresh_of_stays K.stays z.2.2⟩
    rcases List.mem_cons.mp hm with y | hm
    · exact (hoff q hq).1 y
    rcases List.mem_cons.mp hm with y | hm
    · exact (hoff q hq).2 y
    rcases kts_mem hm with y | y
    · exact z.2.1 y
    · obtain ⟨_, o, ho, _⟩ := K.frames.mem y
      rw [z.2.2] at ho; cases ho
end
end
section
open PySem PySem.W PyProof.Rows PySem.Calls PySem.Spec
set_option maxRecDepth 100000
theorem KtsTurn.slots {fs : List Addr} {g g' : Heap} (x : KtsTurn fs g g') : g.UpToSlots g' := fun _ _ e _ => x.up e
theorem KtsTurn.back {fs : List Addr} {g g' : Heap} (x : KtsTurn fs g g') {b : Addr} (e : g'.get? b = none) : g.get? b = none := by
  cases q : g.get? b with
  | none => rfl
  | some o => obtain ⟨sl, hs⟩ := x.up q; rw [e] at hs; cases hs
theorem RaisedM.turn {base g g' : Heap} {l : List Env} {e : Addr} {cls : Value} {news : List (Addr × Obj)} {h : Heap} (T : KtsTurn (l.filterMap (·.frame)) g g') (R : RaisedM base g' l e cls news h) : RaisedM base g l e cls news h := by
  obtain ⟨B, a0, hB, hBG, hl, hfl⟩ := R
  exact ⟨B, a0, hB, fun b o q nm => hBG b o (T.other b o q nm) nm, fun q hq => ⟨(hl q hq).1, KtsTurn.back T (hl q hq).2.1, (hl q hq).2.2⟩, hfl⟩
section
variable {prog : Program} {w : World} {A : Around} {s' : Shared} {base g h : Heap} {outer : List Env} {L a e : Addr} {m : Str → Option Value} {name : Str} {scope : Scope} {cd : Value} {Q : Flow → Shared → Prop} {news : List (Addr × Obj)} {x fx : Addr} {R : Result → Shared → Prop}
theorem kw_fail (K : Below A base outer g) (F : Fr g L h m) (N : News g L h news) (hx : Heap.NewExc h s'.heap e "KeyError") (hk : scope.kind = .function)
    (hexit : ∀ g' h' oe oT T tb tk (S : Result → Shared → Prop), KtsTurn (outer.filterMap (·.frame)) g g' → Below A base outer g' → Fr g' L h' m → News g' L h' ((e, oe) :: (T, oT) :: news) →
      (∀ h5 tk', Fr g' L h5 m → News g' L h5 ((e, oe) :: (T, oT) :: news) → S (.ok (.ret (.bool false))) { s' with heap := h5, toks := tk' }) →
      codeAny (model prog w) ((A.deeper (envOf name scope L a cd)).mark (some (.ref e))) (.call (.ref fx) ⟨[.ref x, .type "KeyError", .ref e, tb], []⟩) S { s' with heap := h', toks := tk })
    (hR : ∀ h' tk, RaisedM base g outer e (.type "KeyError") news h' → g.UpToSlots h' → R (.error (.ref e)) { s' with heap := h', toks := tk }) :
    KwFail prog w (A.deeper (envOf name scope L a cd)) (fun e s' => wpAny (model prog w) (A.deeper (envOf name scope L a cd)) (leaving (envOf name scope L a cd) e) (fun _ s'' => R (.error e) s'') (fun e' s'' => R (.error e') s'') s')
      (envOf name scope L a cd) x fx Q (.ref e) s' := by
  have K' := K.push (name := name) (a := a) (cd := cd) F hk
  have hin : ∀ env ∈ (envOf name scope L a cd :: outer), ∀ b, env.frame = some b → b ∈ (envOf name scope L a cd :: outer).filterMap (·.frame) := fun env he b hb => List.mem_filterMap.mpr ⟨env, he, hb⟩
  have hBG : ∀ b o, h.get? b = some o → b ∉ (envOf name scope L a cd :: outer).filterMap (·.frame) → (hideAll h ((envOf name scope L a cd :: outer).filterMap (·.frame))).get? b = some o := fun b o q nm => hideAll_get _ q nm
  have hl : ∀ q ∈ news, (hideAll h ((envOf name scope L a cd :: outer).filterMap (·.frame))).get? q.1 = some q.2 := fun q hq => by
    refine hideAll_get _ (N q hq).1 fun hm => ?_
    rcases kts_mem hm with y | y
    · exact (N q hq).2.1 y
    · obtain ⟨_, o, ho, _⟩ := K.frames.mem y
      rw [(N q hq).2.2] at ho; cases ho
  obtain ⟨ob, tp, he, hcls, hd⟩ := hx.there
  have hen : (hideAll h ((envOf name scope L a cd :: outer).filterMap (·.frame))).get? e = none := by
    cases q : (hideAll h ((envOf name scope L a cd :: outer).filterMap (·.frame))).get? e with
    | none => rfl
    | some o => have := of_hideAll _ q; rw [hx.new] at this; cases this
  have gen : g.get? e = none := kts_none F.keep hx.new
  unfold KwFail
  refine note_firstW (a0 := tp) (Around.frames_deeper K.stack) ((funFrames_hide K'.frames hin).of_keeps fun b o hb _ => ⟨o, hx.keeps b o hb, rfl⟩) rfl he (fun b o hb => hx.keeps b o (of_hideAll _ hb)) hen hd rfl rfl fun h₁ hN => ?_
  obtain ⟨k1, k2, k3, k4⟩ := hN
  have sm₁ : h.UpToSlots h₁ := (Heap.UpToSlots.of_keeps hx.keeps).trans k4
  refine wpAny_landsW (s := { s' with heap := h₁ }) ⟨k1, hen, k2, k3⟩ fun h₂ hfl sm₂ => ?_
  obtain ⟨f1, f2, f3, oe, vs, T, oT, ts, a1, ⟨a2, a2'⟩, a3, a4, a5, a6, a7, a8, a9⟩ := hfl
  have sm : h.UpToSlots h₂ := sm₁.trans sm₂
  obtain ⟨g₂, T₂, F₂, K₂⟩ := kts_ground K F hBG f1 sm
  have gT : g.get? T = none := kts_fresh F hBG a5 fun o ho mm => by
    obtain ⟨_, o', ho', hdd⟩ := K.frames.mem mm
    rw [ho] at ho'
    cases ho'
    obtain ⟨sl, hs⟩ := sm _ _ (F.keep _ _ ho) hdd
    rw [a7] at hs
    cases hs
    exact hdd _ a8
  have N₂ : News g₂ L h₂ news := fun q hq => by
    refine ⟨f1 _ _ (hl q hq), (N q hq).2.1, T₂.none_ _ (N q hq).2.2⟩
  have N₃ := News.more F₂ (News.more F₂ N₂ a7 (fun es n q => by rw [a8] at q; cases q) (T₂.none_ _ gT)) a1 (fun es n q => by rw [a3] at q; cases q) (T₂.none_ _ gen)
  have hoff : ∀ q ∈ news, q.1 ≠ e ∧ q.1 ≠ T := fun q hq => by
    have z := hl q hq
    exact ⟨fun y => (by rw [y, hen] at z; cases z), fun y => (by rw [y, a5] at z; cases z)⟩
  have h3 : 3 < ts.size := (Array.getElem?_eq_some_iff.mp a9).1
  have hcl : oe.cls = .type "KeyError" := by rw [a2]; exact hcls
  refine wpAny_typeOf_ref a1 ?_
  rw [hcl]
  have rest : ∀ tb, Value.ref e ≠ byPass ∧ codeAny (model prog w) ((A.deeper (envOf name scope L a cd)).mark (some (.ref e))) (.call (.ref fx) ⟨[.ref x, .type "KeyError", .ref e, tb], []⟩)
      (fun r s₅ => r = .ok (.ret (.bool false)) ∧ wpAny (model prog w) (A.deeper (envOf name scope L a cd)) (PySem.passOn (α := Flow) "with" (.ref e) (envOf name scope L a cd)) Q
        (fun e s' => wpAny (model prog w) (A.deeper (envOf name scope L a cd)) (leaving (envOf name scope L a cd) e) (fun _ s'' => R (.error e) s'') (fun e' s'' => R (.error e') s'') s') s₅) { s' with heap := h₂ } := fun tb => by
    refine ⟨(by intro y; cases y), hexit g₂ h₂ oe oT T tb _ _ T₂ K₂ F₂ N₃ fun h5 tk' F5 N5 => ⟨rfl, ?_⟩⟩
    have e5 := (N5 (e, oe) (.head _)).1
    have t5 := (N5 (T, oT) (.tail _ (.head _))).1
    dsimp only at e5 t5
    unfold PySem.passOn
    refine wpAny_bind (wpAny_field e5 a3 a4 ?_)
    rw [if_neg (show ¬ ((Value.ref T == Value.none) = true) by simp)]
    refine wpAny_bind ?_
    unfold setFlight
    refine wpAny_bind (wpAny_field e5 a3 a4 ?_)
    rw [if_pos (show (Value.ref T != Value.none) = true from by simp)]
    refine wpAny_setField t5 a8 h3 ?_
    refine wpAny_throw ?_
    exact leave_heldM (h := h5) K₂ F5 N5 hcl a2' a3 a4 a8 h3 a6 hoff rfl hk fun h' R' U' => hR h' _ (R'.turn T₂) ((KtsTurn.slots T₂).trans U')
  unfold tracebackOf
  refine wpAny_bind (wpAny_field a1 a3 a4 ?_)
  dsimp only
  refine wpAny_bind (wpAny_field a7 a8 (Array.getElem?_eq_getElem (show 1 < ts.size by omega)) ?_)
  split
  · exact wpAny_pure (rest _)
  · exact wpAny_pure (rest _)
end
end
section
open PySem PySem.W PyProof.Rows PySem.Calls PySem.Spec
set_option maxRecDepth 100000
section
variable {prog : Program} {w : World} {A₀ : Around} {E : Value → Shared → Prop} {s' : Shared} {base g g₀ G : Heap} {outer : List Env} {L a e t C : Addr} {m : Str → Option Value} {name : Str} {scope : Scope} {cd : Value}
  {vs : List Value} {n : Str} {b₀ : Stmt} {suite : List Stmt} {pos np : Pos} {rest : List ExceptHandler} {Q : Flow → Shared → Prop} {news : List (Addr × Obj)} {KF : Frag}
  {p : Program} {loose : List Str} {mean : ExcName → Option Value} {mg mb : Str → Option Value} {x y : Str} {X T' : String}
theorem caught_M0 (R : RaisedM base G (envOf name scope L a cd :: outer) e (.type X) news s'.heap) (F : Fr g L G m) (K : Below A₀ base outer g) (hsm : G.UpToSlots s'.heap) (XB : KF.In base) (TB : Top p loose mean mg mb base)
    (D : KtsDicts (outer.filterMap (·.frame)) g) (T0 : KtsTurn (outer.filterMap (·.frame)) g₀ g)
    (ex : nsIn KF mainGlobals x = some none) (hv : bootBuiltins x = some (.type T')) (hn' : x ≠ "__name__")
    (hexc : isSubtype (.type T') (.type "BaseException") = pure true) (hnt : isSubtype (.type ((Manifest.find? T').elim "type" fun y => y.metatype)) (.type "tuple") = pure false) (hsub : isSubtype (.type X) (.type T') = pure true)
    (k : ∀ h' g', KtsTurn (outer.filterMap (·.frame)) g₀ g' → Fr g' L h' m → News g' L h' news → Below A₀ base outer g' → KF.In g' → Top p loose mean mg mb g' → KtsDicts (outer.filterMap (·.frame)) g' →
      wpAny (model prog w) ((A₀.deeper (envOf name scope L a cd)).mark (some (.ref e))) (execs (b₀ :: suite) (envOf name scope L a cd)) Q E { s' with heap := h' })
    (hk : scope.kind = .function := by rfl) (hx : (envOf name scope L a cd).kindOf x = some .globalImplicit := by rfl) (hd : (x == ("__debug__" : Str)) = false := by decide)
    (hE : PassesOwnAt (model prog w) ((A₀.deeper (envOf name scope L a cd)).mark (some (.ref e))) (A₀.deeper (envOf name scope L a cd)) (envOf name scope L a cd) E := by passes_own) :
    wpAny (model prog w) (A₀.deeper (envOf name scope L a cd)) (noteFrame (.ref e) (envOf name scope L a cd))
      (fun _ s₂ => wpAny (model prog w) (A₀.deeper (envOf name scope L a cd)) (setFlight (.ref e) none) (fun _ s₃ =>
        wpAny (model prog w) (A₀.deeper (envOf name scope L a cd)) (handleBy (.ref e) (envOf name scope L a cd) (.ExceptHandler (some (.Name x np)) none (b₀ :: suite) pos :: rest)) Q E s₃) E s₂) E s' := by
  obtain ⟨B, a0, hB, hBG, hl, hfl⟩ := R
  have hL : B.get? L = none := by
    obtain ⟨_, ⟨L', _, hf, hn', _⟩, _⟩ := hfl.2.2.1
    obtain rfl : L = L' := Option.some.inj hf
    exact hn'
  refine wpAny_looks_onW (Around.frames_deeper K.stack) rfl hfl fun h₄ hheld₄ hsm₄ => ?_
  refine wpAny_landsW hheld₄ fun h₅ hheld hsm₅' => ?_
  have hsm₅ := hsm₄.trans hsm₅'
  obtain ⟨g₅, T₅, F₅, K₅⟩ := kts_ground K F hBG hheld.1 (hsm.trans hsm₅)
  have X₅ : KF.In g₅ := XB.keeps K₅.stays
  have P₅ : TopRead p loose mg mb g₅ := topRead_of (TB.keeps K₅.stays)
  obtain ⟨ob, hob, hobc⟩ := hheld.there
  refine wpAny_handleBy_builtin (X := X) (T := T') (b := true) hexc hnt hsub (name_B F₅ X₅ P₅ ex hv hn' ⟨rfl, ⟨ob, hob, hobc⟩, ?_⟩ hk hx hd)
  refine lands_againW hheld fun h₆ hfl₆ hsm₆ => ?_
  obtain ⟨g₆, T₆, F₆, K₆⟩ := kts_ground K F hBG hfl₆.1 ((hsm.trans hsm₅).trans hsm₆)
  have Nl : News g₆ L h₆ news := fun q hq => ⟨hfl₆.1 _ _ (hl q hq).1, (fun z => by have := (hl q hq).1; rw [z, hL] at this; cases this), T₆.none_ _ (kts_none F.keep (hl q hq).2.1)⟩
  exact wpAny_passesOwnAt hE (k h₆ g₆ (T0.trans T₆) F₆ Nl K₆ (XB.keeps K₆.stays) (TB.keeps K₆.stays) (D.turn T₆))
end

/-- the way back out of a call that may have turned the frames' slots -/
def LeaveM (fs : List Addr) (A₀ : Around) (base : Heap) (outer : List Env) (h₀ : Heap) (L : Addr) (m : Str → Option Value) (g : Heap) (R : Result → Shared → Prop) (v : Value) (s' : Shared) : Prop :=
  ∃ g' L' m' news', KtsTurn fs g g' ∧ Fr g' L' s'.heap m' ∧ News g' L' s'.heap news' ∧ ∀ h₀', KtsTurn (outer.filterMap (·.frame)) h₀ h₀' → Fr h₀' L s'.heap m → News h₀' L s'.heap news' → Below A₀ base outer h₀' → KtsDicts (outer.filterMap (·.frame)) h₀' → R (.ok (.ret v)) s'

section
variable {prog : Program} {w : World} {A₀ A : Around} {s : Shared} {base h₀ : Heap} {outer : List Env} {env : Env} {L : Addr} {m : Str → Option Value} {news : List (Addr × Obj)} {K : Frag} {p : Program} {loose : List Str} {mean : ExcName → Option Value} {mg mb : Str → Option Value}
    {R : Result → Shared → Prop} {name qual : Str} {params : Arguments} {body : List Stmt} {scope : Scope} {dV kV doc pm cdv ct oc : Value} {an od : Option Addr} {osl : Array (Option Value)} {f : Addr} {args : Args} {binds : List (Str × Value)}
theorem code_defM (B : Below A₀ base outer h₀) (F : Fr h₀ L s.heap m) (X₀ : K.In h₀) (N : News h₀ L s.heap news) (T : Top p loose mean mg mb h₀) (D : KtsDicts (outer.filterMap (·.frame)) h₀)
    (hA : A.frames = some (env :: outer)) (hf : env.frame = some L) (hke : env.scope.kind = .function)
    (ho : K.lookup f = some ⟨oc, od, .func (fnOf name qual params body scope dV kV doc pm an cdv ct), osl⟩) (hcd : codeIn K cdv qual = true) (hroom : A.depth < recursionLimit)
    (hbind : BindsTo s (fnOf name qual params body scope dV kV doc pm an cdv ct) args binds) (hloc : ∀ y ∈ binds, scope.names.lookup y.1 = some .local)
    (h : ∀ g L' h₁, Fr g L' h₁ (fun y => binds.reverse.lookup y) → News g L' h₁ news → Below A base (env :: outer) g → K.In g → Top p loose mean mg mb g → KtsDicts ((env :: outer).filterMap (·.frame)) g →
      wpAny (model prog w) (A.deeper (envOf qual scope L' f cdv)) (execs body (envOf qual scope L' f cdv))
        (fun fl s' => LeaveM ((env :: outer).filterMap (·.frame)) A₀ base outer h₀ L m g R (match fl with | .ret v => v | _ => .none) s')
        (fun e s' => wpAny (model prog w) (A.deeper (envOf qual scope L' f cdv)) (leaving (envOf qual scope L' f cdv) e) (fun _ s'' => R (.error e) s'') (fun e' s'' => R (.error e') s'') s')
        { s with heap := h₁, toks := s.toks + binds.length })
    (hco : scope.isCoroutine = false) (hgen : scope.isGenerator = false) (hk : scope.kind = .function)
    (hcell : ∀ x ∈ scope.names, x.2 ≠ .cell) : codeAny (model prog w) A (.call (.ref f) args) R s := by
  have X := X₀.keeps F.keep
  obtain ⟨FG, BG, st, _⟩ := groundX (R := R) B F N hA hf hke
  have memf : ∀ b, b ∈ (env :: outer).filterMap (·.frame) → b = L ∨ b ∈ outer.filterMap (·.frame) := fun b hm => by
    obtain ⟨env', he, hf'⟩ := List.mem_filterMap.mp hm
    rcases List.mem_cons.mp he with rfl | he
    · exact .inl (Option.some.inj (hf'.symm.trans hf))
    · exact .inr (List.mem_filterMap.mpr ⟨env', he, hf'⟩)
  obtain ⟨oL, es, ep, hLg, hLd, hLk, hLf⟩ := FG.ns
  refine codeAny_call_def (fd := fnOf name qual params body scope dV kV doc pm an cdv ct) (body := body) (binds := binds) hroom (X _ _ ho) rfl (T.nolimit.keeps F.keep) (codeRec_of X hcd) rfl hbind hcell hloc (fun h₁ hns hk₁ => ?_) hco hgen hk
  refine wpAny_mono (h _ s.heap.objs.size h₁ ⟨hns, fun b o e => hk₁ b o (of_hideAll _ e), Nat.le_of_eq (hideAll_size _ _)⟩
    (fun p hp => ⟨hk₁ _ _ (N p hp).1, Nat.ne_of_lt (Heap.lt_size (N p hp).1), hideAll_none _ (List.mem_map_of_mem hp)⟩) BG (X₀.keeps st) (T.keeps st) (fun b hb => by
      rcases memf b hb with rfl | hb
      · exact ⟨oL, es, ep, hLg, hLd⟩
      · obtain ⟨o, es', n', ho', hd'⟩ := D b hb
        exact ⟨o, es', n', st b o ho', hd'⟩)) (fun fl s' hl => ?_) fun _ _ y => y
  have nL₀ : h₀.get? L = none := kts_self F
  obtain ⟨g', L', m', news', T', F', N', k⟩ := hl
  obtain ⟨sl, hs⟩ := T'.up hLg
  obtain ⟨T₁, S₁⟩ := kts_turn_at (h := s'.heap) (fs := outer.filterMap (·.frame)) (g := h₀)
    (fun b hb => by
      obtain ⟨_, o, ho', _⟩ := B.frames.mem hb
      exact ⟨o, ho'⟩)
    (fun b o e nmem => F'.keep b o (T'.other b o (st b o e) (fun q => by
      rcases memf b q with z | z
      · rw [z, nL₀] at e
        cases e
      · exact nmem z)))
    (fun b o e hm => by
      obtain ⟨sl', hs'⟩ := T'.up (st b o e)
      exact ⟨sl', F'.keep _ _ hs'⟩)
  have B₃ : Below A₀ base outer (ktsHeap s'.heap (outer.filterMap (·.frame)) h₀) := ⟨B.stack, fun b o e => T₁.other b o (B.stays b o e) (fun hm => by
    rw [(B.frames.mem hm).1] at e
    cases e), B.frames.of_keeps fun b o e _ => by
    obtain ⟨sl', hs'⟩ := T₁.up e
    exact ⟨_, hs', rfl⟩⟩
  refine k _ T₁ ⟨⟨_, es, ep, F'.keep _ _ hs, hLd, hLk, hLf⟩, S₁, by rw [T₁.size]; exact F.above⟩ (fun p hp => ⟨(N' p hp).1, fun q => ?_, ?_⟩) B₃ (D.turn T₁)
  · have := (N' p hp).2.2; rw [q, hs] at this; cases this
  · refine T₁.none_ _ ?_
    cases q : h₀.get? p.1 with
    | none => rfl
    | some o =>
      obtain ⟨sl', hs'⟩ := T'.up (st _ _ q)
      have := (N' p hp).2.2
      rw [hs'] at this
      cases this
/-- with no frames further out nothing has turned -/
theorem fr_flat {h₀ h₀' h : Heap} {L : Addr} {m : Str → Option Value} (T : KtsTurn [] h₀ h₀') (F : Fr h₀' L h m) : Fr h₀ L h m :=
  ⟨F.ns, fun b o e => F.keep b o (T.other b o e (by intro z; cases z)), by rw [← T.size]; exact F.above⟩
theorem news_flat {h₀ h₀' h : Heap} {L : Addr} {news : List (Addr × Obj)} (T : KtsTurn [] h₀ h₀') (N : News h₀' L h news) : News h₀ L h news :=
  fun p hp => ⟨(N p hp).1, (N p hp).2.1, KtsTurn.back T (N p hp).2.2⟩
end
theorem units_mark (A : Around) (h : Option Value) : (A.mark h).units = A.units := rfl
end
section
open PySem PySem.W PyProof.Rows PySem.Calls
section
variable {prog : Program} {w : World} {A : Around} {E : Value → Shared → Prop} {s : Shared} {h₀ : Heap} {L D : Addr} {m : Str → Option Value} {news : List (Addr × Obj)} {k : Str} {t : Tok}
theorem d_delmiss {Q : Unit → Shared → Prop} {o : Obj} {kvs : List (Str × Value)} (hh : A.handled = none) (N : News h₀ L s.heap news) (hp : (D, o) ∈ news) (hd : o.IsDictOf (strKind prog w) kvs) (lo : (D == sysModules) = false) (hv : valueAt kvs k = none)
    (h : ∀ h' e, Heap.NewExc s.heap h' e "KeyError" → E (.ref e) { s with heap := h', toks := s.toks + 1 }) : wpAny (model prog w) A (delItem (.ref D) (.str k t)) Q E s := by
  have hm := N (D, o) hp
  have hD : s.heap.DictOf (strKind prog w) D kvs := Heap.dictOf_iff.mpr ⟨o, hm.1, hd⟩
  unfold delItem
  try with_reducible refine wpAny_holding ?_
  refine wpAny_bind (wpAny_sequenceKey hD.typeIs (by decide) ?_)
  exact wpAny_bind (wpAny_callSpecial?_slot (name := Str.ofString "__delitem__") hD.typeIs PySem.F.slot_dict_delitem
    (call_meetsIn PySem.F.slot_dict_delitem hD.typeIs PySem.F.entry_dict_delitem (PySem.F.args_dict_delitem_2 _ _) (meets_dict_delitem_missing (strKind prog w) D (strKind_is _ _ _ _) lo) ⟨hh, kvs, hD, hv, fun h' e hx => h h' e hx⟩))
theorem ksp_delItem {M : Model} {K : Frag} {x C f : Addr} {ox : Obj} {od : Option Obj} {i : Value} {Q : Unit → Shared → Prop} (F : Fr h₀ L s.heap m) (X₀ : K.In h₀) (I : InstAt s.heap x ox C od) (hq : noSeq K C = true) (hs : findIn K (.ref C) "__delitem__" = some (some (.ref f))) (hf : isFn K (.ref f) = true)
    (h : wpAny M A (call (.ref f) [.ref x, i]) (fun _ s' => Q () s') E s) : wpAny M A (delItem (.ref x) i) Q E s := by
  have X := X₀.keeps F.keep
  unfold delItem sequenceKey
  refine wpAny_holding (wpAny_bind (wpAny_bind (I.type.here ?_)))
  refine wpAny_bind ((anyM_none X hq).here ?_)
  rw [if_pos (show (!false) = true from rfl)]
  exact wpAny_pure (wpAny_bind (special_fn X I hs (beq_iff_eq.mp hf) (wpAny_mono h (fun _ _ z => wpAny_pure z) fun _ _ z => z)))
end
end
section
open PySem PySem.W PyProof.Rows PySem.Calls PySem.Spec PySem.SeqAt
def intOf : Value → Int
  | .int i _ => i
  | _ => 0
def AllI (ps : List (Str × Value)) : Prop := ∀ p ∈ ps, ∃ i t, p.2 = .int i t
def bare (ps : List (Str × Value)) : List (Str × Int) := ps.map fun p => (p.1, intOf p.2)
theorem all_t (n : Nat) : ((List.range n).all fun _ => true) = true := List.all_eq_true.mpr fun _ _ => rfl
section
variable {prog : Program} {w : World} {A : Around} {E : Value → Shared → Prop} {s : Shared} {a b : Addr} {Q : Value → Shared → Prop} {ps qs : List (Str × Nat)} {k : Str} {t : Tok} {h₀ : Heap} {L : Addr} {nw : List (Addr × Obj)}
theorem in_strs (ha : s.heap.IsList a (svs ps)) (h : Q (.bool (decide (k ∈ keysOf ps))) s) : wpAny (model prog w) A (compareOp .In (.str k t) (.ref a)) Q E s :=
  PySem.SeqInW.in_listW (isK k) isK_gives ha (by rw [any_isK]; exact h)
theorem ne_lists {xs ys : Array Value} (ha : s.heap.IsList a xs) (hb : s.heap.IsList b ys) (hsz : xs.size = ys.size) (hu : A.units < cLine)
    (he : ∀ j (h1 : j < xs.size) (h2 : j < ys.size), EqAt A.in1 s xs[j] ys[j] true) (h : Q (.bool false) s) : wpAny (model prog w) A (compareOp .NotEq (.ref a) (.ref b)) Q E s := by
  refine RcNeAt.lists (e := fun _ => true) ha hb hsz hu he prog w E Q ?_
  rw [all_t]; exact h
theorem ne_strs (ha : s.heap.IsList a (svs ps)) (hb : s.heap.IsList b (svs qs)) (e : keysOf ps = keysOf qs) (hu : A.units < cLine) (h : Q (.bool false) s) :
    wpAny (model prog w) A (compareOp .NotEq (.ref a) (.ref b)) Q E s := by
  have hl : ps.length = qs.length := by have := congrArg List.length e; simpa [keysOf] using this
  refine ne_lists ha hb (by simp [svs, hl]) hu (fun j h1 h2 => ?_) h
  have j1 : j < ps.length := by simpa [svs] using h1
  have j2 : j < qs.length := by simpa [svs] using h2
  have e1 : (svs ps)[j] = .str ps[j].1 ps[j].2 := by simp [svs, sv]
  have e2 : (svs qs)[j] = .str qs[j].1 qs[j].2 := by simp [svs, sv]
  have e3 : ps[j].1 = qs[j].1 := by
    have := congrArg (fun l => l[j]?) e
    simp [keysOf, j1, j2] at this
    exact this
  rw [e1, e2, e3]
  have := EqAt.str_str (A := A.in1) (s := s) qs[j].1 ps[j].2 qs[j].1 qs[j].2
  simpa using this
theorem ne_vals {us vs : List (Str × Value)} (ha : s.heap.IsList a (us.map (·.2)).toArray) (hb : s.heap.IsList b (vs.map (·.2)).toArray) (hi : AllI us) (hj : AllI vs) (e : bare us = bare vs) (hu : A.units < cLine) (h : Q (.bool false) s) :
    wpAny (model prog w) A (compareOp .NotEq (.ref a) (.ref b)) Q E s := by
  have hl : us.length = vs.length := by have := congrArg List.length e; simpa [bare] using this
  refine ne_lists ha hb (by simp [hl]) hu (fun j h1 h2 => ?_) h
  have j1 : j < us.length := by simpa using h1
  have j2 : j < vs.length := by simpa using h2
  obtain ⟨i1, t1, e1⟩ := hi us[j] (List.getElem_mem j1)
  obtain ⟨i2, t2, e2⟩ := hj vs[j] (List.getElem_mem j2)
  have e3 : i1 = i2 := by
    have := congrArg (fun l => l[j]?) e
    simp [bare, j1, j2, e1, e2, intOf] at this
    exact this.2
  have e4 : (us.map (·.2)).toArray[j] = .int i1 t1 := by simp [e1]
  have e5 : (vs.map (·.2)).toArray[j] = .int i2 t2 := by simp [e2]
  rw [e4, e5, e3]
  have := EqAt.int_int (A := A.in1) (s := s) i2 t1 i2 t2
  simpa using this
theorem ne_pairs {xs ys : List Value} {us vs : List (Str × Value)} (N : News h₀ L s.heap nw) (ha : s.heap.IsList a xs.toArray) (hb : s.heap.IsList b ys.toArray) (hx : TupsAt nw xs us) (hy : TupsAt nw ys vs) (hi : AllI us) (hj : AllI vs) (e : bare us = bare vs) (hu : A.units + 1 < cLine) (h : Q (.bool false) s) :
    wpAny (model prog w) A (compareOp .NotEq (.ref a) (.ref b)) Q E s := by
  have hl : us.length = vs.length := by have := congrArg List.length e; simpa [bare] using this
  have lx := hx.len
  have ly := hy.len
  refine ne_lists ha hb (by simp; omega) (by omega) (fun j h1 h2 => ?_) h
  have j1 : j < us.length := by simp at h1; omega
  have j2 : j < vs.length := by simp at h2; omega
  have g1 : xs[j]? = some xs[j] := List.getElem?_eq_getElem (by simpa using h1)
  have g2 : ys[j]? = some ys[j] := List.getElem?_eq_getElem (by simpa using h2)
  obtain ⟨a1, t1, k1, u1, q1, p1, m1⟩ := hx.at g1
  obtain ⟨a2, t2, k2, u2, q2, p2, m2⟩ := hy.at g2
  obtain ⟨i1, t3, e1⟩ := hi (k1, u1) (List.mem_of_getElem? p1)
  obtain ⟨i2, t4, e2⟩ := hj (k2, u2) (List.mem_of_getElem? p2)
  dsimp only at e1 e2
  subst e1 e2
  have e3 : k1 = k2 ∧ i1 = i2 := by
    have := congrArg (fun l => l[j]?) e
    simp [bare, p1, p2, intOf] at this
    exact this
  obtain ⟨rfl, rfl⟩ := e3
  have z1 : xs.toArray[j] = .ref a1 := by simpa using q1
  have z2 : ys.toArray[j] = .ref a2 := by simpa using q2
  rw [z1, z2]
  by_cases hne : a1 = a2
  · subst hne; exact EqAt.same _
  · refine EqAt.of_refs hne ?_
    have := RcAt.tuples (A := A.in1) (s := s) (e := fun _ => true) (l := a1) (b := a2) (items := #[.str k1 t1, .int i1 t3]) (items2 := #[.str k1 t2, .int i1 t4]) ⟨_, (N _ m1).1, rfl, _, rfl⟩ ⟨_, (N _ m2).1, rfl, _, rfl⟩ (by show A.units + 1 < cLine; exact hu) (fun j h1 h2 => ?_)
    · simp only [all_t] at this; exact this
    · match j, h1, h2 with
      | 0, _, _ => have := EqAt.str_str (A := A.in1.in1) (s := s) k1 t1 k1 t2; simpa using this
      | 1, _, _ => have := EqAt.int_int (A := A.in1.in1) (s := s) i1 t3 i1 t4; simpa using this
end
end
section
open PySem PySem.W PyProof.Rows PySem.Calls PySem.Spec
/-- the end of a turn of a for loop -/
def TurnEnd (h₀ : Heap) (L : Addr) (s₁ : Shared) (I : Addr) (oI : Obj) (J : (Str → Option Value) → List (Addr × Obj) → Prop) (f : Flow) (s₃ : Shared) : Prop :=
  (f = .next) ∧ ∃ h' tk' m' nw', s₃ = { s₁ with heap := h', toks := tk' } ∧ Fr h₀ L h' m' ∧ News h₀ L h' ((I, oI) :: nw') ∧ LCg.Off1 I nw' ∧ J m' nw'
section
variable {prog : Program} {w : World} {A : Around} {E : Value → Shared → Prop} {s : Shared} {h₀ : Heap} {L : Addr} {env : Env}
def ForSrc (prog : Program) (w : World) (A : Around) (h₀ : Heap) (L : Addr) (env : Env) (x : Str) (px : Pos) (body : List Stmt) (Q : Flow → Shared → Prop) (xv : Value) (s₁ : Shared) : Prop :=
  ∃ (r : Addr) (a b : Int) (t u v : Tok) (n : Nat) (m₀ : Str → Option Value) (nw₀ : List (Addr × Obj)) (J : Nat → (Str → Option Value) → List (Addr × Obj) → Prop),
    xv = .ref r ∧ A.handled = none ∧ Fr h₀ L s₁.heap m₀ ∧ News h₀ L s₁.heap nw₀ ∧ IsRange s₁.heap r a b 1 t u v ∧ Builtin.Range.small a b 1 = true ∧ Builtin.Range.rangeSize a b 1 = ((n : Nat) : Int) ∧ J 0 m₀ nw₀ ∧
    (∀ i m nw (I : Addr) oI h tk t (E' : Value → Shared → Prop), i < n → J i m nw → Fr h₀ L h m → News h₀ L h ((I, oI) :: nw) → LCg.Off1 I nw →
      wpAny (model prog w) A (storeName env x (.int (a + (i : Int)) t)) (fun _ s₂ => wpAny (model prog w) A (execs body env) (TurnEnd h₀ L { s₁ with heap := h, toks := tk } I oI (J (i + 1))) E' s₂) E' { s₁ with heap := h, toks := tk }) ∧
    (∀ m nw h tk, J n m nw → Fr h₀ L h m → News h₀ L h nw → Q .next { s₁ with heap := h, toks := tk })
theorem for_range {x : Str} {px : Pos} {iter : Expr} {body : List Stmt} {pos : Pos} {Q : Flow → Shared → Prop}
    (h : wpAny (model prog w) A (eval iter env) (ForSrc prog w A h₀ L env x px body Q) E s)
    (hs : ∀ x, foldedSetIterable iter env x = pure x := by intro _; rfl) :
    wpAny (model prog w) A (exec (.For (.Name x px) iter body [] pos) env) Q E s := by
  refine wpAny_For (wpAny_mono h (fun xv s₁ h₁ => ?_) fun _ _ e => e) hs
  obtain ⟨r, a, b, t, u, v, n, m₀, nw₀, J, rfl, hh, F, N, hr, hsm, hn, hJ, turn, fin⟩ := h₁
  refine wpAny_pyIter_range hr hsm ?_
  have W := LCg.range_walks (prog := prog) (w := w) (A := A) (I := s₁.heap.objs.size) hh a n
  have hIL : L ≠ s₁.heap.objs.size := Nat.ne_of_lt F.ns.lt
  have hI₀ : h₀.get? s₁.heap.objs.size = none := next_is_new F
  have hIR : ∀ (i : Nat) (g : Heap), IsRangeIter g s₁.heap.objs.size (a + (i : Int) * 1) ((n : Int) - (i : Int)) 1 → ∃ o, g.get? s₁.heap.objs.size = some o := fun i g st => ⟨_, st⟩
  have off1 : ∀ {l : List (Addr × Obj)} {I : Addr}, (∀ p ∈ l, p.1 ≠ I) → LCg.Off1 I l := by
    intro l I
    induction l with
    | nil => intro _; trivial
    | cons q r ih => intro x; exact ⟨x q (.head _), ih fun p hp => x p (.tail _ hp)⟩
  refine codeAny_forLoop (fun k s' => ∃ h' tk i m nw, s' = { s₁ with heap := h', toks := tk } ∧ i ≤ n ∧ k = n + 1 - i ∧ IsRangeIter h' s₁.heap.objs.size (a + (i : Int) * 1) ((n : Int) - (i : Int)) 1 ∧ Fr h₀ L h' m ∧ News h₀ L h' nw ∧ LCg.Off1 s₁.heap.objs.size nw ∧ J i m nw) ?_ (n + 1)
    ⟨_, _, 0, m₀, nw₀, rfl, Nat.zero_le _, rfl, (by show IsRangeIter _ _ _ _ _; rw [hn]; simpa using Heap.get?_push_size _ rfl), F.keeps fun _ _ e => Heap.get?_push_of_some _ e, N.grown fun _ _ e => Heap.get?_push_of_some _ e,
      off1 fun p hp => Nat.ne_of_lt (Heap.lt_size (N p hp).1), hJ⟩
  · rintro k s' ⟨h', tk, i, m, nw, rfl, hi, rfl, st, F', N', off, hJ'⟩
    by_cases hlt : i < n
    · refine W.item i _ _ _ hlt st fun v h₂ tk₂ hP st₂ hk₂ => ?_
      obtain ⟨t', rfl⟩ := hP
      obtain ⟨oI, heI⟩ := hIR (i + 1) _ st₂
      have F₂ := LCg.fr_but F' hk₂ hIL hI₀
      have offm : ∀ p ∈ nw, p.1 ≠ s₁.heap.objs.size := by
        have : ∀ {I : Addr} {l : List (Addr × Obj)}, LCg.Off1 I l → ∀ p ∈ l, p.1 ≠ I := by
          intro I l
          induction l with
          | nil => intro _ p hp; cases hp
          | cons q r ih => intro x p hp; rcases List.mem_cons.mp hp with rfl | hp
                           · exact x.1
                           · exact ih x.2 p hp
        exact this off
      have N₂ : News h₀ L h₂ ((s₁.heap.objs.size, oI) :: nw) := fun p hp => by
        rcases List.mem_cons.mp hp with rfl | hp
        · exact ⟨heI, Ne.symm hIL, hI₀⟩
        · exact LCg.news_but N' hk₂ offm p hp
      refine wpAny_assign_Name (wpAny_mono (turn i m nw _ oI h₂ tk₂ t' _ hlt hJ' F₂ N₂ off) (fun _ s₃ h₃ => wpAny_mono h₃ (fun f s₄ h₄ => ?_) fun _ _ z => z) fun _ _ z => z)
      obtain ⟨rfl, h₅, tk₅, m₅, nw₅, rfl, F₅, N₅, off₅, hJ₅⟩ := h₄
      refine ⟨n + 1 - (i + 1), by omega, h₅, tk₅, i + 1, m₅, nw₅, rfl, hlt, rfl, ?_, F₅, fun p hp => N₅ p (List.mem_cons_of_mem _ hp), off₅, hJ₅⟩
      exact LCg.range_st (L := L) (i + 1) h₂ h₅ oI nw₅ st₂ heI (N₅ _ List.mem_cons_self).1 F₅.keep (fun p hp => N₅ p (List.mem_cons_of_mem _ hp)) trivial
    · obtain rfl : i = n := Nat.le_antisymm hi (Nat.not_lt.mp hlt)
      refine W.done _ _ _ st fun h₂ tk₂ hk₂ => ?_
      have offm : ∀ p ∈ nw, p.1 ≠ s₁.heap.objs.size := by
        have : ∀ {I : Addr} {l : List (Addr × Obj)}, LCg.Off1 I l → ∀ p ∈ l, p.1 ≠ I := by
          intro I l
          induction l with
          | nil => intro _ p hp; cases hp
          | cons q r ih => intro x p hp; rcases List.mem_cons.mp hp with rfl | hp
                           · exact x.1
                           · exact ih x.2 p hp
        exact this off
      exact wpAny_pure (fin m nw h₂ tk₂ hJ' (LCg.fr_but F' hk₂ hIL hI₀) (LCg.news_but N' hk₂ offm))
end
end
section
open PySem PySem.W PyProof.Rows PySem.Calls
theorem at_nil (k : Str) : valueAt ([] : List (Str × Value)) k = none := rfl
theorem at_cons (p : Str × Value) (r : List (Str × Value)) (k : Str) : valueAt (p :: r) k = if p.1 = k then some p.2 else valueAt r k := by
  unfold valueAt
  rw [List.find?_cons]
  by_cases h : p.1 = k <;> simp [h]
theorem at_append (a b : List (Str × Value)) (k : Str) : valueAt (a ++ b) k = (valueAt a k).or (valueAt b k) := by
  induction a with
  | nil => simp [at_nil]
  | cons p r ih =>
    rw [List.cons_append, at_cons, at_cons, ih]
    by_cases h : p.1 = k <;> simp [h]
theorem at_map (a : List (Str × Value)) (k k' : Str) (v : Value) : valueAt (a.map fun kv => if kv.1 = k then (kv.1, v) else kv) k' = if k' = k then (valueAt a k').map (fun _ => v) else valueAt a k' := by
  induction a with
  | nil => simp [at_nil]
  | cons p r ih =>
    rw [List.map_cons, at_cons, at_cons, ih]
    by_cases h : p.1 = k
    · by_cases h2 : k' = k
      · subst h2; simp [h]
      · have h3 : ¬ p.1 = k' := fun e => h2 (e.symm.trans h)
        have h4 : ¬ k = k' := fun e => h2 e.symm
        simp [h, h2, h4]
    · by_cases h2 : k' = k
      · subst h2; simp [h]
      · simp [h, h2]
theorem any_at (a : List (Str × Value)) (k : Str) : (a.any fun kv => decide (kv.1 = k)) = (valueAt a k).isSome := by
  induction a with
  | nil => rfl
  | cons p r ih =>
    rw [List.any_cons, at_cons, ih]
    by_cases h : p.1 = k <;> simp [h]
theorem at_stored (a : List (Str × Value)) (k k' : Str) (v : Value) : valueAt (stored a k v) k' = if k' = k then some v else valueAt a k' := by
  unfold stored
  rw [any_at]
  cases hv : valueAt a k with
  | none =>
    simp only [Option.isSome_none, Bool.false_eq_true, if_false, at_append, at_cons, at_nil]
    by_cases h : k' = k
    · subst h; simp [hv]
    · have h' : ¬ k = k' := fun e => h e.symm
      simp [h, h']
  | some y =>
    simp only [Option.isSome_some, if_true, at_map]
    by_cases h : k' = k
    · subst h; simp [hv]
    · simp [h]
theorem at_without (a : List (Str × Value)) (k k' : Str) : valueAt (without a k) k' = if k' = k then none else valueAt a k' := by
  unfold without
  induction a with
  | nil => simp [at_nil]
  | cons p r ih =>
    rw [List.filter_cons, at_cons]
    by_cases h : p.1 = k
    · simp only [h, ne_eq, not_true_eq_false, decide_false, Bool.false_eq_true, if_false, ih]
      by_cases h2 : k' = k
      · simp [h2]
      · have h' : ¬ k = k' := fun e => h2 e.symm
        simp [h2, h']
    · simp only [h, ne_eq, not_false_eq_true, decide_true, if_true, at_cons, ih]
      by_cases h2 : k' = k
      · subst h2; simp [h]
      · simp [h2]
end
section
open PySem PySem.W PyProof.Rows PySem.Calls
theorem kms_take (l : List Value) (cap : Int) (h : 0 ≤ cap) : kms_pick l none (some cap) = l.take cap.toNat := by
  unfold kms_pick
  have h0 : kms_lo none l.length = 0 := by rfl
  rw [h0, List.drop_zero, Nat.sub_zero]
  have h1 : kms_hi (some cap) l.length = min cap.toNat l.length := by
    unfold kms_hi
    first
      | (simp; omega)
      | (split <;> omega)
      | omega
  rw [h1]
  by_cases h2 : cap.toNat ≤ l.length
  · rw [Nat.min_eq_left h2]
  · rw [Nat.min_eq_right (by omega), List.take_length, List.take_of_length_le (by omega)]
end
section
open PySem PySem.W PyProof.Rows PySem.Calls
theorem fillK2 : (PySem.Challenge.rw_co0006_01 = PySem.Challenge.rw_co0006_01 ∧ hd.heap_39 = hd.heap_39) := by
  w_top off
  k_fill
  exact ⟨rfl, rfl⟩
local macro_rules | `(tactic| k_room) => `(tactic| ((try simp only [depth_mark, depth_under_make, depth_under_kw, depth_in1, depth_deeper, depth_caller, recursionLimit] at *); omega))
local macro_rules | `(tactic| walk_at "compareOp In str ref") => `(tactic| (k_here; k_dflt (refine' kda_in (knd := PySem.strKind _ _) ?N ?p ?d ?lo (strKind_is _ _ _ _) _ rfl ?_; (case N => k_asm); (case p => k_mem); (case d => assumption); (case lo => assumption))))
local macro_rules | `(tactic| walk_at "call builtin:len") => `(tactic| (k_here; (with_reducible show wpAny _ _ (call (Value.builtin "len") [Value.ref _]) _ _ _); k_dflt (refine' kda_len (knd := PySem.strKind _ _) ?N ?p ?d ?lo ?z ?_; (case N => k_asm); (case p => k_mem); (case d => assumption); (case lo => assumption); (case z => omega))))
local macro_rules | `(tactic| walk_at "getMethod ref") => `(tactic| (k_here; k_dflt (first
  | ((with_reducible show wpAny _ _ (getMethod (Value.ref _) (PySem.Str.ofString "remove") _) _ _ _); (refine' q_method ?N ?m PySem.F.slot_list_remove PySem.F.type_list_remove ?_; (case N => k_asm); (case m => k_mem)))
  | ((with_reducible show wpAny _ _ (getMethod (Value.ref _) (PySem.Str.ofString "pop") _) _ _ _); (refine' q_method ?N ?m PySem.F.slot_list_pop PySem.F.type_list_pop ?_; (case N => k_asm); (case m => k_mem)))
  | ((with_reducible show wpAny _ _ (getMethod (Value.ref _) (PySem.Str.ofString "append") _) _ _ _); (refine' q_method ?N ?m PySem.F.slot_list_append PySem.F.type_list_append ?_; (case N => k_asm); (case m => k_mem)))
  | ((with_reducible show wpAny _ _ (getMethod (Value.ref _) (PySem.Str.ofString "clear") _) _ _ _); (first
    | (refine' q_method ?N ?m PySem.F.slot_list_clear PySem.F.type_list_clear ?_; (case N => k_asm); (case m => k_mem))
    | (refine' kob_method (knd := PySem.strKind _ _) PySem.F.slot_dict_clear PySem.F.type_dict_clear ?N ?m ?d ?_; (case N => k_asm); (case m => k_mem); (case d => assumption)))))))
local macro_rules | `(tactic| walk_at "call builtin:list.remove") => `(tactic| (k_here; k_dflt (refine' q_remove ?F ?N ?U ?m ?z ?_; (case F => k_asm); (case N => k_asm); (case U => k_updF); (case m => exact mem_of (by assumption) (by assumption)); (case z => omega)); intro h' n' F' N'; (try dsimp only at N'); (try k_sweep)))
local macro_rules | `(tactic| walk_at "call builtin:list.append") => `(tactic| (k_here; (with_reducible show wpAny _ _ (call (Value.builtin _) [Value.ref _, Value.str _ _]) _ _ _); k_dflt (refine' q_append ?F ?N ?U ?z ?_; (case F => k_asm); (case N => k_asm); (case U => k_updF); (case z => first | omega | exact Nat.le_trans (rm_len _ _) (by omega) | (rw [List.length_tail]; omega))); intro h' n' F' N'; (try dsimp only at N'); (try k_sweep)))
local macro_rules | `(tactic| walk_at "call builtin:list.pop") => `(tactic| (k_here; k_dflt (refine' q_pop0 rfl ?F ?N ?U ?ne ?z ?_; (case F => k_asm); (case N => k_asm); (case U => k_updF); (case ne => omega); (case z => first | omega | exact Nat.le_trans (rm_len _ _) (by omega) | (rw [List.length_tail]; omega))); intro h' n' F' N'; (try dsimp only at N'); (try k_sweep)))
local macro_rules | `(tactic| walk_at "delItem ref str") => `(tactic| (k_here; k_dflt (refine' kob_del (knd := PySem.strKind _ _) ?F ?N ?U ?d (strKind_is _ _ _ _) ?l ?z ?_; (case F => k_asm); (case N => k_asm); (case U => k_updF); (case d => assumption); (case l => first | assumption | exact head_of (by assumption) (by omega)); (case z => rw [sizeLine_eq]; omega)); intro h' o' F' N' hd'; (try dsimp only at N'); (try k_sweep)))
local macro_rules | `(tactic| walk_at "setItem ref str") => `(tactic| (k_here; k_dflt (refine' kda_set (knd := PySem.strKind _ _) ?F ?N ?U ?d (strKind_is _ _ _ _) ?z ?_; (case F => k_asm); (case N => k_asm); (case U => k_updF); (case d => assumption); (case z => rw [sizeLine_eq]; first | omega | exact Nat.le_trans (without_len _ _) (by omega))); intro h' o' F' N' hd'; (try dsimp only at N'); (try k_sweep)))
local macro_rules | `(tactic| walk_at "subscriptTail") => `(tactic| (k_here; (with_reducible show wpAny _ _ (subscriptTail _ _ (Value.ref _) (Value.int (-1) _)) _ _ _); (with_unfolding_all refine' q_last rfl ?N ?m ?ne ?z ?_ ?s; (case N => k_asm); (case m => k_mem); (case ne => exact ne_of (by assumption) (by assumption)); (case z => omega); (case s => with_unfolding_all rfl))))
local macro_rules | `(tactic| walk_at "subscriptTail") => `(tactic| (k_here; (with_reducible show wpAny _ _ (subscriptTail _ _ (Value.ref _) (Value.str _ _)) _ _ _); (with_unfolding_all refine' kdt_tail (knd := PySem.strKind _ _) ?N ?p ?d ?_; (case N => k_asm); (case p => k_mem); (case d => assumption))))
local macro_rules | `(tactic| walk_at "getItem ref str") => `(tactic| (k_here; k_dflt (refine' kdt_getItem (knd := PySem.strKind _ _) ?N ?p ?d (strKind_is _ _ _ _) ?v ?_; (case N => k_asm); (case p => k_mem); (case d => assumption); (case v => assumption))))
local macro_rules | `(tactic| walk_at "call builtin:dict.clear") => `(tactic| (k_here; k_dflt (refine' d_clear ?F ?N ?U ?d ?z ?_; (case F => k_asm); (case N => k_asm); (case U => k_updF); (case d => assumption); (case z => omega)); intro h' o' F' N' hd'; (try dsimp only at N'); (try k_sweep)))
local macro_rules | `(tactic| walk_at "call builtin:list.clear") => `(tactic| (k_here; k_dflt (refine' q_clear ?F ?N ?U ?z ?_; (case F => k_asm); (case N => k_asm); (case U => k_updF); (case z => omega)); intro h' n' F' N'; (try dsimp only at N'); (try k_sweep)))
local macro_rules | `(tactic| walk_at "call type:tuple") => `(tactic| (k_here; k_dflt (refine' tup_led ?F ?N ?m ?z ?_; (case F => k_asm); (case N => k_asm); (case m => k_mem); (case z => omega)); intro D' h' F' N' l1; (try k_lt l1); (try k_sweep)))
local macro_rules | `(tactic| walk_at "call type:reversed") => `(tactic| (k_here; k_dflt (refine' rv_led ?F ?N ?m ?z ?_; (case F => k_asm); (case N => k_asm); (case m => k_mem); (case z => omega)); intro D' h' tk' F' N' l1; (try k_lt l1); (try k_sweep)))
local macro_rules | `(tactic| walk_at "call builtin:iter") => `(tactic| (k_here; k_dflt (refine' it_led ?F ?N ?m ?_; (case F => k_asm); (case N => k_asm); (case m => k_mem)); intro D' h' F' N' l1; (try k_lt l1); (try k_sweep)))
local macro_rules | `(tactic| walk_at "exec Assign cons ListComp") => `(tactic| (k_here; k_dflt (first
  | (refine LCg.Assign_ListComp_U (F₀ := by k_asm) (by rfl) (by with_unfolding_all rfl) (by with_unfolding_all rfl) (by decide) (by rfl) (by decide) (by rfl) (by rfl) (by rfl) ?_)
  | (refine LCt.Assign_ListComp_T (F₀ := by k_asm) (by rfl) (by with_unfolding_all rfl) (by with_unfolding_all rfl) (by decide) (by rfl) (by decide) (by rfl) (by rfl) (by rfl) ?_))))
local macro_rules | `(tactic| walk_at "eval ListComp") => `(tactic| (k_here; k_dflt (first
  | (refine LCg.ListComp_U (F₀ := by k_asm) (by with_unfolding_all rfl) (by decide) (by rfl) (by decide) (by rfl) ?_)
  | (refine LCt.ListComp_T (F₀ := by k_asm) (by with_unfolding_all rfl) (by decide) (by rfl) (by decide) (by rfl) ?_))))
local macro_rules | `(tactic| walk_at "CompSrc") => `(tactic| (fail))
local macro_rules | `(tactic| walk_at "call builtin:list.reverse") => `(tactic| (k_here; (with_reducible show wpAny _ _ (call (Value.builtin _) [Value.ref _]) _ _ _); k_dflt (refine' kl_reverse ?F ?N rfl ?U ?z ?_; (case F => k_asm); (case N => k_asm); (case U => k_upd); (case z => rw [sizeLine_eq]; simp [prs] at *; omega)); intro h' F' N'; (try k_sweep)))
section
/-- what the frames further out must be for an exception to pass them -/
structure Dx (w : World) (base h₀ : Heap) (outer : List Env) (mean : ExcName → Option Value) (mg mb : Str → Option Value) : Prop where
  D : KtsDicts (outer.filterMap (·.frame)) h₀
  XB : (Mine.hd.heap_39 w.params).In base
  TB : TT mean mg mb base
section
variable {prog : Program} {w : World} {A₀ A : Around} {base h₀ : Heap} {outer : List Env} {env : Env} {L : Addr} {m : Str → Option Value} {mean : ExcName → Option Value} {mg mb : Str → Option Value} {s : Shared} {rest news : List (Addr × Obj)} {R : Result → Shared → Prop}
  {c cd dm dq lk ld u t1 t2 t3 t4 nq : Nat} {cap : Int} {od : Obj} {ps : List (Str × Nat)} {kvs : List (Str × Value)} {key : Str} {t : Tok} {v : Value}
set_option maxRecDepth 100000 in
set_option maxHeartbeats 8000000 in
theorem exit_c {x ev tb : Value} {te : Value} (C : Cx w A₀ A base h₀ outer env L m mean mg mb s.heap news)
    (h : ∀ h' tk, Fr h₀ L h' m → News h₀ L h' news → R (.ok (.ret (.bool false))) { s with heap := h', toks := tk }) :
  codeAny (model prog w) A (.call (.ref 42) ⟨[x, te, ev, tb], []⟩) R s := by
  obtain ⟨hn, dp, fr, gd, un⟩ := A
  obtain ⟨B, F, X₀, N, T, hA, hf, hk, hd', hu⟩ := C
  dsimp only at hA hd' hu
  subst hA
  refine code_def B F X₀ N T rfl hf hk (by k_is) (by k_is) (by show dp < recursionLimit; unfold recursionLimit; omega) (BindsTo.of_eq rfl) (locs rfl) ?_ rfl rfl rfl (by decide)
  intro g' L' h' FG' F' N' B' X' T'
  try dsimp only
  try k_fold
  k_steps
  all_goals first
    | exact h _ _ (by assumption) (by assumption)
end
end
section
local macro_rules | `(tactic| walk_at "KwIn") => `(tactic| (k_here; k_dflt (refine' kw_inR ?F ?X ?I ?hE ?hEf ?hX ?hXf ?_; (case F => k_asm); (case X => k_asm); (case I => k_inst); (case hE => k_is); (case hEf => k_is); (case hX => k_is); (case hXf => k_is))))
local macro_rules | `(tactic| walk_at "getItem ref str") => `(tactic| (k_here; k_dflt (refine' d_missing ?hh ?N ?p ?d ?lo ?v ?_; (case hh => rfl); (case N => k_asm); (case p => k_mem); (case d => assumption); (case lo => assumption); (case v => assumption)); intro h' e' x'))
local macro_rules | `(tactic| walk_at "delItem ref str") => `(tactic| (k_here; k_dflt (refine' d_delmiss ?hh ?N ?p ?d ?lo ?v ?_; (case hh => rfl); (case N => k_asm); (case p => k_mem); (case d => assumption); (case lo => assumption); (case v => assumption)); intro h' e' x'))
section
variable {prog : Program} {w : World} {A₀ A : Around} {base h₀ : Heap} {outer : List Env} {env : Env} {L : Addr} {m : Str → Option Value} {mean : ExcName → Option Value} {mg mb : Str → Option Value} {s : Shared} {rest : List (Addr × Obj)} {R : Result → Shared → Prop}
  {c cd dm dq lk ld u t1 t2 t3 t4 nq : Nat} {cap : Int} {od : Obj} {ps : List (Str × Nat)} {kvs : List (Str × Value)} {key : Str} {t : Tok} {v : Value}
set_option maxRecDepth 100000 in
set_option maxHeartbeats 8000000 in
theorem get_x (C : Cx w A₀ A base h₀ outer env L m mean mg mb s.heap ((c, instObj 169 cd) :: (cd, cdObj w dm dq lk cap u t1 t2 t3 t4) :: (dm, od) :: (dq, listOf (svs ps) nq) :: (lk, instObj 45 ld) :: (ld, dictOf [] 0) :: rest))
    (hh : A.handled = none) (ho : cd < c ∧ c < dm ∧ dm < dq ∧ dq < ld ∧ ld < lk) (hoff : OwnOff rest [c, cd, dm, dq, lk, ld]) (hd : od.IsDictOf (strKind prog w) kvs) (lo : (dm == sysModules) = false)
    (hz : kvs.length ≤ 900 ∧ ps.length = kvs.length) (hv : valueAt kvs key = none) (hx : A.depth < 450 ∧ A.units < 500) (XB : (Mine.hd.heap_39 w.params).In base) (TB : TT mean mg mb base)
    (h : ∀ G h' tk e, Fr h₀ L G m → RaisedM base G (env :: outer) e (.type "KeyError") ((c, instObj 169 cd) :: (cd, cdObj w dm dq lk cap u t1 t2 t3 t4) :: (dm, od) :: (dq, listOf (svs ps) nq) :: (lk, instObj 45 ld) :: (ld, dictOf [] 0) :: rest) h' → G.UpToSlots h' → R (.error (.ref e)) { s with heap := h', toks := tk }) :
  codeAny (model prog w) A (.call (.ref 121) ⟨[.ref c, .str key t], []⟩) R s := by
  obtain ⟨hn, dp, fr, gd, un⟩ := A
  obtain ⟨B, F, X₀, N, T, hA, hf, hk, hd', hu⟩ := C
  dsimp only at hA hd' hu hh hx
  obtain ⟨x1, x2⟩ := hx
  subst hA hh
  obtain ⟨o1, o2, o3, o4, o5⟩ := ho
  obtain ⟨z1, z2⟩ := hz
  refine code_def B F X₀ N T rfl hf hk (by k_is) (by k_is) (by show dp < recursionLimit; unfold recursionLimit; omega) (BindsTo.of_eq rfl) (locs rfl) ?_ rfl rfl rfl (by decide)
  intro g' L' h' FG' F' N' B' X' T'
  try dsimp only
  try k_fold
  k_steps
  refine kw_fail (R := R) B' (by assumption) (by assumption) (by assumption) rfl ?_ ?_
  · intro g2 h2 oe oT T2 tb tk2 S T3 K3 F3 N3 hS
    exact exit_c ⟨K3, F3, XB.keeps K3.stays, N3, TB.keeps K3.stays, rfl, rfl, rfl, (by rw [depth_mark, depth_deeper]; dsimp only; omega), (by rw [units_mark, units_deeper]; dsimp only; omega)⟩ (fun h5 tk5 F5 N5 => hS h5 tk5 F5 N5)
  · intro h2 tk2 R2 U2
    exact h g' h2 tk2 _ FG' R2 U2
set_option maxRecDepth 100000 in
set_option maxHeartbeats 8000000 in
theorem del_x (C : Cx w A₀ A base h₀ outer env L m mean mg mb s.heap ((c, instObj 169 cd) :: (cd, cdObj w dm dq lk cap u t1 t2 t3 t4) :: (dm, od) :: (dq, listOf (svs ps) nq) :: (lk, instObj 45 ld) :: (ld, dictOf [] 0) :: rest))
    (hh : A.handled = none) (ho : cd < c ∧ c < dm ∧ dm < dq ∧ dq < ld ∧ ld < lk) (hoff : OwnOff rest [c, cd, dm, dq, lk, ld]) (hd : od.IsDictOf (strKind prog w) kvs) (lo : (dm == sysModules) = false)
    (hz : kvs.length ≤ 900 ∧ ps.length = kvs.length) (hv : valueAt kvs key = none) (hx : A.depth < 450 ∧ A.units < 500) (XB : (Mine.hd.heap_39 w.params).In base) (TB : TT mean mg mb base)
    (h : ∀ G h' tk e, Fr h₀ L G m → RaisedM base G (env :: outer) e (.type "KeyError") ((c, instObj 169 cd) :: (cd, cdObj w dm dq lk cap u t1 t2 t3 t4) :: (dm, od) :: (dq, listOf (svs ps) nq) :: (lk, instObj 45 ld) :: (ld, dictOf [] 0) :: rest) h' → G.UpToSlots h' → R (.error (.ref e)) { s with heap := h', toks := tk }) :
  codeAny (model prog w) A (.call (.ref 135) ⟨[.ref c, .str key t], []⟩) R s := by
  obtain ⟨hn, dp, fr, gd, un⟩ := A
  obtain ⟨B, F, X₀, N, T, hA, hf, hk, hd', hu⟩ := C
  dsimp only at hA hd' hu hh hx
  obtain ⟨x1, x2⟩ := hx
  subst hA hh
  obtain ⟨o1, o2, o3, o4, o5⟩ := ho
  obtain ⟨z1, z2⟩ := hz
  refine code_def B F X₀ N T rfl hf hk (by k_is) (by k_is) (by show dp < recursionLimit; unfold recursionLimit; omega) (BindsTo.of_eq rfl) (locs rfl) ?_ rfl rfl rfl (by decide)
  intro g' L' h' FG' F' N' B' X' T'
  try dsimp only
  try k_fold
  k_steps
  refine kw_fail (R := R) B' (by assumption) (by assumption) (by assumption) rfl ?_ ?_
  · intro g2 h2 oe oT T2 tb tk2 S T3 K3 F3 N3 hS
    exact exit_c ⟨K3, F3, XB.keeps K3.stays, N3, TB.keeps K3.stays, rfl, rfl, rfl, (by rw [depth_mark, depth_deeper]; dsimp only; omega), (by rw [units_mark, units_deeper]; dsimp only; omega)⟩ (fun h5 tk5 F5 N5 => hS h5 tk5 F5 N5)
  · intro h2 tk2 R2 U2
    exact h g' h2 tk2 _ FG' R2 U2
end
end
section
local macro_rules | `(tactic| walk_at "idle line 0") => `(tactic| fail)
section
variable {prog : Program} {w : World} {A₀ A : Around} {base h₀ : Heap} {outer : List Env} {env : Env} {L : Addr} {m : Str → Option Value} {mean : ExcName → Option Value} {mg mb : Str → Option Value} {s : Shared} {rest : List (Addr × Obj)} {R : Result → Shared → Prop}
  {c cd dm dq lk ld u t1 t2 t3 t4 nq : Nat} {cap : Int} {od : Obj} {ps : List (Str × Nat)} {kvs : List (Str × Value)} {key : Str} {t : Tok} {v : Value}
set_option maxRecDepth 100000 in
set_option maxHeartbeats 8000000 in
theorem get_c (C : Cx w A₀ A base h₀ outer env L m mean mg mb s.heap ((c, instObj 169 cd) :: (cd, cdObj w dm dq lk cap u t1 t2 t3 t4) :: (dm, od) :: (dq, listOf (svs ps) nq) :: (lk, instObj 45 ld) :: (ld, dictOf [] 0) :: rest))
    (ho : cd < c ∧ c < dm ∧ dm < dq ∧ dq < ld ∧ ld < lk) (hoff : OwnOff rest [c, cd, dm, dq, lk, ld]) (hd : od.IsDictOf (strKind prog w) kvs) (lo : (dm == sysModules) = false)
    (hz : kvs.length ≤ 900 ∧ ps.length = kvs.length) (hm : Matches ps kvs) (hv : valueAt kvs key = some v)
    (h : ∀ h' tk n', Fr h₀ L h' m → News h₀ L h' ((c, instObj 169 cd) :: (cd, cdObj w dm dq lk cap u t1 t2 t3 t4) :: (dm, od) :: (dq, listOf (svs (touchQ ps key t)) n') :: (lk, instObj 45 ld) :: (ld, dictOf [] 0) :: rest) → R (.ok (.ret v)) { s with heap := h', toks := tk }) :
  codeAny (model prog w) A (.call (.ref 121) ⟨[.ref c, .str key t], []⟩) R s := by
  obtain ⟨hn, dp, fr, gd, un⟩ := A
  obtain ⟨B, F, X₀, N, T, hA, hf, hk, hd', hu⟩ := C
  dsimp only at hA hd' hu
  subst hA
  obtain ⟨o1, o2, o3, o4, o5⟩ := ho
  obtain ⟨z1, z2⟩ := hz
  have hv' : (valueAt kvs key).isSome = true := by rw [hv]; rfl
  have h1 : ((ps.getLastD (Str.empty, 0)).1 != key) = true → ∀ h' tk n', Fr h₀ L h' m → News h₀ L h' ((c, instObj 169 cd) :: (cd, cdObj w dm dq lk cap u t1 t2 t3 t4) :: (dm, od) :: (dq, listOf (svs (rm ps key ++ [(key, t)])) n') :: (lk, instObj 45 ld) :: (ld, dictOf [] 0) :: rest) → R (.ok (.ret v)) { s with heap := h', toks := tk } := fun q => by
    have e : touchQ ps key t = rm ps key ++ [(key, t)] := if_pos q
    rw [e] at h; exact h
  have h2 : ((ps.getLastD (Str.empty, 0)).1 != key) = false → ∀ h' tk n', Fr h₀ L h' m → News h₀ L h' ((c, instObj 169 cd) :: (cd, cdObj w dm dq lk cap u t1 t2 t3 t4) :: (dm, od) :: (dq, listOf (svs ps) n') :: (lk, instObj 45 ld) :: (ld, dictOf [] 0) :: rest) → R (.ok (.ret v)) { s with heap := h', toks := tk } := fun q => by
    have e : touchQ ps key t = ps := if_neg (by rw [q]; exact Bool.false_ne_true)
    rw [e] at h; exact h
  clear h
  refine code_def B F X₀ N T rfl hf hk (by k_is) (by k_is) (by show dp < recursionLimit; unfold recursionLimit; omega) (BindsTo.of_eq rfl) (locs rfl) ?_ rfl rfl rfl (by decide)
  intro g' L' h' FG' F' N' B' X' T'
  try dsimp only
  try k_fold
  k_steps
  all_goals first
    | exact h1 (by assumption) _ _ _ (by assumption) (by assumption)
    | exact h2 (by assumption) _ _ _ (by assumption) (by assumption)
end
end
section
local macro_rules | `(tactic| walk_at "idle line 0") => `(tactic| fail)
local macro_rules | `(tactic| walk_at "idle line 1") => `(tactic| fail)
section
variable {prog : Program} {w : World} {A₀ A : Around} {base h₀ : Heap} {outer : List Env} {env : Env} {L : Addr} {m : Str → Option Value} {mean : ExcName → Option Value} {mg mb : Str → Option Value} {s : Shared} {rest : List (Addr × Obj)} {R : Result → Shared → Prop}
  {c cd dm dq lk ld u t1 t2 t3 t4 nq : Nat} {cap : Int} {od : Obj} {ps : List (Str × Nat)} {kvs : List (Str × Value)} {key : Str} {t : Tok} {v : Value}
set_option maxRecDepth 100000 in
set_option maxHeartbeats 8000000 in
theorem del_c (C : Cx w A₀ A base h₀ outer env L m mean mg mb s.heap ((c, instObj 169 cd) :: (cd, cdObj w dm dq lk cap u t1 t2 t3 t4) :: (dm, od) :: (dq, listOf (svs ps) nq) :: (lk, instObj 45 ld) :: (ld, dictOf [] 0) :: rest))
    (ho : cd < c ∧ c < dm ∧ dm < dq ∧ dq < ld ∧ ld < lk) (hoff : OwnOff rest [c, cd, dm, dq, lk, ld]) (hd : od.IsDictOf (strKind prog w) kvs) (lo : (dm == sysModules) = false)
    (hz : kvs.length ≤ 900 ∧ ps.length = kvs.length) (hm : Matches ps kvs) (hv : (valueAt kvs key).isSome = true)
    (h : ∀ h' tk n' od', Fr h₀ L h' m → News h₀ L h' ((c, instObj 169 cd) :: (cd, cdObj w dm dq lk cap u t1 t2 t3 t4) :: (dm, od') :: (dq, listOf (svs (rm ps key)) n') :: (lk, instObj 45 ld) :: (ld, dictOf [] 0) :: rest) → od'.IsDictOf (strKind prog w) (without kvs key) → R (.ok (.ret .none)) { s with heap := h', toks := tk }) :
  codeAny (model prog w) A (.call (.ref 135) ⟨[.ref c, .str key t], []⟩) R s := by
  obtain ⟨hn, dp, fr, gd, un⟩ := A
  obtain ⟨B, F, X₀, N, T, hA, hf, hk, hd', hu⟩ := C
  dsimp only at hA hd' hu
  subst hA
  obtain ⟨o1, o2, o3, o4, o5⟩ := ho
  obtain ⟨z1, z2⟩ := hz
  refine code_def B F X₀ N T rfl hf hk (by k_is) (by k_is) (by show dp < recursionLimit; unfold recursionLimit; omega) (BindsTo.of_eq rfl) (locs rfl) ?_ rfl rfl rfl (by decide)
  intro g' L' h' FG' F' N' B' X' T'
  try dsimp only
  try k_fold
  k_steps
  all_goals first
    | exact h _ _ _ _ (by assumption) (by assumption) (by assumption)
end
end
section
local macro_rules | `(tactic| walk_at "idle line 0") => `(tactic| fail)
local macro_rules | `(tactic| walk_at "idle line 1") => `(tactic| fail)
local macro_rules | `(tactic| walk_at "idle line 2") => `(tactic| fail)
local macro_rules | `(tactic| walk_at "idle line 3") => `(tactic| fail)
section
variable {prog : Program} {w : World} {A₀ A : Around} {base h₀ : Heap} {outer : List Env} {env : Env} {L : Addr} {m : Str → Option Value} {mean : ExcName → Option Value} {mg mb : Str → Option Value} {s : Shared} {rest : List (Addr × Obj)} {R : Result → Shared → Prop}
  {c cd dm dq lk ld u t1 t2 t3 t4 nq : Nat} {cap : Int} {od : Obj} {ps : List (Str × Nat)} {kvs : List (Str × Value)} {key : Str} {t : Tok} {v : Value}
set_option maxRecDepth 100000 in
set_option maxHeartbeats 8000000 in
theorem set_c (C : Cx w A₀ A base h₀ outer env L m mean mg mb s.heap ((c, instObj 169 cd) :: (cd, cdObj w dm dq lk cap u t1 t2 t3 t4) :: (dm, od) :: (dq, listOf (svs ps) nq) :: (lk, instObj 45 ld) :: (ld, dictOf [] 0) :: rest))
    (ho : cd < c ∧ c < dm ∧ dm < dq ∧ dq < ld ∧ ld < lk) (hoff : OwnOff rest [c, cd, dm, dq, lk, ld]) (hd : od.IsDictOf (strKind prog w) kvs) (lo : (dm == sysModules) = false)
    (hz : kvs.length ≤ 900 ∧ ps.length = kvs.length) (hm : Matches ps kvs) (hc : 1 ≤ cap)
    (h : ∀ h' tk n' od', Fr h₀ L h' m → News h₀ L h' ((c, instObj 169 cd) :: (cd, cdObj w dm dq lk cap u t1 t2 t3 t4) :: (dm, od') :: (dq, listOf (svs (setQ cap ps kvs key t)) n') :: (lk, instObj 45 ld) :: (ld, dictOf [] 0) :: rest) → od'.IsDictOf (strKind prog w) (setM cap ps kvs key v) → R (.ok (.ret .none)) { s with heap := h', toks := tk }) :
  codeAny (model prog w) A (.call (.ref 128) ⟨[.ref c, .str key t, v], []⟩) R s := by
  obtain ⟨hn, dp, fr, gd, un⟩ := A
  obtain ⟨B, F, X₀, N, T, hA, hf, hk, hd', hu⟩ := C
  dsimp only at hA hd' hu
  subst hA
  obtain ⟨o1, o2, o3, o4, o5⟩ := ho
  obtain ⟨z1, z2⟩ := hz
  have h1 : (valueAt kvs key).isSome = true → ∀ h' tk n' od', Fr h₀ L h' m → News h₀ L h' ((c, instObj 169 cd) :: (cd, cdObj w dm dq lk cap u t1 t2 t3 t4) :: (dm, od') :: (dq, listOf (svs (rm ps key ++ [(key, t)])) n') :: (lk, instObj 45 ld) :: (ld, dictOf [] 0) :: rest) → od'.IsDictOf (strKind prog w) (stored kvs key v) → R (.ok (.ret .none)) { s with heap := h', toks := tk } := fun q => by simpa only [setQ, setM, q, if_true] using h
  have h2 : (valueAt kvs key).isSome = false → (kvs.length : Int) = cap → ∀ h' tk n' od', Fr h₀ L h' m → News h₀ L h' ((c, instObj 169 cd) :: (cd, cdObj w dm dq lk cap u t1 t2 t3 t4) :: (dm, od') :: (dq, listOf (svs (ps.tail ++ [(key, t)])) n') :: (lk, instObj 45 ld) :: (ld, dictOf [] 0) :: rest) → od'.IsDictOf (strKind prog w) (stored (without kvs (ps.headD (Str.empty, 0)).1) key v) → R (.ok (.ret .none)) { s with heap := h', toks := tk } := fun q q2 => by simpa only [setQ, setM, q, q2, if_true, Bool.false_eq_true, if_false] using h
  have h3 : (valueAt kvs key).isSome = false → (kvs.length : Int) ≠ cap → ∀ h' tk n' od', Fr h₀ L h' m → News h₀ L h' ((c, instObj 169 cd) :: (cd, cdObj w dm dq lk cap u t1 t2 t3 t4) :: (dm, od') :: (dq, listOf (svs (ps ++ [(key, t)])) n') :: (lk, instObj 45 ld) :: (ld, dictOf [] 0) :: rest) → od'.IsDictOf (strKind prog w) (stored kvs key v) → R (.ok (.ret .none)) { s with heap := h', toks := tk } := fun q q2 => by simpa only [setQ, setM, q, if_neg q2, Bool.false_eq_true, if_false] using h
  clear h
  refine code_def B F X₀ N T rfl hf hk (by k_is) (by k_is) (by show dp < recursionLimit; unfold recursionLimit; omega) (BindsTo.of_eq rfl) (locs rfl) ?_ rfl rfl rfl (by decide)
  intro g' L' h' FG' F' N' B' X' T'
  try dsimp only
  try k_fold
  k_steps
  all_goals first
    | exact h1 (by assumption) _ _ _ _ (by assumption) (by assumption) (by assumption)
    | exact h2 (by assumption) (by assumption) _ _ _ _ (by assumption) (by assumption) (by assumption)
    | exact h3 (by assumption) (by assumption) _ _ _ _ (by assumption) (by assumption) (by assumption)
end
end
section
section
variable {prog : Program} {w : World} {A₀ A : Around} {base h₀ : Heap} {outer : List Env} {env : Env} {L : Addr} {m : Str → Option Value} {mean : ExcName → Option Value} {mg mb : Str → Option Value} {s : Shared} {rest : List (Addr × Obj)} {R : Result → Shared → Prop}
  {c cd dm dq lk ld u t1 t2 t3 t4 nq : Nat} {cap : Int} {od : Obj} {ps : List (Str × Nat)} {kvs : List (Str × Value)} {key : Str} {t : Tok} {v : Value}
set_option maxRecDepth 100000 in
set_option maxHeartbeats 8000000 in
theorem iter_c (C : Cx w A₀ A base h₀ outer env L m mean mg mb s.heap ((c, instObj 169 cd) :: (cd, cdObj w dm dq lk cap u t1 t2 t3 t4) :: (dm, od) :: (dq, listOf (svs ps) nq) :: (lk, instObj 45 ld) :: (ld, dictOf [] 0) :: rest))
    (ho : cd < c ∧ c < dm ∧ dm < dq ∧ dq < ld ∧ ld < lk) (hd : od.IsDictOf (strKind prog w) kvs) (lo : (dm == sysModules) = false)
    (hz : kvs.length ≤ 900 ∧ ps.length = kvs.length)
    (h : ∀ h' tk (I T : Nat), Fr h₀ L h' m → News h₀ L h' ((I, rvObj T ((ps.length : Int) - 1)) :: (T, tupOf (svs ps)) :: (c, instObj 169 cd) :: (cd, cdObj w dm dq lk cap u t1 t2 t3 t4) :: (dm, od) :: (dq, listOf (svs ps) nq) :: (lk, instObj 45 ld) :: (ld, dictOf [] 0) :: rest) → T < I → (∀ p ∈ ((c, instObj 169 cd) :: (cd, cdObj w dm dq lk cap u t1 t2 t3 t4) :: (dm, od) :: (dq, listOf (svs ps) nq) :: (lk, instObj 45 ld) :: (ld, dictOf [] 0) :: rest), p.1 < T) → R (.ok (.ret (.ref I))) { s with heap := h', toks := tk }) :
  codeAny (model prog w) A (.call (.ref 159) ⟨[.ref c], []⟩) R s := by
  obtain ⟨hn, dp, fr, gd, un⟩ := A
  obtain ⟨B, F, X₀, N, T, hA, hf, hk, hd', hu⟩ := C
  dsimp only at hA hd' hu
  subst hA
  obtain ⟨o1, o2, o3, o4, o5⟩ := ho
  obtain ⟨z1, z2⟩ := hz
  refine code_def B F X₀ N T rfl hf hk (by k_is) (by k_is) (by show dp < recursionLimit; unfold recursionLimit; omega) (BindsTo.of_eq rfl) (locs rfl) ?_ rfl rfl rfl (by decide)
  intro g' L' h' FG' F' N' B' X' T'
  try dsimp only
  try k_fold
  k_steps
  all_goals first
    | (refine h _ _ _ _ (by assumption) (by assumption) ?_ (forall_of_allLt (by simp only [AllLt]; assumption)); omega)
set_option maxRecDepth 100000 in
set_option maxHeartbeats 8000000 in
theorem revd_c (C : Cx w A₀ A base h₀ outer env L m mean mg mb s.heap ((c, instObj 169 cd) :: (cd, cdObj w dm dq lk cap u t1 t2 t3 t4) :: (dm, od) :: (dq, listOf (svs ps) nq) :: (lk, instObj 45 ld) :: (ld, dictOf [] 0) :: rest))
    (ho : cd < c ∧ c < dm ∧ dm < dq ∧ dq < ld ∧ ld < lk) (hd : od.IsDictOf (strKind prog w) kvs) (lo : (dm == sysModules) = false)
    (hz : kvs.length ≤ 900 ∧ ps.length = kvs.length)
    (h : ∀ h' tk (I T : Nat), Fr h₀ L h' m → News h₀ L h' ((I, ({ cls := .type "tuple_iterator", data := .fields #[.ref T, .int 0 0] } : Obj)) :: (T, tupOf (svs ps)) :: (c, instObj 169 cd) :: (cd, cdObj w dm dq lk cap u t1 t2 t3 t4) :: (dm, od) :: (dq, listOf (svs ps) nq) :: (lk, instObj 45 ld) :: (ld, dictOf [] 0) :: rest) → T < I → (∀ p ∈ ((c, instObj 169 cd) :: (cd, cdObj w dm dq lk cap u t1 t2 t3 t4) :: (dm, od) :: (dq, listOf (svs ps) nq) :: (lk, instObj 45 ld) :: (ld, dictOf [] 0) :: rest), p.1 < T) → R (.ok (.ret (.ref I))) { s with heap := h', toks := tk }) :
  codeAny (model prog w) A (.call (.ref 166) ⟨[.ref c], []⟩) R s := by
  obtain ⟨hn, dp, fr, gd, un⟩ := A
  obtain ⟨B, F, X₀, N, T, hA, hf, hk, hd', hu⟩ := C
  dsimp only at hA hd' hu
  subst hA
  obtain ⟨o1, o2, o3, o4, o5⟩ := ho
  obtain ⟨z1, z2⟩ := hz
  refine code_def B F X₀ N T rfl hf hk (by k_is) (by k_is) (by show dp < recursionLimit; unfold recursionLimit; omega) (BindsTo.of_eq rfl) (locs rfl) ?_ rfl rfl rfl (by decide)
  intro g' L' h' FG' F' N' B' X' T'
  try dsimp only
  try k_fold
  k_steps
  all_goals first
    | (refine h _ _ _ _ (by assumption) (by assumption) ?_ (forall_of_allLt (by simp only [AllLt]; assumption)); omega)
end
end
section
local macro_rules | `(tactic| walk_at "idle line 0") => `(tactic| fail)
local macro_rules | `(tactic| walk_at "idle line 1") => `(tactic| fail)
local macro_rules | `(tactic| walk_at "idle line 2") => `(tactic| fail)
section
variable {prog : Program} {w : World} {A₀ A : Around} {base h₀ : Heap} {outer : List Env} {env : Env} {L : Addr} {m : Str → Option Value} {mean : ExcName → Option Value} {mg mb : Str → Option Value} {s : Shared} {rest : List (Addr × Obj)} {R : Result → Shared → Prop}
  {c cd dm dq lk ld u t1 t2 t3 t4 nq : Nat} {cap : Int} {od : Obj} {ps : List (Str × Nat)} {kvs : List (Str × Value)} {key : Str} {t : Tok} {v : Value}
set_option maxRecDepth 100000 in
set_option maxHeartbeats 8000000 in
theorem len_r (C : Cx w A₀ A base h₀ outer env L m mean mg mb s.heap ((c, instObj 169 cd) :: (cd, cdObj w dm dq lk cap u t1 t2 t3 t4) :: (dm, od) :: (dq, listOf (svs ps) nq) :: (lk, instObj 45 ld) :: (ld, dictOf [] 0) :: rest))
    (ho : cd < c ∧ c < dm ∧ dm < dq ∧ dq < ld ∧ ld < lk) (hd : od.IsDictOf (strKind prog w) kvs) (lo : (dm == sysModules) = false)
    (hz : kvs.length ≤ 900 ∧ ps.length = kvs.length)
    (h : ∀ h' tk tk', Fr h₀ L h' m → News h₀ L h' ((c, instObj 169 cd) :: (cd, cdObj w dm dq lk cap u t1 t2 t3 t4) :: (dm, od) :: (dq, listOf (svs ps) nq) :: (lk, instObj 45 ld) :: (ld, dictOf [] 0) :: rest) → R (.ok (.ret (.int kvs.length tk'))) { s with heap := h', toks := tk }) :
  codeAny (model prog w) A (.call (.ref 107) ⟨[.ref c], []⟩) R s := by
  obtain ⟨hn, dp, fr, gd, un⟩ := A
  obtain ⟨B, F, X₀, N, T, hA, hf, hk, hd', hu⟩ := C
  dsimp only at hA hd' hu
  subst hA
  obtain ⟨o1, o2, o3, o4, o5⟩ := ho
  obtain ⟨z1, z2⟩ := hz
  refine code_def B F X₀ N T rfl hf hk (by k_is) (by k_is) (by show dp < recursionLimit; unfold recursionLimit; omega) (BindsTo.of_eq rfl) (locs rfl) ?_ rfl rfl rfl (by decide)
  intro g' L' h' FG' F' N' B' X' T'
  try dsimp only
  try k_fold
  k_steps
  all_goals first
    | exact h _ _ _ (by assumption) (by assumption)
end
end
section
local macro_rules | `(tactic| walk_at "idle line 0") => `(tactic| fail)
section
variable {prog : Program} {w : World} {A₀ A : Around} {base h₀ : Heap} {outer : List Env} {env : Env} {L : Addr} {m : Str → Option Value} {mean : ExcName → Option Value} {mg mb : Str → Option Value} {s : Shared} {rest : List (Addr × Obj)} {R : Result → Shared → Prop}
  {c cd dm dq lk ld u t1 t2 t3 t4 nq : Nat} {cap : Int} {od : Obj} {ps : List (Str × Nat)} {kvs : List (Str × Value)} {key : Str} {t : Tok} {v : Value}
set_option maxRecDepth 100000 in
set_option maxHeartbeats 8000000 in
theorem len_c (C : Cx w A₀ A base h₀ outer env L m mean mg mb s.heap ((c, instObj 169 cd) :: (cd, cdObj w dm dq lk cap u t1 t2 t3 t4) :: (dm, od) :: (dq, listOf (svs ps) nq) :: (lk, instObj 45 ld) :: (ld, dictOf [] 0) :: rest))
    (ho : cd < c ∧ c < dm ∧ dm < dq ∧ dq < ld ∧ ld < lk) (hoff : OwnOff rest [c, cd, dm, dq, lk, ld]) (hd : od.IsDictOf (strKind prog w) kvs) (lo : (dm == sysModules) = false)
    (hz : kvs.length ≤ 900 ∧ ps.length = kvs.length)
    (h : ∀ h' tk tk', Fr h₀ L h' m → News h₀ L h' ((c, instObj 169 cd) :: (cd, cdObj w dm dq lk cap u t1 t2 t3 t4) :: (dm, od) :: (dq, listOf (svs ps) nq) :: (lk, instObj 45 ld) :: (ld, dictOf [] 0) :: rest) → R (.ok (.ret (.int kvs.length tk'))) { s with heap := h', toks := tk }) :
  codeAny (model prog w) A (.call (.ref 107) ⟨[.ref c], []⟩) R s := by
  obtain ⟨hn, dp, fr, gd, un⟩ := A
  obtain ⟨B, F, X₀, N, T, hA, hf, hk, hd', hu⟩ := C
  dsimp only at hA hd' hu
  subst hA
  obtain ⟨o1, o2, o3, o4, o5⟩ := ho
  obtain ⟨z1, z2⟩ := hz
  refine code_def B F X₀ N T rfl hf hk (by k_is) (by k_is) (by show dp < recursionLimit; unfold recursionLimit; omega) (BindsTo.of_eq rfl) (locs rfl) ?_ rfl rfl rfl (by decide)
  intro g' L' h' FG' F' N' B' X' T'
  try dsimp only
  try k_fold
  k_steps
  all_goals first
    | exact h _ _ _ (by assumption) (by assumption)
set_option maxRecDepth 100000 in
set_option maxHeartbeats 8000000 in
theorem has_c (C : Cx w A₀ A base h₀ outer env L m mean mg mb s.heap ((c, instObj 169 cd) :: (cd, cdObj w dm dq lk cap u t1 t2 t3 t4) :: (dm, od) :: (dq, listOf (svs ps) nq) :: (lk, instObj 45 ld) :: (ld, dictOf [] 0) :: rest))
    (ho : cd < c ∧ c < dm ∧ dm < dq ∧ dq < ld ∧ ld < lk) (hoff : OwnOff rest [c, cd, dm, dq, lk, ld]) (hd : od.IsDictOf (strKind prog w) kvs) (lo : (dm == sysModules) = false)
    (hz : kvs.length ≤ 900 ∧ ps.length = kvs.length)
    (h : ∀ h' tk, Fr h₀ L h' m → News h₀ L h' ((c, instObj 169 cd) :: (cd, cdObj w dm dq lk cap u t1 t2 t3 t4) :: (dm, od) :: (dq, listOf (svs ps) nq) :: (lk, instObj 45 ld) :: (ld, dictOf [] 0) :: rest) → R (.ok (.ret (.bool (valueAt kvs key).isSome))) { s with heap := h', toks := tk }) :
  codeAny (model prog w) A (.call (.ref 100) ⟨[.ref c, .str key t], []⟩) R s := by
  obtain ⟨hn, dp, fr, gd, un⟩ := A
  obtain ⟨B, F, X₀, N, T, hA, hf, hk, hd', hu⟩ := C
  dsimp only at hA hd' hu
  subst hA
  obtain ⟨o1, o2, o3, o4, o5⟩ := ho
  obtain ⟨z1, z2⟩ := hz
  refine code_def B F X₀ N T rfl hf hk (by k_is) (by k_is) (by show dp < recursionLimit; unfold recursionLimit; omega) (BindsTo.of_eq rfl) (locs rfl) ?_ rfl rfl rfl (by decide)
  intro g' L' h' FG' F' N' B' X' T'
  try dsimp only
  try k_fold
  k_steps
  all_goals first
    | exact h _ _ (by assumption) (by assumption)
set_option maxRecDepth 100000 in
set_option maxHeartbeats 8000000 in
theorem clear_c (C : Cx w A₀ A base h₀ outer env L m mean mg mb s.heap ((c, instObj 169 cd) :: (cd, cdObj w dm dq lk cap u t1 t2 t3 t4) :: (dm, od) :: (dq, listOf (svs ps) nq) :: (lk, instObj 45 ld) :: (ld, dictOf [] 0) :: rest))
    (ho : cd < c ∧ c < dm ∧ dm < dq ∧ dq < ld ∧ ld < lk) (hoff : OwnOff rest [c, cd, dm, dq, lk, ld]) (hd : od.IsDictOf (strKind prog w) kvs) (lo : (dm == sysModules) = false)
    (hz : kvs.length ≤ 900 ∧ ps.length = kvs.length)
    (h : ∀ h' tk n' od', Fr h₀ L h' m → News h₀ L h' ((c, instObj 169 cd) :: (cd, cdObj w dm dq lk cap u t1 t2 t3 t4) :: (dm, od') :: (dq, listOf (svs []) n') :: (lk, instObj 45 ld) :: (ld, dictOf [] 0) :: rest) → od'.IsDictOf (strKind prog w) [] → R (.ok (.ret .none)) { s with heap := h', toks := tk }) :
  codeAny (model prog w) A (.call (.ref 93) ⟨[.ref c], []⟩) R s := by
  obtain ⟨hn, dp, fr, gd, un⟩ := A
  obtain ⟨B, F, X₀, N, T, hA, hf, hk, hd', hu⟩ := C
  dsimp only at hA hd' hu
  subst hA
  obtain ⟨o1, o2, o3, o4, o5⟩ := ho
  obtain ⟨z1, z2⟩ := hz
  refine code_def B F X₀ N T rfl hf hk (by k_is) (by k_is) (by show dp < recursionLimit; unfold recursionLimit; omega) (BindsTo.of_eq rfl) (locs rfl) ?_ rfl rfl rfl (by decide)
  intro g' L' h' FG' F' N' B' X' T'
  try dsimp only
  try k_fold
  k_steps
  all_goals first
    | exact h _ _ _ _ (by assumption) (by assumption) (by assumption)
end
end
section
local macro_rules | `(tactic| walk_at "call ref") => `(tactic| (k_here; (with_reducible show wpAny _ _ (call (Value.ref 121) _) _ _ _); refine wpAny_call ?_; k_dflt (refine' get_c (base := ?bb) (A₀ := ?aa) ?C ?o ?off ?d ?lo ?z ?m ?v ?_; (case C => exact ⟨by assumption, by assumption, by assumption, by assumption, by assumption, rfl, rfl, rfl, by (simp only [depth_mark, depth_deeper]; omega), by (simp only [units_mark, units_deeper]; omega)⟩); (case m => assumption); (case v => assumption); (case o => exact ⟨by assumption, by assumption, by assumption, by assumption, by assumption⟩); (case off => assumption); (case d => assumption); (case lo => assumption); (case z => exact ⟨by assumption, by assumption⟩)); intro h' tk' n' F' N'; (try dsimp only); (try k_sweep)))
local macro_rules | `(tactic| walk_at "call ref") => `(tactic| (k_here; (with_reducible show wpAny _ _ (call (Value.ref 121) _) _ _ _); refine wpAny_call ?_; k_dflt (refine' get_x (base := ?bb) (A₀ := ?aa) ?C rfl ?o ?off ?d ?lo ?z ?v ?x ?XB ?TB ?_; (case C => exact ⟨by assumption, by assumption, by assumption, by assumption, by assumption, rfl, rfl, rfl, by (simp only [depth_mark, depth_deeper]; omega), by (simp only [units_mark, units_deeper]; omega)⟩); (case v => assumption); (case x => simp only [depth_mark, depth_deeper, units_mark, units_deeper]; omega); (case XB => assumption); (case TB => assumption); (case o => exact ⟨by assumption, by assumption, by assumption, by assumption, by assumption⟩); (case off => assumption); (case d => assumption); (case lo => assumption); (case z => exact ⟨by assumption, by assumption⟩)); intro G' h' tk' e' FR' R' U'; (try dsimp only); (try k_sweep)))
local macro_rules | `(tactic| walk_at "call ref") => `(tactic| (k_here; (with_reducible show wpAny _ _ (call (Value.ref 128) _) _ _ _); refine wpAny_call ?_; k_dflt (refine' set_c (base := ?bb) (A₀ := ?aa) ?C ?o ?off ?d ?lo ?z ?m ?cp ?_; (case C => exact ⟨by assumption, by assumption, by assumption, by assumption, by assumption, rfl, rfl, rfl, by (simp only [depth_mark, depth_deeper]; omega), by (simp only [units_mark, units_deeper]; omega)⟩); (case m => assumption); (case cp => assumption); (case o => exact ⟨by assumption, by assumption, by assumption, by assumption, by assumption⟩); (case off => assumption); (case d => assumption); (case lo => assumption); (case z => exact ⟨by assumption, by assumption⟩)); intro h' tk' n' od' F' N' hd'; (try dsimp only); (try k_sweep)))
local macro_rules | `(tactic| walk_at "call ref") => `(tactic| (k_here; (with_reducible show wpAny _ _ (call (Value.ref 135) _) _ _ _); refine wpAny_call ?_; k_dflt (refine' del_c (base := ?bb) (A₀ := ?aa) ?C ?o ?off ?d ?lo ?z ?m ?v ?_; (case C => exact ⟨by assumption, by assumption, by assumption, by assumption, by assumption, rfl, rfl, rfl, by (simp only [depth_mark, depth_deeper]; omega), by (simp only [units_mark, units_deeper]; omega)⟩); (case m => assumption); (case v => first | assumption | (simp only [*, Option.isSome_some])); (case o => exact ⟨by assumption, by assumption, by assumption, by assumption, by assumption⟩); (case off => assumption); (case d => assumption); (case lo => assumption); (case z => exact ⟨by assumption, by assumption⟩)); intro h' tk' n' od' F' N' hd'; (try dsimp only); (try k_sweep)))
local macro_rules | `(tactic| walk_at "call ref") => `(tactic| (k_here; (with_reducible show wpAny _ _ (call (Value.ref 135) _) _ _ _); refine wpAny_call ?_; k_dflt (refine' del_x (base := ?bb) (A₀ := ?aa) ?C rfl ?o ?off ?d ?lo ?z ?v ?x ?XB ?TB ?_; (case C => exact ⟨by assumption, by assumption, by assumption, by assumption, by assumption, rfl, rfl, rfl, by (simp only [depth_mark, depth_deeper]; omega), by (simp only [units_mark, units_deeper]; omega)⟩); (case v => assumption); (case x => simp only [depth_mark, depth_deeper, units_mark, units_deeper]; omega); (case XB => assumption); (case TB => assumption); (case o => exact ⟨by assumption, by assumption, by assumption, by assumption, by assumption⟩); (case off => assumption); (case d => assumption); (case lo => assumption); (case z => exact ⟨by assumption, by assumption⟩)); intro G' h' tk' e' FR' R' U'; (try dsimp only); (try k_sweep)))
local macro_rules | `(tactic| walk_at "call ref") => `(tactic| (k_here; (with_reducible show wpAny _ _ (call (Value.ref 100) _) _ _ _); refine wpAny_call ?_; k_dflt (refine' has_c (base := ?bb) (A₀ := ?aa) ?C ?o ?off ?d ?lo ?z  ?_; (case C => exact ⟨by assumption, by assumption, by assumption, by assumption, by assumption, rfl, rfl, rfl, by (simp only [depth_mark, depth_deeper]; omega), by (simp only [units_mark, units_deeper]; omega)⟩); (case o => exact ⟨by assumption, by assumption, by assumption, by assumption, by assumption⟩); (case off => assumption); (case d => assumption); (case lo => assumption); (case z => exact ⟨by assumption, by assumption⟩)); intro h' tk' F' N'; (try dsimp only); (try k_sweep)))
local macro_rules | `(tactic| walk_at "noteFrame ref") => `(tactic| (k_here; k_dflt (refine' caught_M0 (T' := "KeyError") ?R ?F ?K ?U ?XB ?TB ?D ?T0 ?ex PyProof.Rows.Boot.«KeyError» ?hn kr_isExc_KeyError kr_notTuple_KeyError ?hs ?_; (case R => assumption); (case F => assumption); (case K => assumption); (case U => assumption); (case XB => assumption); (case TB => assumption); (case D => assumption); (case T0 => exact KtsTurn.refl); (case hs => (rw [isSubtype_type]; kernel_rfl)); (case ex => k_is); (case hn => decide)); intro h' g' T0' F' N' K' X' P' D'; (try k_sweep)))
section
variable {prog : Program} {w : World} {A₀ A : Around} {base h₀ : Heap} {outer : List Env} {env : Env} {L : Addr} {m : Str → Option Value} {mean : ExcName → Option Value} {mg mb : Str → Option Value} {s : Shared} {rest : List (Addr × Obj)} {R : Result → Shared → Prop}
  {c cd dm dq lk ld u t1 t2 t3 t4 nq : Nat} {cap : Int} {od : Obj} {ps : List (Str × Nat)} {kvs : List (Str × Value)} {key : Str} {t : Tok} {v : Value}
set_option maxRecDepth 100000 in
set_option maxHeartbeats 8000000 in
theorem dget_c (C : Cx w A₀ A base h₀ outer env L m mean mg mb s.heap ((c, instObj 169 cd) :: (cd, cdObj w dm dq lk cap u t1 t2 t3 t4) :: (dm, od) :: (dq, listOf (svs ps) nq) :: (lk, instObj 45 ld) :: (ld, dictOf [] 0) :: rest))
    (hh : A.handled = none) (hx : A.depth < 440 ∧ A.units < 400) (Dx : Dx w base h₀ outer mean mg mb) (ho : cd < c ∧ c < dm ∧ dm < dq ∧ dq < ld ∧ ld < lk) (hoff : OwnOff rest [c, cd, dm, dq, lk, ld]) (hd : od.IsDictOf (strKind prog w) kvs) (lo : (dm == sysModules) = false)
    (hz : kvs.length ≤ 900 ∧ ps.length = kvs.length) (hm : Matches ps kvs) (hv : valueAt kvs key = some v)
    (h : ∀ h₀' h' tk n', KtsTurn (outer.filterMap (·.frame)) h₀ h₀' → Fr h₀' L h' m → News h₀' L h' ((c, instObj 169 cd) :: (cd, cdObj w dm dq lk cap u t1 t2 t3 t4) :: (dm, od) :: (dq, listOf (svs (touchQ ps key t)) n') :: (lk, instObj 45 ld) :: (ld, dictOf [] 0) :: rest) → Below A₀ base outer h₀' → KtsDicts (outer.filterMap (·.frame)) h₀' → R (.ok (.ret v)) { s with heap := h', toks := tk }) :
  codeAny (model prog w) A (.call (.ref 78) ⟨[.ref c, .str key t], []⟩) R s := by
  obtain ⟨hn, dp, fr, gd, un⟩ := A
  obtain ⟨B, F, X₀, N, T, hA, hf, hk, hd', hu⟩ := C
  dsimp only at hA hd' hu hh hx
  obtain ⟨x1, x2⟩ := hx
  subst hA hh
  obtain ⟨o1, o2, o3, o4, o5⟩ := ho
  obtain ⟨z1, z2⟩ := hz
  refine code_defM B F X₀ N T Dx.D rfl hf hk (by k_is) (by k_is) (by show dp < recursionLimit; unfold recursionLimit; omega) (by first | exact binds_K (by k_in) rfl (by k_is) rfl rfl rfl | exact BindsTo.of_eq rfl) (locs rfl) ?_ rfl rfl rfl (by decide)
  intro g' L' h' F' N' B' X' T' D'
  have XB := Dx.XB
  have TB := Dx.TB
  try dsimp only
  try k_fold
  k_steps
  all_goals first
    | ((try dsimp only); refine ⟨_, _, _, _, (by first | assumption | exact KtsTurn.refl), (by assumption), (by assumption), fun h1 T1 F1 N1 B1 D1 => ?_⟩; exact h h1 _ _ _ T1 F1 N1 B1 D1)
set_option maxRecDepth 100000 in
set_option maxHeartbeats 8000000 in
theorem dget_x (C : Cx w A₀ A base h₀ outer env L m mean mg mb s.heap ((c, instObj 169 cd) :: (cd, cdObj w dm dq lk cap u t1 t2 t3 t4) :: (dm, od) :: (dq, listOf (svs ps) nq) :: (lk, instObj 45 ld) :: (ld, dictOf [] 0) :: rest))
    (hh : A.handled = none) (hx : A.depth < 440 ∧ A.units < 400) (Dx : Dx w base h₀ outer mean mg mb) (ho : cd < c ∧ c < dm ∧ dm < dq ∧ dq < ld ∧ ld < lk) (hoff : OwnOff rest [c, cd, dm, dq, lk, ld]) (hd : od.IsDictOf (strKind prog w) kvs) (lo : (dm == sysModules) = false)
    (hz : kvs.length ≤ 900 ∧ ps.length = kvs.length) (hv : valueAt kvs key = none)
    (h : ∀ h₀' h' tk, KtsTurn (outer.filterMap (·.frame)) h₀ h₀' → Fr h₀' L h' m → News h₀' L h' ((c, instObj 169 cd) :: (cd, cdObj w dm dq lk cap u t1 t2 t3 t4) :: (dm, od) :: (dq, listOf (svs ps) nq) :: (lk, instObj 45 ld) :: (ld, dictOf [] 0) :: rest) → Below A₀ base outer h₀' → KtsDicts (outer.filterMap (·.frame)) h₀' → R (.ok (.ret .none)) { s with heap := h', toks := tk }) :
  codeAny (model prog w) A (.call (.ref 78) ⟨[.ref c, .str key t], []⟩) R s := by
  obtain ⟨hn, dp, fr, gd, un⟩ := A
  obtain ⟨B, F, X₀, N, T, hA, hf, hk, hd', hu⟩ := C
  dsimp only at hA hd' hu hh hx
  obtain ⟨x1, x2⟩ := hx
  subst hA hh
  obtain ⟨o1, o2, o3, o4, o5⟩ := ho
  obtain ⟨z1, z2⟩ := hz
  refine code_defM B F X₀ N T Dx.D rfl hf hk (by k_is) (by k_is) (by show dp < recursionLimit; unfold recursionLimit; omega) (by first | exact binds_K (by k_in) rfl (by k_is) rfl rfl rfl | exact BindsTo.of_eq rfl) (locs rfl) ?_ rfl rfl rfl (by decide)
  intro g' L' h' F' N' B' X' T' D'
  have XB := Dx.XB
  have TB := Dx.TB
  try dsimp only
  try k_fold
  k_steps
  all_goals first
    | ((try dsimp only); refine ⟨_, _, _, _, (by first | assumption | exact KtsTurn.refl), (by assumption), (by assumption), fun h1 T1 F1 N1 B1 D1 => ?_⟩; exact h h1 _ _ T1 F1 N1 B1 D1)
set_option maxRecDepth 100000 in
set_option maxHeartbeats 8000000 in
theorem sdef_c (C : Cx w A₀ A base h₀ outer env L m mean mg mb s.heap ((c, instObj 169 cd) :: (cd, cdObj w dm dq lk cap u t1 t2 t3 t4) :: (dm, od) :: (dq, listOf (svs ps) nq) :: (lk, instObj 45 ld) :: (ld, dictOf [] 0) :: rest))
    (hh : A.handled = none) (hx : A.depth < 440 ∧ A.units < 400) (Dx : Dx w base h₀ outer mean mg mb) (ho : cd < c ∧ c < dm ∧ dm < dq ∧ dq < ld ∧ ld < lk) (hoff : OwnOff rest [c, cd, dm, dq, lk, ld]) (hd : od.IsDictOf (strKind prog w) kvs) (lo : (dm == sysModules) = false)
    (hz : kvs.length ≤ 900 ∧ ps.length = kvs.length) {v' : Value} (hm : Matches ps kvs) (hv : valueAt kvs key = some v')
    (h : ∀ h₀' h' tk n', KtsTurn (outer.filterMap (·.frame)) h₀ h₀' → Fr h₀' L h' m → News h₀' L h' ((c, instObj 169 cd) :: (cd, cdObj w dm dq lk cap u t1 t2 t3 t4) :: (dm, od) :: (dq, listOf (svs (touchQ ps key t)) n') :: (lk, instObj 45 ld) :: (ld, dictOf [] 0) :: rest) → Below A₀ base outer h₀' → KtsDicts (outer.filterMap (·.frame)) h₀' → R (.ok (.ret v')) { s with heap := h', toks := tk }) :
  codeAny (model prog w) A (.call (.ref 86) ⟨[.ref c, .str key t, v], []⟩) R s := by
  obtain ⟨hn, dp, fr, gd, un⟩ := A
  obtain ⟨B, F, X₀, N, T, hA, hf, hk, hd', hu⟩ := C
  dsimp only at hA hd' hu hh hx
  obtain ⟨x1, x2⟩ := hx
  subst hA hh
  obtain ⟨o1, o2, o3, o4, o5⟩ := ho
  obtain ⟨z1, z2⟩ := hz
  refine code_defM B F X₀ N T Dx.D rfl hf hk (by k_is) (by k_is) (by show dp < recursionLimit; unfold recursionLimit; omega) (by first | exact binds_K (by k_in) rfl (by k_is) rfl rfl rfl | exact BindsTo.of_eq rfl) (locs rfl) ?_ rfl rfl rfl (by decide)
  intro g' L' h' F' N' B' X' T' D'
  have XB := Dx.XB
  have TB := Dx.TB
  try dsimp only
  try k_fold
  k_steps
  all_goals first
    | ((try dsimp only); refine ⟨_, _, _, _, (by first | assumption | exact KtsTurn.refl), (by assumption), (by assumption), fun h1 T1 F1 N1 B1 D1 => ?_⟩; exact h h1 _ _ _ T1 F1 N1 B1 D1)
set_option maxRecDepth 100000 in
set_option maxHeartbeats 8000000 in
theorem sdef_x (C : Cx w A₀ A base h₀ outer env L m mean mg mb s.heap ((c, instObj 169 cd) :: (cd, cdObj w dm dq lk cap u t1 t2 t3 t4) :: (dm, od) :: (dq, listOf (svs ps) nq) :: (lk, instObj 45 ld) :: (ld, dictOf [] 0) :: rest))
    (hh : A.handled = none) (hx : A.depth < 440 ∧ A.units < 400) (Dx : Dx w base h₀ outer mean mg mb) (ho : cd < c ∧ c < dm ∧ dm < dq ∧ dq < ld ∧ ld < lk) (hoff : OwnOff rest [c, cd, dm, dq, lk, ld]) (hd : od.IsDictOf (strKind prog w) kvs) (lo : (dm == sysModules) = false)
    (hz : kvs.length ≤ 900 ∧ ps.length = kvs.length) (hm : Matches ps kvs) (cp : 1 ≤ cap) (hv : valueAt kvs key = none)
    (h : ∀ h₀' h' tk n' od', KtsTurn (outer.filterMap (·.frame)) h₀ h₀' → Fr h₀' L h' m → News h₀' L h' ((c, instObj 169 cd) :: (cd, cdObj w dm dq lk cap u t1 t2 t3 t4) :: (dm, od') :: (dq, listOf (svs (setQ cap ps kvs key t)) n') :: (lk, instObj 45 ld) :: (ld, dictOf [] 0) :: rest) → Below A₀ base outer h₀' → KtsDicts (outer.filterMap (·.frame)) h₀' → od'.IsDictOf (strKind prog w) (setM cap ps kvs key v) → R (.ok (.ret v)) { s with heap := h', toks := tk }) :
  codeAny (model prog w) A (.call (.ref 86) ⟨[.ref c, .str key t, v], []⟩) R s := by
  obtain ⟨hn, dp, fr, gd, un⟩ := A
  obtain ⟨B, F, X₀, N, T, hA, hf, hk, hd', hu⟩ := C
  dsimp only at hA hd' hu hh hx
  obtain ⟨x1, x2⟩ := hx
  subst hA hh
  obtain ⟨o1, o2, o3, o4, o5⟩ := ho
  obtain ⟨z1, z2⟩ := hz
  refine code_defM B F X₀ N T Dx.D rfl hf hk (by k_is) (by k_is) (by show dp < recursionLimit; unfold recursionLimit; omega) (by first | exact binds_K (by k_in) rfl (by k_is) rfl rfl rfl | exact BindsTo.of_eq rfl) (locs rfl) ?_ rfl rfl rfl (by decide)
  intro g' L' h' F' N' B' X' T' D'
  have XB := Dx.XB
  have TB := Dx.TB
  try dsimp only
  try k_fold
  k_steps
  all_goals first
    | ((try dsimp only); refine ⟨_, _, _, _, (by first | assumption | exact KtsTurn.refl), (by assumption), (by assumption), fun h1 T1 F1 N1 B1 D1 => ?_⟩; exact h h1 _ _ _ _ T1 F1 N1 B1 D1 (by assumption))
end
end
section
local macro_rules | `(tactic| walk_at "call ref") => `(tactic| (k_here; (with_reducible show wpAny _ _ (call (Value.ref 121) _) _ _ _); refine wpAny_call ?_; k_dflt (refine' get_c (base := ?bb) (A₀ := ?aa) ?C ?o ?off ?d ?lo ?z ?m ?v ?_; (case C => exact ⟨by assumption, by assumption, by assumption, by assumption, by assumption, rfl, rfl, rfl, by (simp only [depth_mark, depth_deeper]; omega), by (simp only [units_mark, units_deeper]; omega)⟩); (case m => assumption); (case v => assumption); (case o => exact ⟨by assumption, by assumption, by assumption, by assumption, by assumption⟩); (case off => assumption); (case d => assumption); (case lo => assumption); (case z => exact ⟨by assumption, by assumption⟩)); intro h' tk' n' F' N'; (try dsimp only); (try k_sweep)))
local macro_rules | `(tactic| walk_at "call ref") => `(tactic| (k_here; (with_reducible show wpAny _ _ (call (Value.ref 121) _) _ _ _); refine wpAny_call ?_; k_dflt (refine' get_x (base := ?bb) (A₀ := ?aa) ?C rfl ?o ?off ?d ?lo ?z ?v ?x ?XB ?TB ?_; (case C => exact ⟨by assumption, by assumption, by assumption, by assumption, by assumption, rfl, rfl, rfl, by (simp only [depth_mark, depth_deeper]; omega), by (simp only [units_mark, units_deeper]; omega)⟩); (case v => assumption); (case x => simp only [depth_mark, depth_deeper, units_mark, units_deeper]; omega); (case XB => assumption); (case TB => assumption); (case o => exact ⟨by assumption, by assumption, by assumption, by assumption, by assumption⟩); (case off => assumption); (case d => assumption); (case lo => assumption); (case z => exact ⟨by assumption, by assumption⟩)); intro G' h' tk' e' FR' R' U'; (try dsimp only); (try k_sweep)))
local macro_rules | `(tactic| walk_at "call ref") => `(tactic| (k_here; (with_reducible show wpAny _ _ (call (Value.ref 128) _) _ _ _); refine wpAny_call ?_; k_dflt (refine' set_c (base := ?bb) (A₀ := ?aa) ?C ?o ?off ?d ?lo ?z ?m ?cp ?_; (case C => exact ⟨by assumption, by assumption, by assumption, by assumption, by assumption, rfl, rfl, rfl, by (simp only [depth_mark, depth_deeper]; omega), by (simp only [units_mark, units_deeper]; omega)⟩); (case m => assumption); (case cp => assumption); (case o => exact ⟨by assumption, by assumption, by assumption, by assumption, by assumption⟩); (case off => assumption); (case d => assumption); (case lo => assumption); (case z => exact ⟨by assumption, by assumption⟩)); intro h' tk' n' od' F' N' hd'; (try dsimp only); (try k_sweep)))
local macro_rules | `(tactic| walk_at "call ref") => `(tactic| (k_here; (with_reducible show wpAny _ _ (call (Value.ref 135) _) _ _ _); refine wpAny_call ?_; k_dflt (refine' del_c (base := ?bb) (A₀ := ?aa) ?C ?o ?off ?d ?lo ?z ?m ?v ?_; (case C => exact ⟨by assumption, by assumption, by assumption, by assumption, by assumption, rfl, rfl, rfl, by (simp only [depth_mark, depth_deeper]; omega), by (simp only [units_mark, units_deeper]; omega)⟩); (case m => assumption); (case v => first | assumption | (simp only [*, Option.isSome_some])); (case o => exact ⟨by assumption, by assumption, by assumption, by assumption, by assumption⟩); (case off => assumption); (case d => assumption); (case lo => assumption); (case z => exact ⟨by assumption, by assumption⟩)); intro h' tk' n' od' F' N' hd'; (try dsimp only); (try k_sweep)))
local macro_rules | `(tactic| walk_at "call ref") => `(tactic| (k_here; (with_reducible show wpAny _ _ (call (Value.ref 135) _) _ _ _); refine wpAny_call ?_; k_dflt (refine' del_x (base := ?bb) (A₀ := ?aa) ?C rfl ?o ?off ?d ?lo ?z ?v ?x ?XB ?TB ?_; (case C => exact ⟨by assumption, by assumption, by assumption, by assumption, by assumption, rfl, rfl, rfl, by (simp only [depth_mark, depth_deeper]; omega), by (simp only [units_mark, units_deeper]; omega)⟩); (case v => assumption); (case x => simp only [depth_mark, depth_deeper, units_mark, units_deeper]; omega); (case XB => assumption); (case TB => assumption); (case o => exact ⟨by assumption, by assumption, by assumption, by assumption, by assumption⟩); (case off => assumption); (case d => assumption); (case lo => assumption); (case z => exact ⟨by assumption, by assumption⟩)); intro G' h' tk' e' FR' R' U'; (try dsimp only); (try k_sweep)))
local macro_rules | `(tactic| walk_at "call ref") => `(tactic| (k_here; (with_reducible show wpAny _ _ (call (Value.ref 100) _) _ _ _); refine wpAny_call ?_; k_dflt (refine' has_c (base := ?bb) (A₀ := ?aa) ?C ?o ?off ?d ?lo ?z  ?_; (case C => exact ⟨by assumption, by assumption, by assumption, by assumption, by assumption, rfl, rfl, rfl, by (simp only [depth_mark, depth_deeper]; omega), by (simp only [units_mark, units_deeper]; omega)⟩); (case o => exact ⟨by assumption, by assumption, by assumption, by assumption, by assumption⟩); (case off => assumption); (case d => assumption); (case lo => assumption); (case z => exact ⟨by assumption, by assumption⟩)); intro h' tk' F' N'; (try dsimp only); (try k_sweep)))
local macro_rules | `(tactic| walk_at "noteFrame ref") => `(tactic| (k_here; k_dflt (refine' caught_M0 (T' := "KeyError") ?R ?F ?K ?U ?XB ?TB ?D ?T0 ?ex PyProof.Rows.Boot.«KeyError» ?hn kr_isExc_KeyError kr_notTuple_KeyError ?hs ?_; (case R => assumption); (case F => assumption); (case K => assumption); (case U => assumption); (case XB => assumption); (case TB => assumption); (case D => assumption); (case T0 => exact KtsTurn.refl); (case hs => (rw [isSubtype_type]; kernel_rfl)); (case ex => k_is); (case hn => decide)); intro h' g' T0' F' N' K' X' P' D'; (try k_sweep)))
local macro_rules | `(tactic| walk_at "call ref") => `(tactic| (k_here; (with_reducible show wpAny _ _ (call (Value.ref 78) _) _ _ _); refine wpAny_call ?_; k_dflt (refine' dget_c (base := ?bb) (A₀ := ?aa) ?C rfl ?xx ?Dx ?o ?off ?d ?lo ?z ?m ?v ?_; (case C => exact ⟨by assumption, by assumption, by assumption, by assumption, by assumption, rfl, rfl, rfl, by (simp only [depth_mark, depth_deeper]; omega), by (simp only [units_mark, units_deeper]; omega)⟩); (case m => assumption); (case v => assumption); (case xx => simp only [depth_mark, depth_deeper, units_mark, units_deeper]; omega); (case Dx => exact ⟨by assumption, by assumption, by assumption⟩); (case o => exact ⟨by assumption, by assumption, by assumption, by assumption, by assumption⟩); (case off => assumption); (case d => assumption); (case lo => assumption); (case z => exact ⟨by assumption, by assumption⟩)); intro h1 h' tk' n' T1 F' N' B1 D1; (try dsimp only); (try k_sweep)))
local macro_rules | `(tactic| walk_at "call ref") => `(tactic| (k_here; (with_reducible show wpAny _ _ (call (Value.ref 78) _) _ _ _); refine wpAny_call ?_; k_dflt (refine' dget_x (base := ?bb) (A₀ := ?aa) ?C rfl ?xx ?Dx ?o ?off ?d ?lo ?z ?v ?_; (case C => exact ⟨by assumption, by assumption, by assumption, by assumption, by assumption, rfl, rfl, rfl, by (simp only [depth_mark, depth_deeper]; omega), by (simp only [units_mark, units_deeper]; omega)⟩); (case v => assumption); (case xx => simp only [depth_mark, depth_deeper, units_mark, units_deeper]; omega); (case Dx => exact ⟨by assumption, by assumption, by assumption⟩); (case o => exact ⟨by assumption, by assumption, by assumption, by assumption, by assumption⟩); (case off => assumption); (case d => assumption); (case lo => assumption); (case z => exact ⟨by assumption, by assumption⟩)); intro h1 h' tk' T1 F' N' B1 D1; (try dsimp only); (try k_sweep)))
local macro_rules | `(tactic| walk_at "call ref") => `(tactic| (k_here; (with_reducible show wpAny _ _ (call (Value.ref 86) _) _ _ _); refine wpAny_call ?_; k_dflt (refine' sdef_c (base := ?bb) (A₀ := ?aa) ?C rfl ?xx ?Dx ?o ?off ?d ?lo ?z ?m ?v ?_; (case C => exact ⟨by assumption, by assumption, by assumption, by assumption, by assumption, rfl, rfl, rfl, by (simp only [depth_mark, depth_deeper]; omega), by (simp only [units_mark, units_deeper]; omega)⟩); (case m => assumption); (case v => assumption); (case xx => simp only [depth_mark, depth_deeper, units_mark, units_deeper]; omega); (case Dx => exact ⟨by assumption, by assumption, by assumption⟩); (case o => exact ⟨by assumption, by assumption, by assumption, by assumption, by assumption⟩); (case off => assumption); (case d => assumption); (case lo => assumption); (case z => exact ⟨by assumption, by assumption⟩)); intro h1 h' tk' n' T1 F' N' B1 D1; (try dsimp only); (try k_sweep)))
local macro_rules | `(tactic| walk_at "call ref") => `(tactic| (k_here; (with_reducible show wpAny _ _ (call (Value.ref 86) _) _ _ _); refine wpAny_call ?_; k_dflt (refine' sdef_x (base := ?bb) (A₀ := ?aa) ?C rfl ?xx ?Dx ?o ?off ?d ?lo ?z ?m ?cp ?v ?_; (case C => exact ⟨by assumption, by assumption, by assumption, by assumption, by assumption, rfl, rfl, rfl, by (simp only [depth_mark, depth_deeper]; omega), by (simp only [units_mark, units_deeper]; omega)⟩); (case m => assumption); (case cp => assumption); (case v => assumption); (case xx => simp only [depth_mark, depth_deeper, units_mark, units_deeper]; omega); (case Dx => exact ⟨by assumption, by assumption, by assumption⟩); (case o => exact ⟨by assumption, by assumption, by assumption, by assumption, by assumption⟩); (case off => assumption); (case d => assumption); (case lo => assumption); (case z => exact ⟨by assumption, by assumption⟩)); intro h1 h' tk' n' od' T1 F' N' B1 D1 hd'; (try dsimp only); (try k_sweep)))
local macro_rules | `(tactic| walk_at "delItem ref str") => `(tactic| (k_here; k_dflt (refine' ksp_delItem ?F ?X ?I ?hq ?hs ?hf ?_; (case F => k_asm); (case X => k_asm); (case I => k_inst); (case hq => k_is); (case hs => k_is); (case hf => k_is))))
/-- a deed of the script on one cache: the queue, the mapping, what it tells -/
def tQ (dd : Int) (cap : Int) (ps : List (Str × Nat)) (kvs : List (Str × Value)) (key : Str) (t : Nat) : List (Str × Nat) :=
  if dd = 0 ∨ dd = 1 then setQ cap ps kvs key t else if dd = 2 then (if (valueAt kvs key).isSome = true then touchQ ps key t else ps)
  else if dd = 3 then (if (valueAt kvs key).isSome = true then touchQ ps key t else setQ cap ps kvs key t) else if dd = 4 then ps else (if (valueAt kvs key).isSome = true then rm ps key else ps)
def tM (dd : Int) (cap : Int) (ps : List (Str × Nat)) (kvs : List (Str × Value)) (key : Str) (v : Value) : List (Str × Value) :=
  if dd = 0 ∨ dd = 1 then setM cap ps kvs key v else if dd = 2 then kvs
  else if dd = 3 then (if (valueAt kvs key).isSome = true then kvs else setM cap ps kvs key v) else if dd = 4 then kvs else (if (valueAt kvs key).isSome = true then without kvs key else kvs)
def tV (dd : Int) (kvs : List (Str × Value)) (key : Str) (v : Value) : Value :=
  if dd = 0 ∨ dd = 1 then v else if dd = 2 then (valueAt kvs key).getD .none else if dd = 3 then (valueAt kvs key).getD v else .bool (valueAt kvs key).isSome
section
variable {prog : Program} {w : World} {A₀ A : Around} {base h₀ : Heap} {outer : List Env} {env : Env} {L : Addr} {m : Str → Option Value} {mean : ExcName → Option Value} {mg mb : Str → Option Value} {s : Shared} {rest : List (Addr × Obj)} {R : Result → Shared → Prop}
  {c cd dm dq lk ld u t1 t2 t3 t4 nq : Nat} {cap : Int} {od : Obj} {ps : List (Str × Nat)} {kvs : List (Str × Value)} {key : Str} {t : Tok} {v : Value}
set_option maxRecDepth 100000 in
set_option maxHeartbeats 8000000 in
theorem taken_c (C : Cx w A₀ A base h₀ outer env L m mean mg mb s.heap ((c, instObj 169 cd) :: (cd, cdObj w dm dq lk cap u t1 t2 t3 t4) :: (dm, od) :: (dq, listOf (svs ps) nq) :: (lk, instObj 45 ld) :: (ld, dictOf [] 0) :: rest))
    (hh : A.handled = none) (hx : A.depth < 430 ∧ A.units < 300) (Dx : Dx w base h₀ outer mean mg mb) (ho : cd < c ∧ c < dm ∧ dm < dq ∧ dq < ld ∧ ld < lk) (hoff : OwnOff rest [c, cd, dm, dq, lk, ld]) (hd : od.IsDictOf (strKind prog w) kvs) (lo : (dm == sysModules) = false)
    (hz : kvs.length ≤ 900 ∧ ps.length = kvs.length) {dd : Int} {td : Tok} (hdd : 0 ≤ dd ∧ dd < 6) (hm : Matches ps kvs) (cp : 1 ≤ cap)
    (h : ∀ h₀' h' tk n' od', KtsTurn (outer.filterMap (·.frame)) h₀ h₀' → Fr h₀' L h' m → News h₀' L h' ((c, instObj 169 cd) :: (cd, cdObj w dm dq lk cap u t1 t2 t3 t4) :: (dm, od') :: (dq, listOf (svs (tQ dd cap ps kvs key t)) n') :: (lk, instObj 45 ld) :: (ld, dictOf [] 0) :: rest) → Below A₀ base outer h₀' → KtsDicts (outer.filterMap (·.frame)) h₀' → od'.IsDictOf (strKind prog w) (tM dd cap ps kvs key v) → R (.ok (.ret (tV dd kvs key v))) { s with heap := h', toks := tk }) :
  codeAny (model prog w) A (.call (.ref 180) ⟨[.ref c, .int dd td, .str key t, v], []⟩) R s := by
  obtain ⟨hn, dp, fr, gd, un⟩ := A
  obtain ⟨B, F, X₀, N, T, hA, hf, hk, hd', hu⟩ := C
  dsimp only at hA hd' hu hh hx
  obtain ⟨x1, x2⟩ := hx
  subst hA hh
  obtain ⟨o1, o2, o3, o4, o5⟩ := ho
  obtain ⟨z1, z2⟩ := hz
  refine code_defM B F X₀ N T Dx.D rfl hf hk (by k_is) (by k_is) (by show dp < recursionLimit; unfold recursionLimit; omega) (by first | exact binds_K (by k_in) rfl (by k_is) rfl rfl rfl | exact BindsTo.of_eq rfl) (locs rfl) ?_ rfl rfl rfl (by decide)
  intro g' L' h' F' N' B' X' T' D'
  have XB := Dx.XB
  have TB := Dx.TB
  try dsimp only
  try k_fold
  rcases (by omega : dd = 0 ∨ dd = 1 ∨ dd = 2 ∨ dd = 3 ∨ dd = 4 ∨ dd = 5) with rfl | rfl | rfl | rfl | rfl | rfl
  all_goals cases hv : valueAt kvs key
  all_goals simp only [tQ, tM, tV, hv, Option.isSome_none, Option.isSome_some, Option.getD_none, Option.getD_some, eq_self, if_true, if_false, Bool.false_eq_true, true_or, or_true, or_self, or_false, false_or, Int.reduceEq, reduceCtorEq] at h
  all_goals k_steps
  all_goals first
    | ((try dsimp only); refine ⟨_, _, _, _, (by first | assumption | exact KtsTurn.refl), (by assumption), (by assumption), fun h1 T1 F1 N1 B1 D1 => ?_⟩; exact h h1 _ _ _ _ T1 F1 N1 B1 D1 (by assumption))
    | ((try dsimp only); rw [hv]; refine ⟨_, _, _, _, (by first | assumption | exact KtsTurn.refl), (by assumption), (by assumption), fun h1 T1 F1 N1 B1 D1 => ?_⟩; exact h h1 _ _ _ _ T1 F1 N1 B1 D1 (by assumption))
end
end
section
section
variable {prog : Program} {w : World} {A₀ A : Around} {base h₀ : Heap} {outer : List Env} {env : Env} {L : Addr} {m : Str → Option Value} {mean : ExcName → Option Value} {mg mb : Str → Option Value} {s : Shared} {rest : List (Addr × Obj)} {R : Result → Shared → Prop}
  {c cd dm dq lk ld u t1 t2 t3 t4 nq : Nat} {cap : Int} {od : Obj} {ps : List (Str × Nat)} {kvs : List (Str × Value)} {key : Str} {t : Tok} {v : Value}
theorem svs_rev (ps : List (Str × Nat)) {acc : Array Value} (h : ItemsOf (fun i v => (svs ps)[(svs ps).size - 1 - i]? = some v) acc (svs ps).size) : acc = svs ps.reverse := by
  obtain ⟨h1, h2⟩ := h
  apply Array.ext
  · rw [h1]; simp [svs]
  · intro i hi hi'
    have e := h2 i acc[i] (Array.getElem?_eq_getElem hi)
    have hs : (svs ps).size = ps.length := by simp [svs]
    rw [hs] at e h1
    have hlt : i < ps.length := by omega
    have e2 : (svs ps.reverse)[i]? = (svs ps)[ps.length - 1 - i]? := by
      simp only [svs, List.getElem?_toArray, List.getElem?_map, List.getElem?_reverse hlt]
    rw [← e2, Array.getElem?_eq_getElem hi'] at e
    exact (Option.some.inj e).symm
theorem svs_fwd (ps : List (Str × Nat)) {acc : Array Value} (h : ItemsOf (fun i v => (svs ps)[i]? = some v) acc (svs ps).size) : acc = svs ps := by
  obtain ⟨h1, h2⟩ := h
  apply Array.ext
  · exact h1
  · intro i hi hi'
    have e : (svs ps)[i]? = some acc[i] := h2 i acc[i] (Array.getElem?_eq_getElem hi)
    rw [Array.getElem?_eq_getElem hi'] at e
    exact (Option.some.inj e).symm
set_option maxRecDepth 100000 in
set_option maxHeartbeats 8000000 in
theorem list_c {Q : Value → Shared → Prop} {E : Value → Shared → Prop} (C : Cx w A₀ A base h₀ outer env L m mean mg mb s.heap ((c, instObj 169 cd) :: (cd, cdObj w dm dq lk cap u t1 t2 t3 t4) :: (dm, od) :: (dq, listOf (svs ps) nq) :: (lk, instObj 45 ld) :: (ld, dictOf [] 0) :: rest))
    (hh : A.handled = none) (hu2 : A.units < 900) (ho : cd < c ∧ c < dm ∧ dm < dq ∧ dq < ld ∧ ld < lk) (hd : od.IsDictOf (strKind prog w) kvs) (lo : (dm == sysModules) = false)
    (hz : kvs.length ≤ 900 ∧ ps.length = kvs.length)
    (h : ∀ h' tk (D : Nat) n, Fr h₀ L h' m → News h₀ L h' ((D, listOf (svs ps.reverse) n) :: (c, instObj 169 cd) :: (cd, cdObj w dm dq lk cap u t1 t2 t3 t4) :: (dm, od) :: (dq, listOf (svs ps) nq) :: (lk, instObj 45 ld) :: (ld, dictOf [] 0) :: rest) →
      (∀ p ∈ ((c, instObj 169 cd) :: (cd, cdObj w dm dq lk cap u t1 t2 t3 t4) :: (dm, od) :: (dq, listOf (svs ps) nq) :: (lk, instObj 45 ld) :: (ld, dictOf [] 0) :: rest), p.1 < D) → Q (.ref D) { s with heap := h', toks := tk }) :
    wpAny (model prog w) A (call (.type "list") [.ref c]) Q E s := by
  have hN := C.N
  have hlt : ∀ p ∈ ((c, instObj 169 cd) :: (cd, cdObj w dm dq lk cap u t1 t2 t3 t4) :: (dm, od) :: (dq, listOf (svs ps) nq) :: (lk, instObj 45 ld) :: (ld, dictOf [] 0) :: rest), p.1 < s.heap.objs.size := fun p hp => Heap.lt_size (hN p hp).1
  refine callType_codes (Q₁ := fun obj s₁ => obj = .ref s.heap.objs.size ∧ s₁ = { s with heap := s.heap.push { cls := .type "list", data := .seq #[] } }) PySem.F.called_list (PySem.F.typeCall_list_1 _) PySem.F.entry_list_init
    (code_list_new _ ⟨rfl, rfl⟩) fun obj s₁ h₁ => ?_
  obtain ⟨rfl, rfl⟩ := h₁
  have F₁ := C.F.push (listOf #[] 0)
  have N₁ := hN.push C.F (listOf #[] 0)
  revert F₁ N₁ hlt
  generalize hS : s.heap.objs.size = S
  intro hlt F₁ N₁
  have hSc : c < S := hlt _ (.head _)
  refine ⟨⟨_, (N₁ _ (.head _)).1, rfl⟩, PySem.F.args_list_init_2 _ _, ?_⟩
  show wpAny _ A.in1.in1 (do let old ← Builtin.List.listItems (.ref S); Builtin.List.listUpdate (.ref S) (fun _ => #[]); letGo old.toList.reverse; Builtin.List.listExtendWith (.ref S) (.ref c) .none) _ _ _
  refine wpAny_bind ?_
  unfold Builtin.List.listItems
  refine wpAny_bind (wpAny_seqItems (N₁ _ (.head _)).1 rfl (wpAny_pure ?_))
  show wpAny _ _ (updateSeq S (fun _ => #[]) >>= fun _ => letGo (#[] : Array Value).toList.reverse >>= fun _ => Builtin.List.listExtendWith (.ref S) (.ref c) .none) _ _ _
  refine wpAny_bind (wpAny_updateSeq (N₁ _ (.head _)).1 rfl ?_)
  refine wpAny_bind (wpAny_letGo ?_)
  have U : UpdF S (listOf #[] 0) ((S, listOf #[] 0) :: (c, instObj 169 cd) :: (cd, cdObj w dm dq lk cap u t1 t2 t3 t4) :: (dm, od) :: (dq, listOf (svs ps) nq) :: (lk, instObj 45 ld) :: (ld, dictOf [] 0) :: rest) _ := .head fun p hp => Nat.ne_of_lt (hlt p hp)
  obtain ⟨n₂, F₂, N₂⟩ := news_list (fun _ => #[]) F₁ N₁ U (its' := #[]) rfl
  revert F₂ N₂
  generalize ((s.heap.push (listOf #[] 0)).update S (Obj.mapSeq fun _ => #[])) = H₂
  intro F₂ N₂
  dsimp only at N₂ ⊢
  obtain ⟨o1, o2, o3, o4, o5⟩ := id ho
  have hI : InstAt H₂ c (instObj 169 cd) 169 (some (cdObj w dm dq lk cap u t1 t2 t3 t4)) := InstAt.of_news N₂ (.tail _ (.head _)) (.tail _ (.tail _ (.head _)))
  have hX := C.X.keeps F₂.keep
  unfold Builtin.List.listExtendWith
  refine wpAny_bind (hI.type.here ?_)
  have hc1 : (Builtin.List.listSameRef (.ref S) (.ref c) || (Value.ref 169 == Value.type "list") || (Value.ref 169 == Value.type "tuple")) = false := by
    have : (S == c) = false := by simpa using Nat.ne_of_gt hSc
    simp [Builtin.List.listSameRef, this]
  rw [if_neg (by rw [hc1]; exact Bool.false_ne_true)]
  refine wpAny_bind (owit_iter (K := Mine.hd.heap_39 w.params) (f := 159) F₂ C.X hI (by k_is) (by k_is) (wpAny_call ?_))
  have C₂ : Cx w A₀ A.in1.in1 base h₀ outer env L m mean mg mb H₂ ((c, instObj 169 cd) :: (cd, cdObj w dm dq lk cap u t1 t2 t3 t4) :: (dm, od) :: (dq, listOf (svs ps) nq) :: (lk, instObj 45 ld) :: (ld, dictOf [] 0) :: (S, listOf #[] n₂) :: rest) :=
    ⟨C.B, F₂, C.X, fun p hp => N₂ p (by simp only [List.mem_cons] at hp ⊢; rcases hp with h | h | h | h | h | h | h | h <;> simp only [h, true_or, or_true]), C.T, C.hA, C.hf, C.hk, C.hd, by show A.units + 1 + 1 < 1000; omega⟩
  refine iter_c (s := { s with heap := H₂ }) C₂ ho hd lo hz fun h₃ tk₃ I T F₃ N₃ l1 l2 => ?_
  dsimp only at F₃ N₃ ⊢
  unfold OwitIt
  have hRT : Shared.TypeIs { s with heap := h₃, toks := tk₃ } (.ref I) "reversed" := ⟨_, (N₃ _ (.head _)).1, rfl⟩
  refine wpAny_specialOf hRT slot_rv_next.lookup ?_
  dsimp only
  refine wpAny_bind (wpAny_holding ?_)
  have hI₃ : InstAt h₃ c (instObj 169 cd) 169 (some (cdObj w dm dq lk cap u t1 t2 t3 t4)) := InstAt.of_news N₃ (by simp) (by simp)
  have hX₃ := C.X.keeps F₃.keep
  unfold Builtin.List.listLengthHint
  refine wpAny_bind (wpAny_bind (hI₃.type.here ((looks_findIn hX₃ (t := .ref 169) (name := Str.ofString "__len__") (r := some (.ref 107)) (by k_is)).here ?_)))
  show wpAny _ _ (rule "list.length-hint.len" >>= fun _ => (call (.builtin "len") [.ref c]).attempt >>= _) _ _ _
  refine wpAny_bind (wpAny_rule ?_)
  refine wpAny_bind (wpAny_attempt (PySem.W.len_K (K := Mine.hd.heap_39 w.params) (f := 107) F₃ C.X hI₃ (by k_is) (by k_is) (wpAny_call ?_)))
  have l3 : ∀ b ∈ [c, cd, dm, dq, lk, ld], b < T := by
    intro b hb
    simp only [List.mem_cons, List.mem_nil_iff, or_false] at hb
    have q1 := l2 (c, instObj 169 cd) (by simp)
    have q2 := l2 (cd, cdObj w dm dq lk cap u t1 t2 t3 t4) (by simp)
    have q3 := l2 (dm, od) (by simp)
    have q4 := l2 (dq, listOf (svs ps) nq) (by simp)
    have q5 := l2 (lk, instObj 45 ld) (by simp)
    have q6 := l2 (ld, dictOf [] 0) (by simp)
    rcases hb with rfl | rfl | rfl | rfl | rfl | rfl <;> assumption
  have hST : S < T := l2 (S, listOf #[] n₂) (by simp)
  have C₃ : Cx w A₀ A.in1.in1.in1 base h₀ outer env L m mean mg mb h₃ ((c, instObj 169 cd) :: (cd, cdObj w dm dq lk cap u t1 t2 t3 t4) :: (dm, od) :: (dq, listOf (svs ps) nq) :: (lk, instObj 45 ld) :: (ld, dictOf [] 0) :: (I, rvObj T ((ps.length : Int) - 1)) :: (T, tupOf (svs ps)) :: (S, listOf #[] n₂) :: rest) :=
    ⟨C.B, F₃, C.X, fun p hp => N₃ p (by simp only [List.mem_cons] at hp ⊢; rcases hp with h | h | h | h | h | h | h | h | h | h <;> simp only [h, true_or, or_true]), C.T, C.hA, C.hf, C.hk, C.hd, by show A.units + 1 + 1 + 1 < 1000; omega⟩
  refine len_r (s := { s with heap := h₃, toks := tk₃ }) C₃ ho hd lo hz fun h₄ tk₄ tk₄' F₄ N₄ => ?_
  dsimp only [PySem.W.LenBack] at F₄ N₄ ⊢
  refine ⟨⟨by omega, by omega⟩, ?_⟩
  refine wpAny_bind (wpAny_of_eq (a := some (kvs.length : Int)) rfl ?_)
  dsimp only
  have htl : Builtin.List.listTooLong (Int.toNat (kvs.length : Int)) = false := by
    simp [Builtin.List.listTooLong, sizeLine_eq]; omega
  rw [if_neg (by rw [htl]; exact Bool.false_ne_true)]
  refine wpAny_pure ?_
  -- the loop that fills the list
  have loop : ∀ (H : Heap) (tk n : Nat), Fr h₀ L H m → News h₀ L H ((S, listOf #[] n) :: (I, rvObj T ((ps.length : Int) - 1)) :: (T, tupOf (svs ps)) :: (c, instObj 169 cd) :: (cd, cdObj w dm dq lk cap u t1 t2 t3 t4) :: (dm, od) :: (dq, listOf (svs ps) nq) :: (lk, instObj 45 ld) :: (ld, dictOf [] 0) :: rest) →
      codeAny (model prog w) A.in1 (.builtin "list.extend.loop" ⟨[.ref S, .ref I, .none], []⟩) (wants (fun r s₂ => r = Value.none ∧ Q (Value.ref S) s₂) E) { s with heap := H, toks := tk } := by
    intro H tk n F N
    have W := (rv_walks (prog := prog) (w := w) (A := A.in1.in1) hh I T (Nat.ne_of_lt l1) (svs ps) (by simp [svs]; omega)).toS
    have hs : (svs ps).size = ps.length := by simp [svs]
    have hsi : (svs ps).size ≤ sizeLine := by rw [hs, sizeLine_eq]; omega
    have hSf : S ∉ [I, T] := by
      intro hm
      simp only [List.mem_cons, List.mem_nil_iff, or_false] at hm
      rcases hm with e | e <;> omega
    have hst : (0 ≤ (svs ps).size ∧ IsRv H I T (((svs ps).size : Int) - 1 - ((0 : Nat) : Int)) ∧ IsTup H T (svs ps)) := by
      refine ⟨Nat.zero_le _, ⟨_, (N _ (.tail _ (.head _))).1, rfl, ?_⟩, ⟨_, (N _ (.tail _ (.tail _ (.head _)))).1, rfl, 0, rfl⟩⟩
      rw [hs]; simp
    refine codeAny_extend_loopS W hsi S hSf .none (svs ps).size 0 { s with heap := H, toks := tk } #[] n rfl (Nat.zero_le _) hst (N _ (.head _)).1 (ItemsOf.nil _) fun s' acc' c' hm hS' hacc => ?_
    have hacc' := svs_rev ps hacc
    subst hacc'
    rw [Moved.eq_with hm]
    refine ⟨rfl, h _ _ S c' (fr_moved F N hm.heap ?_) ?_ hlt⟩
    · intro b hb
      simp only [List.mem_cons, List.mem_nil_iff, or_false] at hb
      rcases hb with rfl | rfl
      · exact ⟨_, .head _⟩
      · exact ⟨_, .tail _ (.head _)⟩
    · intro p hp
      rcases List.mem_cons.mp hp with rfl | hp
      · exact ⟨hS', (N (S, listOf #[] n) (.head _)).2⟩
      · refine news_moved (fun p hp => N p (by simp only [List.mem_cons] at hp ⊢; rcases hp with h | h | h | h | h | h | h <;> simp only [h, true_or, or_true])) hm.heap ?_ p hp
        intro q hq hqm
        have q1 : @LT.lt Nat _ q.1 S := hlt q hq
        simp only [List.mem_cons, List.mem_nil_iff, or_false] at hqm
        rcases hqm with e | e
        · exact absurd e (Nat.ne_of_lt q1)
        · exact absurd e (Nat.ne_of_lt (Nat.lt_trans q1 (Nat.lt_trans hST l1)))
  have N₅ : News h₀ L h₄ ((S, listOf #[] n₂) :: (I, rvObj T ((ps.length : Int) - 1)) :: (T, tupOf (svs ps)) :: (c, instObj 169 cd) :: (cd, cdObj w dm dq lk cap u t1 t2 t3 t4) :: (dm, od) :: (dq, listOf (svs ps) nq) :: (lk, instObj 45 ld) :: (ld, dictOf [] 0) :: rest) :=
    fun p hp => N₄ p (by simp only [List.mem_cons] at hp ⊢; rcases hp with h | h | h | h | h | h | h | h | h | h <;> simp only [h, true_or, or_true])
  have offS : ∀ p ∈ ((I, rvObj T ((ps.length : Int) - 1)) :: (T, tupOf (svs ps)) :: (c, instObj 169 cd) :: (cd, cdObj w dm dq lk cap u t1 t2 t3 t4) :: (dm, od) :: (dq, listOf (svs ps) nq) :: (lk, instObj 45 ld) :: (ld, dictOf [] 0) :: rest), p.1 ≠ S := by
    intro p hp
    rcases List.mem_cons.mp hp with rfl | hp
    · exact Nat.ne_of_gt (Nat.lt_trans hST l1)
    · rcases List.mem_cons.mp hp with rfl | hp
      · exact Nat.ne_of_gt hST
      · exact Nat.ne_of_lt (hlt p hp)
  have U₅ : UpdF S (listOf #[] n₂) ((S, listOf #[] n₂) :: ((I, rvObj T ((ps.length : Int) - 1)) :: (T, tupOf (svs ps)) :: (c, instObj 169 cd) :: (cd, cdObj w dm dq lk cap u t1 t2 t3 t4) :: (dm, od) :: (dq, listOf (svs ps) nq) :: (lk, instObj 45 ld) :: (ld, dictOf [] 0) :: rest)) _ := .head offS
  split
  · refine wpAny_bind (wpAny_rule ?_)
    refine wpAny_bind ?_
    show wpAny _ _ (updateSeq S (·.push .none) >>= fun _ => updateSeq S (·.pop)) _ _ _
    obtain ⟨n₆, F₆, N₆⟩ := news_list (fun xs => xs.push .none) F₄ N₅ U₅ (its' := #[.none]) rfl
    refine wpAny_bind (wpAny_updateSeq (f := (·.push .none)) (N₅ _ (.head _)).1 rfl ?_)
    have U₆ : UpdF S (listOf #[.none] n₆) ((S, listOf #[.none] n₆) :: ((I, rvObj T ((ps.length : Int) - 1)) :: (T, tupOf (svs ps)) :: (c, instObj 169 cd) :: (cd, cdObj w dm dq lk cap u t1 t2 t3 t4) :: (dm, od) :: (dq, listOf (svs ps) nq) :: (lk, instObj 45 ld) :: (ld, dictOf [] 0) :: rest)) _ := .head offS
    obtain ⟨n₇, F₇, N₇⟩ := news_list (fun xs => xs.pop) F₆ N₆ U₆ (its' := #[]) rfl
    refine wpAny_updateSeq (f := (·.pop)) (N₆ _ (.head _)).1 rfl ?_
    exact wpAny_pure ⟨plainId_quiet PySem.F.plain_extend_loop _, loop _ _ n₇ F₇ N₇⟩
  · exact wpAny_pure ⟨plainId_quiet PySem.F.plain_extend_loop _, loop _ _ n₂ F₄ N₅⟩
end
end
section
local macro_rules | `(tactic| walk_at "call type:list") => `(tactic| (k_here; (with_reducible show wpAny _ _ (call (Value.type "list") [Value.ref _]) _ _ _); k_dflt (refine' list_c (base := ?bb) (A₀ := ?aa) ?C rfl ?u ?o ?d ?lo ?z ?_; (case C => exact ⟨by assumption, by assumption, by assumption, by assumption, by assumption, rfl, rfl, rfl, by (rw [depth_deeper]; dsimp only; omega), by (rw [units_deeper]; dsimp only; omega)⟩); (case u => rw [units_deeper]; dsimp only; omega); (case o => exact ⟨by assumption, by assumption, by assumption, by assumption, by assumption⟩); (case d => assumption); (case lo => assumption); (case z => exact ⟨by assumption, by assumption⟩)); intro h' tk' D' n' F' N' l1; (try k_sweep)))
section
variable {prog : Program} {w : World} {A₀ A : Around} {base h₀ : Heap} {outer : List Env} {env : Env} {L : Addr} {m : Str → Option Value} {mean : ExcName → Option Value} {mg mb : Str → Option Value} {s : Shared} {rest : List (Addr × Obj)} {R : Result → Shared → Prop}
  {c cd dm dq lk ld u t1 t2 t3 t4 nq : Nat} {cap : Int} {od : Obj} {ps : List (Str × Nat)} {kvs : List (Str × Value)} {key : Str} {t : Tok} {v : Value}
theorem sub_ti_reversed : isSubtype (.type "tuple_iterator") (.type "reversed") = pure false := by rw [isSubtype_type]; kernel_rfl
set_option maxRecDepth 100000 in
set_option maxHeartbeats 8000000 in
theorem revd_call {Q : Value → Shared → Prop} {E : Value → Shared → Prop} (C : Cx w A₀ A base h₀ outer env L m mean mg mb s.heap ((c, instObj 169 cd) :: (cd, cdObj w dm dq lk cap u t1 t2 t3 t4) :: (dm, od) :: (dq, listOf (svs ps) nq) :: (lk, instObj 45 ld) :: (ld, dictOf [] 0) :: rest))
    (hu2 : A.units < 900) (ho : cd < c ∧ c < dm ∧ dm < dq ∧ dq < ld ∧ ld < lk) (hd : od.IsDictOf (strKind prog w) kvs) (lo : (dm == sysModules) = false)
    (hz : kvs.length ≤ 900 ∧ ps.length = kvs.length)
    (h : ∀ h' tk (I T : Nat), Fr h₀ L h' m → News h₀ L h' ((I, ({ cls := .type "tuple_iterator", data := .fields #[.ref T, .int 0 0] } : Obj)) :: (T, tupOf (svs ps)) :: ((c, instObj 169 cd) :: (cd, cdObj w dm dq lk cap u t1 t2 t3 t4) :: (dm, od) :: (dq, listOf (svs ps) nq) :: (lk, instObj 45 ld) :: (ld, dictOf [] 0) :: rest)) → T < I →
      (∀ p ∈ ((c, instObj 169 cd) :: (cd, cdObj w dm dq lk cap u t1 t2 t3 t4) :: (dm, od) :: (dq, listOf (svs ps) nq) :: (lk, instObj 45 ld) :: (ld, dictOf [] 0) :: rest), p.1 < T) → Q (.ref I) { s with heap := h', toks := tk }) :
    wpAny (model prog w) A (call (.type "reversed") [.ref c]) Q E s := by
  have hI : InstAt s.heap c (instObj 169 cd) 169 (some (cdObj w dm dq lk cap u t1 t2 t3 t4)) := InstAt.of_news C.N (.head _) (.tail _ (.head _))
  have hX := C.X.keeps C.F.keep
  refine callType_other (U := "tuple_iterator") (Q₁ := fun obj s₁ => s₁.TypeIs obj "tuple_iterator" ∧ Q obj s₁) (by decide +kernel) PySem.F.create_reversed ⟨_, _, PySem.F.mro_reversed⟩ PySem.F.made_reversed sub_ti_reversed (PySem.F.typeCall_reversed_1 _) ?_ (fun _ _ h => h)
  refine codeAny_of_tree ?_
  show wpAny _ A.in1.in1 (do checkBuiltinCall "reversed.__new__" ⟨[.type "reversed", .ref c], []⟩; again (.builtin "reversed.__new__" ⟨[.type "reversed", .ref c], []⟩)) _ _ s
  refine wpAny_bind (wpAny_of_eq (PySem.F.newCall_reversed_1 _) (wpAny_pure ⟨plainId_quiet PySem.F.plain_reversed_new _, codeAny_builtin PySem.F.entry_reversed_new ?_⟩))
  rw [Around.under_plainId PySem.F.plain_reversed_new _]
  unfold Builtin.«reversed.__new__»
  refine wpAny_bind (wpAny_of_eq (newClass_reversed _) ?_)
  try dsimp only
  refine wpAny_bind (wpAny_of_eq (a := ()) (by first | rfl | kernel_rfl) ?_)
  refine wpAny_bind (wpAny_of_eq (a := ()) (by first | rfl | kernel_rfl) ?_)
  try dsimp only
  refine wpAny_bind (wpAny_bind (hI.type.here ((looks_findIn hX (t := .ref 169) (name := Str.ofString "__reversed__") (r := some (.ref 166)) (by k_is)).here ?_)))
  dsimp only
  refine wpAny_bind ((bind_fn hX _ (beq_iff_eq.mp (by k_is : isFn (Mine.hd.heap_39 w.params) (.ref 166) = true))).here ?_)
  dsimp only
  rw [if_neg (show ¬ ((Value.ref 166 == Value.none) = true) from Bool.false_ne_true)]
  refine wpAny_bind (wpAny_rule ?_)
  refine wpAny_bind (m := runValue (.call (.ref 166) ⟨[.ref c], []⟩)) (show wpAny _ _ (call (.ref 166) [.ref c]) _ _ _ from wpAny_call ?_)
  have C₂ : Cx w A₀ A.in1.in1 base h₀ outer env L m mean mg mb s.heap ((c, instObj 169 cd) :: (cd, cdObj w dm dq lk cap u t1 t2 t3 t4) :: (dm, od) :: (dq, listOf (svs ps) nq) :: (lk, instObj 45 ld) :: (ld, dictOf [] 0) :: rest) :=
    ⟨C.B, C.F, C.X, C.N, C.T, C.hA, C.hf, C.hk, C.hd, by show A.units + 1 + 1 < 1000; omega⟩
  refine revd_c C₂ ho hd lo hz fun h₃ tk₃ I T F₃ N₃ l1 l2 => ?_
  refine wpAny_pure ⟨⟨_, (N₃ _ (.head _)).1, rfl⟩, h _ _ _ _ F₃ N₃ l1 l2⟩

theorem sub_ti_self : isSubtype (.type "tuple_iterator") (.type "tuple_iterator") = pure true := by rw [isSubtype_type]; kernel_rfl
set_option maxRecDepth 100000 in
set_option maxHeartbeats 8000000 in
/-- list(it), it an iterator over a tuple of keys -/
theorem list_ti {Q : Value → Shared → Prop} {E : Value → Shared → Prop} {I T : Nat} {news : List (Addr × Obj)} (hh : A.handled = none) (F : Fr h₀ L s.heap m) (N : News h₀ L s.heap ((I, ({ cls := .type "tuple_iterator", data := .fields #[.ref T, .int 0 0] } : Obj)) :: (T, tupOf (svs ps)) :: news)) (l1 : T < I) (l2 : ∀ p ∈ news, p.1 < T)
    (hz : ps.length ≤ 900)
    (h : ∀ h' tk (D : Nat) n, Fr h₀ L h' m → News h₀ L h' ((D, listOf (svs ps) n) :: news) → (∀ p ∈ news, p.1 < D) → Q (.ref D) { s with heap := h', toks := tk }) :
    wpAny (model prog w) A (call (.type "list") [.ref I]) Q E s := by
  have hlt : I < s.heap.objs.size := Heap.lt_size (N _ (.head _)).1
  refine callType_codes (Q₁ := fun obj s₁ => obj = .ref s.heap.objs.size ∧ s₁ = { s with heap := s.heap.push { cls := .type "list", data := .seq #[] } }) PySem.F.called_list (PySem.F.typeCall_list_1 _) PySem.F.entry_list_init
    (code_list_new _ ⟨rfl, rfl⟩) fun obj s₁ h₁ => ?_
  obtain ⟨rfl, rfl⟩ := h₁
  have F₁ := F.push (listOf #[] 0)
  have N₁ := N.push F (listOf #[] 0)
  revert F₁ N₁ hlt
  generalize hS : s.heap.objs.size = S
  intro hlt F₁ N₁
  refine ⟨⟨_, (N₁ _ (.head _)).1, rfl⟩, PySem.F.args_list_init_2 _ _, ?_⟩
  show wpAny _ A.in1.in1 (do let old ← Builtin.List.listItems (.ref S); Builtin.List.listUpdate (.ref S) (fun _ => #[]); letGo old.toList.reverse; Builtin.List.listExtendWith (.ref S) (.ref I) .none) _ _ _
  refine wpAny_bind ?_
  unfold Builtin.List.listItems
  refine wpAny_bind (wpAny_seqItems (N₁ _ (.head _)).1 rfl (wpAny_pure ?_))
  show wpAny _ _ (updateSeq S (fun _ => #[]) >>= fun _ => letGo (#[] : Array Value).toList.reverse >>= fun _ => Builtin.List.listExtendWith (.ref S) (.ref I) .none) _ _ _
  refine wpAny_bind (wpAny_updateSeq (N₁ _ (.head _)).1 rfl ?_)
  refine wpAny_bind (wpAny_letGo ?_)
  have offS : ∀ p ∈ ((I, ({ cls := .type "tuple_iterator", data := .fields #[.ref T, .int 0 0] } : Obj)) :: (T, tupOf (svs ps)) :: news), p.1 ≠ S := by
    intro p hp
    rcases List.mem_cons.mp hp with rfl | hp
    · exact Nat.ne_of_lt hlt
    · rcases List.mem_cons.mp hp with rfl | hp
      · exact Nat.ne_of_lt (Nat.lt_trans l1 hlt)
      · exact Nat.ne_of_lt (Nat.lt_trans (l2 p hp) (Nat.lt_trans l1 hlt))
  have U : UpdF S (listOf #[] 0) ((S, listOf #[] 0) :: (I, ({ cls := .type "tuple_iterator", data := .fields #[.ref T, .int 0 0] } : Obj)) :: (T, tupOf (svs ps)) :: news) _ := .head offS
  obtain ⟨n₂, F₂, N₂⟩ := news_list (fun _ => #[]) F₁ N₁ U (its' := #[]) rfl
  revert F₂ N₂
  generalize ((s.heap.push (listOf #[] 0)).update S (Obj.mapSeq fun _ => #[])) = H
  intro F₂ N₂
  dsimp only at N₂ ⊢
  have hT : Shared.TypeIs { s with heap := H } (.ref I) "tuple_iterator" := ⟨_, (N₂ _ (.tail _ (.head _))).1, rfl⟩
  unfold Builtin.List.listExtendWith
  refine wpAny_bind (wpAny_typeOf hT ?_)
  have hc1 : (Builtin.List.listSameRef (.ref S) (.ref I) || (Value.type "tuple_iterator" == Value.type "list") || (Value.type "tuple_iterator" == Value.type "tuple")) = false := by
    have : (S == I) = false := by simpa using Nat.ne_of_gt hlt
    have h2 : (Value.type "tuple_iterator" == Value.type "list") = false := by decide
    have h3 : (Value.type "tuple_iterator" == Value.type "tuple") = false := by decide
    simp [Builtin.List.listSameRef, this, h2, h3]
  rw [if_neg (by rw [hc1]; exact Bool.false_ne_true)]
  have hit : H.IsTupleIter I T 0 := ⟨_, (N₂ _ (.tail _ (.head _))).1, rfl, rfl⟩
  have htu : H.IsTuple T (svs ps) := ⟨_, (N₂ _ (.tail _ (.tail _ (.head _)))).1, rfl, 0, rfl⟩
  refine wpAny_bind (wpAny_pyIter_tupleiter hit ?_)
  refine wpAny_bind (wpAny_holding ?_)
  unfold Builtin.List.listLengthHint
  refine wpAny_bind (wpAny_specialOf hT PySem.F.nolen_tu ?_)
  show wpAny _ _ (specialOf (Value.ref I) (Str.ofString "__length_hint__") >>= _) _ _ _
  refine wpAny_bind (wpAny_specialOf hT PySem.F.hint_tu ?_)
  generalize hid : ("tuple_iterator.__length_hint__" : String) = id0
  fail_if_success (clear hid id0)
  wp_delta
  rw [show splitId id0 = some ("tuple_iterator", "__length_hint__") from by subst hid; decide +kernel]
  subst hid
  refine wpAny_bind (wpAny_isInstance (b := true) hT sub_ti_self ?_)
  refine wpAny_pure ?_
  rw [if_neg (by decide)]
  have W := (Walks.tuple (prog := prog) (w := w) (A := A.in1.in1) hh I T (Nat.ne_of_lt l1) (svs ps)).toS
  have hs : (svs ps).size = ps.length := by simp [svs]
  have hsi : (svs ps).size ≤ sizeLine := by rw [hs, sizeLine_eq]; omega
  have hSf : S ∉ [I, T] := by
    intro hm
    simp only [List.mem_cons, List.mem_nil_iff, or_false] at hm
    rcases hm with e | e <;> omega
  refine wpAny_pure ⟨plainId_quiet PySem.F.plain_extend_loop _, codeAny_extend_loopS W hsi S hSf .none (svs ps).size 0 _ #[] n₂ rfl (Nat.zero_le _) ⟨hit, htu⟩ (N₂ _ (.head _)).1 (ItemsOf.nil _) fun s' acc' c' hm hS' hacc => ?_⟩
  have hacc' := svs_fwd ps hacc
  subst hacc'
  rw [Moved.eq_with hm]
  refine ⟨rfl, h _ _ S c' (fr_moved F₂ N₂ hm.heap ?_) ?_ fun p hp => Nat.lt_trans (l2 p hp) (Nat.lt_trans l1 hlt)⟩
  · intro b hb
    simp only [List.mem_cons, List.mem_nil_iff, or_false] at hb
    rcases hb with rfl | rfl
    · exact ⟨_, .head _⟩
    · exact ⟨_, .tail _ (.head _)⟩
  · intro p hp
    rcases List.mem_cons.mp hp with rfl | hp
    · exact ⟨hS', (N₂ (S, listOf #[] n₂) (.head _)).2⟩
    · refine news_moved (fun p hp => N₂ p (.tail _ (.tail _ (.tail _ hp)))) hm.heap ?_ p hp
      intro q hq hqm
      have q1 : @LT.lt Nat _ q.1 T := l2 q hq
      simp only [List.mem_cons, List.mem_nil_iff, or_false] at hqm
      rcases hqm with e | e
      · exact absurd e (Nat.ne_of_lt (Nat.lt_trans q1 (Nat.lt_trans l1 hlt)))
      · exact absurd e (Nat.ne_of_lt (Nat.lt_trans q1 l1))
end
end
section
local macro_rules | `(tactic| walk_at "idle line 0") => `(tactic| fail)
local macro_rules | `(tactic| walk_at "call type:list") => `(tactic| (k_here; (with_reducible show wpAny _ _ (call (Value.type "list") [Value.ref _]) _ _ _); k_dflt (refine' list_c (base := ?bb) (A₀ := ?aa) ?C rfl ?u ?o ?d ?lo ?z ?_; (case C => exact ⟨by assumption, by assumption, by assumption, by assumption, by assumption, rfl, rfl, rfl, by (rw [depth_deeper]; dsimp only; omega), by (rw [units_deeper]; dsimp only; omega)⟩); (case u => rw [units_deeper]; dsimp only; omega); (case o => exact ⟨by assumption, by assumption, by assumption, by assumption, by assumption⟩); (case d => assumption); (case lo => assumption); (case z => exact ⟨by assumption, by assumption⟩)); intro h' tk' D' n' F' N' l1; (try k_sweep)))
section
variable {prog : Program} {w : World} {A₀ A : Around} {base h₀ : Heap} {outer : List Env} {env : Env} {L : Addr} {m : Str → Option Value} {mean : ExcName → Option Value} {mg mb : Str → Option Value} {s : Shared} {rest : List (Addr × Obj)} {R : Result → Shared → Prop}
  {c cd dm dq lk ld u t1 t2 t3 t4 nq : Nat} {cap : Int} {od : Obj} {ps : List (Str × Nat)} {kvs : List (Str × Value)} {key : Str} {t : Tok} {v : Value}
set_option maxRecDepth 100000 in
set_option maxHeartbeats 8000000 in
theorem keys_c (C : Cx w A₀ A base h₀ outer env L m mean mg mb s.heap ((c, instObj 169 cd) :: (cd, cdObj w dm dq lk cap u t1 t2 t3 t4) :: (dm, od) :: (dq, listOf (svs ps) nq) :: (lk, instObj 45 ld) :: (ld, dictOf [] 0) :: rest))
    (hh : A.handled = none) (ho : cd < c ∧ c < dm ∧ dm < dq ∧ dq < ld ∧ ld < lk) (hd : od.IsDictOf (strKind prog w) kvs) (lo : (dm == sysModules) = false)
    (hz : kvs.length ≤ 900 ∧ ps.length = kvs.length) (hx : A.depth < 450 ∧ A.units < 500)
    (h : ∀ h' tk (D : Nat) n, Fr h₀ L h' m → News h₀ L h' ((D, listOf (svs ps.reverse) n) :: ((c, instObj 169 cd) :: (cd, cdObj w dm dq lk cap u t1 t2 t3 t4) :: (dm, od) :: (dq, listOf (svs ps) nq) :: (lk, instObj 45 ld) :: (ld, dictOf [] 0) :: rest)) → (∀ p ∈ ((c, instObj 169 cd) :: (cd, cdObj w dm dq lk cap u t1 t2 t3 t4) :: (dm, od) :: (dq, listOf (svs ps) nq) :: (lk, instObj 45 ld) :: (ld, dictOf [] 0) :: rest), p.1 < D) → R (.ok (.ret (.ref D))) { s with heap := h', toks := tk }) :
  codeAny (model prog w) A (.call (.ref 152) ⟨[.ref c], []⟩) R s := by
  obtain ⟨hn, dp, fr, gd, un⟩ := A
  obtain ⟨B, F, X₀, N, T, hA, hf, hk, hd', hu⟩ := C
  dsimp only at hA hd' hu hh hx
  obtain ⟨x1, x2⟩ := hx
  subst hA hh
  obtain ⟨o1, o2, o3, o4, o5⟩ := ho
  obtain ⟨z1, z2⟩ := hz
  refine code_def B F X₀ N T rfl hf hk (by k_is) (by k_is) (by show dp < recursionLimit; unfold recursionLimit; omega) (BindsTo.of_eq rfl) (locs rfl) ?_ rfl rfl rfl (by decide)
  intro g' L' h' FG' F' N' B' X' T'
  try dsimp only
  try k_fold
  k_steps
  all_goals first
    | exact h _ _ _ _ (by assumption) (by assumption) (by assumption)
end
end
section
local macro_rules | `(tactic| walk_at "idle line 0") => `(tactic| fail)
local macro_rules | `(tactic| walk_at "idle line 1") => `(tactic| fail)
local macro_rules | `(tactic| walk_at "call type:list") => `(tactic| (k_here; (with_reducible show wpAny _ _ (call (Value.type "list") [Value.ref _]) _ _ _); k_dflt (refine' list_c (base := ?bb) (A₀ := ?aa) ?C rfl ?u ?o ?d ?lo ?z ?_; (case C => exact ⟨by assumption, by assumption, by assumption, by assumption, by assumption, rfl, rfl, rfl, by (rw [depth_deeper]; dsimp only; omega), by (rw [units_deeper]; dsimp only; omega)⟩); (case u => rw [units_deeper]; dsimp only; omega); (case o => exact ⟨by assumption, by assumption, by assumption, by assumption, by assumption⟩); (case d => assumption); (case lo => assumption); (case z => exact ⟨by assumption, by assumption⟩)); intro h' tk' D' n' F' N' l1; (try k_sweep)))
section
variable {prog : Program} {w : World} {A₀ A : Around} {base h₀ : Heap} {outer : List Env} {env : Env} {L : Addr} {m : Str → Option Value} {mean : ExcName → Option Value} {mg mb : Str → Option Value} {s : Shared} {rest : List (Addr × Obj)} {R : Result → Shared → Prop}
  {c cd dm dq lk ld u t1 t2 t3 t4 nq : Nat} {cap : Int} {od : Obj} {ps : List (Str × Nat)} {kvs : List (Str × Value)} {key : Str} {t : Tok} {v : Value}
set_option maxRecDepth 100000 in
set_option maxHeartbeats 8000000 in
theorem items_c (C : Cx w A₀ A base h₀ outer env L m mean mg mb s.heap ((c, instObj 169 cd) :: (cd, cdObj w dm dq lk cap u t1 t2 t3 t4) :: (dm, od) :: (dq, listOf (svs ps) nq) :: (lk, instObj 45 ld) :: (ld, dictOf [] 0) :: rest))
    (hh : A.handled = none) (ho : cd < c ∧ c < dm ∧ dm < dq ∧ dq < ld ∧ ld < lk) (hd : od.IsDictOf (strKind prog w) kvs) (lo : (dm == sysModules) = false)
    (hz : kvs.length ≤ 900 ∧ ps.length = kvs.length) (hx : A.depth < 450 ∧ A.units < 500) (hm : Matches ps kvs)
    (h : ∀ h' tk (D : Nat) n tl (ys : List Value), Fr h₀ L h' m → News h₀ L h' ((D, listOf ys.toArray n) :: ((c, instObj 169 cd) :: (cd, cdObj w dm dq lk cap u t1 t2 t3 t4) :: (dm, od) :: (dq, listOf (svs ps) nq) :: (lk, instObj 45 ld) :: (ld, dictOf [] 0) :: tl)) → (∀ p ∈ rest, p ∈ tl) → TupsAt tl ys (prs kvs ps).reverse → LCg.Off1 D ((c, instObj 169 cd) :: (cd, cdObj w dm dq lk cap u t1 t2 t3 t4) :: (dm, od) :: (dq, listOf (svs ps) nq) :: (lk, instObj 45 ld) :: (ld, dictOf [] 0) :: tl) → R (.ok (.ret (.ref D))) { s with heap := h', toks := tk }) :
  codeAny (model prog w) A (.call (.ref 140) ⟨[.ref c], []⟩) R s := by
  obtain ⟨hn, dp, fr, gd, un⟩ := A
  obtain ⟨B, F, X₀, N, T, hA, hf, hk, hd', hu⟩ := C
  dsimp only at hA hd' hu hh hx
  obtain ⟨x1, x2⟩ := hx
  subst hA hh
  obtain ⟨o1, o2, o3, o4, o5⟩ := ho
  obtain ⟨z1, z2⟩ := hz
  refine code_defC B F X₀ N T rfl hf hk (by k_is) (by k_is) (by show dp < recursionLimit; unfold recursionLimit; omega) (BindsTo.of_eq rfl) rfl (by decide +kernel) ?_ rfl rfl rfl
  intro g' L' h' tk' cells' FG' F' N' Y' B' X' T' l1
  (try k_lt l1)
  k_cells Y'
  (try simp only [List.cons_append, List.nil_append] at N')
  try dsimp only
  try k_fold
  k_steps
  rename_i oc d1 D1 n1 h1 F1 N1 l2
  refine LCg.CompSrc.ledger (by rfl) (by k_asm) (by k_asm) (by k_mem) (by rw [sizeLine_eq]; simp [svs]; omega) ?_
  intro g₁
  dsimp only
  refine comp_of (fun i ys nw => ∃ tl, nw = (D1, listOf (svs ps) n1) :: (L' + 1, oc) :: ((c, instObj 169 cd) :: (cd, cdObj w dm dq lk cap u t1 t2 t3 t4) :: (dm, od) :: (dq, listOf (svs ps) nq) :: (lk, instObj 45 ld) :: (ld, dictOf [] 0) :: tl) ∧ (∀ p ∈ rest, p ∈ tl) ∧ TupsAt tl ys ((prs kvs ps).take i)) ⟨rest, rfl, fun _ q => q, .nil⟩ ?_ ?_
  · intro i ys nw hi ⟨tl, e, hr, hT⟩ v I oI C oC D m₂ h2 tk2 E' hP hC hx F2 N2 off ne
    subst e
    obtain ⟨p, ep, rfl⟩ := svs_at hP
    obtain ⟨v', hv'⟩ := at_of hm ep
    simp only [LCg.Off3] at off
    obtain ⟨a1, a2, a3, a4, a5, a6, a7, a8, a9⟩ := off
    obtain ⟨ne1, ne2, ne3⟩ := ne
    k_steps
    rename_i T3 h3 F3 N3 l3
    obtain ⟨q1, q2, q3, q4⟩ := l3
    refine LCg.CompEnd.intro F3 N3 ((D1, listOf (svs ps) n1) :: (L' + 1, oc) :: ((c, instObj 169 cd) :: (cd, cdObj w dm dq lk cap u t1 t2 t3 t4) :: (dm, od) :: (dq, listOf (svs ps) nq) :: (lk, instObj 45 ld) :: (ld, dictOf [] 0) :: (T3, tupOf #[.str p.1 p.2, v']) :: tl)) ?_ ?_ ?_ ⟨(T3, tupOf #[.str p.1 p.2, v']) :: tl, rfl, fun q hq => List.mem_cons_of_mem _ (hr q hq), ?_⟩
    · intro q hq
      simp only [List.mem_cons] at hq ⊢
      rcases hq with h | h | h | h | h | h | h | h | h | h | h | h | h <;> simp only [h, true_or, or_true]
    · simp only [LCg.Off3]
      exact ⟨a1, a2, a3, a4, a5, a6, a7, a8, ⟨Nat.ne_of_gt q1, Nat.ne_of_gt q2, Nat.ne_of_gt q3⟩, a9⟩
    · exact .inr ⟨_, .head _, rfl, _, rfl⟩
    · rw [prs_take ep hv']
      exact (hT.mono fun q hq => List.mem_cons_of_mem _ hq).append (.cons (.head _) .nil)
  · intro ys nw ⟨tl, e, hr, hT⟩
    subst e
    intro D2 h2 tk2 F2 N2 off
    have hl := hT.len
    simp only [LCg.Off1] at off
    obtain ⟨a1, a2, a3, a4, a5, a6, a7, a8, a9⟩ := off
    have hown : OwnOff tl [D2] := own_of a9
    have hT' : TupsAt tl ys.toArray.toList.reverse (prs kvs ps).reverse := by
      have := hT.reverse
      rw [List.take_of_length_le (by simp [prs, svs])] at this
      simpa using this
    k_steps
    rename_i F3 N3 X3 T3 
    refine h _ _ D2 ys.length tl ys.toArray.toList.reverse F3 (fun q hq => N3 q ?_) hr hT' ⟨a3, a4, a5, a6, a7, a8, a9⟩
    simp only [List.mem_cons] at hq ⊢
    rcases hq with h | h | h | h | h | h | h | h <;> simp only [h, true_or, or_true]
  all_goals first
    | skip
end
end
section
local macro_rules | `(tactic| walk_at "idle line 0") => `(tactic| fail)
local macro_rules | `(tactic| walk_at "idle line 1") => `(tactic| fail)
local macro_rules | `(tactic| walk_at "call type:list") => `(tactic| (k_here; (with_reducible show wpAny _ _ (call (Value.type "list") [Value.ref _]) _ _ _); k_dflt (refine' list_c (base := ?bb) (A₀ := ?aa) ?C rfl ?u ?o ?d ?lo ?z ?_; (case C => exact ⟨by assumption, by assumption, by assumption, by assumption, by assumption, rfl, rfl, rfl, by (rw [depth_deeper]; dsimp only; omega), by (rw [units_deeper]; dsimp only; omega)⟩); (case u => rw [units_deeper]; dsimp only; omega); (case o => exact ⟨by assumption, by assumption, by assumption, by assumption, by assumption⟩); (case d => assumption); (case lo => assumption); (case z => exact ⟨by assumption, by assumption⟩)); intro h' tk' D' n' F' N' l1; (try k_sweep)))
local macro_rules | `(tactic| walk_at "call ref") => `(tactic| (k_here; (with_reducible show wpAny _ _ (call (Value.ref 140) _) _ _ _); refine wpAny_call ?_; k_dflt (refine' items_c (base := ?bb) (A₀ := ?aa) ?C rfl ?o ?d ?lo ?z ?x ?m ?_; (case C => exact ⟨by assumption, by assumption, by assumption, by assumption, by assumption, rfl, rfl, rfl, by (rw [depth_deeper]; dsimp only; omega), by (rw [units_deeper]; dsimp only; omega)⟩); (case x => rw [depth_deeper, units_deeper]; dsimp only; omega); (case o => exact ⟨by assumption, by assumption, by assumption, by assumption, by assumption⟩); (case d => assumption); (case lo => assumption); (case z => exact ⟨by assumption, by assumption⟩); (case m => assumption)); intro h' tk' D' n' tl' ys' F' N' ht' hT' off'; (try k_sweep)))
section
variable {prog : Program} {w : World} {A₀ A : Around} {base h₀ : Heap} {outer : List Env} {env : Env} {L : Addr} {m : Str → Option Value} {mean : ExcName → Option Value} {mg mb : Str → Option Value} {s : Shared} {rest : List (Addr × Obj)} {R : Result → Shared → Prop}
  {c cd dm dq lk ld u t1 t2 t3 t4 nq : Nat} {cap : Int} {od : Obj} {ps : List (Str × Nat)} {kvs : List (Str × Value)} {key : Str} {t : Tok} {v : Value}
set_option maxRecDepth 100000 in
set_option maxHeartbeats 8000000 in
theorem values_c (C : Cx w A₀ A base h₀ outer env L m mean mg mb s.heap ((c, instObj 169 cd) :: (cd, cdObj w dm dq lk cap u t1 t2 t3 t4) :: (dm, od) :: (dq, listOf (svs ps) nq) :: (lk, instObj 45 ld) :: (ld, dictOf [] 0) :: rest))
    (hh : A.handled = none) (ho : cd < c ∧ c < dm ∧ dm < dq ∧ dq < ld ∧ ld < lk) (hd : od.IsDictOf (strKind prog w) kvs) (lo : (dm == sysModules) = false)
    (hz : kvs.length ≤ 900 ∧ ps.length = kvs.length) (hx : A.depth < 440 ∧ A.units < 400) (hm : Matches ps kvs)
    (h : ∀ h' tk (D : Nat) n (us : List (Str × Value)), Fr h₀ L h' m → News h₀ L h' ((D, listOf (us.map (·.2)).toArray n) :: ((c, instObj 169 cd) :: (cd, cdObj w dm dq lk cap u t1 t2 t3 t4) :: (dm, od) :: (dq, listOf (svs ps) nq) :: (lk, instObj 45 ld) :: (ld, dictOf [] 0) :: rest)) → us = (prs kvs ps).reverse → LCg.Off1 D ((c, instObj 169 cd) :: (cd, cdObj w dm dq lk cap u t1 t2 t3 t4) :: (dm, od) :: (dq, listOf (svs ps) nq) :: (lk, instObj 45 ld) :: (ld, dictOf [] 0) :: rest) → R (.ok (.ret (.ref D))) { s with heap := h', toks := tk }) :
  codeAny (model prog w) A (.call (.ref 145) ⟨[.ref c], []⟩) R s := by
  obtain ⟨hn, dp, fr, gd, un⟩ := A
  obtain ⟨B, F, X₀, N, T, hA, hf, hk, hd', hu⟩ := C
  dsimp only at hA hd' hu hh hx
  obtain ⟨x1, x2⟩ := hx
  subst hA hh
  obtain ⟨o1, o2, o3, o4, o5⟩ := ho
  obtain ⟨z1, z2⟩ := hz
  refine code_def B F X₀ N T rfl hf hk (by k_is) (by k_is) (by show dp < recursionLimit; unfold recursionLimit; omega) (BindsTo.of_eq rfl) (locs rfl) ?_ rfl rfl rfl (by decide)
  intro g' L' h' FG' F' N' B' X' T'
  try dsimp only
  try k_fold
  k_steps
  dsimp only
  rename_i h1 tk1 D1 n1 tl ys1 F1 N1 hr hT off1
  have hlen := hT.len
  refine LCg.CompSrc.ledger (by rfl) (by k_asm) (by k_asm) (by k_mem) (by rw [sizeLine_eq]; simp [svs, prs] at *; omega) ?_
  intro g₁
  dsimp only
  refine comp_of (fun i ys nw => ys = (((prs kvs ps).reverse).take i).map (·.2) ∧ nw = (D1, listOf ys1.toArray n1) :: ((c, instObj 169 cd) :: (cd, cdObj w dm dq lk cap u t1 t2 t3 t4) :: (dm, od) :: (dq, listOf (svs ps) nq) :: (lk, instObj 45 ld) :: (ld, dictOf [] 0) :: tl)) ⟨rfl, rfl⟩ ?_ ?_
  · intro i ys nw hi ⟨ey, e⟩ v I oI C oC D m₂ h2 tk2 E' hP hC hx F2 N2 off ne
    subst e
    obtain ⟨a, ta, ka, ua, rfl, ep, hat⟩ := hT.at (i := i) (by simpa using hP)
    simp only [LCg.Off3] at off
    obtain ⟨a1, a3, a4, a5, a6, a7, a8, a9⟩ := off
    obtain ⟨ne1, ne2, ne3⟩ := ne
    have N3 : News g' L' h2 ((a, ({ cls := .type "tuple", data := .seq #[.str ka ta, ua] } : Obj)) :: (I, oI) :: (C, oC) :: (D, LCg.lst ys) :: (D1, listOf ys1.toArray n1) :: ((c, instObj 169 cd) :: (cd, cdObj w dm dq lk cap u t1 t2 t3 t4) :: (dm, od) :: (dq, listOf (svs ps) nq) :: (lk, instObj 45 ld) :: (ld, dictOf [] 0) :: tl)) := fun q hq => by
      rcases List.mem_cons.mp hq with rfl | hq
      · exact N2 _ (by simp only [List.mem_cons, hat, or_true])
      · exact N2 _ hq
    k_steps
    refine LCg.CompEnd.intro F2 N2 ((D1, listOf ys1.toArray n1) :: ((c, instObj 169 cd) :: (cd, cdObj w dm dq lk cap u t1 t2 t3 t4) :: (dm, od) :: (dq, listOf (svs ps) nq) :: (lk, instObj 45 ld) :: (ld, dictOf [] 0) :: tl)) (fun q hq => hq) ?_ ?_ ⟨?_, rfl⟩
    · simp only [LCg.Off3]
      exact ⟨a1, a3, a4, a5, a6, a7, a8, a9⟩
    · exact .inr ⟨_, .head _, rfl, _, rfl⟩
    · rw [List.take_add_one, ep, ey]
      simp
  · intro ys nw ⟨ey, e⟩
    subst e
    intro D2 h2 tk2 F2 N2 off
    rw [List.take_of_length_le (by simp at hlen ⊢; omega)] at ey
    k_steps
    rename_i F3 N3 X3 T3
    have hN : News h₀ L h2 ((D2, listOf (((prs kvs ps).reverse).map (·.2)).toArray ((((prs kvs ps).reverse).map (·.2)).length)) :: ((c, instObj 169 cd) :: (cd, cdObj w dm dq lk cap u t1 t2 t3 t4) :: (dm, od) :: (dq, listOf (svs ps) nq) :: (lk, instObj 45 ld) :: (ld, dictOf [] 0) :: rest)) := fun q hq => by
      rw [← ey] at hq
      refine N3 q ?_
      simp only [List.mem_cons] at hq ⊢
      rcases hq with h | h | h | h | h | h | h | h
      iterate 7 (simp only [h, true_or, or_true])
      simp only [hr _ h, or_true]
    have hO : LCg.Off1 D2 ((c, instObj 169 cd) :: (cd, cdObj w dm dq lk cap u t1 t2 t3 t4) :: (dm, od) :: (dq, listOf (svs ps) nq) :: (lk, instObj 45 ld) :: (ld, dictOf [] 0) :: rest) := off1_of fun q hq b hb => by
      have z := own_of off
      refine z q ?_ b hb
      simp only [List.mem_cons] at hq ⊢
      rcases hq with h | h | h | h | h | h | h
      iterate 6 (simp only [h, true_or, or_true])
      simp only [hr _ h, or_true]
    exact h _ _ D2 _ _ F3 hN rfl hO
end
end
section
local macro_rules | `(tactic| walk_at "call type:list") => `(tactic| (k_here; (with_reducible show wpAny _ _ (call (Value.type "list") [Value.ref _]) _ _ _); k_dflt (refine' list_c (base := ?bb) (A₀ := ?aa) ?C rfl ?u ?o ?d ?lo ?z ?_; (case C => exact ⟨by assumption, by assumption, by assumption, by assumption, by assumption, rfl, rfl, rfl, by (rw [depth_deeper]; dsimp only; omega), by (rw [units_deeper]; dsimp only; omega)⟩); (case u => rw [units_deeper]; dsimp only; omega); (case o => exact ⟨by assumption, by assumption, by assumption, by assumption, by assumption⟩); (case d => assumption); (case lo => assumption); (case z => exact ⟨by assumption, by assumption⟩)); intro h' tk' D' n' F' N' l1; (try k_sweep)))
local macro_rules | `(tactic| walk_at "call ref") => `(tactic| (k_here; (with_reducible show wpAny _ _ (call (Value.ref 140) _) _ _ _); refine wpAny_call ?_; k_dflt (refine' items_c (base := ?bb) (A₀ := ?aa) ?C rfl ?o ?d ?lo ?z ?x ?m ?_; (case C => exact ⟨by assumption, by assumption, by assumption, by assumption, by assumption, rfl, rfl, rfl, by (rw [depth_deeper]; dsimp only; omega), by (rw [units_deeper]; dsimp only; omega)⟩); (case x => rw [depth_deeper, units_deeper]; dsimp only; omega); (case o => exact ⟨by assumption, by assumption, by assumption, by assumption, by assumption⟩); (case d => assumption); (case lo => assumption); (case z => exact ⟨by assumption, by assumption⟩); (case m => assumption)); intro h' tk' D' n' tl' ys' F' N' ht' hT' off'; (try k_sweep)))
section
variable {prog : Program} {w : World} {A₀ A : Around} {base h₀ : Heap} {outer : List Env} {env : Env} {L : Addr} {m : Str → Option Value} {mean : ExcName → Option Value} {mg mb : Str → Option Value} {s : Shared} {news : List (Addr × Obj)} {R : Result → Shared → Prop}
  {c cd dm dq lk ld u t1 t2 t3 t4 nq : Nat} {cap : Int} {od : Obj} {ps : List (Str × Nat)} {kvs : List (Str × Value)} {key : Str} {t : Tok} {v : Value}
theorem list_w {Q : Value → Shared → Prop} {E : Value → Shared → Prop} (C : Cx w A₀ A base h₀ outer env L m mean mg mb s.heap news) (m1 : (c, instObj 169 cd) ∈ news) (m2 : (cd, cdObj w dm dq lk cap u t1 t2 t3 t4) ∈ news) (m3 : (dm, od) ∈ news) (m4 : (dq, listOf (svs ps) nq) ∈ news) (m5 : (lk, instObj 45 ld) ∈ news) (m6 : (ld, dictOf [] 0) ∈ news) (ho : cd < c ∧ c < dm ∧ dm < dq ∧ dq < ld ∧ ld < lk) (hd : od.IsDictOf (strKind prog w) kvs) (lo : (dm == sysModules) = false) (hz : kvs.length ≤ 900 ∧ ps.length = kvs.length) (hh : A.handled = none) (hu2 : A.units < 900)
    (h : ∀ h' tk (D : Nat) n, Fr h₀ L h' m → News h₀ L h' ((D, listOf (svs ps.reverse) n) :: news) → (∀ p ∈ news, p.1 < D) → Q (.ref D) { s with heap := h', toks := tk }) :
    wpAny (model prog w) A (call (.type "list") [.ref c]) Q E s := by
  have sub : ∀ p ∈ ((c, instObj 169 cd) :: (cd, cdObj w dm dq lk cap u t1 t2 t3 t4) :: (dm, od) :: (dq, listOf (svs ps) nq) :: (lk, instObj 45 ld) :: (ld, dictOf [] 0) :: news), p ∈ news := fun p hp => by
    simp only [List.mem_cons] at hp
    rcases hp with h | h | h | h | h | h | h
    iterate 6 (rw [h]; assumption)
    exact h
  have C' : Cx w A₀ A base h₀ outer env L m mean mg mb s.heap ((c, instObj 169 cd) :: (cd, cdObj w dm dq lk cap u t1 t2 t3 t4) :: (dm, od) :: (dq, listOf (svs ps) nq) :: (lk, instObj 45 ld) :: (ld, dictOf [] 0) :: news) := ⟨C.B, C.F, C.X, fun p hp => C.N p (sub p hp), C.T, C.hA, C.hf, C.hk, C.hd, C.hu⟩
  exact list_c C' hh hu2 ho hd lo hz fun h' tk D n F' N' l' => h h' tk D n F' (fun p hp => N' p (by rcases List.mem_cons.mp hp with rfl | hp <;> simp [*])) fun p hp => l' p (by simp [hp])
theorem keys_w {Q : Value → Shared → Prop} {E : Value → Shared → Prop} (C : Cx w A₀ A base h₀ outer env L m mean mg mb s.heap news) (m1 : (c, instObj 169 cd) ∈ news) (m2 : (cd, cdObj w dm dq lk cap u t1 t2 t3 t4) ∈ news) (m3 : (dm, od) ∈ news) (m4 : (dq, listOf (svs ps) nq) ∈ news) (m5 : (lk, instObj 45 ld) ∈ news) (m6 : (ld, dictOf [] 0) ∈ news) (ho : cd < c ∧ c < dm ∧ dm < dq ∧ dq < ld ∧ ld < lk) (hd : od.IsDictOf (strKind prog w) kvs) (lo : (dm == sysModules) = false) (hz : kvs.length ≤ 900 ∧ ps.length = kvs.length) (hh : A.handled = none) (hx : A.depth < 450 ∧ A.units < 500)
    (h : ∀ h' tk (D : Nat) n, Fr h₀ L h' m → News h₀ L h' ((D, listOf (svs ps.reverse) n) :: news) → (∀ p ∈ news, p.1 < D) → Q (.ref D) { s with heap := h', toks := tk }) :
    wpAny (model prog w) A (call (.ref 152) [.ref c]) Q E s := by
  have sub : ∀ p ∈ ((c, instObj 169 cd) :: (cd, cdObj w dm dq lk cap u t1 t2 t3 t4) :: (dm, od) :: (dq, listOf (svs ps) nq) :: (lk, instObj 45 ld) :: (ld, dictOf [] 0) :: news), p ∈ news := fun p hp => by
    simp only [List.mem_cons] at hp
    rcases hp with h | h | h | h | h | h | h
    iterate 6 (rw [h]; assumption)
    exact h
  have C' : Cx w A₀ A base h₀ outer env L m mean mg mb s.heap ((c, instObj 169 cd) :: (cd, cdObj w dm dq lk cap u t1 t2 t3 t4) :: (dm, od) :: (dq, listOf (svs ps) nq) :: (lk, instObj 45 ld) :: (ld, dictOf [] 0) :: news) := ⟨C.B, C.F, C.X, fun p hp => C.N p (sub p hp), C.T, C.hA, C.hf, C.hk, C.hd, C.hu⟩
  exact wpAny_call (keys_c C' hh ho hd lo hz hx fun h' tk D n F' N' l' => h h' tk D n F' (fun p hp => N' p (by rcases List.mem_cons.mp hp with rfl | hp <;> simp [*])) fun p hp => l' p (by simp [hp]))
theorem len_w {Q : Value → Shared → Prop} {E : Value → Shared → Prop} (C : Cx w A₀ A base h₀ outer env L m mean mg mb s.heap news) (m1 : (c, instObj 169 cd) ∈ news) (m2 : (cd, cdObj w dm dq lk cap u t1 t2 t3 t4) ∈ news) (m3 : (dm, od) ∈ news) (m4 : (dq, listOf (svs ps) nq) ∈ news) (m5 : (lk, instObj 45 ld) ∈ news) (m6 : (ld, dictOf [] 0) ∈ news) (ho : cd < c ∧ c < dm ∧ dm < dq ∧ dq < ld ∧ ld < lk) (hd : od.IsDictOf (strKind prog w) kvs) (lo : (dm == sysModules) = false) (hz : kvs.length ≤ 900 ∧ ps.length = kvs.length)
    (h : ∀ h' tk tk', Fr h₀ L h' m → News h₀ L h' news → Q (.int kvs.length tk') { s with heap := h', toks := tk }) :
    wpAny (model prog w) A (call (.ref 107) [.ref c]) Q E s := by
  have sub : ∀ p ∈ ((c, instObj 169 cd) :: (cd, cdObj w dm dq lk cap u t1 t2 t3 t4) :: (dm, od) :: (dq, listOf (svs ps) nq) :: (lk, instObj 45 ld) :: (ld, dictOf [] 0) :: news), p ∈ news := fun p hp => by
    simp only [List.mem_cons] at hp
    rcases hp with h | h | h | h | h | h | h
    iterate 6 (rw [h]; assumption)
    exact h
  have C' : Cx w A₀ A base h₀ outer env L m mean mg mb s.heap ((c, instObj 169 cd) :: (cd, cdObj w dm dq lk cap u t1 t2 t3 t4) :: (dm, od) :: (dq, listOf (svs ps) nq) :: (lk, instObj 45 ld) :: (ld, dictOf [] 0) :: news) := ⟨C.B, C.F, C.X, fun p hp => C.N p (sub p hp), C.T, C.hA, C.hf, C.hk, C.hd, C.hu⟩
  exact wpAny_call (len_r C' ho hd lo hz fun h' tk tk' F' N' => h h' tk tk' F' fun p hp => N' p (by simp [hp]))
theorem items_w {Q : Value → Shared → Prop} {E : Value → Shared → Prop} (C : Cx w A₀ A base h₀ outer env L m mean mg mb s.heap news) (m1 : (c, instObj 169 cd) ∈ news) (m2 : (cd, cdObj w dm dq lk cap u t1 t2 t3 t4) ∈ news) (m3 : (dm, od) ∈ news) (m4 : (dq, listOf (svs ps) nq) ∈ news) (m5 : (lk, instObj 45 ld) ∈ news) (m6 : (ld, dictOf [] 0) ∈ news) (ho : cd < c ∧ c < dm ∧ dm < dq ∧ dq < ld ∧ ld < lk) (hd : od.IsDictOf (strKind prog w) kvs) (lo : (dm == sysModules) = false) (hz : kvs.length ≤ 900 ∧ ps.length = kvs.length) (hh : A.handled = none) (hx : A.depth < 450 ∧ A.units < 500) (hm : Matches ps kvs)
    (h : ∀ h' tk (D : Nat) n tl (ys : List Value), Fr h₀ L h' m → News h₀ L h' ((D, listOf ys.toArray n) :: tl) → (∀ p ∈ news, p ∈ tl) → TupsAt tl ys (prs kvs ps).reverse → LCg.Off1 D news → Q (.ref D) { s with heap := h', toks := tk }) :
    wpAny (model prog w) A (call (.ref 140) [.ref c]) Q E s := by
  have sub : ∀ p ∈ ((c, instObj 169 cd) :: (cd, cdObj w dm dq lk cap u t1 t2 t3 t4) :: (dm, od) :: (dq, listOf (svs ps) nq) :: (lk, instObj 45 ld) :: (ld, dictOf [] 0) :: news), p ∈ news := fun p hp => by
    simp only [List.mem_cons] at hp
    rcases hp with h | h | h | h | h | h | h
    iterate 6 (rw [h]; assumption)
    exact h
  have C' : Cx w A₀ A base h₀ outer env L m mean mg mb s.heap ((c, instObj 169 cd) :: (cd, cdObj w dm dq lk cap u t1 t2 t3 t4) :: (dm, od) :: (dq, listOf (svs ps) nq) :: (lk, instObj 45 ld) :: (ld, dictOf [] 0) :: news) := ⟨C.B, C.F, C.X, fun p hp => C.N p (sub p hp), C.T, C.hA, C.hf, C.hk, C.hd, C.hu⟩
  exact wpAny_call (items_c C' hh ho hd lo hz hx hm fun h' tk D n tl ys F' N' hr hT off => h h' tk D n tl ys F' (fun p hp => N' p (by rcases List.mem_cons.mp hp with rfl | hp <;> simp [*])) hr hT (off1_of fun q hq => own_of off q (by simp [hr q hq])))
theorem values_w {Q : Value → Shared → Prop} {E : Value → Shared → Prop} (C : Cx w A₀ A base h₀ outer env L m mean mg mb s.heap news) (m1 : (c, instObj 169 cd) ∈ news) (m2 : (cd, cdObj w dm dq lk cap u t1 t2 t3 t4) ∈ news) (m3 : (dm, od) ∈ news) (m4 : (dq, listOf (svs ps) nq) ∈ news) (m5 : (lk, instObj 45 ld) ∈ news) (m6 : (ld, dictOf [] 0) ∈ news) (ho : cd < c ∧ c < dm ∧ dm < dq ∧ dq < ld ∧ ld < lk) (hd : od.IsDictOf (strKind prog w) kvs) (lo : (dm == sysModules) = false) (hz : kvs.length ≤ 900 ∧ ps.length = kvs.length) (hh : A.handled = none) (hx : A.depth < 440 ∧ A.units < 400) (hm : Matches ps kvs)
    (h : ∀ h' tk (D : Nat) n (us : List (Str × Value)), Fr h₀ L h' m → News h₀ L h' ((D, listOf (us.map (·.2)).toArray n) :: news) → us = (prs kvs ps).reverse → LCg.Off1 D news → Q (.ref D) { s with heap := h', toks := tk }) :
    wpAny (model prog w) A (call (.ref 145) [.ref c]) Q E s := by
  have sub : ∀ p ∈ ((c, instObj 169 cd) :: (cd, cdObj w dm dq lk cap u t1 t2 t3 t4) :: (dm, od) :: (dq, listOf (svs ps) nq) :: (lk, instObj 45 ld) :: (ld, dictOf [] 0) :: news), p ∈ news := fun p hp => by
    simp only [List.mem_cons] at hp
    rcases hp with h | h | h | h | h | h | h
    iterate 6 (rw [h]; assumption)
    exact h
  have C' : Cx w A₀ A base h₀ outer env L m mean mg mb s.heap ((c, instObj 169 cd) :: (cd, cdObj w dm dq lk cap u t1 t2 t3 t4) :: (dm, od) :: (dq, listOf (svs ps) nq) :: (lk, instObj 45 ld) :: (ld, dictOf [] 0) :: news) := ⟨C.B, C.F, C.X, fun p hp => C.N p (sub p hp), C.T, C.hA, C.hf, C.hk, C.hd, C.hu⟩
  exact wpAny_call (values_c C' hh ho hd lo hz hx hm fun h' tk D n us F' N' e off => h h' tk D n us F' (fun p hp => N' p (by rcases List.mem_cons.mp hp with rfl | hp <;> simp [*])) e (off1_of fun q hq => own_of off q (by simp [hq])))
theorem revd_w {Q : Value → Shared → Prop} {E : Value → Shared → Prop} (C : Cx w A₀ A base h₀ outer env L m mean mg mb s.heap news) (m1 : (c, instObj 169 cd) ∈ news) (m2 : (cd, cdObj w dm dq lk cap u t1 t2 t3 t4) ∈ news) (m3 : (dm, od) ∈ news) (m4 : (dq, listOf (svs ps) nq) ∈ news) (m5 : (lk, instObj 45 ld) ∈ news) (m6 : (ld, dictOf [] 0) ∈ news) (ho : cd < c ∧ c < dm ∧ dm < dq ∧ dq < ld ∧ ld < lk) (hd : od.IsDictOf (strKind prog w) kvs) (lo : (dm == sysModules) = false) (hz : kvs.length ≤ 900 ∧ ps.length = kvs.length) (hu2 : A.units < 900)
    (h : ∀ h' tk (I T : Nat), Fr h₀ L h' m → News h₀ L h' ((I, ({ cls := .type "tuple_iterator", data := .fields #[.ref T, .int 0 0] } : Obj)) :: (T, tupOf (svs ps)) :: news) → T < I → (∀ p ∈ news, p.1 < T) → Q (.ref I) { s with heap := h', toks := tk }) :
    wpAny (model prog w) A (call (.type "reversed") [.ref c]) Q E s := by
  have sub : ∀ p ∈ ((c, instObj 169 cd) :: (cd, cdObj w dm dq lk cap u t1 t2 t3 t4) :: (dm, od) :: (dq, listOf (svs ps) nq) :: (lk, instObj 45 ld) :: (ld, dictOf [] 0) :: news), p ∈ news := fun p hp => by
    simp only [List.mem_cons] at hp
    rcases hp with h | h | h | h | h | h | h
    iterate 6 (rw [h]; assumption)
    exact h
  have C' : Cx w A₀ A base h₀ outer env L m mean mg mb s.heap ((c, instObj 169 cd) :: (cd, cdObj w dm dq lk cap u t1 t2 t3 t4) :: (dm, od) :: (dq, listOf (svs ps) nq) :: (lk, instObj 45 ld) :: (ld, dictOf [] 0) :: news) := ⟨C.B, C.F, C.X, fun p hp => C.N p (sub p hp), C.T, C.hA, C.hf, C.hk, C.hd, C.hu⟩
  exact revd_call C' hu2 ho hd lo hz fun h' tk I T F' N' l1 l2 => h h' tk I T F' (fun p hp => N' p (by rcases List.mem_cons.mp hp with rfl | hp; (· simp); rcases List.mem_cons.mp hp with rfl | hp <;> simp [*])) l1 fun p hp => l2 p (by simp [hp])
end
end
section
structure FnAt (K : Frag) (f : Addr) where
  b : List Stmt
  sc : Scope
  prf : ∃ oc od osl name qual params dV kV doc pm an cdv ct, K.lookup f = some ⟨oc, od, .func (fnOf name qual params b sc dV kV doc pm an cdv ct), osl⟩
set_option maxRecDepth 100000 in
noncomputable def lawF (w : World) : FnAt (Mine.hd.heap_39 w.params) 185 := ⟨_, _, _, _, _, _, _, _, _, _, _, _, _, _, _, by k_is⟩
def hdS : List Stmt → Stmt
  | a :: _ => a
  | [] => .Pass ⟨0, 0, 0, 0⟩
def tlS : List Stmt → List Stmt
  | _ :: r => r
  | [] => []
def bodyS : Stmt → List Stmt
  | .For _ _ b _ _ => b
  | _ => []
noncomputable def lawB (w : World) : List Stmt := (lawF w).b
noncomputable def lawS (w : World) : Scope := (lawF w).sc
noncomputable def forS (w : World) : Stmt := hdS (tlS (tlS (tlS (tlS (lawB w)))))
noncomputable def turnB (w : World) : List Stmt := bodyS (forS w)
noncomputable def st0 (w : World) : Stmt := hdS (turnB w)
noncomputable def st1 (w : World) : Stmt := hdS (tlS (turnB w))
noncomputable def st2 (w : World) : Stmt := hdS (tlS (tlS (turnB w)))
noncomputable def st3 (w : World) : Stmt := hdS (tlS (tlS (tlS (turnB w))))
noncomputable def st4 (w : World) : Stmt := hdS (tlS (tlS (tlS (tlS (turnB w)))))
noncomputable def st5 (w : World) : Stmt := hdS (tlS (tlS (tlS (tlS (tlS (turnB w))))))
noncomputable def st6 (w : World) : Stmt := hdS (tlS (tlS (tlS (tlS (tlS (tlS (turnB w)))))))
noncomputable def st7 (w : World) : Stmt := hdS (tlS (tlS (tlS (tlS (tlS (tlS (tlS (turnB w))))))))
noncomputable def st8 (w : World) : Stmt := hdS (tlS (tlS (tlS (tlS (tlS (tlS (tlS (tlS (turnB w)))))))))
theorem turnB_eq (w : World) : turnB w = [st0 w, st1 w, st2 w, st3 w, st4 w, st5 w, st6 w, st7 w, st8 w] := rfl
noncomputable abbrev lawE (w : World) (L fa : Addr) (cv : Value) : Env := envOfC "law" (lawS w) L fa cv
theorem news_tail {h₀ h : Heap} {L : Addr} {p : Addr × Obj} {l : List (Addr × Obj)} (N : News h₀ L h (p :: l)) : News h₀ L h l := fun q hq => N q (.tail _ hq)
def Halt (p : Prop) : Prop := p
theorem halt {p : Prop} (h : Halt p) : p := h
theorem cend1 {h₀ : Heap} {L I C D : Addr} {m : Str → Option Value} {s₁ : Shared} {oI oC oD : Obj} {S : List (Addr × Obj) → Prop} {rest : Value → List (Addr × Obj) → Prop} {y : Value} {h' : Heap} {tk : Nat} {x : Addr × Obj} {nw : List (Addr × Obj)}
    (F : Fr h₀ L h' m) (N : News h₀ L h' (x :: (I, oI) :: (C, oC) :: (D, oD) :: nw)) (l : ∀ p ∈ (I, oI) :: (C, oC) :: (D, oD) :: nw, p.1 < x.1) (off : LCg.Off3 I C D nw) (hS : S (x :: nw)) (r : rest y (x :: nw)) :
    LCg.CompEnd h₀ L m s₁ I oI C oC D oD S rest y { s₁ with heap := h', toks := tk } :=
  LCg.CompEnd.intro F N (x :: nw) (fun p hp => by
    rcases List.mem_cons.mp hp with rfl | hp
    · exact .tail _ (.head _)
    rcases List.mem_cons.mp hp with rfl | hp
    · exact .tail _ (.tail _ (.head _))
    rcases List.mem_cons.mp hp with rfl | hp
    · exact .tail _ (.tail _ (.tail _ (.head _)))
    rcases List.mem_cons.mp hp with rfl | hp
    · exact .head _
    · exact .tail _ (.tail _ (.tail _ (.tail _ hp))))
    ⟨⟨Nat.ne_of_gt (l _ (.head _)), Nat.ne_of_gt (l _ (.tail _ (.head _))), Nat.ne_of_gt (l _ (.tail _ (.tail _ (.head _))))⟩, off⟩ hS r
theorem cend0 {h₀ : Heap} {L I C D : Addr} {m : Str → Option Value} {s₁ : Shared} {oI oC oD : Obj} {S : List (Addr × Obj) → Prop} {rest : Value → List (Addr × Obj) → Prop} {y : Value} {h' : Heap} {tk : Nat} {nw : List (Addr × Obj)}
    (F : Fr h₀ L h' m) (N : News h₀ L h' ((I, oI) :: (C, oC) :: (D, oD) :: nw)) (off : LCg.Off3 I C D nw) (hS : S nw) (r : rest y nw) :
    LCg.CompEnd h₀ L m s₁ I oI C oC D oD S rest y { s₁ with heap := h', toks := tk } :=
  LCg.CompEnd.intro F N nw (fun _ hp => hp) off hS r
theorem own_cons {x : Addr × Obj} {l : List (Addr × Obj)} {adr : List Addr} (h1 : ∀ b ∈ adr, x.1 ≠ b) (h2 : OwnOff l adr) : OwnOff (x :: l) adr := fun p hp => by
  rcases List.mem_cons.mp hp with rfl | hp
  · exact h1
  · exact h2 p hp
/-- a new object is apart from what the ledger's head holds -/
theorem new_off {D : Nat} {news : List (Addr × Obj)} {adr : List Addr} (l : ∀ p ∈ news, p.1 < D) (h : ∀ b ∈ adr, ∃ o, (b, o) ∈ news) : ∀ b ∈ adr, (D : Addr) ≠ b := fun b hb => by
  obtain ⟨o, ho⟩ := h b hb
  exact Nat.ne_of_gt (l _ ho)
theorem off1_off {D : Nat} {news : List (Addr × Obj)} {adr : List Addr} (l : LCg.Off1 D news) (h : ∀ b ∈ adr, ∃ o, (b, o) ∈ news) : ∀ b ∈ adr, (D : Addr) ≠ b := fun b hb => by
  obtain ⟨o, ho⟩ := h b hb
  exact Ne.symm (own_of l _ ho _ (List.mem_singleton.mpr rfl))
theorem news_in {h₀ h : Heap} {L : Addr} (A B : List (Addr × Obj)) {rest : List (Addr × Obj)} (N : News h₀ L h (B ++ (A ++ rest))) : News h₀ L h (A ++ (B ++ rest)) := fun q hq => N q (by
  rcases List.mem_append.mp hq with h | h
  · exact List.mem_append.mpr (.inr (List.mem_append.mpr (.inl h)))
  · rcases List.mem_append.mp h with h | h
    · exact List.mem_append.mpr (.inl h)
    · exact List.mem_append.mpr (.inr (List.mem_append.mpr (.inr h))))
theorem keysOf_filter (l : List (Str × Nat)) (f : Str → Bool) : keysOf (l.filter (fun p => f p.1)) = (keysOf l).filter f := by
  induction l with
  | nil => rfl
  | cons p r ih => simp only [keysOf, List.filter_cons, List.map_cons] at ih ⊢; split <;> simp [ih]
end
section
section
variable {L cl sz ca kn k1 k2 c1 cd1 dm1 dq1 lk1 ld1 c2 cd2 dm2 dq2 lk2 ld2 : Nat} {rest : List (Addr × Obj)}
set_option maxHeartbeats 4000000 in
theorem apart1 {y0 y1 y2 y3 y4 y5 y6 y7 y8 y9 y10 y11 y12 y13 y14 y15 y16 y17 y18 : Obj} (q0 : (L + 1 + 1 + 1 + 1 + 1 + 1 + 1 < sz ∧ L + 1 ≠ cl ∧ L + 1 + 1 ≠ cl ∧ L + 1 + 1 + 1 ≠ cl ∧ L + 1 + 1 + 1 + 1 ≠ cl ∧ L + 1 + 1 + 1 + 1 + 1 ≠ cl ∧ L + 1 + 1 + 1 + 1 + 1 + 1 ≠ cl ∧ L + 1 + 1 + 1 + 1 + 1 + 1 + 1 ≠ cl) ∧ cl < sz ∧ sz < cd1 ∧ cd1 < c1 ∧ c1 < dm1 ∧ dm1 < dq1 ∧ dq1 < ld1 ∧ ld1 < lk1 ∧ lk1 < cd2 ∧ cd2 < c2 ∧ c2 < dm2 ∧ dm2 < dq2 ∧ dq2 < ld2 ∧ ld2 < lk2 ∧ lk2 < ca ∧ ca < kn ∧ ca < k1 ∧ ca < k2 ∧ k1 ≠ k2 ∧ k1 ≠ kn ∧ k2 ≠ kn) (hroff : OwnOff rest [L + 1, L + 1 + 1, L + 1 + 1 + 1, L + 1 + 1 + 1 + 1, L + 1 + 1 + 1 + 1 + 1, L + 1 + 1 + 1 + 1 + 1 + 1, L + 1 + 1 + 1 + 1 + 1 + 1 + 1, kn, k1, k2, c1, cd1, dm1, dq1, lk1, ld1, c2, cd2, dm2, dq2, lk2, ld2]) : OwnOff ((L + 1, y0) :: (L + 1 + 1, y1) :: (L + 1 + 1 + 1, y2) :: (L + 1 + 1 + 1 + 1, y3) :: (L + 1 + 1 + 1 + 1 + 1, y4) :: (L + 1 + 1 + 1 + 1 + 1 + 1, y5) :: (L + 1 + 1 + 1 + 1 + 1 + 1 + 1, y6) :: (cl, y7) :: (sz, y8) :: (ca, y9) :: (kn, y10) :: (k1, y11) :: (k2, y12) :: (c2, y13) :: (cd2, y14) :: (dm2, y15) :: (dq2, y16) :: (lk2, y17) :: (ld2, y18) :: rest) [c1, cd1, dm1, dq1, lk1, ld1] := by
  have q0c := q0
  obtain ⟨q1, q2, q3, q4, q5, q6, q7, q8, q9, q10, q11, q12, q13, q14, q15, q16, q17, q18, q19, q20, q21⟩ := q0
  refine own_cons ?_ (own_cons ?_ (own_cons ?_ (own_cons ?_ (own_cons ?_ (own_cons ?_ (own_cons ?_ (own_cons ?_ (own_cons ?_ (own_cons ?_ (own_cons ?_ (own_cons ?_ (own_cons ?_ (own_cons ?_ (own_cons ?_ (own_cons ?_ (own_cons ?_ (own_cons ?_ (own_cons ?_ (fun p hp b hb => hroff p hp b ?_)))))))))))))))))))
  all_goals first
    | (intro b hb; simp only [List.mem_cons, List.mem_nil_iff, or_false] at hb; rcases hb with rfl | rfl | rfl | rfl | rfl | rfl <;> (show @Ne Nat _ _; omega))
    | (simp only [List.mem_cons, List.mem_nil_iff, or_false] at hb ⊢; rcases hb with rfl | rfl | rfl | rfl | rfl | rfl <;> simp only [true_or, or_true])
theorem apart31 {I C D : Nat} {x y z : Obj} {nw news : List (Addr × Obj)} {adr : List Addr} (off : LCg.Off3 I C D news) (h : ∀ b ∈ adr, ∃ o, (b, o) ∈ news) (ho : OwnOff nw adr) : OwnOff ((I, x) :: (C, y) :: (D, z) :: nw) adr := by
  have key := off.mem
  refine own_cons (fun b hb => ?_) (own_cons (fun b hb => ?_) (own_cons (fun b hb => ?_) ho)) <;> obtain ⟨o, hm⟩ := h b hb
  · exact Ne.symm (key _ hm).1
  · exact Ne.symm (key _ hm).2.1
  · exact Ne.symm (key _ hm).2.2
set_option maxHeartbeats 4000000 in
theorem apart2 {y0 y1 y2 y3 y4 y5 y6 y7 y8 y9 y10 y11 y12 y13 y14 y15 y16 y17 y18 : Obj} (q0 : (L + 1 + 1 + 1 + 1 + 1 + 1 + 1 < sz ∧ L + 1 ≠ cl ∧ L + 1 + 1 ≠ cl ∧ L + 1 + 1 + 1 ≠ cl ∧ L + 1 + 1 + 1 + 1 ≠ cl ∧ L + 1 + 1 + 1 + 1 + 1 ≠ cl ∧ L + 1 + 1 + 1 + 1 + 1 + 1 ≠ cl ∧ L + 1 + 1 + 1 + 1 + 1 + 1 + 1 ≠ cl) ∧ cl < sz ∧ sz < cd1 ∧ cd1 < c1 ∧ c1 < dm1 ∧ dm1 < dq1 ∧ dq1 < ld1 ∧ ld1 < lk1 ∧ lk1 < cd2 ∧ cd2 < c2 ∧ c2 < dm2 ∧ dm2 < dq2 ∧ dq2 < ld2 ∧ ld2 < lk2 ∧ lk2 < ca ∧ ca < kn ∧ ca < k1 ∧ ca < k2 ∧ k1 ≠ k2 ∧ k1 ≠ kn ∧ k2 ≠ kn) (hroff : OwnOff rest [L + 1, L + 1 + 1, L + 1 + 1 + 1, L + 1 + 1 + 1 + 1, L + 1 + 1 + 1 + 1 + 1, L + 1 + 1 + 1 + 1 + 1 + 1, L + 1 + 1 + 1 + 1 + 1 + 1 + 1, kn, k1, k2, c1, cd1, dm1, dq1, lk1, ld1, c2, cd2, dm2, dq2, lk2, ld2]) : OwnOff ((L + 1, y0) :: (L + 1 + 1, y1) :: (L + 1 + 1 + 1, y2) :: (L + 1 + 1 + 1 + 1, y3) :: (L + 1 + 1 + 1 + 1 + 1, y4) :: (L + 1 + 1 + 1 + 1 + 1 + 1, y5) :: (L + 1 + 1 + 1 + 1 + 1 + 1 + 1, y6) :: (cl, y7) :: (sz, y8) :: (ca, y9) :: (kn, y10) :: (k1, y11) :: (k2, y12) :: (c1, y13) :: (cd1, y14) :: (dm1, y15) :: (dq1, y16) :: (lk1, y17) :: (ld1, y18) :: rest) [c2, cd2, dm2, dq2, lk2, ld2] := by
  have q0c := q0
  obtain ⟨q1, q2, q3, q4, q5, q6, q7, q8, q9, q10, q11, q12, q13, q14, q15, q16, q17, q18, q19, q20, q21⟩ := q0
  refine own_cons ?_ (own_cons ?_ (own_cons ?_ (own_cons ?_ (own_cons ?_ (own_cons ?_ (own_cons ?_ (own_cons ?_ (own_cons ?_ (own_cons ?_ (own_cons ?_ (own_cons ?_ (own_cons ?_ (own_cons ?_ (own_cons ?_ (own_cons ?_ (own_cons ?_ (own_cons ?_ (own_cons ?_ (fun p hp b hb => hroff p hp b ?_)))))))))))))))))))
  all_goals first
    | (intro b hb; simp only [List.mem_cons, List.mem_nil_iff, or_false] at hb; rcases hb with rfl | rfl | rfl | rfl | rfl | rfl <;> (show @Ne Nat _ _; omega))
    | (simp only [List.mem_cons, List.mem_nil_iff, or_false] at hb ⊢; rcases hb with rfl | rfl | rfl | rfl | rfl | rfl <;> simp only [true_or, or_true])
theorem apart32 {I C D : Nat} {x y z : Obj} {nw news : List (Addr × Obj)} {adr : List Addr} (off : LCg.Off3 I C D news) (h : ∀ b ∈ adr, ∃ o, (b, o) ∈ news) (ho : OwnOff nw adr) : OwnOff ((I, x) :: (C, y) :: (D, z) :: nw) adr := by
  have key := off.mem
  refine own_cons (fun b hb => ?_) (own_cons (fun b hb => ?_) (own_cons (fun b hb => ?_) ho)) <;> obtain ⟨o, hm⟩ := h b hb
  · exact Ne.symm (key _ hm).1
  · exact Ne.symm (key _ hm).2.1
  · exact Ne.symm (key _ hm).2.2
end
theorem own_swap {I : Nat} {o : Obj} {a1 a2 a3 a4 a5 a6 a7 kn k1 k1' k2 c1 cd1 dm1 dq1 lk1 ld1 c2 cd2 dm2 dq2 lk2 ld2 : Nat} (h : OwnOff ((I, o) :: []) [a1, a2, a3, a4, a5, a6, a7, kn, k1, k2, c1, cd1, dm1, dq1, lk1, ld1, c2, cd2, dm2, dq2, lk2, ld2]) (hn : @Ne Nat I k1') :
    OwnOff ((I, o) :: []) [a1, a2, a3, a4, a5, a6, a7, kn, k1', k2, c1, cd1, dm1, dq1, lk1, ld1, c2, cd2, dm2, dq2, lk2, ld2] := fun p hp b hb => by
  rcases List.mem_cons.mp hp with rfl | hp
  · by_cases e : b = k1'
    · exact fun x => hn (x.trans e)
    · refine h (I, o) (.head _) b ?_
      simp only [List.mem_cons, List.mem_nil_iff, or_false] at hb ⊢
      rcases hb with h | h | h | h | h | h | h | h | h | h | h | h | h | h | h | h | h | h | h | h | h | h
      all_goals first
        | exact absurd h e
        | simp only [h, true_or, or_true]
  · cases hp
end
section
theorem in_some {prog : Program} {w : World} {A : Around} {E : Value → Shared → Prop} {s : Shared} {h₀ : Heap} {L D : Addr} {news : List (Addr × Obj)} {k : Str} {t : Tok} {Q : Value → Shared → Prop} {o : Obj} {kvs : List (Str × Value)} {v : Value} (N : News h₀ L s.heap news) (hp : (D, o) ∈ news) (hd : o.IsDictOf (strKind prog w) kvs) (lo : (D == sysModules) = false) (hv : valueAt kvs k = some v)
    (h : Q (.bool true) { s with toks := s.toks + 1 }) : wpAny (model prog w) A (compareOp .In (.str k t) (.ref D)) Q E s := kda_in (knd := strKind prog w) N hp hd lo (strKind_is _ _ _ _) true (by rw [hv]; rfl) h
theorem in_none {prog : Program} {w : World} {A : Around} {E : Value → Shared → Prop} {s : Shared} {h₀ : Heap} {L D : Addr} {news : List (Addr × Obj)} {k : Str} {t : Tok} {Q : Value → Shared → Prop} {o : Obj} {kvs : List (Str × Value)} (N : News h₀ L s.heap news) (hp : (D, o) ∈ news) (hd : o.IsDictOf (strKind prog w) kvs) (lo : (D == sysModules) = false) (hv : valueAt kvs k = none)
    (h : Q (.bool false) { s with toks := s.toks + 1 }) : wpAny (model prog w) A (compareOp .In (.str k t) (.ref D)) Q E s := kda_in (knd := strKind prog w) N hp hd lo (strKind_is _ _ _ _) false (by rw [hv]; rfl) h
/-- what the law writes down as known -/
def kset (dd : Int) (b : Bool) (kk : List (Str × Value)) (κ : Str) (v : Value) : List (Str × Value) := if dd < 2 ∨ (dd = 3 ∧ b = false) then stored kk κ v else kk
/-- what is told is what is wanted -/
def Told (dd : Int) (b : Bool) (kk' : List (Str × Value)) (κ : Str) (v : Value) : Prop :=
  (3 < dd → v = .bool b) ∧ (dd < 4 → (dd ≠ 2 ∨ b = true) → ∀ y, valueAt kk' κ = some y → ∃ x t t', y = .int x t ∧ v = .int x t') ∧ (dd < 4 → (valueAt kk' κ = none ∨ (dd = 2 ∧ b = false)) → v = .none)
theorem told_cases {dd : Int} {b : Bool} {kk' : List (Str × Value)} {κ : Str} {v : Value} (hT : Told dd b kk' κ v) :
    (3 < dd ∧ v = .bool b) ∨ (dd < 4 ∧ valueAt kk' κ = none ∧ v = .none) ∨ (dd = 2 ∧ b = false ∧ v = .none) ∨ (dd < 4 ∧ (dd ≠ 2 ∨ b = true) ∧ ∃ x t t', valueAt kk' κ = some (.int x t) ∧ v = .int x t') := by
  by_cases h : 3 < dd
  · exact .inl ⟨h, hT.1 h⟩
  · have h4 : dd < 4 := by omega
    cases hv : valueAt kk' κ with
    | none => exact .inr (.inl ⟨h4, rfl, hT.2.2 h4 (.inl hv)⟩)
    | some y =>
      by_cases h2 : dd = 2 ∧ b = false
      · exact .inr (.inr (.inl ⟨h2.1, h2.2, hT.2.2 h4 (.inr h2)⟩))
      · have h5 : dd ≠ 2 ∨ b = true := by
          by_cases q : dd = 2
          · right; cases b
            · exact absurd ⟨q, rfl⟩ h2
            · rfl
          · exact .inl q
        obtain ⟨x, t, t', rfl, e⟩ := hT.2.1 h4 h5 y hv
        exact .inr (.inr (.inr ⟨h4, h5, x, t, t', rfl, e⟩))
/-- what the law wants to have been told -/
def Wanted (dd : Int) (b : Bool) (kk' : List (Str × Value)) (κ : Str) (wv : Value) : Prop :=
  (dd < 4 → (dd ≠ 2 ∨ b = true) → ∀ y, valueAt kk' κ = some y → wv = y) ∧ ((¬ dd < 4 ∨ valueAt kk' κ = none ∨ (dd = 2 ∧ b = false)) → wv = .none)
theorem told_c {dd : Int} {b : Bool} {kk' : List (Str × Value)} {κ : Str} {v wv : Value} (hT : Told dd b kk' κ v) (hW : Wanted dd b kk' κ wv) :
    (3 < dd ∧ v = .bool b) ∨ (dd < 4 ∧ v = .none ∧ wv = .none) ∨ (dd < 4 ∧ ∃ x t t', wv = .int x t ∧ v = .int x t') := by
  rcases told_cases hT with ⟨q, e⟩ | ⟨q, hv, e⟩ | ⟨q, q2, e⟩ | ⟨q, q2, x, t, t', hv, e⟩
  · exact .inl ⟨q, e⟩
  · exact .inr (.inl ⟨q, e, hW.2 (.inr (.inl hv))⟩)
  · exact .inr (.inl ⟨by omega, e, hW.2 (.inr (.inr ⟨q, q2⟩))⟩)
  · exact .inr (.inr ⟨q, x, t, t', hW.1 q q2 _ hv, e⟩)
theorem ex_cons {M : Model} {A : Around} {E : Value → Shared → Prop} {s : Shared} {env : Env} {st : Stmt} {rest : List Stmt} {Q : Flow → Shared → Prop}
    (h : wpAny M A (exec st env) (fun f s' => match f with | .next => wpAny M A (execs rest env) Q E s' | f => Q f s') E s) : wpAny M A (execs (st :: rest) env) Q E s := by
  rw [execs_cons]
  refine wpAny_bind (wpAny_mono h (fun f s' z => ?_) fun _ _ e => e)
  cases f <;> first | exact z | exact wpAny_pure z
/-- the order that the law wants -/
def ordK (dd : Int) (t : Bool) (cap : Int) (κ : Str) (B RR : List Str) : List Str := if dd = 4 ∨ (dd = 2 ∧ t = false) then B else if dd = 5 then RR else (κ :: RR).take cap.toNat
end
section
section
variable {prog : Program} {w : World} {A : Around} {E : Value → Shared → Prop} {s : Shared}
theorem len_svs {a : Addr} {Q : Value → Shared → Prop} {ps : List (Str × Nat)} (ha : s.heap.IsList a (svs ps)) (hz : ps.length ≤ 900) (h : Q (.int (ps.length : Nat) (s.toks + 1)) { s with toks := s.toks + 1 + 1 }) :
    wpAny (model prog w) A (call (.builtin "len") [.ref a]) Q E s := by
  have e : (svs ps).size = ps.length := by simp [svs]
  exact call_len_list ha (by rw [e]; omega) (by rw [e]; exact h)
theorem sub_app {α : Type} {A rest tl : List α} (hr : ∀ p ∈ A ++ rest, p ∈ tl) : ∀ p ∈ A ++ tl, p ∈ tl := fun p hp => by
  rcases List.mem_append.mp hp with h | h
  · exact hr p (List.mem_append.mpr (.inl h))
  · exact h
theorem sub_tail {α : Type} {A rest tl : List α} (hr : ∀ p ∈ A ++ rest, p ∈ tl) : ∀ p ∈ rest, p ∈ tl := fun p hp => hr p (List.mem_append.mpr (.inr hp))
theorem sub_swap {α : Type} {A rest tl : List α} (hr : ∀ p ∈ rest, p ∈ tl) : ∀ p ∈ A ++ rest, p ∈ A ++ tl := fun p hp => by
  rcases List.mem_append.mp hp with h | h
  · exact List.mem_append.mpr (.inl h)
  · exact List.mem_append.mpr (.inr (hr p h))
theorem sub_3 {α : Type} {a b c : α} {l l' : List α} (h : ∀ p ∈ l, p ∈ l') : ∀ p ∈ a :: b :: c :: l, p ∈ a :: b :: c :: l' := fun p hp => by
  rcases List.mem_cons.mp hp with rfl | hp
  · exact .head _
  rcases List.mem_cons.mp hp with rfl | hp
  · exact .tail _ (.head _)
  rcases List.mem_cons.mp hp with rfl | hp
  · exact .tail _ (.tail _ (.head _))
  · exact .tail _ (.tail _ (.tail _ (h p hp)))
theorem sub_31 {α : Type} {a b c x : α} {l l' : List α} (h : ∀ p ∈ l, p ∈ l') : ∀ p ∈ a :: b :: c :: x :: l, p ∈ x :: a :: b :: c :: l' := fun p hp => by
  rcases List.mem_cons.mp hp with rfl | hp
  · exact .tail _ (.head _)
  rcases List.mem_cons.mp hp with rfl | hp
  · exact .tail _ (.tail _ (.head _))
  rcases List.mem_cons.mp hp with rfl | hp
  · exact .tail _ (.tail _ (.tail _ (.head _)))
  rcases List.mem_cons.mp hp with rfl | hp
  · exact .head _
  · exact .tail _ (.tail _ (.tail _ (.tail _ (h p hp))))
/-- what a cache holds is what is known -/
def Agree (ps : List (Str × Nat)) (kvs kk : List (Str × Value)) : Prop := ∀ p ∈ ps, ∃ x t t', valueAt kvs p.1 = some (.int x t) ∧ valueAt kk p.1 = some (.int x t')
theorem agree_allI {ps : List (Str × Nat)} {kvs kk : List (Str × Value)} (h : Agree ps kvs kk) : AllI (prs kvs ps).reverse := fun p hp => by
  obtain ⟨q, hq, rfl⟩ := List.mem_map.mp (List.mem_reverse.mp hp)
  obtain ⟨x, t, t', e1, e2⟩ := h q hq
  exact ⟨x, t, by simp [e1]⟩
theorem agree_allI2 {ps : List (Str × Nat)} {kvs kk : List (Str × Value)} (h : Agree ps kvs kk) : AllI (prs kk ps.reverse) := fun p hp => by
  obtain ⟨q, hq, rfl⟩ := List.mem_map.mp hp
  obtain ⟨x, t, t', e1, e2⟩ := h q (List.mem_reverse.mp hq)
  exact ⟨x, t', by simp [e2]⟩
theorem agree_bare {ps : List (Str × Nat)} {kvs kk : List (Str × Value)} (h : Agree ps kvs kk) : bare (prs kvs ps).reverse = bare (prs kk ps.reverse) := by
  unfold bare prs
  rw [← List.map_reverse, List.map_map, List.map_map]
  refine List.map_congr_left fun q hq => ?_
  obtain ⟨x, t, t', e1, e2⟩ := h q (List.mem_reverse.mp hq)
  simp [e1, e2, intOf]
theorem agree_at {ps : List (Str × Nat)} {kvs kk : List (Str × Value)} (h : Agree ps kvs kk) {i : Nat} {p : Str × Nat} (e : ps.reverse[i]? = some p) : ∃ v, valueAt kk p.1 = some v := by
  obtain ⟨x, t, t', e1, e2⟩ := h p (List.mem_reverse.mp (List.mem_of_getElem? e))
  exact ⟨_, e2⟩
theorem sub_svs {D : Addr} {Q : Value → Shared → Prop} {ps : List (Str × Nat)} {u : Tok} {value slice : PySem.Expr} {i : Int} {p : Str × Nat} (hl : s.heap.IsList D (svs ps)) (h0 : 0 ≤ i) (hp : ps[i.toNat]? = some p) (hz : ps.length ≤ 900) (h : Q (.str p.1 p.2) s)
    (hs : subscripted slice false (.ref D) (.int i u) = operate [.ref D, .int i u] (getItem (.ref D) (.int i u)) := by with_unfolding_all rfl) :
    wpAny (model prog w) A (subscriptTail value slice (.ref D) (.int i u)) Q E s := by
  have hlt : i.toNat < ps.length := by
    rcases Nat.lt_or_ge i.toNat ps.length with q | q
    · exact q
    · rw [List.getElem?_eq_none q] at hp; cases hp
  refine tail_any hl.typeIs slot_list_getitem.lookup (wpAny_getItem_list hl h0 ?_ ?_ h) hs
  · omega
  · simp [svs, hp]
end
end
end
section
open PySem PySem.W PyProof.Rows PySem.Calls
abbrev Fk (κ : Str) (q : List Str) : List Str := q.filter (fun x => x != κ)
/-- a deed on the keys, the oldest first -/
def dK (dd cap : Int) (q : List Str) (κ : Str) : List Str :=
  if dd = 4 then q else if dd = 5 then Fk κ q else if κ ∈ q then Fk κ q ++ [κ] else if dd = 2 then q else if (q.length : Int) = cap then q.tail ++ [κ] else q ++ [κ]
theorem fk_self {κ : Str} {q : List Str} (h : κ ∉ q) : Fk κ q = q := by
  refine List.filter_eq_self.mpr fun x hx => ?_
  simp only [bne_iff_ne, ne_eq]
  exact fun e => h (e ▸ hx)
theorem mem_fk {κ x : Str} {q : List Str} : x ∈ Fk κ q ↔ x ∈ q ∧ x ≠ κ := by simp [Fk]
theorem keys_rm {ps : List (Str × Nat)} {κ : Str} (hn : (keysOf ps).Nodup) : keysOf (rm ps κ) = Fk κ (keysOf ps) := by
  induction ps with
  | nil => rfl
  | cons p r ih =>
    simp only [keysOf, List.map_cons, List.nodup_cons] at hn ih ⊢
    by_cases h : p.1 = κ
    · subst h
      have e : rm (p :: r) p.1 = r := by simp [rm]
      rw [e]
      have e2 : Fk p.1 (p.1 :: List.map (·.1) r) = Fk p.1 (List.map (·.1) r) := by simp [Fk]
      rw [e2, fk_self hn.1]
    · have e : rm (p :: r) κ = p :: rm r κ := by simp [rm, h]
      rw [e, List.map_cons, ih hn.2]
      simp [Fk, h]
theorem keys_app (a b : List (Str × Nat)) : keysOf (a ++ b) = keysOf a ++ keysOf b := by simp [keysOf]
theorem keys_tail (a : List (Str × Nat)) : keysOf a.tail = (keysOf a).tail := by simp [keysOf]
theorem keys_len (a : List (Str × Nat)) : (keysOf a).length = a.length := by simp [keysOf]
theorem keys_rev (a : List (Str × Nat)) : keysOf a.reverse = (keysOf a).reverse := by simp [keysOf]
theorem keys_touch {ps : List (Str × Nat)} {κ : Str} {t : Nat} (hn : (keysOf ps).Nodup) (hk : κ ∈ keysOf ps) : keysOf (touchQ ps κ t) = Fk κ (keysOf ps) ++ [κ] := by
  unfold touchQ
  split
  · rw [keys_app, keys_rm hn]; rfl
  · rename_i h
    rcases List.eq_nil_or_concat ps with rfl | ⟨a, p, rfl⟩
    · cases hk
    · have e : p.1 = κ := by simpa using h
      subst e
      rw [List.concat_eq_append] at hn ⊢
      rw [keys_app] at hn ⊢
      have hd : p.1 ∉ keysOf a := fun hx => (List.nodup_append.mp hn).2.2 _ hx p.1 (by simp [keysOf]) rfl
      have e3 : Fk p.1 (keysOf a ++ keysOf [p]) = keysOf a := by
        rw [Fk, List.filter_append]
        have : List.filter (fun x => x != p.1) (keysOf [p]) = [] := by simp [keysOf]
        rw [this, List.append_nil]
        exact fk_self hd
      rw [e3]; rfl
theorem keys_tQ {dd cap : Int} {ps : List (Str × Nat)} {kvs : List (Str × Value)} {κ : Str} {t : Nat} (hd : 0 ≤ dd ∧ dd < 6) (hn : (keysOf ps).Nodup) (hm : Matches ps kvs) (hl : ps.length = kvs.length) :
    keysOf (tQ dd cap ps kvs κ t) = dK dd cap (keysOf ps) κ := by
  have hm' := hm κ
  rcases (by omega : dd = 0 ∨ dd = 1 ∨ dd = 2 ∨ dd = 3 ∨ dd = 4 ∨ dd = 5) with rfl | rfl | rfl | rfl | rfl | rfl
  all_goals by_cases hk : κ ∈ keysOf ps
  all_goals simp only [tQ, dK, setQ, hk, hm'.mp, Int.reduceEq, or_true, true_or, or_self, if_true, if_false]
  all_goals first
    | (have hv : (valueAt kvs κ).isSome = true := hm'.mp hk)
    | (have hv : ¬ (valueAt kvs κ).isSome = true := fun e => hk (hm'.mpr e))
  all_goals (try simp only [hv, if_true, if_false, Bool.false_eq_true])
  all_goals first
    | rfl
    | (rw [keys_touch hn hk]; done)
    | (rw [keys_app, keys_rm hn]; rfl)
    | (rw [keys_rm hn]; done)
    | exact (fk_self hk).symm
    | (rw [← hl, keys_len]; split <;> rw [keys_app] <;> first | rfl | (rw [keys_tail]; rfl))

theorem fk_nodup {κ : Str} {q : List Str} (h : q.Nodup) : (Fk κ q).Nodup := h.filter _
theorem snoc_nodup {κ : Str} {q : List Str} (h : q.Nodup) (hk : κ ∉ q) : (q ++ [κ]).Nodup := by
  rw [List.nodup_append]
  refine ⟨h, by simp, fun a ha b hb => ?_⟩
  rw [List.mem_singleton.mp hb]
  exact fun e => hk (e ▸ ha)
theorem tail_nodup {q : List Str} (h : q.Nodup) : q.tail.Nodup := by
  cases q with
  | nil => exact h
  | cons a r => exact (List.nodup_cons.mp h).2
theorem tail_mem {q : List Str} {x : Str} (h : x ∈ q.tail) : x ∈ q := List.mem_of_mem_tail h
theorem fk_not {κ : Str} {q : List Str} : κ ∉ Fk κ q := fun h => (mem_fk.mp h).2 rfl
theorem dK_nodup {dd cap : Int} {q : List Str} {κ : Str} (h : q.Nodup) : (dK dd cap q κ).Nodup := by
  unfold dK
  split
  · exact h
  split
  · exact fk_nodup h
  split
  · exact snoc_nodup (fk_nodup h) fk_not
  rename_i hk
  split
  · exact h
  split
  · exact snoc_nodup (tail_nodup h) fun x => hk (tail_mem x)
  · exact snoc_nodup h hk
theorem fk_len {κ : Str} {q : List Str} (h : q.Nodup) (hk : κ ∈ q) : (Fk κ q).length + 1 = q.length := by
  induction q with
  | nil => cases hk
  | cons a r ih =>
    have hn := List.nodup_cons.mp h
    by_cases e : a = κ
    · subst e
      have : Fk a (a :: r) = Fk a r := by simp [Fk]
      rw [this, fk_self hn.1]; rfl
    · have hk' : κ ∈ r := by
        rcases List.mem_cons.mp hk with h | h
        · exact absurd h.symm e
        · exact h
      have : Fk κ (a :: r) = a :: Fk κ r := by simp [Fk, e]
      rw [this, List.length_cons, ih hn.2 hk', List.length_cons]
theorem dK_len {dd cap : Int} {q : List Str} {κ : Str} (h : q.Nodup) (hl : (q.length : Int) ≤ cap) (hc : 1 ≤ cap) : ((dK dd cap q κ).length : Int) ≤ cap := by
  unfold dK
  have hf : (Fk κ q).length ≤ q.length := List.length_filter_le ..
  split
  · exact hl
  split
  · omega
  split
  · rename_i hk
    have := fk_len h hk
    rw [List.length_append, List.length_singleton]; omega
  split
  · exact hl
  split
  · rw [List.length_append, List.length_singleton, List.length_tail]; omega
  · rw [List.length_append, List.length_singleton]; omega
theorem rev_fk {κ : Str} {q : List Str} : (Fk κ q).reverse = q.reverse.filter (fun x => x != κ) := by rw [Fk, List.filter_reverse]
theorem dK_order {dd cap : Int} {q : List Str} {κ : Str} (h : q.Nodup) (hl : (q.length : Int) ≤ cap) (hc : 1 ≤ cap) :
    (dK dd cap q κ).reverse = ordK dd (decide (κ ∈ q)) cap κ q.reverse (q.reverse.filter (fun x => x != κ)) := by
  unfold dK ordK
  by_cases h4 : dd = 4
  · simp [h4]
  by_cases h5 : dd = 5
  · simp only [h4, h5, if_false, if_true, false_or, Int.reduceEq, false_and]
    exact rev_fk
  by_cases hk : κ ∈ q
  · simp only [h4, h5, hk, if_false, if_true, decide_true, false_or, reduceCtorEq, and_false, Bool.true_eq_false]
    rw [List.reverse_append, ← rev_fk, List.reverse_singleton, List.singleton_append, List.take_of_length_le]
    have := fk_len h hk
    rw [List.length_cons, List.length_reverse]; omega
  by_cases h2 : dd = 2
  · simp [h2, hk]
  · simp only [h4, h5, hk, h2, if_false, decide_false, false_or, false_and]
    rw [← rev_fk, fk_self hk]
    split
    · rename_i e
      rw [List.reverse_append, List.reverse_singleton, List.singleton_append]
      obtain ⟨n, hn⟩ : ∃ n, cap.toNat = n + 1 := ⟨cap.toNat - 1, by omega⟩
      rw [hn, List.take_succ_cons]
      congr 1
      have hq : q.length = n + 1 := by omega
      cases q with
      | nil => simp at hq
      | cons a r =>
        simp only [List.length_cons] at hq
        rw [List.tail_cons, List.reverse_cons, List.take_append_of_le_length (by rw [List.length_reverse]; omega), List.take_of_length_le (by rw [List.length_reverse]; omega)]
    · rw [List.reverse_append, List.reverse_singleton, List.singleton_append, List.take_of_length_le]
      rw [List.length_cons, List.length_reverse]; omega

/-- the smaller one's keys are the larger one's that it holds -/
def Part (q1 q2 : List Str) : Prop := q1 = q2.filter (fun x => decide (x ∈ q1))
theorem part_mem {q1 q2 : List Str} (h : Part q1 q2) {x : Str} (hx : x ∈ q1) : x ∈ q2 := by
  rw [h] at hx
  exact (List.mem_filter.mp hx).1
theorem filter_mem_congr {q : List Str} {f g : Str → Bool} (h : ∀ x ∈ q, f x = g x) : q.filter f = q.filter g := List.filter_congr h
theorem part_fk {q1 q2 : List Str} {κ : Str} (h : Part q1 q2) : Part (Fk κ q1) (Fk κ q2) := by
  unfold Part
  conv => lhs; rw [h]
  rw [Fk, Fk, List.filter_filter, List.filter_filter]
  refine filter_mem_congr fun x _ => ?_
  by_cases e : x = κ
  · simp [e]
  · simp [e]
    exact Bool.and_comm _ _
theorem part_snoc {q1 q2 : List Str} {κ : Str} (h : Part q1 q2) (hk : κ ∉ q2) : Part (q1 ++ [κ]) (q2 ++ [κ]) := by
  unfold Part
  rw [List.filter_append]
  have e1 : q2.filter (fun x => decide (x ∈ q1 ++ [κ])) = q1 := by
    conv => rhs; rw [h]
    refine filter_mem_congr fun x hx => ?_
    have : x ≠ κ := fun e => hk (e ▸ hx)
    simp [this]
  rw [e1]
  simp
/-- the smaller one forgets its oldest -/
theorem part_tail {q1 q2 : List Str} (h : Part q1 q2) (hn : q1.Nodup) : Part q1.tail q2 := by
  cases q1 with
  | nil => exact h
  | cons a r =>
    have hn' := List.nodup_cons.mp hn
    unfold Part at h ⊢
    rw [List.tail_cons]
    have e : r = (q2.filter (fun x => decide (x ∈ a :: r))).filter (fun x => decide (x ∈ r)) := by
      rw [← h, List.filter_cons]
      simp only [hn'.1, decide_false, Bool.false_eq_true, if_false]
      exact (List.filter_eq_self.mpr fun x hx => by simpa using hx).symm
    conv => lhs; rw [e]
    rw [List.filter_filter]
    refine filter_mem_congr fun x _ => ?_
    by_cases hx : x ∈ r <;> simp [hx]
/-- both forget their oldest -/
theorem part_tails {q1 q2 : List Str} (h : Part q1 q2) (h1 : q1.Nodup) (h2 : q2.Nodup) : Part q1.tail q2.tail := by
  have ht := part_tail h h1
  cases q2 with
  | nil =>
    have : q1 = [] := by unfold Part at h; rw [h]; rfl
    subst this; exact ht
  | cons b s =>
    rw [List.tail_cons]
    have hb : b ∉ q1.tail := by
      intro hx
      cases q1 with
      | nil => cases hx
      | cons a r =>
        have hn := List.nodup_cons.mp h1
        have hm : b ∈ a :: r := tail_mem hx
        unfold Part at h
        rw [List.filter_cons] at h
        simp only [hm, decide_true, if_true, List.cons.injEq] at h
        exact hn.1 (h.1 ▸ hx)
    unfold Part at ht ⊢
    rw [List.filter_cons] at ht
    simp only [hb, decide_false, Bool.false_eq_true, if_false] at ht
    exact ht
/-- only the smaller one lacks the key -/
theorem part_in {q1 q2 : List Str} {κ : Str} (h : Part q1 q2) (hk : κ ∉ q1) : Part q1 (Fk κ q2) := by
  have := part_fk (κ := κ) h
  rw [fk_self hk] at this
  exact this
theorem part_snoc2 {q1 q2 : List Str} {κ : Str} (h : Part q1 q2) (hk : κ ∉ q1) : Part (q1 ++ [κ]) (Fk κ q2 ++ [κ]) := part_snoc (part_in h hk) fk_not
theorem part_touch {q1 q2 : List Str} {κ : Str} (h : Part q1 q2) (hk : κ ∉ q1) : Part q1 (Fk κ q2 ++ [κ]) := by
  have := part_in h hk
  unfold Part at this ⊢
  rw [List.filter_append, ← this]
  simp [hk]
theorem dK_part {dd cap1 cap2 : Int} {q1 q2 : List Str} {κ : Str} (h : Part q1 q2) (h1 : q1.Nodup) (h2 : q2.Nodup) (l1 : (q1.length : Int) ≤ cap1) (l2 : (q2.length : Int) ≤ cap2) (hl : (q2.length : Int) ≤ q1.length + (cap2 - cap1)) :
    Part (dK dd cap1 q1 κ) (dK dd cap2 q2 κ) := by
  unfold dK
  by_cases h4 : dd = 4
  · simp only [h4, if_true]; exact h
  by_cases h5 : dd = 5
  · simp only [h4, h5, if_true, if_false, Int.reduceEq]; exact part_fk h
  simp only [h4, h5, if_false]
  by_cases k1 : κ ∈ q1
  · have k2 := part_mem h k1
    simp only [k1, k2, if_true]
    exact part_snoc (part_fk h) fk_not
  simp only [k1, if_false]
  by_cases d2 : dd = 2
  · simp only [d2, if_true]
    by_cases k2 : κ ∈ q2
    · simp only [k2, if_true]; exact part_touch h k1
    · simp only [k2, if_false]; exact h
  simp only [d2, if_false]
  by_cases k2 : κ ∈ q2
  · simp only [k2, if_true]
    split
    · exact part_snoc2 (part_tail h h1) fun x => k1 (tail_mem x)
    · exact part_snoc2 h k1
  · simp only [k2, if_false]
    split
    · split
      · exact part_snoc (part_tails h h1 h2) fun x => k2 (tail_mem x)
      · exact part_snoc (part_tail h h1) k2
    · split
      · omega
      · exact part_snoc h k2
theorem dK_len2 {dd cap1 cap2 : Int} {q1 q2 : List Str} {κ : Str} (h : Part q1 q2) (h1 : q1.Nodup) (h2 : q2.Nodup) (l1 : (q1.length : Int) ≤ cap1) (l2 : (q2.length : Int) ≤ cap2) (c1 : 1 ≤ cap1) (c2 : 1 ≤ cap2) (hl : (q2.length : Int) ≤ q1.length + (cap2 - cap1)) :
    ((dK dd cap2 q2 κ).length : Int) ≤ (dK dd cap1 q1 κ).length + (cap2 - cap1) := by
  unfold dK
  by_cases h4 : dd = 4
  · simp only [h4, if_true]; exact hl
  by_cases k1 : κ ∈ q1
  · have k2 := part_mem h k1
    have e1 := fk_len h1 k1
    have e2 := fk_len h2 k2
    simp only [h4, k1, k2, if_true, if_false]
    split
    · omega
    · simp only [List.length_append, List.length_singleton]; omega
  have e1 : Fk κ q1 = q1 := fk_self k1
  have e2 : (Fk κ q2).length ≤ q2.length := List.length_filter_le ..
  simp only [h4, k1, if_false, e1]
  split
  · omega
  by_cases d2 : dd = 2
  · simp only [d2, if_true]
    split
    · rename_i k2
      have := fk_len h2 k2
      rw [List.length_append, List.length_singleton]; omega
    · exact hl
  simp only [d2, if_false]
  by_cases k2 : κ ∈ q2
  · have := fk_len h2 k2
    simp only [k2, if_true]
    split <;> simp only [List.length_append, List.length_singleton, List.length_tail] <;> omega
  · simp only [k2, if_false]
    split <;> split <;> simp only [List.length_append, List.length_singleton, List.length_tail] <;> omega
end
section
open PySem PySem.W PyProof.Rows PySem.Calls
/-- what a cache and what is known tell of a set of keys -/
def Rep (q : List Str) (kvs kk : List (Str × Value)) : Prop := ∀ k, (k ∈ q → ∃ x t t', valueAt kvs k = some (.int x t) ∧ valueAt kk k = some (.int x t')) ∧ (k ∉ q → valueAt kvs k = none)
theorem rep_store {q q' : List Str} {kvs kk : List (Str × Value)} {κ : Str} {x : Int} {t t' : Nat} (h : Rep q kvs kk) (hq : ∀ k, k ∈ q' ↔ k = κ ∨ k ∈ q) : Rep q' (stored kvs κ (.int x t)) (stored kk κ (.int x t')) := fun k => by
  rw [at_stored, at_stored]
  by_cases e : k = κ
  · simp only [e, if_true]
    exact ⟨fun _ => ⟨x, t, t', rfl, rfl⟩, fun n => absurd ((hq κ).mpr (.inl rfl)) n⟩
  · simp only [e, if_false]
    refine ⟨fun hk => (h k).1 (((hq k).mp hk).resolve_left e), fun hk => (h k).2 fun n => hk ((hq k).mpr (.inr n))⟩
theorem rep_less {q q' : List Str} {kvs kk : List (Str × Value)} {κ : Str} (h : Rep q kvs kk) (hq : ∀ k, k ∈ q' ↔ k ∈ q ∧ k ≠ κ) : Rep q' (without kvs κ) kk := fun k => by
  rw [at_without]
  by_cases e : k = κ
  · simp only [e, if_true]
    exact ⟨fun n => absurd rfl ((hq κ).mp n).2, fun _ => trivial⟩
  · simp only [e, if_false]
    refine ⟨fun hk => (h k).1 ((hq k).mp hk).1, fun hk => (h k).2 fun n => hk ((hq k).mpr ⟨n, e⟩)⟩
theorem rep_same {q q' : List Str} {kvs kk : List (Str × Value)} (h : Rep q kvs kk) (hq : ∀ k, k ∈ q' ↔ k ∈ q) : Rep q' kvs kk := fun k =>
  ⟨fun hk => (h k).1 ((hq k).mp hk), fun hk => (h k).2 fun n => hk ((hq k).mpr n)⟩
abbrev ks (kvs : List (Str × Value)) : List Str := kvs.map (·.1)
theorem ks_at (kvs : List (Str × Value)) (k : Str) : k ∈ ks kvs ↔ (valueAt kvs k).isSome = true := by
  rw [← any_at, List.any_eq_true]
  constructor
  · intro h
    obtain ⟨p, hp, e⟩ := List.mem_map.mp h
    exact ⟨p, hp, by simpa using e⟩
  · rintro ⟨p, hp, e⟩
    exact List.mem_map.mpr ⟨p, hp, by simpa using e⟩
theorem ks_stored {kvs : List (Str × Value)} {k : Str} {v : Value} (h : (ks kvs).Nodup) : (ks (stored kvs k v)).Nodup := by
  unfold stored
  split
  · have : ks (kvs.map fun kv => if kv.1 = k then (kv.1, v) else kv) = ks kvs := by
      unfold ks
      rw [List.map_map]
      refine List.map_congr_left fun p _ => ?_
      simp only [Function.comp]
      split <;> rfl
    rw [this]; exact h
  · rename_i hn
    unfold ks
    rw [List.map_append]
    refine snoc_nodup h fun hx => hn ?_
    rw [any_at]
    exact (ks_at _ _).mp hx
theorem ks_without {kvs : List (Str × Value)} {k : Str} (h : (ks kvs).Nodup) : (ks (without kvs k)).Nodup := by
  unfold ks without at *
  exact List.Sublist.nodup (List.Sublist.map _ List.filter_sublist) h
theorem stored_len (kvs : List (Str × Value)) (k : Str) (v : Value) : (stored kvs k v).length ≤ kvs.length + 1 := by
  unfold stored
  split
  · rw [List.length_map]; omega
  · rw [List.length_append]; exact Nat.le_refl _
theorem nodup_len {a b : List Str} (ha : a.Nodup) (hb : b.Nodup) (h : ∀ x, x ∈ a ↔ x ∈ b) : a.length = b.length :=
  ((List.perm_ext_iff_of_nodup ha hb).mpr h).length_eq
/-- a cache between two turns -/
structure Ok (cap : Int) (ps : List (Str × Nat)) (kvs kk : List (Str × Value)) : Prop where
  nq : (keysOf ps).Nodup
  nv : (ks kvs).Nodup
  re : Rep (keysOf ps) kvs kk
  ai : ∀ k y, valueAt kk k = some y → ∃ x t, y = .int x t
  le : (ps.length : Int) ≤ cap
theorem Rep.matches {ps : List (Str × Nat)} {kvs kk : List (Str × Value)} (h : Rep (keysOf ps) kvs kk) : Matches ps kvs := fun k => by
  by_cases hk : k ∈ keysOf ps
  · obtain ⟨x, t, t', e, _⟩ := (h k).1 hk
    simp [hk, e]
  · have := (h k).2 hk
    simp [hk, this]
theorem Ok.hm {cap : Int} {ps : List (Str × Nat)} {kvs kk : List (Str × Value)} (h : Ok cap ps kvs kk) : Matches ps kvs := h.re.matches
theorem Ok.len {cap : Int} {ps : List (Str × Nat)} {kvs kk : List (Str × Value)} (h : Ok cap ps kvs kk) : ps.length = kvs.length := by
  have := nodup_len h.nq h.nv fun x => (h.hm x).trans (ks_at kvs x).symm
  simpa [keysOf, ks] using this
theorem Ok.agree {cap : Int} {ps : List (Str × Nat)} {kvs kk : List (Str × Value)} (h : Ok cap ps kvs kk) : Agree ps kvs kk := fun p hp => (h.re p.1).1 (List.mem_map.mpr ⟨p, hp, rfl⟩)
theorem kset_ai {dd : Int} {b : Bool} {kk : List (Str × Value)} {κ : Str} {x : Int} {t : Nat} (h : ∀ k y, valueAt kk k = some y → ∃ x t, y = .int x t) : ∀ k y, valueAt (kset dd b kk κ (.int x t)) k = some y → ∃ x t, y = .int x t := by
  intro k y
  unfold kset
  split
  · rw [at_stored]
    split
    · intro e; exact ⟨x, t, (Option.some.inj e).symm⟩
    · exact h k y
  · exact h k y
theorem kset_len {dd : Int} {b : Bool} {kk : List (Str × Value)} {κ : Str} {v : Value} : (kset dd b kk κ v).length ≤ kk.length + 1 := by
  unfold kset
  split
  · exact stored_len _ _ _
  · omega
theorem mem_dK {dd cap : Int} {q : List Str} {κ : Str} (hn : q.Nodup) (k : Str) : k ∈ dK dd cap q κ ↔
    (if dd = 4 then k ∈ q else if dd = 5 then k ∈ q ∧ k ≠ κ else if κ ∈ q then k ∈ q else if dd = 2 then k ∈ q else if (q.length : Int) = cap then k = κ ∨ (k ∈ q ∧ k ≠ q.headD Str.empty) else k = κ ∨ k ∈ q) := by
  unfold dK
  split
  · exact Iff.rfl
  split
  · exact mem_fk
  split
  · rename_i hk
    rw [List.mem_append, List.mem_singleton, mem_fk]
    constructor
    · rintro (h | rfl)
      · exact h.1
      · exact hk
    · intro h
      by_cases e : k = κ
      · exact .inr e
      · exact .inl ⟨h, e⟩
  split
  · exact Iff.rfl
  split
  · rw [List.mem_append, List.mem_singleton, or_comm]
    refine or_congr Iff.rfl ?_
    cases q with
    | nil => simp
    | cons a r =>
      have hn' := List.nodup_cons.mp hn
      simp only [List.tail_cons, List.headD_cons, List.mem_cons]
      constructor
      · intro h; exact ⟨.inr h, fun e => hn'.1 (e ▸ h)⟩
      · rintro ⟨rfl | h, h2⟩
        · exact absurd rfl h2
        · exact h
  · rw [List.mem_append, List.mem_singleton, or_comm]
theorem keys_head (ps : List (Str × Nat)) : (keysOf ps).headD Str.empty = (ps.headD (Str.empty, 0)).1 := by cases ps <;> rfl
theorem Ok.step {cap dd : Int} {ps : List (Str × Nat)} {kvs kk : List (Str × Value)} {κ : Str} {tκ t t' : Nat} {i : Int} (h : Ok cap ps kvs kk) (hc : 1 ≤ cap) (hd : 0 ≤ dd ∧ dd < 6) :
    Ok cap (tQ dd cap ps kvs κ tκ) (tM dd cap ps kvs κ (.int i t)) (kset dd (decide (κ ∈ keysOf ps.reverse)) kk κ (.int i t')) := by
  have hl := h.len
  have hm := h.hm κ
  have hq := keys_tQ (κ := κ) (t := tκ) (cap := cap) hd h.nq h.hm hl
  have hrev : (κ ∈ keysOf ps.reverse) ↔ κ ∈ keysOf ps := by rw [keys_rev, List.mem_reverse]
  refine ⟨?_, ?_, ?_, kset_ai h.ai, ?_⟩
  · rw [hq]; exact dK_nodup h.nq
  · have n1 := ks_stored (k := κ) (v := .int i t) h.nv
    have n2 := ks_without (k := κ) h.nv
    have n3 := ks_stored (k := κ) (v := .int i t) (ks_without (k := (ps.headD (Str.empty, 0)).1) h.nv)
    unfold tM setM
    repeat' split
    all_goals first | exact h.nv | exact n1 | exact n2 | exact n3
  · rw [hq]
    have hmem := mem_dK (dd := dd) (cap := cap) (κ := κ) h.nq
    have hd1 : (decide (κ ∈ keysOf ps.reverse) = false) ↔ κ ∉ keysOf ps := by simp [hrev]
    rcases (by omega : dd = 0 ∨ dd = 1 ∨ dd = 2 ∨ dd = 3 ∨ dd = 4 ∨ dd = 5) with rfl | rfl | rfl | rfl | rfl | rfl
    all_goals by_cases hk : κ ∈ keysOf ps
    all_goals first
      | (have hv : (valueAt kvs κ).isSome = true := hm.mp hk)
      | (have hv : ¬ (valueAt kvs κ).isSome = true := fun e => hk (hm.mpr e))
    all_goals simp only [hk, Int.reduceEq, if_true, if_false, not_true_eq_false, not_false_eq_true] at hmem hd1
    all_goals simp only [tM, setM, kset, hv, hd1, Int.reduceEq, Int.reduceLT, true_or, or_true, or_self, false_or, true_and, and_true, and_false, false_and, if_true, if_false, Bool.false_eq_true, reduceCtorEq]
    all_goals first
      | exact rep_same h.re hmem
      | exact rep_less h.re hmem
      | exact rep_same h.re fun k => (hmem k).trans ⟨fun e => e.1, fun e => ⟨e, fun x => hk (x ▸ e)⟩⟩
      | exact rep_store h.re fun k => (hmem k).trans ⟨fun e => .inr e, fun e => e.elim (fun e => e ▸ hk) id⟩
      | (rw [← hl]
         rw [keys_len] at hmem
         split
         · rename_i e
           simp only [e, if_true] at hmem
           rw [← keys_head]
           exact rep_store (rep_less h.re fun k => Iff.rfl (a := k ∈ (keysOf ps).filter (fun x => x != (keysOf ps).headD Str.empty)) |>.trans mem_fk) fun k => (hmem k).trans (or_congr Iff.rfl mem_fk.symm)
         · rename_i e
           simp only [e, if_false] at hmem
           exact rep_store h.re hmem)
  · have := dK_len (dd := dd) (κ := κ) h.nq (by rw [keys_len]; exact h.le) hc
    rw [← hq, keys_len] at this
    exact this
theorem Ok.told {cap dd : Int} {ps : List (Str × Nat)} {kvs kk : List (Str × Value)} {κ : Str} {t t' : Nat} {i : Int} (h : Ok cap ps kvs kk) (hd : 0 ≤ dd ∧ dd < 6) :
    Told dd (decide (κ ∈ keysOf ps.reverse)) (kset dd (decide (κ ∈ keysOf ps.reverse)) kk κ (.int i t')) κ (tV dd kvs κ (.int i t)) := by
  have hm := h.hm κ
  have hr := h.re κ
  have hrev : (κ ∈ keysOf ps.reverse) ↔ κ ∈ keysOf ps := by rw [keys_rev, List.mem_reverse]
  have hs : valueAt (stored kk κ (.int i t')) κ = some (.int i t') := by rw [at_stored, if_pos rfl]
  by_cases hk : κ ∈ keysOf ps
  · have hb : decide (κ ∈ keysOf ps.reverse) = true := by simp [hrev, hk]
    obtain ⟨x, tx, tx', e1, e2⟩ := hr.1 hk
    rw [hb]
    rcases (by omega : dd = 0 ∨ dd = 1 ∨ dd = 2 ∨ dd = 3 ∨ dd = 4 ∨ dd = 5) with rfl | rfl | rfl | rfl | rfl | rfl
    all_goals simp [Told, tV, kset, hs, e1, e2]
  · have hb : decide (κ ∈ keysOf ps.reverse) = false := by simp [hrev, hk]
    have e1 := hr.2 hk
    rw [hb]
    rcases (by omega : dd = 0 ∨ dd = 1 ∨ dd = 2 ∨ dd = 3 ∨ dd = 4 ∨ dd = 5) with rfl | rfl | rfl | rfl | rfl | rfl
    all_goals simp [Told, tV, kset, hs, e1]
end
section
open PySem PySem.W PyProof.Rows PySem.Calls
/-- both caches between two turns -/
structure Inv (cap1 cap2 : Int) (ps1 : List (Str × Nat)) (kvs1 kk1 : List (Str × Value)) (ps2 : List (Str × Nat)) (kvs2 kk2 : List (Str × Value)) : Prop where
  a : Ok cap1 ps1 kvs1 kk1
  b : Ok cap2 ps2 kvs2 kk2
  pt : Part (keysOf ps1) (keysOf ps2)
  ln : (ps2.length : Int) ≤ ps1.length + (cap2 - cap1)
section
variable {cap cap1 cap2 dd : Int} {ps ps1 ps2 : List (Str × Nat)} {kvs kk kvs1 kk1 kvs2 kk2 : List (Str × Value)} {κ : Str} {tκ t t' : Nat} {i : Int}
theorem ok_nil (h : 0 ≤ cap) : Ok cap [] [] [] := ⟨List.nodup_nil, List.nodup_nil, fun _ => ⟨fun h => (nomatch h), fun _ => rfl⟩, fun _ _ h => (nomatch h), by simpa using h⟩
theorem inv_nil (h : 0 ≤ cap1) (h2 : cap1 ≤ cap2) : Inv cap1 cap2 [] [] [] [] [] [] := ⟨ok_nil h, ok_nil (by omega), rfl, by simp; omega⟩
theorem Inv.step (h : Inv cap1 cap2 ps1 kvs1 kk1 ps2 kvs2 kk2) (c1 : 1 ≤ cap1) (c2 : cap1 ≤ cap2) (hd : 0 ≤ dd ∧ dd < 6) :
    Inv cap1 cap2 (tQ dd cap1 ps1 kvs1 κ tκ) (tM dd cap1 ps1 kvs1 κ (.int i t)) (kset dd (decide (κ ∈ keysOf ps1.reverse)) kk1 κ (.int i t')) (tQ dd cap2 ps2 kvs2 κ tκ) (tM dd cap2 ps2 kvs2 κ (.int i t)) (kset dd (decide (κ ∈ keysOf ps2.reverse)) kk2 κ (.int i t')) := by
  have l1 : ((keysOf ps1).length : Int) ≤ cap1 := by rw [keys_len]; exact h.a.le
  have l2 : ((keysOf ps2).length : Int) ≤ cap2 := by rw [keys_len]; exact h.b.le
  have ln : ((keysOf ps2).length : Int) ≤ (keysOf ps1).length + (cap2 - cap1) := by rw [keys_len, keys_len]; exact h.ln
  have e1 := keys_tQ (κ := κ) (t := tκ) (cap := cap1) hd h.a.nq h.a.hm h.a.len
  have e2 := keys_tQ (κ := κ) (t := tκ) (cap := cap2) hd h.b.nq h.b.hm h.b.len
  refine ⟨h.a.step c1 hd, h.b.step (by omega) hd, ?_, ?_⟩
  · rw [e1, e2]; exact dK_part h.pt h.a.nq h.b.nq l1 l2 ln
  · have := dK_len2 (dd := dd) (κ := κ) h.pt h.a.nq h.b.nq l1 l2 c1 (by omega) ln
    rw [← e1, ← e2, keys_len, keys_len] at this
    exact this
theorem Inv.small (h : Inv cap1 cap2 ps1 kvs1 kk1 ps2 kvs2 kk2) : keysOf ps1.reverse = (keysOf ps2.reverse).filter (fun k => decide (k ∈ keysOf ps1.reverse)) := by
  rw [keys_rev, keys_rev]
  conv => lhs; rw [h.pt]
  rw [List.filter_reverse]
  congr 1
  exact List.filter_congr fun x _ => by simp
theorem Inv.imp (h : Inv cap1 cap2 ps1 kvs1 kk1 ps2 kvs2 kk2) : decide (κ ∈ keysOf ps1.reverse) = true → decide (κ ∈ keysOf ps2.reverse) = true := by
  simp only [decide_eq_true_eq, keys_rev, List.mem_reverse]
  exact part_mem h.pt
theorem Ok.order (h : Ok cap ps kvs kk) (hc : 1 ≤ cap) (hd : 0 ≤ dd ∧ dd < 6) :
    keysOf (tQ dd cap ps kvs κ tκ).reverse = ordK dd (decide (κ ∈ keysOf ps.reverse)) cap κ (keysOf ps.reverse) (keysOf (ps.reverse.filter (fun p => p.1 != κ))) := by
  rw [keys_rev, keys_tQ hd h.nq h.hm h.len, dK_order h.nq (by rw [keys_len]; exact h.le) hc, keysOf_filter _ (fun x => x != κ), keys_rev]
  simp only [List.mem_reverse]
theorem Ok.size (h : Ok cap ps kvs kk) (hc : cap ≤ 900) : kvs.length ≤ 900 ∧ ps.length = kvs.length := by
  have := h.le
  have := h.len
  omega
end
end
section
open PySem PySem.W PyProof.Rows PySem.Calls
theorem fillK3 : (PySem.Challenge.rw_co0006_01 = PySem.Challenge.rw_co0006_01 ∧ hd.heap_39 = hd.heap_39) := by
  w_top off
  k_fill
  exact ⟨rfl, rfl⟩
local macro_rules | `(tactic| k_room) => `(tactic| ((try simp only [depth_mark, depth_under_make, depth_under_kw, depth_in1, depth_deeper, depth_caller, recursionLimit] at *); omega))
local macro_rules | `(tactic| walk_at "compareOp In str ref") => `(tactic| (k_here; k_dflt (refine' kda_in (knd := PySem.strKind _ _) ?N ?p ?d ?lo (strKind_is _ _ _ _) _ rfl ?_; (case N => k_asm); (case p => k_mem); (case d => assumption); (case lo => assumption))))
local macro_rules | `(tactic| walk_at "call builtin:len") => `(tactic| (k_here; (with_reducible show wpAny _ _ (call (Value.builtin "len") [Value.ref _]) _ _ _); k_dflt (refine' kda_len (knd := PySem.strKind _ _) ?N ?p ?d ?lo ?z ?_; (case N => k_asm); (case p => k_mem); (case d => assumption); (case lo => assumption); (case z => omega))))
local macro_rules | `(tactic| walk_at "getMethod ref") => `(tactic| (k_here; k_dflt (first
  | ((with_reducible show wpAny _ _ (getMethod (Value.ref _) (PySem.Str.ofString "remove") _) _ _ _); (refine' q_method ?N ?m PySem.F.slot_list_remove PySem.F.type_list_remove ?_; (case N => k_asm); (case m => k_mem)))
  | ((with_reducible show wpAny _ _ (getMethod (Value.ref _) (PySem.Str.ofString "pop") _) _ _ _); (refine' q_method ?N ?m PySem.F.slot_list_pop PySem.F.type_list_pop ?_; (case N => k_asm); (case m => k_mem)))
  | ((with_reducible show wpAny _ _ (getMethod (Value.ref _) (PySem.Str.ofString "append") _) _ _ _); (refine' q_method ?N ?m PySem.F.slot_list_append PySem.F.type_list_append ?_; (case N => k_asm); (case m => k_mem)))
  | ((with_reducible show wpAny _ _ (getMethod (Value.ref _) (PySem.Str.ofString "clear") _) _ _ _); (first
    | (refine' q_method ?N ?m PySem.F.slot_list_clear PySem.F.type_list_clear ?_; (case N => k_asm); (case m => k_mem))
    | (refine' kob_method (knd := PySem.strKind _ _) PySem.F.slot_dict_clear PySem.F.type_dict_clear ?N ?m ?d ?_; (case N => k_asm); (case m => k_mem); (case d => assumption)))))))
local macro_rules | `(tactic| walk_at "call builtin:list.remove") => `(tactic| (k_here; k_dflt (refine' q_remove ?F ?N ?U ?m ?z ?_; (case F => k_asm); (case N => k_asm); (case U => k_updF); (case m => exact mem_of (by assumption) (by assumption)); (case z => omega)); intro h' n' F' N'; (try dsimp only at N'); (try k_sweep)))
local macro_rules | `(tactic| walk_at "call builtin:list.append") => `(tactic| (k_here; (with_reducible show wpAny _ _ (call (Value.builtin _) [Value.ref _, Value.str _ _]) _ _ _); k_dflt (refine' q_append ?F ?N ?U ?z ?_; (case F => k_asm); (case N => k_asm); (case U => k_updF); (case z => first | omega | exact Nat.le_trans (rm_len _ _) (by omega) | (rw [List.length_tail]; omega))); intro h' n' F' N'; (try dsimp only at N'); (try k_sweep)))
local macro_rules | `(tactic| walk_at "call builtin:list.pop") => `(tactic| (k_here; k_dflt (refine' q_pop0 rfl ?F ?N ?U ?ne ?z ?_; (case F => k_asm); (case N => k_asm); (case U => k_updF); (case ne => omega); (case z => first | omega | exact Nat.le_trans (rm_len _ _) (by omega) | (rw [List.length_tail]; omega))); intro h' n' F' N'; (try dsimp only at N'); (try k_sweep)))
local macro_rules | `(tactic| walk_at "delItem ref str") => `(tactic| (k_here; k_dflt (refine' kob_del (knd := PySem.strKind _ _) ?F ?N ?U ?d (strKind_is _ _ _ _) ?l ?z ?_; (case F => k_asm); (case N => k_asm); (case U => k_updF); (case d => assumption); (case l => first | assumption | exact head_of (by assumption) (by omega)); (case z => rw [sizeLine_eq]; omega)); intro h' o' F' N' hd'; (try dsimp only at N'); (try k_sweep)))
local macro_rules | `(tactic| walk_at "setItem ref str") => `(tactic| (k_here; k_dflt (refine' kda_set (knd := PySem.strKind _ _) ?F ?N ?U ?d (strKind_is _ _ _ _) ?z ?_; (case F => k_asm); (case N => k_asm); (case U => k_updF); (case d => assumption); (case z => rw [sizeLine_eq]; first | omega | exact Nat.le_trans (without_len _ _) (by omega))); intro h' o' F' N' hd'; (try dsimp only at N'); (try k_sweep)))
local macro_rules | `(tactic| walk_at "subscriptTail") => `(tactic| (k_here; (with_reducible show wpAny _ _ (subscriptTail _ _ (Value.ref _) (Value.int (-1) _)) _ _ _); (with_unfolding_all refine' q_last rfl ?N ?m ?ne ?z ?_ ?s; (case N => k_asm); (case m => k_mem); (case ne => exact ne_of (by assumption) (by assumption)); (case z => omega); (case s => with_unfolding_all rfl))))
local macro_rules | `(tactic| walk_at "subscriptTail") => `(tactic| (k_here; (with_reducible show wpAny _ _ (subscriptTail _ _ (Value.ref _) (Value.str _ _)) _ _ _); (with_unfolding_all refine' kdt_tail (knd := PySem.strKind _ _) ?N ?p ?d ?_; (case N => k_asm); (case p => k_mem); (case d => assumption))))
local macro_rules | `(tactic| walk_at "getItem ref str") => `(tactic| (k_here; k_dflt (refine' kdt_getItem (knd := PySem.strKind _ _) ?N ?p ?d (strKind_is _ _ _ _) ?v ?_; (case N => k_asm); (case p => k_mem); (case d => assumption); (case v => assumption))))
local macro_rules | `(tactic| walk_at "call builtin:dict.clear") => `(tactic| (k_here; k_dflt (refine' d_clear ?F ?N ?U ?d ?z ?_; (case F => k_asm); (case N => k_asm); (case U => k_updF); (case d => assumption); (case z => omega)); intro h' o' F' N' hd'; (try dsimp only at N'); (try k_sweep)))
local macro_rules | `(tactic| walk_at "call builtin:list.clear") => `(tactic| (k_here; k_dflt (refine' q_clear ?F ?N ?U ?z ?_; (case F => k_asm); (case N => k_asm); (case U => k_updF); (case z => omega)); intro h' n' F' N'; (try dsimp only at N'); (try k_sweep)))
local macro_rules | `(tactic| walk_at "call type:tuple") => `(tactic| (k_here; k_dflt (refine' tup_led ?F ?N ?m ?z ?_; (case F => k_asm); (case N => k_asm); (case m => k_mem); (case z => omega)); intro D' h' F' N' l1; (try k_lt l1); (try k_sweep)))
local macro_rules | `(tactic| walk_at "call type:reversed") => `(tactic| (k_here; k_dflt (refine' rv_led ?F ?N ?m ?z ?_; (case F => k_asm); (case N => k_asm); (case m => k_mem); (case z => omega)); intro D' h' tk' F' N' l1; (try k_lt l1); (try k_sweep)))
local macro_rules | `(tactic| walk_at "call builtin:iter") => `(tactic| (k_here; k_dflt (refine' it_led ?F ?N ?m ?_; (case F => k_asm); (case N => k_asm); (case m => k_mem)); intro D' h' F' N' l1; (try k_lt l1); (try k_sweep)))
local macro_rules | `(tactic| walk_at "exec Assign cons ListComp") => `(tactic| (k_here; k_dflt (first
  | (refine LCg.Assign_ListComp_U (F₀ := by k_asm) (by rfl) (by with_unfolding_all rfl) (by with_unfolding_all rfl) (by decide) (by rfl) (by decide) (by rfl) (by rfl) (by rfl) ?_)
  | (refine LCt.Assign_ListComp_T (F₀ := by k_asm) (by rfl) (by with_unfolding_all rfl) (by with_unfolding_all rfl) (by decide) (by rfl) (by decide) (by rfl) (by rfl) (by rfl) ?_))))
local macro_rules | `(tactic| walk_at "eval ListComp") => `(tactic| (k_here; k_dflt (first
  | (refine LCg.ListComp_U (F₀ := by k_asm) (by with_unfolding_all rfl) (by decide) (by rfl) (by decide) (by rfl) ?_)
  | (refine LCt.ListComp_T (F₀ := by k_asm) (by with_unfolding_all rfl) (by decide) (by rfl) (by decide) (by rfl) ?_))))
local macro_rules | `(tactic| walk_at "CompSrc") => `(tactic| (fail))
local macro_rules | `(tactic| walk_at "call builtin:list.reverse") => `(tactic| (k_here; (with_reducible show wpAny _ _ (call (Value.builtin _) [Value.ref _]) _ _ _); k_dflt (refine' kl_reverse ?F ?N rfl ?U ?z ?_; (case F => k_asm); (case N => k_asm); (case U => k_upd); (case z => rw [sizeLine_eq]; simp [prs] at *; omega)); intro h' F' N'; (try k_sweep)))
section
local macro_rules | `(tactic| walk_at "eval Name") => `(tactic| (k_here; k_dflt (refine' nameX_L ?F ?v ?_ ?a ?b; (case a => rfl); (case b => rfl); (case F => k_asm); (case v => assumption))))
section
variable {prog : Program} {w : World} {h₀ : Heap} {L fa : Nat} {cv : Value} {mean : ExcName → Option Value} {mg mb : Str → Option Value} {s : Shared} {m : Str → Option Value} {Q : Flow → Shared → Prop} {E : Value → Shared → Prop} {rest : List (Addr × Obj)}
  {o1 o2 o3 o4 o5 o6 o7 ko1 ko2 od1 od2 : Obj} {cl sz ca kn k1 k2 c1 cd1 dm1 dq1 lk1 ld1 c2 cd2 dm2 dq2 lk2 ld2 : Nat} {ncl nsz nca nkn nq1 nq2 u1 u2 ua1 ua2 ta1 ta2 tb1 tb2 tc1 tc2 td1 td2 : Nat} {cap1 cap2 : Int}
  {vs : List Value} {ns : List Int} {ps1 ps2 : List (Str × Nat)} {kvs1 kvs2 kk1 kk2 : List (Str × Value)}
set_option maxRecDepth 100000 in
set_option maxHeartbeats 8000000 in
theorem turn0 (B : Below callerA h₀ [] h₀) (X : (Mine.hd.heap_39 w.params).In h₀) (T : TT mean mg mb h₀) (F : Fr h₀ L s.heap m) (N : News h₀ L s.heap ((L + 1, o1) :: (L + 1 + 1, o2) :: (L + 1 + 1 + 1, o3) :: (L + 1 + 1 + 1 + 1, o4) :: (L + 1 + 1 + 1 + 1 + 1, o5) :: (L + 1 + 1 + 1 + 1 + 1 + 1, o6) :: (L + 1 + 1 + 1 + 1 + 1 + 1 + 1, o7) :: (cl, listOf vs.toArray ncl) :: (sz, listOf #[.int cap1 u1, .int cap2 u2] nsz) :: (ca, listOf #[.ref c1, .ref c2] nca) :: (kn, listOf #[.ref k1, .ref k2] nkn) :: (k1, ko1) :: (k2, ko2) :: (c1, instObj 169 cd1) :: (cd1, cdObj w dm1 dq1 lk1 cap1 ua1 ta1 tb1 tc1 td1) :: (dm1, od1) :: (dq1, listOf (svs ps1) nq1) :: (lk1, instObj 45 ld1) :: (ld1, dictOf [] 0) :: (c2, instObj 169 cd2) :: (cd2, cdObj w dm2 dq2 lk2 cap2 ua2 ta2 tb2 tc2 td2) :: (dm2, od2) :: (dq2, listOf (svs ps2) nq2) :: (lk2, instObj 45 ld2) :: (ld2, dictOf [] 0) :: rest))
    (q0 : (L + 1 + 1 + 1 + 1 + 1 + 1 + 1 < sz ∧ L + 1 ≠ cl ∧ L + 1 + 1 ≠ cl ∧ L + 1 + 1 + 1 ≠ cl ∧ L + 1 + 1 + 1 + 1 ≠ cl ∧ L + 1 + 1 + 1 + 1 + 1 ≠ cl ∧ L + 1 + 1 + 1 + 1 + 1 + 1 ≠ cl ∧ L + 1 + 1 + 1 + 1 + 1 + 1 + 1 ≠ cl) ∧ cl < sz ∧ sz < cd1 ∧ cd1 < c1 ∧ c1 < dm1 ∧ dm1 < dq1 ∧ dq1 < ld1 ∧ ld1 < lk1 ∧ lk1 < cd2 ∧ cd2 < c2 ∧ c2 < dm2 ∧ dm2 < dq2 ∧ dq2 < ld2 ∧ ld2 < lk2 ∧ lk2 < ca ∧ ca < kn ∧ ca < k1 ∧ ca < k2 ∧ k1 ≠ k2 ∧ k1 ≠ kn ∧ k2 ≠ kn)
    (hroff : OwnOff rest [L + 1, L + 1 + 1, L + 1 + 1 + 1, L + 1 + 1 + 1 + 1, L + 1 + 1 + 1 + 1 + 1, L + 1 + 1 + 1 + 1 + 1 + 1, L + 1 + 1 + 1 + 1 + 1 + 1 + 1, kn, k1, k2, c1, cd1, dm1, dq1, lk1, ld1, c2, cd2, dm2, dq2, lk2, ld2])
    (mcl : m (Str.ofString "cells") = some (.ref cl)) (msz : m (Str.ofString "sizes") = some (.ref sz)) (mca : m (Str.ofString "caches") = some (.ref ca)) {i : Int} {ti : Tok} (hi : IntsAre vs ns) (hr : 0 ≤ i ∧ i < ns.length) (hz : ns.length ≤ 63) (hb : ∀ x ∈ ns, 0 ≤ x ∧ x < 10000) (x2 : o2.data = .cell (some (.int i ti))) {y3 y4 : Option Value} (x3 : o3.data = .cell y3) (x4 : o4.data = .cell y4)
    (h : ∀ h' tk oo3 oo4 td κ tκ, Fr h₀ L h' m → News h₀ L h' ((L + 1, o1) :: (L + 1 + 1, o2) :: (L + 1 + 1 + 1, oo3) :: (L + 1 + 1 + 1 + 1, oo4) :: (L + 1 + 1 + 1 + 1 + 1, o5) :: (L + 1 + 1 + 1 + 1 + 1 + 1, o6) :: (L + 1 + 1 + 1 + 1 + 1 + 1 + 1, o7) :: (cl, listOf vs.toArray ncl) :: (sz, listOf #[.int cap1 u1, .int cap2 u2] nsz) :: (ca, listOf #[.ref c1, .ref c2] nca) :: (kn, listOf #[.ref k1, .ref k2] nkn) :: (k1, ko1) :: (k2, ko2) :: (c1, instObj 169 cd1) :: (cd1, cdObj w dm1 dq1 lk1 cap1 ua1 ta1 tb1 tc1 td1) :: (dm1, od1) :: (dq1, listOf (svs ps1) nq1) :: (lk1, instObj 45 ld1) :: (ld1, dictOf [] 0) :: (c2, instObj 169 cd2) :: (cd2, cdObj w dm2 dq2 lk2 cap2 ua2 ta2 tb2 tc2 td2) :: (dm2, od2) :: (dq2, listOf (svs ps2) nq2) :: (lk2, instObj 45 ld2) :: (ld2, dictOf [] 0) :: rest) → oo3.data = .cell (some (.int ((ns.getD i.toNat 0).fmod 6) td)) → oo4.data = .cell (some (.str κ tκ)) → Q .next { s with heap := h', toks := tk }) :
    wpAny (model prog w) (callerA.deeper (lawE w L fa cv)) (exec (st0 w) (lawE w L fa cv)) Q E s := by
  have q0c := q0
  obtain ⟨q1, q2, q3, q4, q5, q6, q7, q8, q9, q10, q11, q12, q13, q14, q15, q16, q17, q18, q19, q20, q21⟩ := q0
  unfold st0 turnB forS lawB lawF
  dsimp only [hdS, tlS, bodyS]
  show wpAny _ (callerA.deeper (envOfC "law" (lawS w) L fa cv)) (exec _ (envOfC "law" (lawS w) L fa cv)) _ _ _
  unfold lawS lawF
  dsimp only
  k_steps
  all_goals first
    | exact h _ _ _ _ _ _ _ (by assumption) (news_tail (by assumption)) (by assumption) (by assumption)
end
end
section
local macro_rules | `(tactic| k_mem) => `(tactic| first | with_reducible exact List.mem_cons_self | with_reducible assumption | (with_reducible refine List.mem_cons_of_mem _ ?_; k_mem))
local macro_rules | `(tactic| walk_at "eval Name") => `(tactic| (k_here; k_dflt (refine' nameX_L ?F ?v ?_ ?a ?b; (case a => rfl); (case b => rfl); (case F => k_asm); (case v => assumption))))
local macro_rules | `(tactic| walk_at "call type:list") => `(tactic| (k_here; (with_reducible show wpAny _ _ (call (Value.type "list") [Value.ref _]) _ _ _); k_dflt (refine' list_w (base := ?bb) (A₀ := ?aa) ?C ?m1 ?m2 ?m3 ?m4 ?m5 ?m6 ?o ?d ?lo ?z rfl ?u ?_; (case C => exact ⟨by assumption, by k_asm, by assumption, by k_asm, by assumption, rfl, rfl, rfl, by (simp only [depth_mark, depth_deeper, depth_caller]; decide), by (simp only [units_mark, units_deeper]; decide)⟩); (case m1 => k_mem); (case m2 => k_mem); (case m3 => k_mem); (case m4 => k_mem); (case m5 => k_mem); (case m6 => k_mem); (case u => simp only [units_mark, units_deeper]; decide); (case o => exact ⟨by assumption, by assumption, by assumption, by assumption, by assumption⟩); (case d => assumption); (case lo => assumption); (case z => exact ⟨by assumption, by assumption⟩)); intro h' tk' D' n' F' N' l1; (have l2 := l1); (k_lt l2); (try k_sweep); (try k_unmd)))
local macro_rules | `(tactic| walk_at "compareOp In str ref") => `(tactic| (k_here; k_dflt (refine' in_strs ?l ?_; (case l => exact ⟨_, News.get (by k_asm) (by k_mem), rfl, _, rfl⟩))))
local macro_rules | `(tactic| walk_at "CompSrc") => `(tactic| (k_here; refine halt ?_))
local macro_rules | `(tactic| walk_at "CompSrcT") => `(tactic| (k_here; refine halt ?_))
local macro_rules | `(tactic| walk_at "call ref") => `(tactic| (k_here; (with_reducible show wpAny _ _ (call (Value.ref 180) _) _ _ _); refine halt ?_))
local macro_rules | `(tactic| walk_at "call ref") => `(tactic| (k_here; (with_reducible show wpAny _ _ (call (Value.ref 93) _) _ _ _); refine halt ?_))
local macro_rules | `(tactic| walk_at "exec For") => `(tactic| (k_here; refine for_range ?_))
section
variable {prog : Program} {w : World} {h₀ : Heap} {L fa : Nat} {cv : Value} {mean : ExcName → Option Value} {mg mb : Str → Option Value} {s : Shared} {m : Str → Option Value} {Q : Flow → Shared → Prop} {E : Value → Shared → Prop} {rest : List (Addr × Obj)}
  {o1 o2 o3 o4 o5 o6 o7 ko1 ko2 od1 od2 : Obj} {cl sz ca kn k1 k2 c1 cd1 dm1 dq1 lk1 ld1 c2 cd2 dm2 dq2 lk2 ld2 : Nat} {ncl nsz nca nkn nq1 nq2 u1 u2 ua1 ua2 ta1 ta2 tb1 tb2 tc1 tc2 td1 td2 : Nat} {cap1 cap2 : Int}
  {vs : List Value} {ns : List Int} {ps1 ps2 : List (Str × Nat)} {kvs1 kvs2 kk1 kk2 : List (Str × Value)}
set_option maxRecDepth 100000 in
set_option maxHeartbeats 8000000 in
theorem turn1 {I0 : Nat} {oI0 : Obj} (B : Below callerA h₀ [] h₀) (X : (Mine.hd.heap_39 w.params).In h₀) (T : TT mean mg mb h₀) (F : Fr h₀ L s.heap m) (N : News h₀ L s.heap ((L + 1, o1) :: (L + 1 + 1, o2) :: (L + 1 + 1 + 1, o3) :: (L + 1 + 1 + 1 + 1, o4) :: (L + 1 + 1 + 1 + 1 + 1, o5) :: (L + 1 + 1 + 1 + 1 + 1 + 1, o6) :: (L + 1 + 1 + 1 + 1 + 1 + 1 + 1, o7) :: (cl, listOf vs.toArray ncl) :: (sz, listOf #[.int cap1 u1, .int cap2 u2] nsz) :: (ca, listOf #[.ref c1, .ref c2] nca) :: (kn, listOf #[.ref k1, .ref k2] nkn) :: (k1, ko1) :: (k2, ko2) :: (c1, instObj 169 cd1) :: (cd1, cdObj w dm1 dq1 lk1 cap1 ua1 ta1 tb1 tc1 td1) :: (dm1, od1) :: (dq1, listOf (svs ps1) nq1) :: (lk1, instObj 45 ld1) :: (ld1, dictOf [] 0) :: (c2, instObj 169 cd2) :: (cd2, cdObj w dm2 dq2 lk2 cap2 ua2 ta2 tb2 tc2 td2) :: (dm2, od2) :: (dq2, listOf (svs ps2) nq2) :: (lk2, instObj 45 ld2) :: (ld2, dictOf [] 0) :: (I0, oI0) :: []))
    (q0 : (L + 1 + 1 + 1 + 1 + 1 + 1 + 1 < sz ∧ L + 1 ≠ cl ∧ L + 1 + 1 ≠ cl ∧ L + 1 + 1 + 1 ≠ cl ∧ L + 1 + 1 + 1 + 1 ≠ cl ∧ L + 1 + 1 + 1 + 1 + 1 ≠ cl ∧ L + 1 + 1 + 1 + 1 + 1 + 1 ≠ cl ∧ L + 1 + 1 + 1 + 1 + 1 + 1 + 1 ≠ cl) ∧ cl < sz ∧ sz < cd1 ∧ cd1 < c1 ∧ c1 < dm1 ∧ dm1 < dq1 ∧ dq1 < ld1 ∧ ld1 < lk1 ∧ lk1 < cd2 ∧ cd2 < c2 ∧ c2 < dm2 ∧ dm2 < dq2 ∧ dq2 < ld2 ∧ ld2 < lk2 ∧ lk2 < ca ∧ ca < kn ∧ ca < k1 ∧ ca < k2 ∧ k1 ≠ k2 ∧ k1 ≠ kn ∧ k2 ≠ kn)
    (hroff : OwnOff ((I0, oI0) :: []) [L + 1, L + 1 + 1, L + 1 + 1 + 1, L + 1 + 1 + 1 + 1, L + 1 + 1 + 1 + 1 + 1, L + 1 + 1 + 1 + 1 + 1 + 1, L + 1 + 1 + 1 + 1 + 1 + 1 + 1, kn, k1, k2, c1, cd1, dm1, dq1, lk1, ld1, c2, cd2, dm2, dq2, lk2, ld2])
    (mcl : m (Str.ofString "cells") = some (.ref cl)) (msz : m (Str.ofString "sizes") = some (.ref sz)) (mca : m (Str.ofString "caches") = some (.ref ca)) {i : Int} {ti : Tok} {y5 : Option Value} (hi : IntsAre vs ns) (hr : 0 ≤ i ∧ i < ns.length) (hz : ns.length ≤ 63) (hb : ∀ x ∈ ns, 0 ≤ x ∧ x < 10000) (x2 : o2.data = .cell (some (.int i ti))) (x5 : o5.data = .cell y5) (x1 : o1.data = .cell (some (.ref kn))) (lok1 : (k1 == sysModules) = false) (lok2 : (k2 == sysModules) = false) (hd1 : od1.IsDictOf (strKind prog w) kvs1) (lo1 : (dm1 == sysModules) = false) (hz1 : kvs1.length ≤ 900 ∧ ps1.length = kvs1.length) (hd2 : od2.IsDictOf (strKind prog w) kvs2) (lo2 : (dm2 == sysModules) = false) (hz2 : kvs2.length ≤ 900 ∧ ps2.length = kvs2.length)
    (h : (∀ h' tk, Fr h₀ L h' m → News h₀ L h' ((L + 1, o1) :: (L + 1 + 1, o2) :: (L + 1 + 1 + 1, o3) :: (L + 1 + 1 + 1 + 1, o4) :: (L + 1 + 1 + 1 + 1 + 1, o5) :: (L + 1 + 1 + 1 + 1 + 1 + 1, o6) :: (L + 1 + 1 + 1 + 1 + 1 + 1 + 1, o7) :: (cl, listOf vs.toArray ncl) :: (sz, listOf #[.int cap1 u1, .int cap2 u2] nsz) :: (ca, listOf #[.ref c1, .ref c2] nca) :: (kn, listOf #[.ref k1, .ref k2] nkn) :: (k1, ko1) :: (k2, ko2) :: (c1, instObj 169 cd1) :: (cd1, cdObj w dm1 dq1 lk1 cap1 ua1 ta1 tb1 tc1 td1) :: (dm1, od1) :: (dq1, listOf (svs ps1) nq1) :: (lk1, instObj 45 ld1) :: (ld1, dictOf [] 0) :: (c2, instObj 169 cd2) :: (cd2, cdObj w dm2 dq2 lk2 cap2 ua2 ta2 tb2 tc2 td2) :: (dm2, od2) :: (dq2, listOf (svs ps2) nq2) :: (lk2, instObj 45 ld2) :: (ld2, dictOf [] 0) :: (I0, oI0) :: []) → Q .next { s with heap := h', toks := tk }) ∧ (∀ h' tk oo5 y5 od1' nq1' k1' ko1' nkn' od2' nq2' k2' ko2', (oo5.data = .cell y5 ∧ od1'.IsDictOf (strKind prog w) [] ∧ ko1'.IsDictOf (strKind prog w) [] ∧ (k1' == sysModules) = false ∧ od2'.IsDictOf (strKind prog w) [] ∧ ko2'.IsDictOf (strKind prog w) [] ∧ (k2' == sysModules) = false ∧ (@LT.lt Nat _ ca k1' ∧ @LT.lt Nat _ ca k2' ∧ @Ne Nat k1' k2' ∧ @Ne Nat k1' kn ∧ @Ne Nat k2' kn ∧ @Ne Nat I0 k1' ∧ @Ne Nat I0 k2')) → Fr h₀ L h' m → News h₀ L h' ((L + 1, o1) :: (L + 1 + 1, o2) :: (L + 1 + 1 + 1, o3) :: (L + 1 + 1 + 1 + 1, o4) :: (L + 1 + 1 + 1 + 1 + 1, oo5) :: (L + 1 + 1 + 1 + 1 + 1 + 1, o6) :: (L + 1 + 1 + 1 + 1 + 1 + 1 + 1, o7) :: (cl, listOf vs.toArray ncl) :: (sz, listOf #[.int cap1 u1, .int cap2 u2] nsz) :: (ca, listOf #[.ref c1, .ref c2] nca) :: (kn, listOf #[.ref k1', .ref k2'] nkn') :: (k1', ko1') :: (k2', ko2') :: (c1, instObj 169 cd1) :: (cd1, cdObj w dm1 dq1 lk1 cap1 ua1 ta1 tb1 tc1 td1) :: (dm1, od1') :: (dq1, listOf (svs []) nq1') :: (lk1, instObj 45 ld1) :: (ld1, dictOf [] 0) :: (c2, instObj 169 cd2) :: (cd2, cdObj w dm2 dq2 lk2 cap2 ua2 ta2 tb2 tc2 td2) :: (dm2, od2') :: (dq2, listOf (svs []) nq2') :: (lk2, instObj 45 ld2) :: (ld2, dictOf [] 0) :: (I0, oI0) :: []) → Q .next { s with heap := h', toks := tk })) :
    wpAny (model prog w) (callerA.deeper (lawE w L fa cv)) (exec (st1 w) (lawE w L fa cv)) Q E s := by
  have q0c := q0
  obtain ⟨q1, q2, q3, q4, q5, q6, q7, q8, q9, q10, q11, q12, q13, q14, q15, q16, q17, q18, q19, q20, q21⟩ := q0
  obtain ⟨z11, z12⟩ := hz1
  obtain ⟨z21, z22⟩ := hz2
  unfold st1 turnB forS lawB lawF
  dsimp only [hdS, tlS, bodyS]
  show wpAny _ (callerA.deeper (envOfC "law" (lawS w) L fa cv)) (exec _ (envOfC "law" (lawS w) L fa cv)) _ _ _
  unfold lawS lawF
  dsimp only
  k_steps
  · (try k_fold)
    refine for_range (h₀ := h₀) (L := L) ?_
    k_steps
    refine ⟨_, 0, 2, _, _, _, 2, m, ((L + 1, o1) :: (L + 1 + 1, o2) :: (L + 1 + 1 + 1, o3) :: (L + 1 + 1 + 1 + 1, o4) :: (L + 1 + 1 + 1 + 1 + 1, o5) :: (L + 1 + 1 + 1 + 1 + 1 + 1, o6) :: (L + 1 + 1 + 1 + 1 + 1 + 1 + 1, o7) :: (cl, listOf vs.toArray ncl) :: (sz, listOf #[.int cap1 u1, .int cap2 u2] nsz) :: (ca, listOf #[.ref c1, .ref c2] nca) :: (kn, listOf #[.ref k1, .ref k2] nkn) :: (k1, ko1) :: (k2, ko2) :: (c1, instObj 169 cd1) :: (cd1, cdObj w dm1 dq1 lk1 cap1 ua1 ta1 tb1 tc1 td1) :: (dm1, od1) :: (dq1, listOf (svs ps1) nq1) :: (lk1, instObj 45 ld1) :: (ld1, dictOf [] 0) :: (c2, instObj 169 cd2) :: (cd2, cdObj w dm2 dq2 lk2 cap2 ua2 ta2 tb2 tc2 td2) :: (dm2, od2) :: (dq2, listOf (svs ps2) nq2) :: (lk2, instObj 45 ld2) :: (ld2, dictOf [] 0) :: (I0, oI0) :: []), fun i m' nw => match i with | 0 => m' = m ∧ ∃ oo5 y5, oo5.data = .cell y5 ∧ nw = ((L + 1, o1) :: (L + 1 + 1, o2) :: (L + 1 + 1 + 1, o3) :: (L + 1 + 1 + 1 + 1, o4) :: (L + 1 + 1 + 1 + 1 + 1, oo5) :: (L + 1 + 1 + 1 + 1 + 1 + 1, o6) :: (L + 1 + 1 + 1 + 1 + 1 + 1 + 1, o7) :: (cl, listOf vs.toArray ncl) :: (sz, listOf #[.int cap1 u1, .int cap2 u2] nsz) :: (ca, listOf #[.ref c1, .ref c2] nca) :: (kn, listOf #[.ref k1, .ref k2] nkn) :: (k1, ko1) :: (k2, ko2) :: (c1, instObj 169 cd1) :: (cd1, cdObj w dm1 dq1 lk1 cap1 ua1 ta1 tb1 tc1 td1) :: (dm1, od1) :: (dq1, listOf (svs ps1) nq1) :: (lk1, instObj 45 ld1) :: (ld1, dictOf [] 0) :: (c2, instObj 169 cd2) :: (cd2, cdObj w dm2 dq2 lk2 cap2 ua2 ta2 tb2 tc2 td2) :: (dm2, od2) :: (dq2, listOf (svs ps2) nq2) :: (lk2, instObj 45 ld2) :: (ld2, dictOf [] 0) :: (I0, oI0) :: []) | 1 => m' = m ∧ ∃ oo5 y5 od1' nq1' k1' ko1' nkn', oo5.data = .cell y5 ∧ od1'.IsDictOf (strKind prog w) [] ∧ ko1'.IsDictOf (strKind prog w) [] ∧ (k1' == sysModules) = false ∧ (@LT.lt Nat _ ca k1' ∧ @Ne Nat k1' k2 ∧ @Ne Nat k1' kn ∧ @Ne Nat I0 k1') ∧ nw = ((L + 1, o1) :: (L + 1 + 1, o2) :: (L + 1 + 1 + 1, o3) :: (L + 1 + 1 + 1 + 1, o4) :: (L + 1 + 1 + 1 + 1 + 1, oo5) :: (L + 1 + 1 + 1 + 1 + 1 + 1, o6) :: (L + 1 + 1 + 1 + 1 + 1 + 1 + 1, o7) :: (cl, listOf vs.toArray ncl) :: (sz, listOf #[.int cap1 u1, .int cap2 u2] nsz) :: (ca, listOf #[.ref c1, .ref c2] nca) :: (kn, listOf #[.ref k1', .ref k2] nkn') :: (k1', ko1') :: (k2, ko2) :: (c1, instObj 169 cd1) :: (cd1, cdObj w dm1 dq1 lk1 cap1 ua1 ta1 tb1 tc1 td1) :: (dm1, od1') :: (dq1, listOf (svs []) nq1') :: (lk1, instObj 45 ld1) :: (ld1, dictOf [] 0) :: (c2, instObj 169 cd2) :: (cd2, cdObj w dm2 dq2 lk2 cap2 ua2 ta2 tb2 tc2 td2) :: (dm2, od2) :: (dq2, listOf (svs ps2) nq2) :: (lk2, instObj 45 ld2) :: (ld2, dictOf [] 0) :: (I0, oI0) :: []) | _ => m' = m ∧ ∃ oo5 y5 od1' nq1' k1' ko1' nkn' od2' nq2' k2' ko2', oo5.data = .cell y5 ∧ od1'.IsDictOf (strKind prog w) [] ∧ ko1'.IsDictOf (strKind prog w) [] ∧ (k1' == sysModules) = false ∧ od2'.IsDictOf (strKind prog w) [] ∧ ko2'.IsDictOf (strKind prog w) [] ∧ (k2' == sysModules) = false ∧ (@LT.lt Nat _ ca k1' ∧ @LT.lt Nat _ ca k2' ∧ @Ne Nat k1' k2' ∧ @Ne Nat k1' kn ∧ @Ne Nat k2' kn ∧ @Ne Nat I0 k1' ∧ @Ne Nat I0 k2') ∧ nw = ((L + 1, o1) :: (L + 1 + 1, o2) :: (L + 1 + 1 + 1, o3) :: (L + 1 + 1 + 1 + 1, o4) :: (L + 1 + 1 + 1 + 1 + 1, oo5) :: (L + 1 + 1 + 1 + 1 + 1 + 1, o6) :: (L + 1 + 1 + 1 + 1 + 1 + 1 + 1, o7) :: (cl, listOf vs.toArray ncl) :: (sz, listOf #[.int cap1 u1, .int cap2 u2] nsz) :: (ca, listOf #[.ref c1, .ref c2] nca) :: (kn, listOf #[.ref k1', .ref k2'] nkn') :: (k1', ko1') :: (k2', ko2') :: (c1, instObj 169 cd1) :: (cd1, cdObj w dm1 dq1 lk1 cap1 ua1 ta1 tb1 tc1 td1) :: (dm1, od1') :: (dq1, listOf (svs []) nq1') :: (lk1, instObj 45 ld1) :: (ld1, dictOf [] 0) :: (c2, instObj 169 cd2) :: (cd2, cdObj w dm2 dq2 lk2 cap2 ua2 ta2 tb2 tc2 td2) :: (dm2, od2') :: (dq2, listOf (svs []) nq2') :: (lk2, instObj 45 ld2) :: (ld2, dictOf [] 0) :: (I0, oI0) :: []), rfl, rfl, by assumption, by assumption, by assumption, by rfl, by rfl, ⟨rfl, o5, _, x5, rfl⟩, ?_, ?_⟩
    · intro i m' nw I oI h2 tk2 t E' hi2 hJ F2 N2 off
      rcases (by omega : i = 0 ∨ i = 1) with rfl | rfl
      · obtain ⟨rfl, oo5, y5', ho5, rfl⟩ := hJ
        have off' := off
        simp only [LCg.Off1, and_true] at off'
        show wpAny _ _ (storeName _ _ (.int 0 t)) _ _ _
        k_fold
        k_steps
        rename_i h3 oo5' F3 N3 d3
        unfold Halt
        refine wpAny_call ?_
        have hN := news_in ((c1, instObj 169 cd1) :: (cd1, cdObj w dm1 dq1 lk1 cap1 ua1 ta1 tb1 tc1 td1) :: (dm1, od1) :: (dq1, listOf (svs ps1) nq1) :: (lk1, instObj 45 ld1) :: (ld1, dictOf [] 0) :: []) ((I, oI) :: (L + 1, o1) :: (L + 1 + 1, o2) :: (L + 1 + 1 + 1, o3) :: (L + 1 + 1 + 1 + 1, o4) :: (L + 1 + 1 + 1 + 1 + 1, oo5') :: (L + 1 + 1 + 1 + 1 + 1 + 1, o6) :: (L + 1 + 1 + 1 + 1 + 1 + 1 + 1, o7) :: (cl, listOf vs.toArray ncl) :: (sz, listOf #[.int cap1 u1, .int cap2 u2] nsz) :: (ca, listOf #[.ref c1, .ref c2] nca) :: (kn, listOf #[.ref k1, .ref k2] nkn) :: (k1, ko1) :: (k2, ko2) :: []) N3
        refine clear_c (rest := ((I, oI) :: (L + 1, o1) :: (L + 1 + 1, o2) :: (L + 1 + 1 + 1, o3) :: (L + 1 + 1 + 1 + 1, o4) :: (L + 1 + 1 + 1 + 1 + 1, oo5') :: (L + 1 + 1 + 1 + 1 + 1 + 1, o6) :: (L + 1 + 1 + 1 + 1 + 1 + 1 + 1, o7) :: (cl, listOf vs.toArray ncl) :: (sz, listOf #[.int cap1 u1, .int cap2 u2] nsz) :: (ca, listOf #[.ref c1, .ref c2] nca) :: (kn, listOf #[.ref k1, .ref k2] nkn) :: (k1, ko1) :: (k2, ko2) :: (c2, instObj 169 cd2) :: (cd2, cdObj w dm2 dq2 lk2 cap2 ua2 ta2 tb2 tc2 td2) :: (dm2, od2) :: (dq2, listOf (svs ps2) nq2) :: (lk2, instObj 45 ld2) :: (ld2, dictOf [] 0) :: (I0, oI0) :: [])) (base := h₀) (A₀ := callerA) ⟨B, F3, X, hN, T, rfl, rfl, rfl, by (simp only [depth_mark, depth_deeper, depth_caller]; decide), by (simp only [units_mark, units_deeper]; decide)⟩ ⟨by assumption, by assumption, by assumption, by assumption, by assumption⟩ (own_cons (off1_off off (by intro b hb; simp only [List.mem_cons, List.mem_nil_iff, or_false] at hb; rcases hb with rfl | rfl | rfl | rfl | rfl | rfl <;> exact ⟨_, by k_mem⟩)) (apart1 q0c hroff)) hd1 lo1 ⟨by assumption, by assumption⟩ ?_
        intro h4 tk4 n4 od4 F4 N4 hd4
        have N5 : News h₀ L h4 ((I, oI) :: (L + 1, o1) :: (L + 1 + 1, o2) :: (L + 1 + 1 + 1, o3) :: (L + 1 + 1 + 1 + 1, o4) :: (L + 1 + 1 + 1 + 1 + 1, oo5') :: (L + 1 + 1 + 1 + 1 + 1 + 1, o6) :: (L + 1 + 1 + 1 + 1 + 1 + 1 + 1, o7) :: (cl, listOf vs.toArray ncl) :: (sz, listOf #[.int cap1 u1, .int cap2 u2] nsz) :: (ca, listOf #[.ref c1, .ref c2] nca) :: (kn, listOf #[.ref k1, .ref k2] nkn) :: (k1, ko1) :: (k2, ko2) :: (c1, instObj 169 cd1) :: (cd1, cdObj w dm1 dq1 lk1 cap1 ua1 ta1 tb1 tc1 td1) :: (dm1, od4) :: (dq1, listOf (svs []) n4) :: (lk1, instObj 45 ld1) :: (ld1, dictOf [] 0) :: (c2, instObj 169 cd2) :: (cd2, cdObj w dm2 dq2 lk2 cap2 ua2 ta2 tb2 tc2 td2) :: (dm2, od2) :: (dq2, listOf (svs ps2) nq2) :: (lk2, instObj 45 ld2) :: (ld2, dictOf [] 0) :: (I0, oI0) :: []) := news_in ((I, oI) :: (L + 1, o1) :: (L + 1 + 1, o2) :: (L + 1 + 1 + 1, o3) :: (L + 1 + 1 + 1 + 1, o4) :: (L + 1 + 1 + 1 + 1 + 1, oo5') :: (L + 1 + 1 + 1 + 1 + 1 + 1, o6) :: (L + 1 + 1 + 1 + 1 + 1 + 1 + 1, o7) :: (cl, listOf vs.toArray ncl) :: (sz, listOf #[.int cap1 u1, .int cap2 u2] nsz) :: (ca, listOf #[.ref c1, .ref c2] nca) :: (kn, listOf #[.ref k1, .ref k2] nkn) :: (k1, ko1) :: (k2, ko2) :: []) ((c1, instObj 169 cd1) :: (cd1, cdObj w dm1 dq1 lk1 cap1 ua1 ta1 tb1 tc1 td1) :: (dm1, od4) :: (dq1, listOf (svs []) n4) :: (lk1, instObj 45 ld1) :: (ld1, dictOf [] 0) :: []) N4
        clear hN N4
        (try k_unmd)
        (try dsimp only)
        k_steps
        clear off'
        rename_i d5 h5 o5d F5 N5 lo5 hs5 fs5 hi5 fi5 l5 h6 F6 N6
        exact ⟨rfl, h6, _, m', _, rfl, F6, fun q hq => N6 q (by simp only [List.mem_cons, List.mem_nil_iff, or_false] at hq ⊢; rcases hq with h | h | h | h | h | h | h | h | h | h | h | h | h | h | h | h | h | h | h | h | h | h | h | h | h | h | h <;> simp only [h, true_or, or_true]), (by simp only [LCg.Off1, and_true] at off ⊢; obtain ⟨a1, a2, a3, a4, a5, a6, a7, a8, a9, a10, a11, a12, a13, a14, a15, a16, a17, a18, a19, a20, a21, a22, a23, a24, a25, a26⟩ := off; refine ⟨a1, a2, a3, a4, a5, a6, a7, a8, a9, a10, a11, ?_, a13, a14, a15, a16, a17, a18, a19, a20, a21, a22, a23, a24, a25, a26⟩; (show @Ne Nat _ _; omega)), rfl, oo5', _, od4, n4, d5, o5d, nkn, d3, hd4, hs5, lo5, ⟨by omega, by omega, by omega, by omega⟩, rfl⟩
      · obtain ⟨rfl, oo5, y5', od1', nq1', k1', ko1', nkn', ho5, hda, hka, loka, ⟨qa, qb, qc, qd⟩, rfl⟩ := hJ
        have off' := off
        simp only [LCg.Off1, and_true] at off'
        have q0d : (L + 1 + 1 + 1 + 1 + 1 + 1 + 1 < sz ∧ L + 1 ≠ cl ∧ L + 1 + 1 ≠ cl ∧ L + 1 + 1 + 1 ≠ cl ∧ L + 1 + 1 + 1 + 1 ≠ cl ∧ L + 1 + 1 + 1 + 1 + 1 ≠ cl ∧ L + 1 + 1 + 1 + 1 + 1 + 1 ≠ cl ∧ L + 1 + 1 + 1 + 1 + 1 + 1 + 1 ≠ cl) ∧ cl < sz ∧ sz < cd1 ∧ cd1 < c1 ∧ c1 < dm1 ∧ dm1 < dq1 ∧ dq1 < ld1 ∧ ld1 < lk1 ∧ lk1 < cd2 ∧ cd2 < c2 ∧ c2 < dm2 ∧ dm2 < dq2 ∧ dq2 < ld2 ∧ ld2 < lk2 ∧ lk2 < ca ∧ ca < kn ∧ ca < k1' ∧ ca < k2 ∧ k1' ≠ k2 ∧ k1' ≠ kn ∧ k2 ≠ kn := ⟨q1, q2, q3, q4, q5, q6, q7, q8, q9, q10, q11, q12, q13, q14, q15, q16, qa, q18, qb, qc, q21⟩
        have hroff2 : OwnOff ((I0, oI0) :: []) [L + 1, L + 1 + 1, L + 1 + 1 + 1, L + 1 + 1 + 1 + 1, L + 1 + 1 + 1 + 1 + 1, L + 1 + 1 + 1 + 1 + 1 + 1, L + 1 + 1 + 1 + 1 + 1 + 1 + 1, kn, k1', k2, c1, cd1, dm1, dq1, lk1, ld1, c2, cd2, dm2, dq2, lk2, ld2] := own_swap hroff qd
        show wpAny _ _ (storeName _ _ (.int 1 t)) _ _ _
        k_fold
        k_steps
        rename_i h3 oo5' F3 N3 d3
        unfold Halt
        refine wpAny_call ?_
        have hN := news_in ((c2, instObj 169 cd2) :: (cd2, cdObj w dm2 dq2 lk2 cap2 ua2 ta2 tb2 tc2 td2) :: (dm2, od2) :: (dq2, listOf (svs ps2) nq2) :: (lk2, instObj 45 ld2) :: (ld2, dictOf [] 0) :: []) ((I, oI) :: (L + 1, o1) :: (L + 1 + 1, o2) :: (L + 1 + 1 + 1, o3) :: (L + 1 + 1 + 1 + 1, o4) :: (L + 1 + 1 + 1 + 1 + 1, oo5') :: (L + 1 + 1 + 1 + 1 + 1 + 1, o6) :: (L + 1 + 1 + 1 + 1 + 1 + 1 + 1, o7) :: (cl, listOf vs.toArray ncl) :: (sz, listOf #[.int cap1 u1, .int cap2 u2] nsz) :: (ca, listOf #[.ref c1, .ref c2] nca) :: (kn, listOf #[.ref k1', .ref k2] nkn') :: (k1', ko1') :: (k2, ko2) :: (c1, instObj 169 cd1) :: (cd1, cdObj w dm1 dq1 lk1 cap1 ua1 ta1 tb1 tc1 td1) :: (dm1, od1') :: (dq1, listOf (svs []) nq1') :: (lk1, instObj 45 ld1) :: (ld1, dictOf [] 0) :: []) N3
        refine clear_c (rest := ((I, oI) :: (L + 1, o1) :: (L + 1 + 1, o2) :: (L + 1 + 1 + 1, o3) :: (L + 1 + 1 + 1 + 1, o4) :: (L + 1 + 1 + 1 + 1 + 1, oo5') :: (L + 1 + 1 + 1 + 1 + 1 + 1, o6) :: (L + 1 + 1 + 1 + 1 + 1 + 1 + 1, o7) :: (cl, listOf vs.toArray ncl) :: (sz, listOf #[.int cap1 u1, .int cap2 u2] nsz) :: (ca, listOf #[.ref c1, .ref c2] nca) :: (kn, listOf #[.ref k1', .ref k2] nkn') :: (k1', ko1') :: (k2, ko2) :: (c1, instObj 169 cd1) :: (cd1, cdObj w dm1 dq1 lk1 cap1 ua1 ta1 tb1 tc1 td1) :: (dm1, od1') :: (dq1, listOf (svs []) nq1') :: (lk1, instObj 45 ld1) :: (ld1, dictOf [] 0) :: (I0, oI0) :: [])) (base := h₀) (A₀ := callerA) ⟨B, F3, X, hN, T, rfl, rfl, rfl, by (simp only [depth_mark, depth_deeper, depth_caller]; decide), by (simp only [units_mark, units_deeper]; decide)⟩ ⟨by assumption, by assumption, by assumption, by assumption, by assumption⟩ (own_cons (off1_off off (by intro b hb; simp only [List.mem_cons, List.mem_nil_iff, or_false] at hb; rcases hb with rfl | rfl | rfl | rfl | rfl | rfl <;> exact ⟨_, by k_mem⟩)) (apart2 q0d hroff2)) hd2 lo2 ⟨by assumption, by assumption⟩ ?_
        intro h4 tk4 n4 od4 F4 N4 hd4
        have N5 : News h₀ L h4 ((I, oI) :: (L + 1, o1) :: (L + 1 + 1, o2) :: (L + 1 + 1 + 1, o3) :: (L + 1 + 1 + 1 + 1, o4) :: (L + 1 + 1 + 1 + 1 + 1, oo5') :: (L + 1 + 1 + 1 + 1 + 1 + 1, o6) :: (L + 1 + 1 + 1 + 1 + 1 + 1 + 1, o7) :: (cl, listOf vs.toArray ncl) :: (sz, listOf #[.int cap1 u1, .int cap2 u2] nsz) :: (ca, listOf #[.ref c1, .ref c2] nca) :: (kn, listOf #[.ref k1', .ref k2] nkn') :: (k1', ko1') :: (k2, ko2) :: (c1, instObj 169 cd1) :: (cd1, cdObj w dm1 dq1 lk1 cap1 ua1 ta1 tb1 tc1 td1) :: (dm1, od1') :: (dq1, listOf (svs []) nq1') :: (lk1, instObj 45 ld1) :: (ld1, dictOf [] 0) :: (c2, instObj 169 cd2) :: (cd2, cdObj w dm2 dq2 lk2 cap2 ua2 ta2 tb2 tc2 td2) :: (dm2, od4) :: (dq2, listOf (svs []) n4) :: (lk2, instObj 45 ld2) :: (ld2, dictOf [] 0) :: (I0, oI0) :: []) := news_in ((I, oI) :: (L + 1, o1) :: (L + 1 + 1, o2) :: (L + 1 + 1 + 1, o3) :: (L + 1 + 1 + 1 + 1, o4) :: (L + 1 + 1 + 1 + 1 + 1, oo5') :: (L + 1 + 1 + 1 + 1 + 1 + 1, o6) :: (L + 1 + 1 + 1 + 1 + 1 + 1 + 1, o7) :: (cl, listOf vs.toArray ncl) :: (sz, listOf #[.int cap1 u1, .int cap2 u2] nsz) :: (ca, listOf #[.ref c1, .ref c2] nca) :: (kn, listOf #[.ref k1', .ref k2] nkn') :: (k1', ko1') :: (k2, ko2) :: (c1, instObj 169 cd1) :: (cd1, cdObj w dm1 dq1 lk1 cap1 ua1 ta1 tb1 tc1 td1) :: (dm1, od1') :: (dq1, listOf (svs []) nq1') :: (lk1, instObj 45 ld1) :: (ld1, dictOf [] 0) :: []) ((c2, instObj 169 cd2) :: (cd2, cdObj w dm2 dq2 lk2 cap2 ua2 ta2 tb2 tc2 td2) :: (dm2, od4) :: (dq2, listOf (svs []) n4) :: (lk2, instObj 45 ld2) :: (ld2, dictOf [] 0) :: []) N4
        clear hN N4
        (try k_unmd)
        (try dsimp only)
        k_steps
        clear off'
        rename_i d5 h5 o5d F5 N5 lo5 hs5 fs5 hi5 fi5 l5 h6 F6 N6
        exact ⟨rfl, h6, _, m', _, rfl, F6, fun q hq => N6 q (by simp only [List.mem_cons, List.mem_nil_iff, or_false] at hq ⊢; rcases hq with h | h | h | h | h | h | h | h | h | h | h | h | h | h | h | h | h | h | h | h | h | h | h | h | h | h | h <;> simp only [h, true_or, or_true]), (by simp only [LCg.Off1, and_true] at off ⊢; obtain ⟨a1, a2, a3, a4, a5, a6, a7, a8, a9, a10, a11, a12, a13, a14, a15, a16, a17, a18, a19, a20, a21, a22, a23, a24, a25, a26⟩ := off; refine ⟨a1, a2, a3, a4, a5, a6, a7, a8, a9, a10, a11, a12, ?_, a14, a15, a16, a17, a18, a19, a20, a21, a22, a23, a24, a25, a26⟩; (show @Ne Nat _ _; omega)), rfl, oo5', _, od1', nq1', k1', ko1', nkn', od4, n4, d5, o5d, d3, hda, hka, loka, hd4, hs5, lo5, ⟨by omega, by omega, by omega, by omega, by omega, by omega, by omega⟩, rfl⟩
    · intro m' nw h2 tk2 hJ F2 N2
      obtain ⟨rfl, oo5, y5', od1', nq1', k1', ko1', nkn', od2', nq2', k2', ko2', p1, p2, p3, p4, p5, p6, p7, p8, rfl⟩ := hJ
      k_unfold
      try dsimp only
      k_steps
      exact h.2 _ _ oo5 y5' od1' nq1' k1' ko1' nkn' od2' nq2' k2' ko2' ⟨p1, p2, p3, p4, p5, p6, p7, p8⟩ F2 N2
  · exact h.1 _ _ (by assumption) (by assumption)
end
end
section
local macro_rules | `(tactic| walk_at "eval Name") => `(tactic| (k_here; k_dflt (refine' nameX_L ?F ?v ?_ ?a ?b; (case a => rfl); (case b => rfl); (case F => k_asm); (case v => assumption))))
local macro_rules | `(tactic| walk_at "call type:list") => `(tactic| (k_here; (with_reducible show wpAny _ _ (call (Value.type "list") [Value.ref _]) _ _ _); k_dflt (refine' list_w (base := ?bb) (A₀ := ?aa) ?C ?m1 ?m2 ?m3 ?m4 ?m5 ?m6 ?o ?d ?lo ?z rfl ?u ?_; (case C => exact ⟨by assumption, by k_asm, by assumption, by k_asm, by assumption, rfl, rfl, rfl, by (simp only [depth_mark, depth_deeper, depth_caller]; decide), by (simp only [units_mark, units_deeper]; decide)⟩); (case m1 => k_mem); (case m2 => k_mem); (case m3 => k_mem); (case m4 => k_mem); (case m5 => k_mem); (case m6 => k_mem); (case u => simp only [units_mark, units_deeper]; decide); (case o => exact ⟨by assumption, by assumption, by assumption, by assumption, by assumption⟩); (case d => assumption); (case lo => assumption); (case z => exact ⟨by assumption, by assumption⟩)); intro h' tk' D' n' F' N' l1; (try k_sweep); (try k_unmd)))
local macro_rules | `(tactic| walk_at "compareOp In str ref") => `(tactic| (k_here; k_dflt (refine' in_strs ?l ?_; (case l => exact ⟨_, News.get (by k_asm) (by k_mem), rfl, _, rfl⟩))))
local macro_rules | `(tactic| walk_at "CompSrc") => `(tactic| (k_here; refine halt ?_))
local macro_rules | `(tactic| walk_at "CompSrcT") => `(tactic| (k_here; refine halt ?_))
section
variable {prog : Program} {w : World} {h₀ : Heap} {L fa : Nat} {cv : Value} {mean : ExcName → Option Value} {mg mb : Str → Option Value} {s : Shared} {m : Str → Option Value} {Q : Flow → Shared → Prop} {E : Value → Shared → Prop} {rest : List (Addr × Obj)}
  {o1 o2 o3 o4 o5 o6 o7 ko1 ko2 od1 od2 : Obj} {cl sz ca kn k1 k2 c1 cd1 dm1 dq1 lk1 ld1 c2 cd2 dm2 dq2 lk2 ld2 : Nat} {ncl nsz nca nkn nq1 nq2 u1 u2 ua1 ua2 ta1 ta2 tb1 tb2 tc1 tc2 td1 td2 : Nat} {cap1 cap2 : Int}
  {vs : List Value} {ns : List Int} {ps1 ps2 : List (Str × Nat)} {kvs1 kvs2 kk1 kk2 : List (Str × Value)}
set_option maxRecDepth 100000 in
set_option maxHeartbeats 8000000 in
theorem turn2 (B : Below callerA h₀ [] h₀) (X : (Mine.hd.heap_39 w.params).In h₀) (T : TT mean mg mb h₀) (F : Fr h₀ L s.heap m) (N : News h₀ L s.heap ((L + 1, o1) :: (L + 1 + 1, o2) :: (L + 1 + 1 + 1, o3) :: (L + 1 + 1 + 1 + 1, o4) :: (L + 1 + 1 + 1 + 1 + 1, o5) :: (L + 1 + 1 + 1 + 1 + 1 + 1, o6) :: (L + 1 + 1 + 1 + 1 + 1 + 1 + 1, o7) :: (cl, listOf vs.toArray ncl) :: (sz, listOf #[.int cap1 u1, .int cap2 u2] nsz) :: (ca, listOf #[.ref c1, .ref c2] nca) :: (kn, listOf #[.ref k1, .ref k2] nkn) :: (k1, ko1) :: (k2, ko2) :: (c1, instObj 169 cd1) :: (cd1, cdObj w dm1 dq1 lk1 cap1 ua1 ta1 tb1 tc1 td1) :: (dm1, od1) :: (dq1, listOf (svs ps1) nq1) :: (lk1, instObj 45 ld1) :: (ld1, dictOf [] 0) :: (c2, instObj 169 cd2) :: (cd2, cdObj w dm2 dq2 lk2 cap2 ua2 ta2 tb2 tc2 td2) :: (dm2, od2) :: (dq2, listOf (svs ps2) nq2) :: (lk2, instObj 45 ld2) :: (ld2, dictOf [] 0) :: rest))
    (q0 : (L + 1 + 1 + 1 + 1 + 1 + 1 + 1 < sz ∧ L + 1 ≠ cl ∧ L + 1 + 1 ≠ cl ∧ L + 1 + 1 + 1 ≠ cl ∧ L + 1 + 1 + 1 + 1 ≠ cl ∧ L + 1 + 1 + 1 + 1 + 1 ≠ cl ∧ L + 1 + 1 + 1 + 1 + 1 + 1 ≠ cl ∧ L + 1 + 1 + 1 + 1 + 1 + 1 + 1 ≠ cl) ∧ cl < sz ∧ sz < cd1 ∧ cd1 < c1 ∧ c1 < dm1 ∧ dm1 < dq1 ∧ dq1 < ld1 ∧ ld1 < lk1 ∧ lk1 < cd2 ∧ cd2 < c2 ∧ c2 < dm2 ∧ dm2 < dq2 ∧ dq2 < ld2 ∧ ld2 < lk2 ∧ lk2 < ca ∧ ca < kn ∧ ca < k1 ∧ ca < k2 ∧ k1 ≠ k2 ∧ k1 ≠ kn ∧ k2 ≠ kn)
    (hroff : OwnOff rest [L + 1, L + 1 + 1, L + 1 + 1 + 1, L + 1 + 1 + 1 + 1, L + 1 + 1 + 1 + 1 + 1, L + 1 + 1 + 1 + 1 + 1 + 1, L + 1 + 1 + 1 + 1 + 1 + 1 + 1, kn, k1, k2, c1, cd1, dm1, dq1, lk1, ld1, c2, cd2, dm2, dq2, lk2, ld2])
    (mcl : m (Str.ofString "cells") = some (.ref cl)) (msz : m (Str.ofString "sizes") = some (.ref sz)) (mca : m (Str.ofString "caches") = some (.ref ca)) (hd1 : od1.IsDictOf (strKind prog w) kvs1) (lo1 : (dm1 == sysModules) = false) (hz1 : kvs1.length ≤ 900 ∧ ps1.length = kvs1.length) (hd2 : od2.IsDictOf (strKind prog w) kvs2) (lo2 : (dm2 == sysModules) = false) (hz2 : kvs2.length ≤ 900 ∧ ps2.length = kvs2.length)
    (h : ∀ h' tk (Db D1 D2 nb n1 n2 : Nat), Fr h₀ L h' (fun y => if y = (Str.ofString "before") then some (.ref Db) else m y) → News h₀ L h' ((L + 1, o1) :: (L + 1 + 1, o2) :: (L + 1 + 1 + 1, o3) :: (L + 1 + 1 + 1 + 1, o4) :: (L + 1 + 1 + 1 + 1 + 1, o5) :: (L + 1 + 1 + 1 + 1 + 1 + 1, o6) :: (L + 1 + 1 + 1 + 1 + 1 + 1 + 1, o7) :: (cl, listOf vs.toArray ncl) :: (sz, listOf #[.int cap1 u1, .int cap2 u2] nsz) :: (ca, listOf #[.ref c1, .ref c2] nca) :: (kn, listOf #[.ref k1, .ref k2] nkn) :: (k1, ko1) :: (k2, ko2) :: (c1, instObj 169 cd1) :: (cd1, cdObj w dm1 dq1 lk1 cap1 ua1 ta1 tb1 tc1 td1) :: (dm1, od1) :: (dq1, listOf (svs ps1) nq1) :: (lk1, instObj 45 ld1) :: (ld1, dictOf [] 0) :: (c2, instObj 169 cd2) :: (cd2, cdObj w dm2 dq2 lk2 cap2 ua2 ta2 tb2 tc2 td2) :: (dm2, od2) :: (dq2, listOf (svs ps2) nq2) :: (lk2, instObj 45 ld2) :: (ld2, dictOf [] 0) :: (Db, listOf #[.ref D1, .ref D2] nb) :: (D2, listOf (svs ps2.reverse) n2) :: (D1, listOf (svs ps1.reverse) n1) :: rest) → OwnOff ((Db, listOf #[.ref D1, .ref D2] nb) :: (D2, listOf (svs ps2.reverse) n2) :: (D1, listOf (svs ps1.reverse) n1) :: rest) [L + 1, L + 1 + 1, L + 1 + 1 + 1, L + 1 + 1 + 1 + 1, L + 1 + 1 + 1 + 1 + 1, L + 1 + 1 + 1 + 1 + 1 + 1, L + 1 + 1 + 1 + 1 + 1 + 1 + 1, kn, k1, k2, c1, cd1, dm1, dq1, lk1, ld1, c2, cd2, dm2, dq2, lk2, ld2] → Q .next { s with heap := h', toks := tk }) :
    wpAny (model prog w) (callerA.deeper (lawE w L fa cv)) (exec (st2 w) (lawE w L fa cv)) Q E s := by
  have q0c := q0
  obtain ⟨q1, q2, q3, q4, q5, q6, q7, q8, q9, q10, q11, q12, q13, q14, q15, q16, q17, q18, q19, q20, q21⟩ := q0
  obtain ⟨z11, z12⟩ := hz1
  obtain ⟨z21, z22⟩ := hz2
  unfold st2 turnB forS lawB lawF
  dsimp only [hdS, tlS, bodyS]
  show wpAny _ (callerA.deeper (envOfC "law" (lawS w) L fa cv)) (exec _ (envOfC "law" (lawS w) L fa cv)) _ _ _
  unfold lawS lawF
  dsimp only
  k_steps
  refine LCg.CompSrc.ledger (by rfl) (by k_asm) (by k_asm) (by k_mem) (by rw [sizeLine_eq]; exact Nat.le_of_ble_eq_true rfl) ?_
  intro g1
  try dsimp only
  refine LCg.CompRest.succ (k := 1) ?_
  intro v I1 oI1 C1 oC1 Da1 m1 h1 tk1 E1 hP1 hC1 hx1 F1 N1 off1 ne1
  obtain rfl : v = .ref c1 := (Option.some.inj hP1).symm
  k_steps
  rename_i h3 tk3 D1 n1 F3 N3 l3
  refine cend1 F3 N3 l3 off1 (.inr ⟨_, by k_mem, rfl, _, rfl⟩) ?_
  try dsimp only
  refine LCg.CompRest.succ (k := 0) ?_
  intro v I2 oI2 C2 oC2 Da2 m2 h2 tk2 E2 hP2 hC2 hx2 F2 N2 off2 ne2
  obtain rfl : v = .ref c2 := (Option.some.inj hP2).symm
  k_steps
  rename_i h4 tk4 D2 n2 F4 N4 l4
  refine cend1 F4 N4 l4 off2 (.inr ⟨_, by k_mem, rfl, _, rfl⟩) ?_
  refine LCg.CompRest.zero ?_
  intro Db h5 tk5 F5 N5 ob5
  try dsimp only
  k_steps
  all_goals first
    | (exact h _ _ Db D1 D2 _ _ _ F5 (news_in ((L + 1, o1) :: (L + 1 + 1, o2) :: (L + 1 + 1 + 1, o3) :: (L + 1 + 1 + 1 + 1, o4) :: (L + 1 + 1 + 1 + 1 + 1, o5) :: (L + 1 + 1 + 1 + 1 + 1 + 1, o6) :: (L + 1 + 1 + 1 + 1 + 1 + 1 + 1, o7) :: (cl, listOf vs.toArray ncl) :: (sz, listOf #[.int cap1 u1, .int cap2 u2] nsz) :: (ca, listOf #[.ref c1, .ref c2] nca) :: (kn, listOf #[.ref k1, .ref k2] nkn) :: (k1, ko1) :: (k2, ko2) :: (c1, instObj 169 cd1) :: (cd1, cdObj w dm1 dq1 lk1 cap1 ua1 ta1 tb1 tc1 td1) :: (dm1, od1) :: (dq1, listOf (svs ps1) nq1) :: (lk1, instObj 45 ld1) :: (ld1, dictOf [] 0) :: (c2, instObj 169 cd2) :: (cd2, cdObj w dm2 dq2 lk2 cap2 ua2 ta2 tb2 tc2 td2) :: (dm2, od2) :: (dq2, listOf (svs ps2) nq2) :: (lk2, instObj 45 ld2) :: (ld2, dictOf [] 0) :: []) [_, _, _] N5) (own_cons (off1_off ob5 (by intro b hb; simp only [List.mem_cons, List.mem_nil_iff, or_false] at hb; rcases hb with rfl | rfl | rfl | rfl | rfl | rfl | rfl | rfl | rfl | rfl | rfl | rfl | rfl | rfl | rfl | rfl | rfl | rfl | rfl | rfl | rfl | rfl <;> exact ⟨_, by k_mem⟩)) (own_cons (new_off l4 (by intro b hb; simp only [List.mem_cons, List.mem_nil_iff, or_false] at hb; rcases hb with rfl | rfl | rfl | rfl | rfl | rfl | rfl | rfl | rfl | rfl | rfl | rfl | rfl | rfl | rfl | rfl | rfl | rfl | rfl | rfl | rfl | rfl <;> exact ⟨_, by k_mem⟩)) (own_cons (new_off l3 (by intro b hb; simp only [List.mem_cons, List.mem_nil_iff, or_false] at hb; rcases hb with rfl | rfl | rfl | rfl | rfl | rfl | rfl | rfl | rfl | rfl | rfl | rfl | rfl | rfl | rfl | rfl | rfl | rfl | rfl | rfl | rfl | rfl <;> exact ⟨_, by k_mem⟩)) hroff))))
end
end
section
local macro_rules | `(tactic| k_mem) => `(tactic| first | with_reducible exact List.mem_cons_self | with_reducible assumption | (with_reducible refine List.mem_cons_of_mem _ ?_; k_mem))
local macro_rules | `(tactic| walk_at "eval Name") => `(tactic| (k_here; k_dflt (refine' nameX_L ?F ?v ?_ ?a ?b; (case a => rfl); (case b => rfl); (case F => k_asm); (case v => assumption))))
local macro_rules | `(tactic| walk_at "call type:list") => `(tactic| (k_here; (with_reducible show wpAny _ _ (call (Value.type "list") [Value.ref _]) _ _ _); k_dflt (refine' list_w (base := ?bb) (A₀ := ?aa) ?C ?m1 ?m2 ?m3 ?m4 ?m5 ?m6 ?o ?d ?lo ?z rfl ?u ?_; (case C => exact ⟨by assumption, by k_asm, by assumption, by k_asm, by assumption, rfl, rfl, rfl, by (simp only [depth_mark, depth_deeper, depth_caller]; decide), by (simp only [units_mark, units_deeper]; decide)⟩); (case m1 => k_mem); (case m2 => k_mem); (case m3 => k_mem); (case m4 => k_mem); (case m5 => k_mem); (case m6 => k_mem); (case u => simp only [units_mark, units_deeper]; decide); (case o => exact ⟨by assumption, by assumption, by assumption, by assumption, by assumption⟩); (case d => assumption); (case lo => assumption); (case z => exact ⟨by assumption, by assumption⟩)); intro h' tk' D' n' F' N' l1; (try k_sweep); (try k_unmd)))
local macro_rules | `(tactic| walk_at "compareOp In str ref") => `(tactic| (k_here; k_dflt (refine' in_strs ?l ?_; (case l => exact ⟨_, News.get (by k_asm) (by k_mem), rfl, _, rfl⟩))))
local macro_rules | `(tactic| walk_at "CompSrc") => `(tactic| (k_here; refine halt ?_))
local macro_rules | `(tactic| walk_at "CompSrcT") => `(tactic| (k_here; refine halt ?_))
section
variable {prog : Program} {w : World} {h₀ : Heap} {L fa : Nat} {cv : Value} {mean : ExcName → Option Value} {mg mb : Str → Option Value} {s : Shared} {m : Str → Option Value} {Q : Flow → Shared → Prop} {E : Value → Shared → Prop} {rest : List (Addr × Obj)}
  {o1 o2 o3 o4 o5 o6 o7 ko1 ko2 od1 od2 : Obj} {cl sz ca kn k1 k2 c1 cd1 dm1 dq1 lk1 ld1 c2 cd2 dm2 dq2 lk2 ld2 : Nat} {ncl nsz nca nkn nq1 nq2 u1 u2 ua1 ua2 ta1 ta2 tb1 tb2 tc1 tc2 td1 td2 : Nat} {cap1 cap2 : Int}
  {vs : List Value} {ns : List Int} {ps1 ps2 : List (Str × Nat)} {kvs1 kvs2 kk1 kk2 : List (Str × Value)}
set_option maxRecDepth 100000 in
set_option maxHeartbeats 8000000 in
theorem turn3 (B : Below callerA h₀ [] h₀) (X : (Mine.hd.heap_39 w.params).In h₀) (T : TT mean mg mb h₀) (F : Fr h₀ L s.heap m) (N : News h₀ L s.heap ((L + 1, o1) :: (L + 1 + 1, o2) :: (L + 1 + 1 + 1, o3) :: (L + 1 + 1 + 1 + 1, o4) :: (L + 1 + 1 + 1 + 1 + 1, o5) :: (L + 1 + 1 + 1 + 1 + 1 + 1, o6) :: (L + 1 + 1 + 1 + 1 + 1 + 1 + 1, o7) :: (cl, listOf vs.toArray ncl) :: (sz, listOf #[.int cap1 u1, .int cap2 u2] nsz) :: (ca, listOf #[.ref c1, .ref c2] nca) :: (kn, listOf #[.ref k1, .ref k2] nkn) :: (k1, ko1) :: (k2, ko2) :: (c1, instObj 169 cd1) :: (cd1, cdObj w dm1 dq1 lk1 cap1 ua1 ta1 tb1 tc1 td1) :: (dm1, od1) :: (dq1, listOf (svs ps1) nq1) :: (lk1, instObj 45 ld1) :: (ld1, dictOf [] 0) :: (c2, instObj 169 cd2) :: (cd2, cdObj w dm2 dq2 lk2 cap2 ua2 ta2 tb2 tc2 td2) :: (dm2, od2) :: (dq2, listOf (svs ps2) nq2) :: (lk2, instObj 45 ld2) :: (ld2, dictOf [] 0) :: rest))
    (q0 : (L + 1 + 1 + 1 + 1 + 1 + 1 + 1 < sz ∧ L + 1 ≠ cl ∧ L + 1 + 1 ≠ cl ∧ L + 1 + 1 + 1 ≠ cl ∧ L + 1 + 1 + 1 + 1 ≠ cl ∧ L + 1 + 1 + 1 + 1 + 1 ≠ cl ∧ L + 1 + 1 + 1 + 1 + 1 + 1 ≠ cl ∧ L + 1 + 1 + 1 + 1 + 1 + 1 + 1 ≠ cl) ∧ cl < sz ∧ sz < cd1 ∧ cd1 < c1 ∧ c1 < dm1 ∧ dm1 < dq1 ∧ dq1 < ld1 ∧ ld1 < lk1 ∧ lk1 < cd2 ∧ cd2 < c2 ∧ c2 < dm2 ∧ dm2 < dq2 ∧ dq2 < ld2 ∧ ld2 < lk2 ∧ lk2 < ca ∧ ca < kn ∧ ca < k1 ∧ ca < k2 ∧ k1 ≠ k2 ∧ k1 ≠ kn ∧ k2 ≠ kn)
    (hroff : OwnOff rest [L + 1, L + 1 + 1, L + 1 + 1 + 1, L + 1 + 1 + 1 + 1, L + 1 + 1 + 1 + 1 + 1, L + 1 + 1 + 1 + 1 + 1 + 1, L + 1 + 1 + 1 + 1 + 1 + 1 + 1, kn, k1, k2, c1, cd1, dm1, dq1, lk1, ld1, c2, cd2, dm2, dq2, lk2, ld2])
    (mcl : m (Str.ofString "cells") = some (.ref cl)) (msz : m (Str.ofString "sizes") = some (.ref sz)) (mca : m (Str.ofString "caches") = some (.ref ca)) {κ : Str} {tκ : Tok} {Db D1 D2 nb n1 n2 : Nat} {B1 B2 : List (Str × Nat)} (x4 : o4.data = .cell (some (.str κ tκ))) (mb : m (Str.ofString "before") = some (.ref Db)) (mDb : (Db, listOf #[.ref D1, .ref D2] nb) ∈ rest) (mD1 : (D1, listOf (svs B1) n1) ∈ rest) (mD2 : (D2, listOf (svs B2) n2) ∈ rest)
    (h : ∀ h' tk (Dt nt : Nat), Fr h₀ L h' (fun y => if y = (Str.ofString "there") then some (.ref Dt) else m y) → News h₀ L h' ((L + 1, o1) :: (L + 1 + 1, o2) :: (L + 1 + 1 + 1, o3) :: (L + 1 + 1 + 1 + 1, o4) :: (L + 1 + 1 + 1 + 1 + 1, o5) :: (L + 1 + 1 + 1 + 1 + 1 + 1, o6) :: (L + 1 + 1 + 1 + 1 + 1 + 1 + 1, o7) :: (cl, listOf vs.toArray ncl) :: (sz, listOf #[.int cap1 u1, .int cap2 u2] nsz) :: (ca, listOf #[.ref c1, .ref c2] nca) :: (kn, listOf #[.ref k1, .ref k2] nkn) :: (k1, ko1) :: (k2, ko2) :: (c1, instObj 169 cd1) :: (cd1, cdObj w dm1 dq1 lk1 cap1 ua1 ta1 tb1 tc1 td1) :: (dm1, od1) :: (dq1, listOf (svs ps1) nq1) :: (lk1, instObj 45 ld1) :: (ld1, dictOf [] 0) :: (c2, instObj 169 cd2) :: (cd2, cdObj w dm2 dq2 lk2 cap2 ua2 ta2 tb2 tc2 td2) :: (dm2, od2) :: (dq2, listOf (svs ps2) nq2) :: (lk2, instObj 45 ld2) :: (ld2, dictOf [] 0) :: (Dt, listOf #[.bool (decide (κ ∈ keysOf B1)), .bool (decide (κ ∈ keysOf B2))] nt) :: rest) → OwnOff ((Dt, listOf #[.bool (decide (κ ∈ keysOf B1)), .bool (decide (κ ∈ keysOf B2))] nt) :: rest) [L + 1, L + 1 + 1, L + 1 + 1 + 1, L + 1 + 1 + 1 + 1, L + 1 + 1 + 1 + 1 + 1, L + 1 + 1 + 1 + 1 + 1 + 1, L + 1 + 1 + 1 + 1 + 1 + 1 + 1, kn, k1, k2, c1, cd1, dm1, dq1, lk1, ld1, c2, cd2, dm2, dq2, lk2, ld2] → Q .next { s with heap := h', toks := tk }) :
    wpAny (model prog w) (callerA.deeper (lawE w L fa cv)) (exec (st3 w) (lawE w L fa cv)) Q E s := by
  have q0c := q0
  obtain ⟨q1, q2, q3, q4, q5, q6, q7, q8, q9, q10, q11, q12, q13, q14, q15, q16, q17, q18, q19, q20, q21⟩ := q0
  unfold st3 turnB forS lawB lawF
  dsimp only [hdS, tlS, bodyS]
  show wpAny _ (callerA.deeper (envOfC "law" (lawS w) L fa cv)) (exec _ (envOfC "law" (lawS w) L fa cv)) _ _ _
  unfold lawS lawF
  dsimp only
  k_steps
  refine LCg.CompSrc.ledger (by rfl) (by k_asm) (by k_asm) (by k_mem) (by rw [sizeLine_eq]; exact Nat.le_of_ble_eq_true rfl) ?_
  intro g1
  try dsimp only
  refine LCg.CompRest.succ (k := 1) ?_
  intro v I1 oI1 C1 oC1 Da1 m1 h1 tk1 E1 hP1 hC1 hx1 F1 N1 off1 ne1
  obtain rfl : v = .ref D1 := (Option.some.inj hP1).symm
  k_steps
  refine cend0 (by assumption) (by assumption) off1 (.inr ⟨_, by k_mem, rfl, _, rfl⟩) ?_
  try dsimp only
  refine LCg.CompRest.succ (k := 0) ?_
  intro v I2 oI2 C2 oC2 Da2 m2 h2 tk2 E2 hP2 hC2 hx2 F2 N2 off2 ne2
  obtain rfl : v = .ref D2 := (Option.some.inj hP2).symm
  k_steps
  refine cend0 (by assumption) (by assumption) off2 (.inr ⟨_, by k_mem, rfl, _, rfl⟩) ?_
  refine LCg.CompRest.zero ?_
  intro Dt h5 tk5 F5 N5 ob5
  try dsimp only
  k_steps
  all_goals first
    | (exact h _ _ Dt _ F5 (news_in ((L + 1, o1) :: (L + 1 + 1, o2) :: (L + 1 + 1 + 1, o3) :: (L + 1 + 1 + 1 + 1, o4) :: (L + 1 + 1 + 1 + 1 + 1, o5) :: (L + 1 + 1 + 1 + 1 + 1 + 1, o6) :: (L + 1 + 1 + 1 + 1 + 1 + 1 + 1, o7) :: (cl, listOf vs.toArray ncl) :: (sz, listOf #[.int cap1 u1, .int cap2 u2] nsz) :: (ca, listOf #[.ref c1, .ref c2] nca) :: (kn, listOf #[.ref k1, .ref k2] nkn) :: (k1, ko1) :: (k2, ko2) :: (c1, instObj 169 cd1) :: (cd1, cdObj w dm1 dq1 lk1 cap1 ua1 ta1 tb1 tc1 td1) :: (dm1, od1) :: (dq1, listOf (svs ps1) nq1) :: (lk1, instObj 45 ld1) :: (ld1, dictOf [] 0) :: (c2, instObj 169 cd2) :: (cd2, cdObj w dm2 dq2 lk2 cap2 ua2 ta2 tb2 tc2 td2) :: (dm2, od2) :: (dq2, listOf (svs ps2) nq2) :: (lk2, instObj 45 ld2) :: (ld2, dictOf [] 0) :: []) [_] N5) (own_cons (off1_off ob5 (by intro b hb; simp only [List.mem_cons, List.mem_nil_iff, or_false] at hb; rcases hb with rfl | rfl | rfl | rfl | rfl | rfl | rfl | rfl | rfl | rfl | rfl | rfl | rfl | rfl | rfl | rfl | rfl | rfl | rfl | rfl | rfl | rfl <;> exact ⟨_, by k_mem⟩)) hroff))
end
end
section
local macro_rules | `(tactic| k_mem) => `(tactic| first | with_reducible exact List.mem_cons_self | with_reducible assumption | (with_reducible refine List.mem_cons_of_mem _ ?_; k_mem))
local macro_rules | `(tactic| walk_at "eval Name") => `(tactic| (k_here; k_dflt (refine' nameX_L ?F ?v ?_ ?a ?b; (case a => rfl); (case b => rfl); (case F => k_asm); (case v => assumption))))
local macro_rules | `(tactic| walk_at "call type:list") => `(tactic| (k_here; (with_reducible show wpAny _ _ (call (Value.type "list") [Value.ref _]) _ _ _); k_dflt (refine' list_w (base := ?bb) (A₀ := ?aa) ?C ?m1 ?m2 ?m3 ?m4 ?m5 ?m6 ?o ?d ?lo ?z rfl ?u ?_; (case C => exact ⟨by assumption, by k_asm, by assumption, by k_asm, by assumption, rfl, rfl, rfl, by (simp only [depth_mark, depth_deeper, depth_caller]; decide), by (simp only [units_mark, units_deeper]; decide)⟩); (case m1 => k_mem); (case m2 => k_mem); (case m3 => k_mem); (case m4 => k_mem); (case m5 => k_mem); (case m6 => k_mem); (case u => simp only [units_mark, units_deeper]; decide); (case o => exact ⟨by assumption, by assumption, by assumption, by assumption, by assumption⟩); (case d => assumption); (case lo => assumption); (case z => exact ⟨by assumption, by assumption⟩)); intro h' tk' D' n' F' N' l1; (try k_sweep); (try k_unmd)))
local macro_rules | `(tactic| walk_at "compareOp In str ref") => `(tactic| (k_here; k_dflt (refine' in_strs ?l ?_; (case l => exact ⟨_, News.get (by k_asm) (by k_mem), rfl, _, rfl⟩))))
local macro_rules | `(tactic| walk_at "CompSrc") => `(tactic| (k_here; refine halt ?_))
local macro_rules | `(tactic| walk_at "CompSrcT") => `(tactic| (k_here; refine halt ?_))
local macro_rules | `(tactic| walk_at "call ref") => `(tactic| (k_here; (with_reducible show wpAny _ _ (call (Value.ref 180) _) _ _ _); refine halt ?_))
local macro_rules | `(tactic| walk_at "call ref") => `(tactic| (k_here; (with_reducible show wpAny _ _ (call (Value.ref 93) _) _ _ _); refine halt ?_))
section
variable {prog : Program} {w : World} {h₀ : Heap} {L fa : Nat} {cv : Value} {mean : ExcName → Option Value} {mg mb : Str → Option Value} {s : Shared} {m : Str → Option Value} {Q : Flow → Shared → Prop} {E : Value → Shared → Prop} {rest : List (Addr × Obj)}
  {o1 o2 o3 o4 o5 o6 o7 ko1 ko2 od1 od2 : Obj} {cl sz ca kn k1 k2 c1 cd1 dm1 dq1 lk1 ld1 c2 cd2 dm2 dq2 lk2 ld2 : Nat} {ncl nsz nca nkn nq1 nq2 u1 u2 ua1 ua2 ta1 ta2 tb1 tb2 tc1 tc2 td1 td2 : Nat} {cap1 cap2 : Int}
  {vs : List Value} {ns : List Int} {ps1 ps2 : List (Str × Nat)} {kvs1 kvs2 kk1 kk2 : List (Str × Value)}
set_option maxRecDepth 100000 in
set_option maxHeartbeats 8000000 in
theorem turn4 (B : Below callerA h₀ [] h₀) (X : (Mine.hd.heap_39 w.params).In h₀) (T : TT mean mg mb h₀) (F : Fr h₀ L s.heap m) (N : News h₀ L s.heap ((L + 1, o1) :: (L + 1 + 1, o2) :: (L + 1 + 1 + 1, o3) :: (L + 1 + 1 + 1 + 1, o4) :: (L + 1 + 1 + 1 + 1 + 1, o5) :: (L + 1 + 1 + 1 + 1 + 1 + 1, o6) :: (L + 1 + 1 + 1 + 1 + 1 + 1 + 1, o7) :: (cl, listOf vs.toArray ncl) :: (sz, listOf #[.int cap1 u1, .int cap2 u2] nsz) :: (ca, listOf #[.ref c1, .ref c2] nca) :: (kn, listOf #[.ref k1, .ref k2] nkn) :: (k1, ko1) :: (k2, ko2) :: (c1, instObj 169 cd1) :: (cd1, cdObj w dm1 dq1 lk1 cap1 ua1 ta1 tb1 tc1 td1) :: (dm1, od1) :: (dq1, listOf (svs ps1) nq1) :: (lk1, instObj 45 ld1) :: (ld1, dictOf [] 0) :: (c2, instObj 169 cd2) :: (cd2, cdObj w dm2 dq2 lk2 cap2 ua2 ta2 tb2 tc2 td2) :: (dm2, od2) :: (dq2, listOf (svs ps2) nq2) :: (lk2, instObj 45 ld2) :: (ld2, dictOf [] 0) :: rest))
    (q0 : (L + 1 + 1 + 1 + 1 + 1 + 1 + 1 < sz ∧ L + 1 ≠ cl ∧ L + 1 + 1 ≠ cl ∧ L + 1 + 1 + 1 ≠ cl ∧ L + 1 + 1 + 1 + 1 ≠ cl ∧ L + 1 + 1 + 1 + 1 + 1 ≠ cl ∧ L + 1 + 1 + 1 + 1 + 1 + 1 ≠ cl ∧ L + 1 + 1 + 1 + 1 + 1 + 1 + 1 ≠ cl) ∧ cl < sz ∧ sz < cd1 ∧ cd1 < c1 ∧ c1 < dm1 ∧ dm1 < dq1 ∧ dq1 < ld1 ∧ ld1 < lk1 ∧ lk1 < cd2 ∧ cd2 < c2 ∧ c2 < dm2 ∧ dm2 < dq2 ∧ dq2 < ld2 ∧ ld2 < lk2 ∧ lk2 < ca ∧ ca < kn ∧ ca < k1 ∧ ca < k2 ∧ k1 ≠ k2 ∧ k1 ≠ kn ∧ k2 ≠ kn)
    (hroff : OwnOff rest [L + 1, L + 1 + 1, L + 1 + 1 + 1, L + 1 + 1 + 1 + 1, L + 1 + 1 + 1 + 1 + 1, L + 1 + 1 + 1 + 1 + 1 + 1, L + 1 + 1 + 1 + 1 + 1 + 1 + 1, kn, k1, k2, c1, cd1, dm1, dq1, lk1, ld1, c2, cd2, dm2, dq2, lk2, ld2])
    (mcl : m (Str.ofString "cells") = some (.ref cl)) (msz : m (Str.ofString "sizes") = some (.ref sz)) (mca : m (Str.ofString "caches") = some (.ref ca)) {κ : Str} {tκ ti td : Tok} {i dd : Int} (x2 : o2.data = .cell (some (.int i ti))) (x3 : o3.data = .cell (some (.int dd td))) (x4 : o4.data = .cell (some (.str κ tκ))) (hdd : 0 ≤ dd ∧ dd < 6) (hm1 : Matches ps1 kvs1) (hm2 : Matches ps2 kvs2) (cp1 : 1 ≤ cap1) (cp2 : 1 ≤ cap2) (hd1 : od1.IsDictOf (strKind prog w) kvs1) (lo1 : (dm1 == sysModules) = false) (hz1 : kvs1.length ≤ 900 ∧ ps1.length = kvs1.length) (hd2 : od2.IsDictOf (strKind prog w) kvs2) (lo2 : (dm2 == sysModules) = false) (hz2 : kvs2.length ≤ 900 ∧ ps2.length = kvs2.length)
    (h : ∀ h' tk (Do no : Nat) od1' od2' nq1' nq2', Fr h₀ L h' (fun y => if y = (Str.ofString "told") then some (.ref Do) else m y) → News h₀ L h' ((L + 1, o1) :: (L + 1 + 1, o2) :: (L + 1 + 1 + 1, o3) :: (L + 1 + 1 + 1 + 1, o4) :: (L + 1 + 1 + 1 + 1 + 1, o5) :: (L + 1 + 1 + 1 + 1 + 1 + 1, o6) :: (L + 1 + 1 + 1 + 1 + 1 + 1 + 1, o7) :: (cl, listOf vs.toArray ncl) :: (sz, listOf #[.int cap1 u1, .int cap2 u2] nsz) :: (ca, listOf #[.ref c1, .ref c2] nca) :: (kn, listOf #[.ref k1, .ref k2] nkn) :: (k1, ko1) :: (k2, ko2) :: (c1, instObj 169 cd1) :: (cd1, cdObj w dm1 dq1 lk1 cap1 ua1 ta1 tb1 tc1 td1) :: (dm1, od1') :: (dq1, listOf (svs (tQ dd cap1 ps1 kvs1 κ tκ)) nq1') :: (lk1, instObj 45 ld1) :: (ld1, dictOf [] 0) :: (c2, instObj 169 cd2) :: (cd2, cdObj w dm2 dq2 lk2 cap2 ua2 ta2 tb2 tc2 td2) :: (dm2, od2') :: (dq2, listOf (svs (tQ dd cap2 ps2 kvs2 κ tκ)) nq2') :: (lk2, instObj 45 ld2) :: (ld2, dictOf [] 0) :: (Do, listOf #[tV dd kvs1 κ (.int i ti), tV dd kvs2 κ (.int i ti)] no) :: rest) → OwnOff ((Do, listOf #[tV dd kvs1 κ (.int i ti), tV dd kvs2 κ (.int i ti)] no) :: rest) [L + 1, L + 1 + 1, L + 1 + 1 + 1, L + 1 + 1 + 1 + 1, L + 1 + 1 + 1 + 1 + 1, L + 1 + 1 + 1 + 1 + 1 + 1, L + 1 + 1 + 1 + 1 + 1 + 1 + 1, kn, k1, k2, c1, cd1, dm1, dq1, lk1, ld1, c2, cd2, dm2, dq2, lk2, ld2] → od1'.IsDictOf (strKind prog w) (tM dd cap1 ps1 kvs1 κ (.int i ti)) → od2'.IsDictOf (strKind prog w) (tM dd cap2 ps2 kvs2 κ (.int i ti)) → Q .next { s with heap := h', toks := tk }) :
    wpAny (model prog w) (callerA.deeper (lawE w L fa cv)) (exec (st4 w) (lawE w L fa cv)) Q E s := by
  have q0c := q0
  obtain ⟨q1, q2, q3, q4, q5, q6, q7, q8, q9, q10, q11, q12, q13, q14, q15, q16, q17, q18, q19, q20, q21⟩ := q0
  obtain ⟨z11, z12⟩ := hz1
  obtain ⟨z21, z22⟩ := hz2
  unfold st4 turnB forS lawB lawF
  dsimp only [hdS, tlS, bodyS]
  show wpAny _ (callerA.deeper (envOfC "law" (lawS w) L fa cv)) (exec _ (envOfC "law" (lawS w) L fa cv)) _ _ _
  unfold lawS lawF
  dsimp only
  k_steps
  refine LCg.CompSrc.ledger (by rfl) (by k_asm) (by k_asm) (by k_mem) (by rw [sizeLine_eq]; exact Nat.le_of_ble_eq_true rfl) ?_
  intro g1
  try dsimp only
  refine LCg.CompRest.succ (k := 1) ?_
  intro v I1 oI1 C1 oC1 Da1 m1 h1 tk1 E1 hP1 hC1 hx1 F1 N1 off1 ne1
  obtain rfl : v = .ref c1 := (Option.some.inj hP1).symm
  k_steps
  refine wpAny_call ?_
  have hN1 := news_in ((c1, instObj 169 cd1) :: (cd1, cdObj w dm1 dq1 lk1 cap1 ua1 ta1 tb1 tc1 td1) :: (dm1, od1) :: (dq1, listOf (svs ps1) nq1) :: (lk1, instObj 45 ld1) :: (ld1, dictOf [] 0) :: []) ((I1, oI1) :: (C1, oC1) :: (Da1, LCg.lst []) :: (L + 1, o1) :: (L + 1 + 1, o2) :: (L + 1 + 1 + 1, o3) :: (L + 1 + 1 + 1 + 1, o4) :: (L + 1 + 1 + 1 + 1 + 1, o5) :: (L + 1 + 1 + 1 + 1 + 1 + 1, o6) :: (L + 1 + 1 + 1 + 1 + 1 + 1 + 1, o7) :: (cl, listOf vs.toArray ncl) :: (sz, listOf #[.int cap1 u1, .int cap2 u2] nsz) :: (ca, listOf #[.ref c1, .ref c2] nca) :: (kn, listOf #[.ref k1, .ref k2] nkn) :: (k1, ko1) :: (k2, ko2) :: []) N1
  refine taken_c (rest := ((I1, oI1) :: (C1, oC1) :: (Da1, LCg.lst []) :: (L + 1, o1) :: (L + 1 + 1, o2) :: (L + 1 + 1 + 1, o3) :: (L + 1 + 1 + 1 + 1, o4) :: (L + 1 + 1 + 1 + 1 + 1, o5) :: (L + 1 + 1 + 1 + 1 + 1 + 1, o6) :: (L + 1 + 1 + 1 + 1 + 1 + 1 + 1, o7) :: (cl, listOf vs.toArray ncl) :: (sz, listOf #[.int cap1 u1, .int cap2 u2] nsz) :: (ca, listOf #[.ref c1, .ref c2] nca) :: (kn, listOf #[.ref k1, .ref k2] nkn) :: (k1, ko1) :: (k2, ko2) :: (c2, instObj 169 cd2) :: (cd2, cdObj w dm2 dq2 lk2 cap2 ua2 ta2 tb2 tc2 td2) :: (dm2, od2) :: (dq2, listOf (svs ps2) nq2) :: (lk2, instObj 45 ld2) :: (ld2, dictOf [] 0) :: rest)) (base := h₀) (A₀ := callerA) ⟨B, F1, X, hN1, T, rfl, rfl, rfl, by (simp only [depth_mark, depth_deeper, depth_caller]; decide), by (simp only [units_mark, units_deeper]; decide)⟩ rfl (by simp only [depth_mark, depth_deeper, depth_caller, units_mark, units_deeper]; decide) ⟨ktsDicts_nil, X, T⟩ ⟨by assumption, by assumption, by assumption, by assumption, by assumption⟩ (apart31 off1 (by intro b hb; simp only [List.mem_cons, List.mem_nil_iff, or_false] at hb; rcases hb with rfl | rfl | rfl | rfl | rfl | rfl <;> exact ⟨_, by k_mem⟩) (apart1 q0c hroff)) hd1 lo1 ⟨by assumption, by assumption⟩ hdd hm1 cp1 ?_
  intro hh1 h31 tk31 n31 od1' T31 F31 N31 B31 D31 hd1'
  try dsimp only
  (try k_unmd); (try k_unfold); (try dsimp only)
  refine cend0 (nw := ((L + 1, o1) :: (L + 1 + 1, o2) :: (L + 1 + 1 + 1, o3) :: (L + 1 + 1 + 1 + 1, o4) :: (L + 1 + 1 + 1 + 1 + 1, o5) :: (L + 1 + 1 + 1 + 1 + 1 + 1, o6) :: (L + 1 + 1 + 1 + 1 + 1 + 1 + 1, o7) :: (cl, listOf vs.toArray ncl) :: (sz, listOf #[.int cap1 u1, .int cap2 u2] nsz) :: (ca, listOf #[.ref c1, .ref c2] nca) :: (kn, listOf #[.ref k1, .ref k2] nkn) :: (k1, ko1) :: (k2, ko2) :: (c1, instObj 169 cd1) :: (cd1, cdObj w dm1 dq1 lk1 cap1 ua1 ta1 tb1 tc1 td1) :: (dm1, od1') :: (dq1, listOf (svs (tQ dd cap1 ps1 kvs1 κ tκ)) n31) :: (lk1, instObj 45 ld1) :: (ld1, dictOf [] 0) :: (c2, instObj 169 cd2) :: (cd2, cdObj w dm2 dq2 lk2 cap2 ua2 ta2 tb2 tc2 td2) :: (dm2, od2) :: (dq2, listOf (svs ps2) nq2) :: (lk2, instObj 45 ld2) :: (ld2, dictOf [] 0) :: rest)) (fr_flat T31 F31) (news_in ((I1, oI1) :: (C1, oC1) :: (Da1, LCg.lst []) :: (L + 1, o1) :: (L + 1 + 1, o2) :: (L + 1 + 1 + 1, o3) :: (L + 1 + 1 + 1 + 1, o4) :: (L + 1 + 1 + 1 + 1 + 1, o5) :: (L + 1 + 1 + 1 + 1 + 1 + 1, o6) :: (L + 1 + 1 + 1 + 1 + 1 + 1 + 1, o7) :: (cl, listOf vs.toArray ncl) :: (sz, listOf #[.int cap1 u1, .int cap2 u2] nsz) :: (ca, listOf #[.ref c1, .ref c2] nca) :: (kn, listOf #[.ref k1, .ref k2] nkn) :: (k1, ko1) :: (k2, ko2) :: []) ((c1, instObj 169 cd1) :: (cd1, cdObj w dm1 dq1 lk1 cap1 ua1 ta1 tb1 tc1 td1) :: (dm1, od1') :: (dq1, listOf (svs (tQ dd cap1 ps1 kvs1 κ tκ)) n31) :: (lk1, instObj 45 ld1) :: (ld1, dictOf [] 0) :: []) (news_flat T31 N31)) (show LCg.Off3 _ _ _ _ from off1) (.inr ⟨_, by k_mem, rfl, _, rfl⟩) ?_
  try dsimp only
  refine LCg.CompRest.succ (k := 0) ?_
  intro v I2 oI2 C2 oC2 Da2 m2 h2 tk2 E2 hP2 hC2 hx2 F2 N2 off2 ne2
  obtain rfl : v = .ref c2 := (Option.some.inj hP2).symm
  k_steps
  refine wpAny_call ?_
  have hN2 := news_in ((c2, instObj 169 cd2) :: (cd2, cdObj w dm2 dq2 lk2 cap2 ua2 ta2 tb2 tc2 td2) :: (dm2, od2) :: (dq2, listOf (svs ps2) nq2) :: (lk2, instObj 45 ld2) :: (ld2, dictOf [] 0) :: []) ((I2, oI2) :: (C2, oC2) :: (Da2, LCg.lst [tV dd kvs1 κ (.int i ti)]) :: (L + 1, o1) :: (L + 1 + 1, o2) :: (L + 1 + 1 + 1, o3) :: (L + 1 + 1 + 1 + 1, o4) :: (L + 1 + 1 + 1 + 1 + 1, o5) :: (L + 1 + 1 + 1 + 1 + 1 + 1, o6) :: (L + 1 + 1 + 1 + 1 + 1 + 1 + 1, o7) :: (cl, listOf vs.toArray ncl) :: (sz, listOf #[.int cap1 u1, .int cap2 u2] nsz) :: (ca, listOf #[.ref c1, .ref c2] nca) :: (kn, listOf #[.ref k1, .ref k2] nkn) :: (k1, ko1) :: (k2, ko2) :: (c1, instObj 169 cd1) :: (cd1, cdObj w dm1 dq1 lk1 cap1 ua1 ta1 tb1 tc1 td1) :: (dm1, od1') :: (dq1, listOf (svs (tQ dd cap1 ps1 kvs1 κ tκ)) n31) :: (lk1, instObj 45 ld1) :: (ld1, dictOf [] 0) :: []) N2
  refine taken_c (rest := ((I2, oI2) :: (C2, oC2) :: (Da2, LCg.lst [tV dd kvs1 κ (.int i ti)]) :: (L + 1, o1) :: (L + 1 + 1, o2) :: (L + 1 + 1 + 1, o3) :: (L + 1 + 1 + 1 + 1, o4) :: (L + 1 + 1 + 1 + 1 + 1, o5) :: (L + 1 + 1 + 1 + 1 + 1 + 1, o6) :: (L + 1 + 1 + 1 + 1 + 1 + 1 + 1, o7) :: (cl, listOf vs.toArray ncl) :: (sz, listOf #[.int cap1 u1, .int cap2 u2] nsz) :: (ca, listOf #[.ref c1, .ref c2] nca) :: (kn, listOf #[.ref k1, .ref k2] nkn) :: (k1, ko1) :: (k2, ko2) :: (c1, instObj 169 cd1) :: (cd1, cdObj w dm1 dq1 lk1 cap1 ua1 ta1 tb1 tc1 td1) :: (dm1, od1') :: (dq1, listOf (svs (tQ dd cap1 ps1 kvs1 κ tκ)) n31) :: (lk1, instObj 45 ld1) :: (ld1, dictOf [] 0) :: rest)) (base := h₀) (A₀ := callerA) ⟨B, F2, X, hN2, T, rfl, rfl, rfl, by (simp only [depth_mark, depth_deeper, depth_caller]; decide), by (simp only [units_mark, units_deeper]; decide)⟩ rfl (by simp only [depth_mark, depth_deeper, depth_caller, units_mark, units_deeper]; decide) ⟨ktsDicts_nil, X, T⟩ ⟨by assumption, by assumption, by assumption, by assumption, by assumption⟩ (apart32 off2 (by intro b hb; simp only [List.mem_cons, List.mem_nil_iff, or_false] at hb; rcases hb with rfl | rfl | rfl | rfl | rfl | rfl <;> exact ⟨_, by k_mem⟩) (apart2 q0c hroff)) hd2 lo2 ⟨by assumption, by assumption⟩ hdd hm2 cp2 ?_
  intro hh2 h32 tk32 n32 od2' T32 F32 N32 B32 D32 hd2'
  try dsimp only
  (try k_unmd); (try k_unfold); (try dsimp only)
  refine cend0 (nw := ((L + 1, o1) :: (L + 1 + 1, o2) :: (L + 1 + 1 + 1, o3) :: (L + 1 + 1 + 1 + 1, o4) :: (L + 1 + 1 + 1 + 1 + 1, o5) :: (L + 1 + 1 + 1 + 1 + 1 + 1, o6) :: (L + 1 + 1 + 1 + 1 + 1 + 1 + 1, o7) :: (cl, listOf vs.toArray ncl) :: (sz, listOf #[.int cap1 u1, .int cap2 u2] nsz) :: (ca, listOf #[.ref c1, .ref c2] nca) :: (kn, listOf #[.ref k1, .ref k2] nkn) :: (k1, ko1) :: (k2, ko2) :: (c1, instObj 169 cd1) :: (cd1, cdObj w dm1 dq1 lk1 cap1 ua1 ta1 tb1 tc1 td1) :: (dm1, od1') :: (dq1, listOf (svs (tQ dd cap1 ps1 kvs1 κ tκ)) n31) :: (lk1, instObj 45 ld1) :: (ld1, dictOf [] 0) :: (c2, instObj 169 cd2) :: (cd2, cdObj w dm2 dq2 lk2 cap2 ua2 ta2 tb2 tc2 td2) :: (dm2, od2') :: (dq2, listOf (svs (tQ dd cap2 ps2 kvs2 κ tκ)) n32) :: (lk2, instObj 45 ld2) :: (ld2, dictOf [] 0) :: rest)) (fr_flat T32 F32) (news_in ((I2, oI2) :: (C2, oC2) :: (Da2, LCg.lst [tV dd kvs1 κ (.int i ti)]) :: (L + 1, o1) :: (L + 1 + 1, o2) :: (L + 1 + 1 + 1, o3) :: (L + 1 + 1 + 1 + 1, o4) :: (L + 1 + 1 + 1 + 1 + 1, o5) :: (L + 1 + 1 + 1 + 1 + 1 + 1, o6) :: (L + 1 + 1 + 1 + 1 + 1 + 1 + 1, o7) :: (cl, listOf vs.toArray ncl) :: (sz, listOf #[.int cap1 u1, .int cap2 u2] nsz) :: (ca, listOf #[.ref c1, .ref c2] nca) :: (kn, listOf #[.ref k1, .ref k2] nkn) :: (k1, ko1) :: (k2, ko2) :: (c1, instObj 169 cd1) :: (cd1, cdObj w dm1 dq1 lk1 cap1 ua1 ta1 tb1 tc1 td1) :: (dm1, od1') :: (dq1, listOf (svs (tQ dd cap1 ps1 kvs1 κ tκ)) n31) :: (lk1, instObj 45 ld1) :: (ld1, dictOf [] 0) :: []) ((c2, instObj 169 cd2) :: (cd2, cdObj w dm2 dq2 lk2 cap2 ua2 ta2 tb2 tc2 td2) :: (dm2, od2') :: (dq2, listOf (svs (tQ dd cap2 ps2 kvs2 κ tκ)) n32) :: (lk2, instObj 45 ld2) :: (ld2, dictOf [] 0) :: []) (news_flat T32 N32)) (show LCg.Off3 _ _ _ _ from off2) (.inr ⟨_, by k_mem, rfl, _, rfl⟩) ?_
  refine LCg.CompRest.zero ?_
  intro Do h5 tk5 F5 N5 ob5
  try dsimp only
  k_steps
  all_goals first
    | (exact h _ _ Do _ _ _ _ _ F5 (news_in ((L + 1, o1) :: (L + 1 + 1, o2) :: (L + 1 + 1 + 1, o3) :: (L + 1 + 1 + 1 + 1, o4) :: (L + 1 + 1 + 1 + 1 + 1, o5) :: (L + 1 + 1 + 1 + 1 + 1 + 1, o6) :: (L + 1 + 1 + 1 + 1 + 1 + 1 + 1, o7) :: (cl, listOf vs.toArray ncl) :: (sz, listOf #[.int cap1 u1, .int cap2 u2] nsz) :: (ca, listOf #[.ref c1, .ref c2] nca) :: (kn, listOf #[.ref k1, .ref k2] nkn) :: (k1, ko1) :: (k2, ko2) :: (c1, instObj 169 cd1) :: (cd1, cdObj w dm1 dq1 lk1 cap1 ua1 ta1 tb1 tc1 td1) :: (dm1, od1') :: (dq1, listOf (svs (tQ dd cap1 ps1 kvs1 κ tκ)) n31) :: (lk1, instObj 45 ld1) :: (ld1, dictOf [] 0) :: (c2, instObj 169 cd2) :: (cd2, cdObj w dm2 dq2 lk2 cap2 ua2 ta2 tb2 tc2 td2) :: (dm2, od2') :: (dq2, listOf (svs (tQ dd cap2 ps2 kvs2 κ tκ)) n32) :: (lk2, instObj 45 ld2) :: (ld2, dictOf [] 0) :: []) [_] N5) (own_cons (off1_off ob5 (by intro b hb; simp only [List.mem_cons, List.mem_nil_iff, or_false] at hb; rcases hb with rfl | rfl | rfl | rfl | rfl | rfl | rfl | rfl | rfl | rfl | rfl | rfl | rfl | rfl | rfl | rfl | rfl | rfl | rfl | rfl | rfl | rfl <;> exact ⟨_, by k_mem⟩)) hroff) hd1' hd2')
end
end
section
local macro_rules | `(tactic| walk_at "idle line 0") => `(tactic| fail)
local macro_rules | `(tactic| walk_at "idle line 1") => `(tactic| fail)
local macro_rules | `(tactic| k_mem) => `(tactic| first | with_reducible exact List.mem_cons_self | with_reducible assumption | (with_reducible refine List.mem_cons_of_mem _ ?_; k_mem))
local macro_rules | `(tactic| walk_at "eval Name") => `(tactic| (k_here; k_dflt (refine' nameX_L ?F ?v ?_ ?a ?b; (case a => rfl); (case b => rfl); (case F => k_asm); (case v => assumption))))
local macro_rules | `(tactic| walk_at "call type:list") => `(tactic| (k_here; (with_reducible show wpAny _ _ (call (Value.type "list") [Value.ref _]) _ _ _); k_dflt (refine' list_w (base := ?bb) (A₀ := ?aa) ?C ?m1 ?m2 ?m3 ?m4 ?m5 ?m6 ?o ?d ?lo ?z rfl ?u ?_; (case C => exact ⟨by assumption, by k_asm, by assumption, by k_asm, by assumption, rfl, rfl, rfl, by (simp only [depth_mark, depth_deeper, depth_caller]; decide), by (simp only [units_mark, units_deeper]; decide)⟩); (case m1 => k_mem); (case m2 => k_mem); (case m3 => k_mem); (case m4 => k_mem); (case m5 => k_mem); (case m6 => k_mem); (case u => simp only [units_mark, units_deeper]; decide); (case o => exact ⟨by assumption, by assumption, by assumption, by assumption, by assumption⟩); (case d => assumption); (case lo => assumption); (case z => exact ⟨by assumption, by assumption⟩)); intro h' tk' D' n' F' N' l1; (have l2 := l1); (k_lt l2); (try k_sweep); (try k_unmd)))
local macro_rules | `(tactic| walk_at "compareOp In str ref") => `(tactic| (k_here; k_dflt (refine' in_strs ?l ?_; (case l => exact ⟨_, News.get (by k_asm) (by k_mem), rfl, _, rfl⟩))))
local macro_rules | `(tactic| walk_at "CompSrc") => `(tactic| (k_here; refine halt ?_))
local macro_rules | `(tactic| walk_at "CompSrcT") => `(tactic| (k_here; refine halt ?_))
local macro_rules | `(tactic| walk_at "call ref") => `(tactic| (k_here; (with_reducible show wpAny _ _ (call (Value.ref 180) _) _ _ _); refine halt ?_))
local macro_rules | `(tactic| walk_at "call ref") => `(tactic| (k_here; (with_reducible show wpAny _ _ (call (Value.ref 93) _) _ _ _); refine halt ?_))
section
variable {prog : Program} {w : World} {h₀ : Heap} {L fa : Nat} {cv : Value} {mean : ExcName → Option Value} {mg mb : Str → Option Value} {s : Shared} {m : Str → Option Value} {Q : Flow → Shared → Prop} {E : Value → Shared → Prop} {rest : List (Addr × Obj)}
  {o1 o2 o3 o4 o5 o6 o7 ko1 ko2 od1 od2 : Obj} {cl sz ca kn k1 k2 c1 cd1 dm1 dq1 lk1 ld1 c2 cd2 dm2 dq2 lk2 ld2 : Nat} {ncl nsz nca nkn nq1 nq2 u1 u2 ua1 ua2 ta1 ta2 tb1 tb2 tc1 tc2 td1 td2 : Nat} {cap1 cap2 : Int}
  {vs : List Value} {ns : List Int} {ps1 ps2 : List (Str × Nat)} {kvs1 kvs2 kk1 kk2 : List (Str × Value)}
set_option maxRecDepth 100000 in
set_option maxHeartbeats 8000000 in
theorem turn6 (B : Below callerA h₀ [] h₀) (X : (Mine.hd.heap_39 w.params).In h₀) (T : TT mean mg mb h₀) (F : Fr h₀ L s.heap m) (N : News h₀ L s.heap ((L + 1, o1) :: (L + 1 + 1, o2) :: (L + 1 + 1 + 1, o3) :: (L + 1 + 1 + 1 + 1, o4) :: (L + 1 + 1 + 1 + 1 + 1, o5) :: (L + 1 + 1 + 1 + 1 + 1 + 1, o6) :: (L + 1 + 1 + 1 + 1 + 1 + 1 + 1, o7) :: (cl, listOf vs.toArray ncl) :: (sz, listOf #[.int cap1 u1, .int cap2 u2] nsz) :: (ca, listOf #[.ref c1, .ref c2] nca) :: (kn, listOf #[.ref k1, .ref k2] nkn) :: (k1, ko1) :: (k2, ko2) :: (c1, instObj 169 cd1) :: (cd1, cdObj w dm1 dq1 lk1 cap1 ua1 ta1 tb1 tc1 td1) :: (dm1, od1) :: (dq1, listOf (svs ps1) nq1) :: (lk1, instObj 45 ld1) :: (ld1, dictOf [] 0) :: (c2, instObj 169 cd2) :: (cd2, cdObj w dm2 dq2 lk2 cap2 ua2 ta2 tb2 tc2 td2) :: (dm2, od2) :: (dq2, listOf (svs ps2) nq2) :: (lk2, instObj 45 ld2) :: (ld2, dictOf [] 0) :: rest))
    (q0 : (L + 1 + 1 + 1 + 1 + 1 + 1 + 1 < sz ∧ L + 1 ≠ cl ∧ L + 1 + 1 ≠ cl ∧ L + 1 + 1 + 1 ≠ cl ∧ L + 1 + 1 + 1 + 1 ≠ cl ∧ L + 1 + 1 + 1 + 1 + 1 ≠ cl ∧ L + 1 + 1 + 1 + 1 + 1 + 1 ≠ cl ∧ L + 1 + 1 + 1 + 1 + 1 + 1 + 1 ≠ cl) ∧ cl < sz ∧ sz < cd1 ∧ cd1 < c1 ∧ c1 < dm1 ∧ dm1 < dq1 ∧ dq1 < ld1 ∧ ld1 < lk1 ∧ lk1 < cd2 ∧ cd2 < c2 ∧ c2 < dm2 ∧ dm2 < dq2 ∧ dq2 < ld2 ∧ ld2 < lk2 ∧ lk2 < ca ∧ ca < kn ∧ ca < k1 ∧ ca < k2 ∧ k1 ≠ k2 ∧ k1 ≠ kn ∧ k2 ≠ kn)
    (hroff : OwnOff rest [L + 1, L + 1 + 1, L + 1 + 1 + 1, L + 1 + 1 + 1 + 1, L + 1 + 1 + 1 + 1 + 1, L + 1 + 1 + 1 + 1 + 1 + 1, L + 1 + 1 + 1 + 1 + 1 + 1 + 1, kn, k1, k2, c1, cd1, dm1, dq1, lk1, ld1, c2, cd2, dm2, dq2, lk2, ld2])
    (mcl : m (Str.ofString "cells") = some (.ref cl)) (msz : m (Str.ofString "sizes") = some (.ref sz)) (mca : m (Str.ofString "caches") = some (.ref ca)) {y7 : Option Value} (x7 : o7.data = .cell y7) (hd1 : od1.IsDictOf (strKind prog w) kvs1) (lo1 : (dm1 == sysModules) = false) (hz1 : kvs1.length ≤ 900 ∧ ps1.length = kvs1.length) (hd2 : od2.IsDictOf (strKind prog w) kvs2) (lo2 : (dm2 == sysModules) = false) (hz2 : kvs2.length ≤ 900 ∧ ps2.length = kvs2.length)
    (h : ∀ h' tk oo7 (Ds De ns6 ne6 : Nat), Fr h₀ L h' (fun y => if y = (Str.ofString "large") then some (.ref De) else m y) → oo7.data = .cell (some (.ref Ds)) → News h₀ L h' ((L + 1, o1) :: (L + 1 + 1, o2) :: (L + 1 + 1 + 1, o3) :: (L + 1 + 1 + 1 + 1, o4) :: (L + 1 + 1 + 1 + 1 + 1, o5) :: (L + 1 + 1 + 1 + 1 + 1 + 1, o6) :: (L + 1 + 1 + 1 + 1 + 1 + 1 + 1, oo7) :: (cl, listOf vs.toArray ncl) :: (sz, listOf #[.int cap1 u1, .int cap2 u2] nsz) :: (ca, listOf #[.ref c1, .ref c2] nca) :: (kn, listOf #[.ref k1, .ref k2] nkn) :: (k1, ko1) :: (k2, ko2) :: (c1, instObj 169 cd1) :: (cd1, cdObj w dm1 dq1 lk1 cap1 ua1 ta1 tb1 tc1 td1) :: (dm1, od1) :: (dq1, listOf (svs ps1) nq1) :: (lk1, instObj 45 ld1) :: (ld1, dictOf [] 0) :: (c2, instObj 169 cd2) :: (cd2, cdObj w dm2 dq2 lk2 cap2 ua2 ta2 tb2 tc2 td2) :: (dm2, od2) :: (dq2, listOf (svs ps2) nq2) :: (lk2, instObj 45 ld2) :: (ld2, dictOf [] 0) :: (De, listOf (svs ps2.reverse) ne6) :: (Ds, listOf (svs ps1.reverse) ns6) :: rest) → OwnOff ((De, listOf (svs ps2.reverse) ne6) :: (Ds, listOf (svs ps1.reverse) ns6) :: rest) [L + 1, L + 1 + 1, L + 1 + 1 + 1, L + 1 + 1 + 1 + 1, L + 1 + 1 + 1 + 1 + 1, L + 1 + 1 + 1 + 1 + 1 + 1, L + 1 + 1 + 1 + 1 + 1 + 1 + 1, kn, k1, k2, c1, cd1, dm1, dq1, lk1, ld1, c2, cd2, dm2, dq2, lk2, ld2] → Q .next { s with heap := h', toks := tk }) :
    wpAny (model prog w) (callerA.deeper (lawE w L fa cv)) (exec (st6 w) (lawE w L fa cv)) Q E s := by
  have q0c := q0
  obtain ⟨q1, q2, q3, q4, q5, q6, q7, q8, q9, q10, q11, q12, q13, q14, q15, q16, q17, q18, q19, q20, q21⟩ := q0
  obtain ⟨z11, z12⟩ := hz1
  obtain ⟨z21, z22⟩ := hz2
  unfold st6 turnB forS lawB lawF
  dsimp only [hdS, tlS, bodyS]
  show wpAny _ (callerA.deeper (envOfC "law" (lawS w) L fa cv)) (exec _ (envOfC "law" (lawS w) L fa cv)) _ _ _
  unfold lawS lawF
  dsimp only
  k_steps
  all_goals first
    | (rename_i hh5 tk5 Ds ns6 lA lA2 hh4 tk4 De ne6 lB lB2 Dt hh3 lT hh2 hh1 oo dd hz F9 N9; exact h _ _ oo Ds De ns6 ne6 F9 dd (news_in ((L + 1, o1) :: (L + 1 + 1, o2) :: (L + 1 + 1 + 1, o3) :: (L + 1 + 1 + 1 + 1, o4) :: (L + 1 + 1 + 1 + 1 + 1, o5) :: (L + 1 + 1 + 1 + 1 + 1 + 1, o6) :: (L + 1 + 1 + 1 + 1 + 1 + 1 + 1, oo) :: (cl, listOf vs.toArray ncl) :: (sz, listOf #[.int cap1 u1, .int cap2 u2] nsz) :: (ca, listOf #[.ref c1, .ref c2] nca) :: (kn, listOf #[.ref k1, .ref k2] nkn) :: (k1, ko1) :: (k2, ko2) :: (c1, instObj 169 cd1) :: (cd1, cdObj w dm1 dq1 lk1 cap1 ua1 ta1 tb1 tc1 td1) :: (dm1, od1) :: (dq1, listOf (svs ps1) nq1) :: (lk1, instObj 45 ld1) :: (ld1, dictOf [] 0) :: (c2, instObj 169 cd2) :: (cd2, cdObj w dm2 dq2 lk2 cap2 ua2 ta2 tb2 tc2 td2) :: (dm2, od2) :: (dq2, listOf (svs ps2) nq2) :: (lk2, instObj 45 ld2) :: (ld2, dictOf [] 0) :: []) [_, _] (news_tail N9)) (own_cons (new_off lB (by intro b hb; simp only [List.mem_cons, List.mem_nil_iff, or_false] at hb; rcases hb with rfl | rfl | rfl | rfl | rfl | rfl | rfl | rfl | rfl | rfl | rfl | rfl | rfl | rfl | rfl | rfl | rfl | rfl | rfl | rfl | rfl | rfl <;> exact ⟨_, by k_mem⟩)) (own_cons (new_off lA (by intro b hb; simp only [List.mem_cons, List.mem_nil_iff, or_false] at hb; rcases hb with rfl | rfl | rfl | rfl | rfl | rfl | rfl | rfl | rfl | rfl | rfl | rfl | rfl | rfl | rfl | rfl | rfl | rfl | rfl | rfl | rfl | rfl <;> exact ⟨_, by k_mem⟩)) hroff)))
end
end
section
local macro_rules | `(tactic| k_mem) => `(tactic| first | with_reducible exact List.mem_cons_self | with_reducible assumption | (with_reducible refine List.mem_cons_of_mem _ ?_; k_mem))
local macro_rules | `(tactic| walk_at "eval Name") => `(tactic| (k_here; k_dflt (refine' nameX_L ?F ?v ?_ ?a ?b; (case a => rfl); (case b => rfl); (case F => k_asm); (case v => assumption))))
local macro_rules | `(tactic| walk_at "call type:list") => `(tactic| (k_here; (with_reducible show wpAny _ _ (call (Value.type "list") [Value.ref _]) _ _ _); k_dflt (refine' list_w (base := ?bb) (A₀ := ?aa) ?C ?m1 ?m2 ?m3 ?m4 ?m5 ?m6 ?o ?d ?lo ?z rfl ?u ?_; (case C => exact ⟨by assumption, by k_asm, by assumption, by k_asm, by assumption, rfl, rfl, rfl, by (simp only [depth_mark, depth_deeper, depth_caller]; decide), by (simp only [units_mark, units_deeper]; decide)⟩); (case m1 => k_mem); (case m2 => k_mem); (case m3 => k_mem); (case m4 => k_mem); (case m5 => k_mem); (case m6 => k_mem); (case u => simp only [units_mark, units_deeper]; decide); (case o => exact ⟨by assumption, by assumption, by assumption, by assumption, by assumption⟩); (case d => assumption); (case lo => assumption); (case z => exact ⟨by assumption, by assumption⟩)); intro h' tk' D' n' F' N' l1; (have l2 := l1); (k_lt l2); (try k_sweep); (try k_unmd)))
local macro_rules | `(tactic| walk_at "compareOp In str ref") => `(tactic| (k_here; k_dflt (refine' in_strs ?l ?_; (case l => exact ⟨_, News.get (by k_asm) (by k_mem), rfl, _, rfl⟩))))
local macro_rules | `(tactic| walk_at "CompSrc") => `(tactic| (k_here; refine halt ?_))
local macro_rules | `(tactic| walk_at "CompSrcT") => `(tactic| (k_here; refine halt ?_))
local macro_rules | `(tactic| walk_at "call ref") => `(tactic| (k_here; (with_reducible show wpAny _ _ (call (Value.ref 180) _) _ _ _); refine halt ?_))
local macro_rules | `(tactic| walk_at "call ref") => `(tactic| (k_here; (with_reducible show wpAny _ _ (call (Value.ref 93) _) _ _ _); refine halt ?_))
local macro_rules | `(tactic| walk_at "CompEnd") => `(tactic| (refine halt ?_))
local macro_rules | `(tactic| walk_at "eval ListComp") => `(tactic| (k_here; refine halt ?_))
local macro_rules | `(tactic| walk_at "compareOp NotEq ref ref") => `(tactic| (k_here; k_dflt (refine' ne_strs ?a ?b ?e ?u ?_; (case a => exact ⟨_, News.get (by k_asm) (by k_mem), rfl, _, rfl⟩); (case b => exact ⟨_, News.get (by k_asm) (by k_mem), rfl, _, rfl⟩); (case e => assumption); (case u => simp only [units_mark, units_deeper]; decide))))
section
variable {prog : Program} {w : World} {h₀ : Heap} {L fa : Nat} {cv : Value} {mean : ExcName → Option Value} {mg mb : Str → Option Value} {s : Shared} {m : Str → Option Value} {Q : Flow → Shared → Prop} {E : Value → Shared → Prop} {rest : List (Addr × Obj)}
  {o1 o2 o3 o4 o5 o6 o7 ko1 ko2 od1 od2 : Obj} {cl sz ca kn k1 k2 c1 cd1 dm1 dq1 lk1 ld1 c2 cd2 dm2 dq2 lk2 ld2 : Nat} {ncl nsz nca nkn nq1 nq2 u1 u2 ua1 ua2 ta1 ta2 tb1 tb2 tc1 tc2 td1 td2 : Nat} {cap1 cap2 : Int}
  {vs : List Value} {ns : List Int} {ps1 ps2 : List (Str × Nat)} {kvs1 kvs2 kk1 kk2 : List (Str × Value)}
set_option maxRecDepth 100000 in
set_option maxHeartbeats 8000000 in
theorem turn7 (B : Below callerA h₀ [] h₀) (X : (Mine.hd.heap_39 w.params).In h₀) (T : TT mean mg mb h₀) (F : Fr h₀ L s.heap m) (N : News h₀ L s.heap ((L + 1, o1) :: (L + 1 + 1, o2) :: (L + 1 + 1 + 1, o3) :: (L + 1 + 1 + 1 + 1, o4) :: (L + 1 + 1 + 1 + 1 + 1, o5) :: (L + 1 + 1 + 1 + 1 + 1 + 1, o6) :: (L + 1 + 1 + 1 + 1 + 1 + 1 + 1, o7) :: (cl, listOf vs.toArray ncl) :: (sz, listOf #[.int cap1 u1, .int cap2 u2] nsz) :: (ca, listOf #[.ref c1, .ref c2] nca) :: (kn, listOf #[.ref k1, .ref k2] nkn) :: (k1, ko1) :: (k2, ko2) :: (c1, instObj 169 cd1) :: (cd1, cdObj w dm1 dq1 lk1 cap1 ua1 ta1 tb1 tc1 td1) :: (dm1, od1) :: (dq1, listOf (svs ps1) nq1) :: (lk1, instObj 45 ld1) :: (ld1, dictOf [] 0) :: (c2, instObj 169 cd2) :: (cd2, cdObj w dm2 dq2 lk2 cap2 ua2 ta2 tb2 tc2 td2) :: (dm2, od2) :: (dq2, listOf (svs ps2) nq2) :: (lk2, instObj 45 ld2) :: (ld2, dictOf [] 0) :: rest))
    (q0 : (L + 1 + 1 + 1 + 1 + 1 + 1 + 1 < sz ∧ L + 1 ≠ cl ∧ L + 1 + 1 ≠ cl ∧ L + 1 + 1 + 1 ≠ cl ∧ L + 1 + 1 + 1 + 1 ≠ cl ∧ L + 1 + 1 + 1 + 1 + 1 ≠ cl ∧ L + 1 + 1 + 1 + 1 + 1 + 1 ≠ cl ∧ L + 1 + 1 + 1 + 1 + 1 + 1 + 1 ≠ cl) ∧ cl < sz ∧ sz < cd1 ∧ cd1 < c1 ∧ c1 < dm1 ∧ dm1 < dq1 ∧ dq1 < ld1 ∧ ld1 < lk1 ∧ lk1 < cd2 ∧ cd2 < c2 ∧ c2 < dm2 ∧ dm2 < dq2 ∧ dq2 < ld2 ∧ ld2 < lk2 ∧ lk2 < ca ∧ ca < kn ∧ ca < k1 ∧ ca < k2 ∧ k1 ≠ k2 ∧ k1 ≠ kn ∧ k2 ≠ kn)
    (hroff : OwnOff rest [L + 1, L + 1 + 1, L + 1 + 1 + 1, L + 1 + 1 + 1 + 1, L + 1 + 1 + 1 + 1 + 1, L + 1 + 1 + 1 + 1 + 1 + 1, L + 1 + 1 + 1 + 1 + 1 + 1 + 1, kn, k1, k2, c1, cd1, dm1, dq1, lk1, ld1, c2, cd2, dm2, dq2, lk2, ld2])
    (mcl : m (Str.ofString "cells") = some (.ref cl)) (msz : m (Str.ofString "sizes") = some (.ref sz)) (mca : m (Str.ofString "caches") = some (.ref ca)) {Ds De Dt nt ns6 ne6 : Nat} {t1 t2 : Bool} (x7 : o7.data = .cell (some (.ref Ds))) (mla : m (Str.ofString "large") = some (.ref De)) (mth : m (Str.ofString "there") = some (.ref Dt)) (mDt : (Dt, listOf #[.bool t1, .bool t2] nt) ∈ rest) (mDs : (Ds, listOf (svs ps1.reverse) ns6) ∈ rest) (mDe : (De, listOf (svs ps2.reverse) ne6) ∈ rest) (hz1 : ps1.length ≤ 900) (hz2 : ps2.length ≤ 900) (heq : keysOf ps1.reverse = (keysOf ps2.reverse).filter (fun k => decide (k ∈ keysOf ps1.reverse))) (himp : t1 = true → t2 = true)
    (h : ∀ h' tk, Fr h₀ L h' m → News h₀ L h' ((L + 1, o1) :: (L + 1 + 1, o2) :: (L + 1 + 1 + 1, o3) :: (L + 1 + 1 + 1 + 1, o4) :: (L + 1 + 1 + 1 + 1 + 1, o5) :: (L + 1 + 1 + 1 + 1 + 1 + 1, o6) :: (L + 1 + 1 + 1 + 1 + 1 + 1 + 1, o7) :: (cl, listOf vs.toArray ncl) :: (sz, listOf #[.int cap1 u1, .int cap2 u2] nsz) :: (ca, listOf #[.ref c1, .ref c2] nca) :: (kn, listOf #[.ref k1, .ref k2] nkn) :: (k1, ko1) :: (k2, ko2) :: (c1, instObj 169 cd1) :: (cd1, cdObj w dm1 dq1 lk1 cap1 ua1 ta1 tb1 tc1 td1) :: (dm1, od1) :: (dq1, listOf (svs ps1) nq1) :: (lk1, instObj 45 ld1) :: (ld1, dictOf [] 0) :: (c2, instObj 169 cd2) :: (cd2, cdObj w dm2 dq2 lk2 cap2 ua2 ta2 tb2 tc2 td2) :: (dm2, od2) :: (dq2, listOf (svs ps2) nq2) :: (lk2, instObj 45 ld2) :: (ld2, dictOf [] 0) :: rest) → Q .next { s with heap := h', toks := tk }) :
    wpAny (model prog w) (callerA.deeper (lawE w L fa cv)) (exec (st7 w) (lawE w L fa cv)) Q E s := by
  have q0c := q0
  obtain ⟨q1, q2, q3, q4, q5, q6, q7, q8, q9, q10, q11, q12, q13, q14, q15, q16, q17, q18, q19, q20, q21⟩ := q0
  unfold st7 turnB forS lawB lawF
  dsimp only [hdS, tlS, bodyS]
  show wpAny _ (callerA.deeper (envOfC "law" (lawS w) L fa cv)) (exec _ (envOfC "law" (lawS w) L fa cv)) _ _ _
  unfold lawS lawF
  dsimp only
  k_steps
  unfold Halt
  (try k_fold)
  refine LCt.ListComp_T (F₀ := by assumption) (by with_unfolding_all rfl) (by decide) (by rfl) (by decide) (by rfl) ?_
  k_steps
  unfold Halt
  refine LCt.CompSrcT.ledger (by rfl) (by k_asm) (by k_asm) (by k_mem) (by rw [sizeLine_eq]; simp [svs]; omega) ?_
  intro g1
  try dsimp only
  refine compT_of (fun i ys nw => ys = ((ps2.reverse.take i).filter (fun p => decide (p.1 ∈ keysOf ps1.reverse))).map sv ∧ nw = ((L + 1, o1) :: (L + 1 + 1, o2) :: (L + 1 + 1 + 1, o3) :: (L + 1 + 1 + 1 + 1, o4) :: (L + 1 + 1 + 1 + 1 + 1, o5) :: (L + 1 + 1 + 1 + 1 + 1 + 1, o6) :: (L + 1 + 1 + 1 + 1 + 1 + 1 + 1, o7) :: (cl, listOf vs.toArray ncl) :: (sz, listOf #[.int cap1 u1, .int cap2 u2] nsz) :: (ca, listOf #[.ref c1, .ref c2] nca) :: (kn, listOf #[.ref k1, .ref k2] nkn) :: (k1, ko1) :: (k2, ko2) :: (c1, instObj 169 cd1) :: (cd1, cdObj w dm1 dq1 lk1 cap1 ua1 ta1 tb1 tc1 td1) :: (dm1, od1) :: (dq1, listOf (svs ps1) nq1) :: (lk1, instObj 45 ld1) :: (ld1, dictOf [] 0) :: (c2, instObj 169 cd2) :: (cd2, cdObj w dm2 dq2 lk2 cap2 ua2 ta2 tb2 tc2 td2) :: (dm2, od2) :: (dq2, listOf (svs ps2) nq2) :: (lk2, instObj 45 ld2) :: (ld2, dictOf [] 0) :: rest)) ⟨rfl, rfl⟩ ?_ ?_
  · intro i ys nw hi ⟨ey, e⟩ v I oI C oC D m₂ h2 tk2 E' hP hC hx F2 N2 off ne
    subst e
    obtain ⟨p, ep, rfl⟩ := svs_at hP
    k_fold
    k_steps
    all_goals unfold Halt
    all_goals (refine cend0 F2 N2 off (.inr ⟨_, by k_mem, rfl, _, rfl⟩) ⟨?_, rfl⟩)
    all_goals rw [List.take_add_one, ep, ey]
    all_goals first
      | (simp only [List.filter_append, List.map_append, Option.toList_some, List.filter_cons, ‹p.1 ∈ keysOf ps1.reverse›, decide_true, if_true, List.filter_nil, List.map_cons, List.map_nil]; done)
      | (simp only [List.filter_append, List.map_append, Option.toList_some, List.filter_cons, ‹¬ p.1 ∈ keysOf ps1.reverse›, decide_false, Bool.false_eq_true, if_false, List.filter_nil, List.map_cons, List.map_nil, List.append_nil]; done)
  · intro ys nw ⟨ey, e⟩
    subst e
    intro D h2 tk2 F2 N2 off
    obtain rfl : ys = (ps2.reverse.filter (fun p => decide (p.1 ∈ keysOf ps1.reverse))).map sv := by rw [ey, List.take_of_length_le (by simp [svs])]
    have e2 : keysOf ps1.reverse = keysOf (ps2.reverse.filter (fun p => decide (p.1 ∈ keysOf ps1.reverse))) := heq.trans (keysOf_filter _ _).symm
    (try k_unmd)
    k_unfold
    try dsimp only
    refine ne_strs (a := Ds) (b := D) ⟨listOf (svs ps1.reverse) ns6, (N2 (Ds, _) (by k_mem)).1, rfl, _, rfl⟩ ⟨_, (N2 _ (.head _)).1, rfl, _, rfl⟩ e2 (by simp only [units_mark, units_deeper]; decide) ?_
    have N3 : News h₀ L h2 ((Dt, listOf #[.bool t1, .bool t2] nt) :: ((L + 1, o1) :: (L + 1 + 1, o2) :: (L + 1 + 1 + 1, o3) :: (L + 1 + 1 + 1 + 1, o4) :: (L + 1 + 1 + 1 + 1 + 1, o5) :: (L + 1 + 1 + 1 + 1 + 1 + 1, o6) :: (L + 1 + 1 + 1 + 1 + 1 + 1 + 1, o7) :: (cl, listOf vs.toArray ncl) :: (sz, listOf #[.int cap1 u1, .int cap2 u2] nsz) :: (ca, listOf #[.ref c1, .ref c2] nca) :: (kn, listOf #[.ref k1, .ref k2] nkn) :: (k1, ko1) :: (k2, ko2) :: (c1, instObj 169 cd1) :: (cd1, cdObj w dm1 dq1 lk1 cap1 ua1 ta1 tb1 tc1 td1) :: (dm1, od1) :: (dq1, listOf (svs ps1) nq1) :: (lk1, instObj 45 ld1) :: (ld1, dictOf [] 0) :: (c2, instObj 169 cd2) :: (cd2, cdObj w dm2 dq2 lk2 cap2 ua2 ta2 tb2 tc2 td2) :: (dm2, od2) :: (dq2, listOf (svs ps2) nq2) :: (lk2, instObj 45 ld2) :: (ld2, dictOf [] 0) :: rest)) := fun q hq => by
      rcases List.mem_cons.mp hq with rfl | hq
      · exact N2 _ (List.mem_cons_of_mem _ (by k_mem))
      · exact N2 _ (List.mem_cons_of_mem _ hq)
    clear N2
    cases t1 <;> cases t2
    all_goals (try exact absurd (himp rfl) Bool.false_ne_true)
    all_goals k_steps
    all_goals exact h _ _ (by assumption) (news_tail (by assumption))
  all_goals first
    | exact h _ _ (by assumption) (news_tail (by assumption))
end
end
section
local macro_rules | `(tactic| k_mem) => `(tactic| first | with_reducible exact List.mem_cons_self | with_reducible assumption | (with_reducible refine List.mem_cons_of_mem _ ?_; k_mem))
local macro_rules | `(tactic| walk_at "eval Name") => `(tactic| (k_here; k_dflt (refine' nameX_L ?F ?v ?_ ?a ?b; (case a => rfl); (case b => rfl); (case F => k_asm); (case v => assumption))))
local macro_rules | `(tactic| walk_at "call type:list") => `(tactic| (k_here; (with_reducible show wpAny _ _ (call (Value.type "list") [Value.ref _]) _ _ _); k_dflt (refine' list_w (base := ?bb) (A₀ := ?aa) ?C ?m1 ?m2 ?m3 ?m4 ?m5 ?m6 ?o ?d ?lo ?z rfl ?u ?_; (case C => exact ⟨by assumption, by k_asm, by assumption, by k_asm, by assumption, rfl, rfl, rfl, by (simp only [depth_mark, depth_deeper, depth_caller]; decide), by (simp only [units_mark, units_deeper]; decide)⟩); (case m1 => k_mem); (case m2 => k_mem); (case m3 => k_mem); (case m4 => k_mem); (case m5 => k_mem); (case m6 => k_mem); (case u => simp only [units_mark, units_deeper]; decide); (case o => exact ⟨by assumption, by assumption, by assumption, by assumption, by assumption⟩); (case d => assumption); (case lo => assumption); (case z => exact ⟨by assumption, by assumption⟩)); intro h' tk' D' n' F' N' l1; (have l2 := l1); (k_lt l2); (try k_sweep); (try k_unmd)))
local macro_rules | `(tactic| walk_at "compareOp In str ref") => `(tactic| (k_here; k_dflt (refine' in_strs ?l ?_; (case l => exact ⟨_, News.get (by k_asm) (by k_mem), rfl, _, rfl⟩))))
local macro_rules | `(tactic| walk_at "CompSrc") => `(tactic| (k_here; refine halt ?_))
local macro_rules | `(tactic| walk_at "CompSrcT") => `(tactic| (k_here; refine halt ?_))
local macro_rules | `(tactic| walk_at "call ref") => `(tactic| (k_here; (with_reducible show wpAny _ _ (call (Value.ref 180) _) _ _ _); refine halt ?_))
local macro_rules | `(tactic| walk_at "call ref") => `(tactic| (k_here; (with_reducible show wpAny _ _ (call (Value.ref 93) _) _ _ _); refine halt ?_))
local macro_rules | `(tactic| walk_at "compareOp In str ref") => `(tactic| (k_here; k_dflt (first
  | (refine' in_some ?N ?p ?d ?lo ?v ?_; (case N => k_asm); (case p => k_mem); (case d => assumption); (case lo => assumption); (case v => assumption))
  | (refine' in_none ?N ?p ?d ?lo ?v ?_; (case N => k_asm); (case p => k_mem); (case d => assumption); (case lo => assumption); (case v => assumption)))))
section
variable {prog : Program} {w : World} {h₀ : Heap} {L fa : Nat} {cv : Value} {mean : ExcName → Option Value} {mg mb : Str → Option Value} {s : Shared} {m : Str → Option Value} {Q : Flow → Shared → Prop} {E : Value → Shared → Prop} {rest : List (Addr × Obj)}
  {o1 o2 o3 o4 o5 o6 o7 ko1 ko2 od1 od2 : Obj} {cl sz ca kn k1 k2 c1 cd1 dm1 dq1 lk1 ld1 c2 cd2 dm2 dq2 lk2 ld2 : Nat} {ncl nsz nca nkn nq1 nq2 u1 u2 ua1 ua2 ta1 ta2 tb1 tb2 tc1 tc2 td1 td2 : Nat} {cap1 cap2 : Int}
  {vs : List Value} {ns : List Int} {ps1 ps2 : List (Str × Nat)} {kvs1 kvs2 kk1 kk2 : List (Str × Value)}
set_option maxRecDepth 100000 in
set_option maxHeartbeats 8000000 in
theorem told1a (B : Below callerA h₀ [] h₀) (X : (Mine.hd.heap_39 w.params).In h₀) (T : TT mean mg mb h₀) (F : Fr h₀ L s.heap m) (N : News h₀ L s.heap ((L + 1, o1) :: (L + 1 + 1, o2) :: (L + 1 + 1 + 1, o3) :: (L + 1 + 1 + 1 + 1, o4) :: (L + 1 + 1 + 1 + 1 + 1, o5) :: (L + 1 + 1 + 1 + 1 + 1 + 1, o6) :: (L + 1 + 1 + 1 + 1 + 1 + 1 + 1, o7) :: (cl, listOf vs.toArray ncl) :: (sz, listOf #[.int cap1 u1, .int cap2 u2] nsz) :: (ca, listOf #[.ref c1, .ref c2] nca) :: (kn, listOf #[.ref k1, .ref k2] nkn) :: (k1, ko1) :: (k2, ko2) :: (c1, instObj 169 cd1) :: (cd1, cdObj w dm1 dq1 lk1 cap1 ua1 ta1 tb1 tc1 td1) :: (dm1, od1) :: (dq1, listOf (svs ps1) nq1) :: (lk1, instObj 45 ld1) :: (ld1, dictOf [] 0) :: (c2, instObj 169 cd2) :: (cd2, cdObj w dm2 dq2 lk2 cap2 ua2 ta2 tb2 tc2 td2) :: (dm2, od2) :: (dq2, listOf (svs ps2) nq2) :: (lk2, instObj 45 ld2) :: (ld2, dictOf [] 0) :: rest))
    (q0 : (L + 1 + 1 + 1 + 1 + 1 + 1 + 1 < sz ∧ L + 1 ≠ cl ∧ L + 1 + 1 ≠ cl ∧ L + 1 + 1 + 1 ≠ cl ∧ L + 1 + 1 + 1 + 1 ≠ cl ∧ L + 1 + 1 + 1 + 1 + 1 ≠ cl ∧ L + 1 + 1 + 1 + 1 + 1 + 1 ≠ cl ∧ L + 1 + 1 + 1 + 1 + 1 + 1 + 1 ≠ cl) ∧ cl < sz ∧ sz < cd1 ∧ cd1 < c1 ∧ c1 < dm1 ∧ dm1 < dq1 ∧ dq1 < ld1 ∧ ld1 < lk1 ∧ lk1 < cd2 ∧ cd2 < c2 ∧ c2 < dm2 ∧ dm2 < dq2 ∧ dq2 < ld2 ∧ ld2 < lk2 ∧ lk2 < ca ∧ ca < kn ∧ ca < k1 ∧ ca < k2 ∧ k1 ≠ k2 ∧ k1 ≠ kn ∧ k2 ≠ kn)
    (hroff : OwnOff rest [L + 1, L + 1 + 1, L + 1 + 1 + 1, L + 1 + 1 + 1 + 1, L + 1 + 1 + 1 + 1 + 1, L + 1 + 1 + 1 + 1 + 1 + 1, L + 1 + 1 + 1 + 1 + 1 + 1 + 1, kn, k1, k2, c1, cd1, dm1, dq1, lk1, ld1, c2, cd2, dm2, dq2, lk2, ld2])
    (mcl : m (Str.ofString "cells") = some (.ref cl)) (msz : m (Str.ofString "sizes") = some (.ref sz)) (mca : m (Str.ofString "caches") = some (.ref ca)) {κ : Str} {tκ ti td tn : Tok} {i dd : Int} {Do no Dt nt : Nat} {v1 v2 : Value} {b1 b2 : Bool} (x1 : o1.data = .cell (some (.ref kn))) (x2 : o2.data = .cell (some (.int i ti))) (x3 : o3.data = .cell (some (.int dd td))) (x4 : o4.data = .cell (some (.str κ tκ))) (hdd : 0 ≤ dd ∧ dd < 6) (mth : m (Str.ofString "there") = some (.ref Dt)) (mto : m (Str.ofString "told") = some (.ref Do)) (mDt : (Dt, listOf #[.bool b1, .bool b2] nt) ∈ rest) (mDo : (Do, listOf #[v1, v2] no) ∈ rest) (hk1 : ko1.IsDictOf (strKind prog w) kk1) (hk2 : ko2.IsDictOf (strKind prog w) kk2) (lok1 : (k1 == sysModules) = false) (lok2 : (k2 == sysModules) = false) (zk1 : kk1.length ≤ 900) (zk2 : kk2.length ≤ 900) (x5 : o5.data = .cell (some (.int 0 tn)))
    (h : ∀ h' tk ko1', ko1'.IsDictOf (strKind prog w) (kset dd b1 kk1 κ (.int i ti)) → Fr h₀ L h' m → News h₀ L h' ((L + 1, o1) :: (L + 1 + 1, o2) :: (L + 1 + 1 + 1, o3) :: (L + 1 + 1 + 1 + 1, o4) :: (L + 1 + 1 + 1 + 1 + 1, o5) :: (L + 1 + 1 + 1 + 1 + 1 + 1, o6) :: (L + 1 + 1 + 1 + 1 + 1 + 1 + 1, o7) :: (cl, listOf vs.toArray ncl) :: (sz, listOf #[.int cap1 u1, .int cap2 u2] nsz) :: (ca, listOf #[.ref c1, .ref c2] nca) :: (kn, listOf #[.ref k1, .ref k2] nkn) :: (k1, ko1') :: (k2, ko2) :: (c1, instObj 169 cd1) :: (cd1, cdObj w dm1 dq1 lk1 cap1 ua1 ta1 tb1 tc1 td1) :: (dm1, od1) :: (dq1, listOf (svs ps1) nq1) :: (lk1, instObj 45 ld1) :: (ld1, dictOf [] 0) :: (c2, instObj 169 cd2) :: (cd2, cdObj w dm2 dq2 lk2 cap2 ua2 ta2 tb2 tc2 td2) :: (dm2, od2) :: (dq2, listOf (svs ps2) nq2) :: (lk2, instObj 45 ld2) :: (ld2, dictOf [] 0) :: rest) → Q .next { s with heap := h', toks := tk }) :
    wpAny (model prog w) (callerA.deeper (lawE w L fa cv)) (exec (hdS (bodyS (st5 w))) (lawE w L fa cv)) Q E s := by
  have q0c := q0
  obtain ⟨q1, q2, q3, q4, q5, q6, q7, q8, q9, q10, q11, q12, q13, q14, q15, q16, q17, q18, q19, q20, q21⟩ := q0
  unfold st5 turnB forS lawB lawF
  dsimp only [hdS, tlS, bodyS]
  show wpAny _ (callerA.deeper (envOfC "law" (lawS w) L fa cv)) (exec _ (envOfC "law" (lawS w) L fa cv)) _ _ _
  unfold lawS lawF
  dsimp only
  have fDo := fun b hb => hroff _ mDo b hb
  have fDt := fun b hb => hroff _ mDt b hb
  have n1 : @Ne Nat Do k1 := fDo k1 (by simp)
  have n2 : @Ne Nat Dt k1 := fDt k1 (by simp)
  have N0 : News h₀ L s.heap ((Do, listOf #[v1, v2] no) :: (Dt, listOf #[.bool b1, .bool b2] nt) :: (L + 1, o1) :: (L + 1 + 1, o2) :: (L + 1 + 1 + 1, o3) :: (L + 1 + 1 + 1 + 1, o4) :: (L + 1 + 1 + 1 + 1 + 1, o5) :: (L + 1 + 1 + 1 + 1 + 1 + 1, o6) :: (L + 1 + 1 + 1 + 1 + 1 + 1 + 1, o7) :: (cl, listOf vs.toArray ncl) :: (sz, listOf #[.int cap1 u1, .int cap2 u2] nsz) :: (ca, listOf #[.ref c1, .ref c2] nca) :: (kn, listOf #[.ref k1, .ref k2] nkn) :: (k1, ko1) :: (k2, ko2) :: (c1, instObj 169 cd1) :: (cd1, cdObj w dm1 dq1 lk1 cap1 ua1 ta1 tb1 tc1 td1) :: (dm1, od1) :: (dq1, listOf (svs ps1) nq1) :: (lk1, instObj 45 ld1) :: (ld1, dictOf [] 0) :: (c2, instObj 169 cd2) :: (cd2, cdObj w dm2 dq2 lk2 cap2 ua2 ta2 tb2 tc2 td2) :: (dm2, od2) :: (dq2, listOf (svs ps2) nq2) :: (lk2, instObj 45 ld2) :: (ld2, dictOf [] 0) :: rest) := fun q hq => by
    rcases List.mem_cons.mp hq with rfl | hq
    · exact N _ (by k_mem)
    rcases List.mem_cons.mp hq with rfl | hq
    · exact N _ (by k_mem)
    · exact N _ hq
  clear N fDo fDt
  cases b1
  all_goals k_steps
  all_goals first
    | (refine h _ _ _ ?_ (by assumption) (news_tail (news_tail (by assumption))); (try unfold kset); (first | (rw [if_pos (by first | (left; assumption) | (right; exact ⟨by assumption, rfl⟩))]; assumption) | (rw [if_neg (by simp; omega)]; assumption)))
end
end
section
local macro_rules | `(tactic| walk_at "idle line 0") => `(tactic| fail)
local macro_rules | `(tactic| walk_at "idle line 1") => `(tactic| fail)
local macro_rules | `(tactic| walk_at "idle line 2") => `(tactic| fail)
local macro_rules | `(tactic| k_mem) => `(tactic| first | with_reducible exact List.mem_cons_self | with_reducible assumption | (with_reducible refine List.mem_cons_of_mem _ ?_; k_mem))
local macro_rules | `(tactic| walk_at "eval Name") => `(tactic| (k_here; k_dflt (refine' nameX_L ?F ?v ?_ ?a ?b; (case a => rfl); (case b => rfl); (case F => k_asm); (case v => assumption))))
local macro_rules | `(tactic| walk_at "call type:list") => `(tactic| (k_here; (with_reducible show wpAny _ _ (call (Value.type "list") [Value.ref _]) _ _ _); k_dflt (refine' list_w (base := ?bb) (A₀ := ?aa) ?C ?m1 ?m2 ?m3 ?m4 ?m5 ?m6 ?o ?d ?lo ?z rfl ?u ?_; (case C => exact ⟨by assumption, by k_asm, by assumption, by k_asm, by assumption, rfl, rfl, rfl, by (simp only [depth_mark, depth_deeper, depth_caller]; decide), by (simp only [units_mark, units_deeper]; decide)⟩); (case m1 => k_mem); (case m2 => k_mem); (case m3 => k_mem); (case m4 => k_mem); (case m5 => k_mem); (case m6 => k_mem); (case u => simp only [units_mark, units_deeper]; decide); (case o => exact ⟨by assumption, by assumption, by assumption, by assumption, by assumption⟩); (case d => assumption); (case lo => assumption); (case z => exact ⟨by assumption, by assumption⟩)); intro h' tk' D' n' F' N' l1; (have l2 := l1); (k_lt l2); (try k_sweep); (try k_unmd)))
local macro_rules | `(tactic| walk_at "compareOp In str ref") => `(tactic| (k_here; k_dflt (refine' in_strs ?l ?_; (case l => exact ⟨_, News.get (by k_asm) (by k_mem), rfl, _, rfl⟩))))
local macro_rules | `(tactic| walk_at "CompSrc") => `(tactic| (k_here; refine halt ?_))
local macro_rules | `(tactic| walk_at "CompSrcT") => `(tactic| (k_here; refine halt ?_))
local macro_rules | `(tactic| walk_at "call ref") => `(tactic| (k_here; (with_reducible show wpAny _ _ (call (Value.ref 180) _) _ _ _); refine halt ?_))
local macro_rules | `(tactic| walk_at "call ref") => `(tactic| (k_here; (with_reducible show wpAny _ _ (call (Value.ref 93) _) _ _ _); refine halt ?_))
local macro_rules | `(tactic| walk_at "compareOp In str ref") => `(tactic| (k_here; k_dflt (first
  | (refine' in_some ?N ?p ?d ?lo ?v ?_; (case N => k_asm); (case p => k_mem); (case d => assumption); (case lo => assumption); (case v => assumption))
  | (refine' in_none ?N ?p ?d ?lo ?v ?_; (case N => k_asm); (case p => k_mem); (case d => assumption); (case lo => assumption); (case v => assumption)))))
section
variable {prog : Program} {w : World} {h₀ : Heap} {L fa : Nat} {cv : Value} {mean : ExcName → Option Value} {mg mb : Str → Option Value} {s : Shared} {m : Str → Option Value} {Q : Flow → Shared → Prop} {E : Value → Shared → Prop} {rest : List (Addr × Obj)}
  {o1 o2 o3 o4 o5 o6 o7 ko1 ko2 od1 od2 : Obj} {cl sz ca kn k1 k2 c1 cd1 dm1 dq1 lk1 ld1 c2 cd2 dm2 dq2 lk2 ld2 : Nat} {ncl nsz nca nkn nq1 nq2 u1 u2 ua1 ua2 ta1 ta2 tb1 tb2 tc1 tc2 td1 td2 : Nat} {cap1 cap2 : Int}
  {vs : List Value} {ns : List Int} {ps1 ps2 : List (Str × Nat)} {kvs1 kvs2 kk1 kk2 : List (Str × Value)}
set_option maxRecDepth 100000 in
set_option maxHeartbeats 8000000 in
theorem told2a (B : Below callerA h₀ [] h₀) (X : (Mine.hd.heap_39 w.params).In h₀) (T : TT mean mg mb h₀) (F : Fr h₀ L s.heap m) (N : News h₀ L s.heap ((L + 1, o1) :: (L + 1 + 1, o2) :: (L + 1 + 1 + 1, o3) :: (L + 1 + 1 + 1 + 1, o4) :: (L + 1 + 1 + 1 + 1 + 1, o5) :: (L + 1 + 1 + 1 + 1 + 1 + 1, o6) :: (L + 1 + 1 + 1 + 1 + 1 + 1 + 1, o7) :: (cl, listOf vs.toArray ncl) :: (sz, listOf #[.int cap1 u1, .int cap2 u2] nsz) :: (ca, listOf #[.ref c1, .ref c2] nca) :: (kn, listOf #[.ref k1, .ref k2] nkn) :: (k1, ko1) :: (k2, ko2) :: (c1, instObj 169 cd1) :: (cd1, cdObj w dm1 dq1 lk1 cap1 ua1 ta1 tb1 tc1 td1) :: (dm1, od1) :: (dq1, listOf (svs ps1) nq1) :: (lk1, instObj 45 ld1) :: (ld1, dictOf [] 0) :: (c2, instObj 169 cd2) :: (cd2, cdObj w dm2 dq2 lk2 cap2 ua2 ta2 tb2 tc2 td2) :: (dm2, od2) :: (dq2, listOf (svs ps2) nq2) :: (lk2, instObj 45 ld2) :: (ld2, dictOf [] 0) :: rest))
    (q0 : (L + 1 + 1 + 1 + 1 + 1 + 1 + 1 < sz ∧ L + 1 ≠ cl ∧ L + 1 + 1 ≠ cl ∧ L + 1 + 1 + 1 ≠ cl ∧ L + 1 + 1 + 1 + 1 ≠ cl ∧ L + 1 + 1 + 1 + 1 + 1 ≠ cl ∧ L + 1 + 1 + 1 + 1 + 1 + 1 ≠ cl ∧ L + 1 + 1 + 1 + 1 + 1 + 1 + 1 ≠ cl) ∧ cl < sz ∧ sz < cd1 ∧ cd1 < c1 ∧ c1 < dm1 ∧ dm1 < dq1 ∧ dq1 < ld1 ∧ ld1 < lk1 ∧ lk1 < cd2 ∧ cd2 < c2 ∧ c2 < dm2 ∧ dm2 < dq2 ∧ dq2 < ld2 ∧ ld2 < lk2 ∧ lk2 < ca ∧ ca < kn ∧ ca < k1 ∧ ca < k2 ∧ k1 ≠ k2 ∧ k1 ≠ kn ∧ k2 ≠ kn)
    (hroff : OwnOff rest [L + 1, L + 1 + 1, L + 1 + 1 + 1, L + 1 + 1 + 1 + 1, L + 1 + 1 + 1 + 1 + 1, L + 1 + 1 + 1 + 1 + 1 + 1, L + 1 + 1 + 1 + 1 + 1 + 1 + 1, kn, k1, k2, c1, cd1, dm1, dq1, lk1, ld1, c2, cd2, dm2, dq2, lk2, ld2])
    (mcl : m (Str.ofString "cells") = some (.ref cl)) (msz : m (Str.ofString "sizes") = some (.ref sz)) (mca : m (Str.ofString "caches") = some (.ref ca)) {κ : Str} {tκ ti td tn : Tok} {i dd : Int} {Do no Dt nt : Nat} {v1 v2 : Value} {b1 b2 : Bool} (x1 : o1.data = .cell (some (.ref kn))) (x2 : o2.data = .cell (some (.int i ti))) (x3 : o3.data = .cell (some (.int dd td))) (x4 : o4.data = .cell (some (.str κ tκ))) (hdd : 0 ≤ dd ∧ dd < 6) (mth : m (Str.ofString "there") = some (.ref Dt)) (mto : m (Str.ofString "told") = some (.ref Do)) (mDt : (Dt, listOf #[.bool b1, .bool b2] nt) ∈ rest) (mDo : (Do, listOf #[v1, v2] no) ∈ rest) (hk1 : ko1.IsDictOf (strKind prog w) kk1) (hk2 : ko2.IsDictOf (strKind prog w) kk2) (lok1 : (k1 == sysModules) = false) (lok2 : (k2 == sysModules) = false) (zk1 : kk1.length ≤ 900) (zk2 : kk2.length ≤ 900) (x5 : o5.data = .cell (some (.int 1 tn)))
    (h : ∀ h' tk ko2', ko2'.IsDictOf (strKind prog w) (kset dd b2 kk2 κ (.int i ti)) → Fr h₀ L h' m → News h₀ L h' ((L + 1, o1) :: (L + 1 + 1, o2) :: (L + 1 + 1 + 1, o3) :: (L + 1 + 1 + 1 + 1, o4) :: (L + 1 + 1 + 1 + 1 + 1, o5) :: (L + 1 + 1 + 1 + 1 + 1 + 1, o6) :: (L + 1 + 1 + 1 + 1 + 1 + 1 + 1, o7) :: (cl, listOf vs.toArray ncl) :: (sz, listOf #[.int cap1 u1, .int cap2 u2] nsz) :: (ca, listOf #[.ref c1, .ref c2] nca) :: (kn, listOf #[.ref k1, .ref k2] nkn) :: (k1, ko1) :: (k2, ko2') :: (c1, instObj 169 cd1) :: (cd1, cdObj w dm1 dq1 lk1 cap1 ua1 ta1 tb1 tc1 td1) :: (dm1, od1) :: (dq1, listOf (svs ps1) nq1) :: (lk1, instObj 45 ld1) :: (ld1, dictOf [] 0) :: (c2, instObj 169 cd2) :: (cd2, cdObj w dm2 dq2 lk2 cap2 ua2 ta2 tb2 tc2 td2) :: (dm2, od2) :: (dq2, listOf (svs ps2) nq2) :: (lk2, instObj 45 ld2) :: (ld2, dictOf [] 0) :: rest) → Q .next { s with heap := h', toks := tk }) :
    wpAny (model prog w) (callerA.deeper (lawE w L fa cv)) (exec (hdS (bodyS (st5 w))) (lawE w L fa cv)) Q E s := by
  have q0c := q0
  obtain ⟨q1, q2, q3, q4, q5, q6, q7, q8, q9, q10, q11, q12, q13, q14, q15, q16, q17, q18, q19, q20, q21⟩ := q0
  unfold st5 turnB forS lawB lawF
  dsimp only [hdS, tlS, bodyS]
  show wpAny _ (callerA.deeper (envOfC "law" (lawS w) L fa cv)) (exec _ (envOfC "law" (lawS w) L fa cv)) _ _ _
  unfold lawS lawF
  dsimp only
  have fDo := fun b hb => hroff _ mDo b hb
  have fDt := fun b hb => hroff _ mDt b hb
  have n1 : @Ne Nat Do k2 := fDo k2 (by simp)
  have n2 : @Ne Nat Dt k2 := fDt k2 (by simp)
  have N0 : News h₀ L s.heap ((Do, listOf #[v1, v2] no) :: (Dt, listOf #[.bool b1, .bool b2] nt) :: (L + 1, o1) :: (L + 1 + 1, o2) :: (L + 1 + 1 + 1, o3) :: (L + 1 + 1 + 1 + 1, o4) :: (L + 1 + 1 + 1 + 1 + 1, o5) :: (L + 1 + 1 + 1 + 1 + 1 + 1, o6) :: (L + 1 + 1 + 1 + 1 + 1 + 1 + 1, o7) :: (cl, listOf vs.toArray ncl) :: (sz, listOf #[.int cap1 u1, .int cap2 u2] nsz) :: (ca, listOf #[.ref c1, .ref c2] nca) :: (kn, listOf #[.ref k1, .ref k2] nkn) :: (k1, ko1) :: (k2, ko2) :: (c1, instObj 169 cd1) :: (cd1, cdObj w dm1 dq1 lk1 cap1 ua1 ta1 tb1 tc1 td1) :: (dm1, od1) :: (dq1, listOf (svs ps1) nq1) :: (lk1, instObj 45 ld1) :: (ld1, dictOf [] 0) :: (c2, instObj 169 cd2) :: (cd2, cdObj w dm2 dq2 lk2 cap2 ua2 ta2 tb2 tc2 td2) :: (dm2, od2) :: (dq2, listOf (svs ps2) nq2) :: (lk2, instObj 45 ld2) :: (ld2, dictOf [] 0) :: rest) := fun q hq => by
    rcases List.mem_cons.mp hq with rfl | hq
    · exact N _ (by k_mem)
    rcases List.mem_cons.mp hq with rfl | hq
    · exact N _ (by k_mem)
    · exact N _ hq
  clear N fDo fDt
  cases b2
  all_goals k_steps
  all_goals first
    | (refine h _ _ _ ?_ (by assumption) (news_tail (news_tail (by assumption))); (try unfold kset); (first | (rw [if_pos (by first | (left; assumption) | (right; exact ⟨by assumption, rfl⟩))]; assumption) | (rw [if_neg (by simp; omega)]; assumption)))
end
end
section
local macro_rules | `(tactic| walk_at "idle line 0") => `(tactic| fail)
local macro_rules | `(tactic| walk_at "idle line 1") => `(tactic| fail)
local macro_rules | `(tactic| walk_at "idle line 2") => `(tactic| fail)
local macro_rules | `(tactic| walk_at "idle line 3") => `(tactic| fail)
local macro_rules | `(tactic| k_mem) => `(tactic| first | with_reducible exact List.mem_cons_self | with_reducible assumption | (with_reducible refine List.mem_cons_of_mem _ ?_; k_mem))
local macro_rules | `(tactic| walk_at "eval Name") => `(tactic| (k_here; k_dflt (refine' nameX_L ?F ?v ?_ ?a ?b; (case a => rfl); (case b => rfl); (case F => k_asm); (case v => assumption))))
local macro_rules | `(tactic| walk_at "call type:list") => `(tactic| (k_here; (with_reducible show wpAny _ _ (call (Value.type "list") [Value.ref _]) _ _ _); k_dflt (refine' list_w (base := ?bb) (A₀ := ?aa) ?C ?m1 ?m2 ?m3 ?m4 ?m5 ?m6 ?o ?d ?lo ?z rfl ?u ?_; (case C => exact ⟨by assumption, by k_asm, by assumption, by k_asm, by assumption, rfl, rfl, rfl, by (simp only [depth_mark, depth_deeper, depth_caller]; decide), by (simp only [units_mark, units_deeper]; decide)⟩); (case m1 => k_mem); (case m2 => k_mem); (case m3 => k_mem); (case m4 => k_mem); (case m5 => k_mem); (case m6 => k_mem); (case u => simp only [units_mark, units_deeper]; decide); (case o => exact ⟨by assumption, by assumption, by assumption, by assumption, by assumption⟩); (case d => assumption); (case lo => assumption); (case z => exact ⟨by assumption, by assumption⟩)); intro h' tk' D' n' F' N' l1; (have l2 := l1); (k_lt l2); (try k_sweep); (try k_unmd)))
local macro_rules | `(tactic| walk_at "compareOp In str ref") => `(tactic| (k_here; k_dflt (refine' in_strs ?l ?_; (case l => exact ⟨_, News.get (by k_asm) (by k_mem), rfl, _, rfl⟩))))
local macro_rules | `(tactic| walk_at "CompSrc") => `(tactic| (k_here; refine halt ?_))
local macro_rules | `(tactic| walk_at "CompSrcT") => `(tactic| (k_here; refine halt ?_))
local macro_rules | `(tactic| walk_at "call ref") => `(tactic| (k_here; (with_reducible show wpAny _ _ (call (Value.ref 180) _) _ _ _); refine halt ?_))
local macro_rules | `(tactic| walk_at "call ref") => `(tactic| (k_here; (with_reducible show wpAny _ _ (call (Value.ref 93) _) _ _ _); refine halt ?_))
local macro_rules | `(tactic| walk_at "compareOp In str ref") => `(tactic| (k_here; k_dflt (first
  | (refine' in_some ?N ?p ?d ?lo ?v ?_; (case N => k_asm); (case p => k_mem); (case d => assumption); (case lo => assumption); (case v => assumption))
  | (refine' in_none ?N ?p ?d ?lo ?v ?_; (case N => k_asm); (case p => k_mem); (case d => assumption); (case lo => assumption); (case v => assumption)))))
section
variable {prog : Program} {w : World} {h₀ : Heap} {L fa : Nat} {cv : Value} {mean : ExcName → Option Value} {mg mb : Str → Option Value} {s : Shared} {m : Str → Option Value} {Q : Flow → Shared → Prop} {E : Value → Shared → Prop} {rest : List (Addr × Obj)}
  {o1 o2 o3 o4 o5 o6 o7 ko1 ko2 od1 od2 : Obj} {cl sz ca kn k1 k2 c1 cd1 dm1 dq1 lk1 ld1 c2 cd2 dm2 dq2 lk2 ld2 : Nat} {ncl nsz nca nkn nq1 nq2 u1 u2 ua1 ua2 ta1 ta2 tb1 tb2 tc1 tc2 td1 td2 : Nat} {cap1 cap2 : Int}
  {vs : List Value} {ns : List Int} {ps1 ps2 : List (Str × Nat)} {kvs1 kvs2 kk1 kk2 : List (Str × Value)}
set_option maxRecDepth 100000 in
set_option maxHeartbeats 8000000 in
theorem told1b (B : Below callerA h₀ [] h₀) (X : (Mine.hd.heap_39 w.params).In h₀) (T : TT mean mg mb h₀) (F : Fr h₀ L s.heap m) (N : News h₀ L s.heap ((L + 1, o1) :: (L + 1 + 1, o2) :: (L + 1 + 1 + 1, o3) :: (L + 1 + 1 + 1 + 1, o4) :: (L + 1 + 1 + 1 + 1 + 1, o5) :: (L + 1 + 1 + 1 + 1 + 1 + 1, o6) :: (L + 1 + 1 + 1 + 1 + 1 + 1 + 1, o7) :: (cl, listOf vs.toArray ncl) :: (sz, listOf #[.int cap1 u1, .int cap2 u2] nsz) :: (ca, listOf #[.ref c1, .ref c2] nca) :: (kn, listOf #[.ref k1, .ref k2] nkn) :: (k1, ko1) :: (k2, ko2) :: (c1, instObj 169 cd1) :: (cd1, cdObj w dm1 dq1 lk1 cap1 ua1 ta1 tb1 tc1 td1) :: (dm1, od1) :: (dq1, listOf (svs ps1) nq1) :: (lk1, instObj 45 ld1) :: (ld1, dictOf [] 0) :: (c2, instObj 169 cd2) :: (cd2, cdObj w dm2 dq2 lk2 cap2 ua2 ta2 tb2 tc2 td2) :: (dm2, od2) :: (dq2, listOf (svs ps2) nq2) :: (lk2, instObj 45 ld2) :: (ld2, dictOf [] 0) :: rest))
    (q0 : (L + 1 + 1 + 1 + 1 + 1 + 1 + 1 < sz ∧ L + 1 ≠ cl ∧ L + 1 + 1 ≠ cl ∧ L + 1 + 1 + 1 ≠ cl ∧ L + 1 + 1 + 1 + 1 ≠ cl ∧ L + 1 + 1 + 1 + 1 + 1 ≠ cl ∧ L + 1 + 1 + 1 + 1 + 1 + 1 ≠ cl ∧ L + 1 + 1 + 1 + 1 + 1 + 1 + 1 ≠ cl) ∧ cl < sz ∧ sz < cd1 ∧ cd1 < c1 ∧ c1 < dm1 ∧ dm1 < dq1 ∧ dq1 < ld1 ∧ ld1 < lk1 ∧ lk1 < cd2 ∧ cd2 < c2 ∧ c2 < dm2 ∧ dm2 < dq2 ∧ dq2 < ld2 ∧ ld2 < lk2 ∧ lk2 < ca ∧ ca < kn ∧ ca < k1 ∧ ca < k2 ∧ k1 ≠ k2 ∧ k1 ≠ kn ∧ k2 ≠ kn)
    (hroff : OwnOff rest [L + 1, L + 1 + 1, L + 1 + 1 + 1, L + 1 + 1 + 1 + 1, L + 1 + 1 + 1 + 1 + 1, L + 1 + 1 + 1 + 1 + 1 + 1, L + 1 + 1 + 1 + 1 + 1 + 1 + 1, kn, k1, k2, c1, cd1, dm1, dq1, lk1, ld1, c2, cd2, dm2, dq2, lk2, ld2])
    (mcl : m (Str.ofString "cells") = some (.ref cl)) (msz : m (Str.ofString "sizes") = some (.ref sz)) (mca : m (Str.ofString "caches") = some (.ref ca)) {κ : Str} {tκ ti td tn : Tok} {i dd : Int} {Do no Dt nt : Nat} {v1 v2 : Value} {b1 b2 : Bool} (x1 : o1.data = .cell (some (.ref kn))) (x2 : o2.data = .cell (some (.int i ti))) (x3 : o3.data = .cell (some (.int dd td))) (x4 : o4.data = .cell (some (.str κ tκ))) (hdd : 0 ≤ dd ∧ dd < 6) (mth : m (Str.ofString "there") = some (.ref Dt)) (mto : m (Str.ofString "told") = some (.ref Do)) (mDt : (Dt, listOf #[.bool b1, .bool b2] nt) ∈ rest) (mDo : (Do, listOf #[v1, v2] no) ∈ rest) (hk1 : ko1.IsDictOf (strKind prog w) kk1) (hk2 : ko2.IsDictOf (strKind prog w) kk2) (lok1 : (k1 == sysModules) = false) (lok2 : (k2 == sysModules) = false) (zk1 : kk1.length ≤ 900) (zk2 : kk2.length ≤ 900) (x5 : o5.data = .cell (some (.int 0 tn))) (hai : ∀ y, valueAt kk1 κ = some y → ∃ x t, y = .int x t)
    (h : ∀ h' tk wv, (wv = .none ∨ ∃ x t, wv = .int x t) → Wanted dd b1 kk1 κ wv → Fr h₀ L h' (fun y => if y = (Str.ofString "wanted") then some wv else m y) → News h₀ L h' ((L + 1, o1) :: (L + 1 + 1, o2) :: (L + 1 + 1 + 1, o3) :: (L + 1 + 1 + 1 + 1, o4) :: (L + 1 + 1 + 1 + 1 + 1, o5) :: (L + 1 + 1 + 1 + 1 + 1 + 1, o6) :: (L + 1 + 1 + 1 + 1 + 1 + 1 + 1, o7) :: (cl, listOf vs.toArray ncl) :: (sz, listOf #[.int cap1 u1, .int cap2 u2] nsz) :: (ca, listOf #[.ref c1, .ref c2] nca) :: (kn, listOf #[.ref k1, .ref k2] nkn) :: (k1, ko1) :: (k2, ko2) :: (c1, instObj 169 cd1) :: (cd1, cdObj w dm1 dq1 lk1 cap1 ua1 ta1 tb1 tc1 td1) :: (dm1, od1) :: (dq1, listOf (svs ps1) nq1) :: (lk1, instObj 45 ld1) :: (ld1, dictOf [] 0) :: (c2, instObj 169 cd2) :: (cd2, cdObj w dm2 dq2 lk2 cap2 ua2 ta2 tb2 tc2 td2) :: (dm2, od2) :: (dq2, listOf (svs ps2) nq2) :: (lk2, instObj 45 ld2) :: (ld2, dictOf [] 0) :: rest) → Q .next { s with heap := h', toks := tk }) :
    wpAny (model prog w) (callerA.deeper (lawE w L fa cv)) (exec (hdS (tlS (bodyS (st5 w)))) (lawE w L fa cv)) Q E s := by
  have q0c := q0
  obtain ⟨q1, q2, q3, q4, q5, q6, q7, q8, q9, q10, q11, q12, q13, q14, q15, q16, q17, q18, q19, q20, q21⟩ := q0
  unfold st5 turnB forS lawB lawF
  dsimp only [hdS, tlS, bodyS]
  show wpAny _ (callerA.deeper (envOfC "law" (lawS w) L fa cv)) (exec _ (envOfC "law" (lawS w) L fa cv)) _ _ _
  unfold lawS lawF
  dsimp only
  have fDo := fun b hb => hroff _ mDo b hb
  have fDt := fun b hb => hroff _ mDt b hb
  have n1 : @Ne Nat Do k1 := fDo k1 (by simp)
  have n2 : @Ne Nat Dt k1 := fDt k1 (by simp)
  have N0 : News h₀ L s.heap ((Do, listOf #[v1, v2] no) :: (Dt, listOf #[.bool b1, .bool b2] nt) :: (L + 1, o1) :: (L + 1 + 1, o2) :: (L + 1 + 1 + 1, o3) :: (L + 1 + 1 + 1 + 1, o4) :: (L + 1 + 1 + 1 + 1 + 1, o5) :: (L + 1 + 1 + 1 + 1 + 1 + 1, o6) :: (L + 1 + 1 + 1 + 1 + 1 + 1 + 1, o7) :: (cl, listOf vs.toArray ncl) :: (sz, listOf #[.int cap1 u1, .int cap2 u2] nsz) :: (ca, listOf #[.ref c1, .ref c2] nca) :: (kn, listOf #[.ref k1, .ref k2] nkn) :: (k1, ko1) :: (k2, ko2) :: (c1, instObj 169 cd1) :: (cd1, cdObj w dm1 dq1 lk1 cap1 ua1 ta1 tb1 tc1 td1) :: (dm1, od1) :: (dq1, listOf (svs ps1) nq1) :: (lk1, instObj 45 ld1) :: (ld1, dictOf [] 0) :: (c2, instObj 169 cd2) :: (cd2, cdObj w dm2 dq2 lk2 cap2 ua2 ta2 tb2 tc2 td2) :: (dm2, od2) :: (dq2, listOf (svs ps2) nq2) :: (lk2, instObj 45 ld2) :: (ld2, dictOf [] 0) :: rest) := fun q hq => by
    rcases List.mem_cons.mp hq with rfl | hq
    · exact N _ (by k_mem)
    rcases List.mem_cons.mp hq with rfl | hq
    · exact N _ (by k_mem)
    · exact N _ hq
  clear N fDo fDt
  cases hv : valueAt kk1 κ
  · cases b1
    all_goals k_steps
    all_goals first
      | (refine h _ _ _ ?_ ?_ (by assumption) (news_tail (news_tail (by assumption))); (first | exact .inl rfl | exact .inr ⟨_, _, rfl⟩); refine ⟨fun e1 e2 y e3 => ?_, fun e => ?_⟩ <;> first | rfl | exact absurd e1 ‹¬ dd < 4› | (exfalso; rcases e2 with e2 | e2; (· exact e2 ‹dd = 2›); cases e2; done) | (rw [hv] at e3; exact Option.some.inj e3) | (rw [hv] at e3; exact absurd e3 (by simp)) | (exfalso; rcases e with e | e | ⟨e, e'⟩; (· exact e ‹dd < 4›); (· rw [hv] at e; cases e); (first | (cases e'; done) | exact ‹dd ≠ 2› e | exact ‹¬ dd = 2› e)))
  · rename_i y0
    obtain ⟨x0, tx0, rfl⟩ := hai _ hv
    cases b1
    all_goals k_steps
    all_goals first
      | (refine h _ _ _ ?_ ?_ (by assumption) (news_tail (news_tail (by assumption))); (first | exact .inl rfl | exact .inr ⟨_, _, rfl⟩); refine ⟨fun e1 e2 y e3 => ?_, fun e => ?_⟩ <;> first | rfl | exact absurd e1 ‹¬ dd < 4› | (exfalso; rcases e2 with e2 | e2; (· exact e2 ‹dd = 2›); cases e2; done) | (rw [hv] at e3; exact Option.some.inj e3) | (rw [hv] at e3; exact absurd e3 (by simp)) | (exfalso; rcases e with e | e | ⟨e, e'⟩; (· exact e ‹dd < 4›); (· rw [hv] at e; cases e); (first | (cases e'; done) | exact ‹dd ≠ 2› e | exact ‹¬ dd = 2› e)))
end
end
section
local macro_rules | `(tactic| walk_at "idle line 0") => `(tactic| fail)
local macro_rules | `(tactic| k_mem) => `(tactic| first | with_reducible exact List.mem_cons_self | with_reducible assumption | (with_reducible refine List.mem_cons_of_mem _ ?_; k_mem))
local macro_rules | `(tactic| walk_at "eval Name") => `(tactic| (k_here; k_dflt (refine' nameX_L ?F ?v ?_ ?a ?b; (case a => rfl); (case b => rfl); (case F => k_asm); (case v => assumption))))
local macro_rules | `(tactic| walk_at "call type:list") => `(tactic| (k_here; (with_reducible show wpAny _ _ (call (Value.type "list") [Value.ref _]) _ _ _); k_dflt (refine' list_w (base := ?bb) (A₀ := ?aa) ?C ?m1 ?m2 ?m3 ?m4 ?m5 ?m6 ?o ?d ?lo ?z rfl ?u ?_; (case C => exact ⟨by assumption, by k_asm, by assumption, by k_asm, by assumption, rfl, rfl, rfl, by (simp only [depth_mark, depth_deeper, depth_caller]; decide), by (simp only [units_mark, units_deeper]; decide)⟩); (case m1 => k_mem); (case m2 => k_mem); (case m3 => k_mem); (case m4 => k_mem); (case m5 => k_mem); (case m6 => k_mem); (case u => simp only [units_mark, units_deeper]; decide); (case o => exact ⟨by assumption, by assumption, by assumption, by assumption, by assumption⟩); (case d => assumption); (case lo => assumption); (case z => exact ⟨by assumption, by assumption⟩)); intro h' tk' D' n' F' N' l1; (have l2 := l1); (k_lt l2); (try k_sweep); (try k_unmd)))
local macro_rules | `(tactic| walk_at "compareOp In str ref") => `(tactic| (k_here; k_dflt (refine' in_strs ?l ?_; (case l => exact ⟨_, News.get (by k_asm) (by k_mem), rfl, _, rfl⟩))))
local macro_rules | `(tactic| walk_at "CompSrc") => `(tactic| (k_here; refine halt ?_))
local macro_rules | `(tactic| walk_at "CompSrcT") => `(tactic| (k_here; refine halt ?_))
local macro_rules | `(tactic| walk_at "call ref") => `(tactic| (k_here; (with_reducible show wpAny _ _ (call (Value.ref 180) _) _ _ _); refine halt ?_))
local macro_rules | `(tactic| walk_at "call ref") => `(tactic| (k_here; (with_reducible show wpAny _ _ (call (Value.ref 93) _) _ _ _); refine halt ?_))
local macro_rules | `(tactic| walk_at "compareOp In str ref") => `(tactic| (k_here; k_dflt (first
  | (refine' in_some ?N ?p ?d ?lo ?v ?_; (case N => k_asm); (case p => k_mem); (case d => assumption); (case lo => assumption); (case v => assumption))
  | (refine' in_none ?N ?p ?d ?lo ?v ?_; (case N => k_asm); (case p => k_mem); (case d => assumption); (case lo => assumption); (case v => assumption)))))
section
variable {prog : Program} {w : World} {h₀ : Heap} {L fa : Nat} {cv : Value} {mean : ExcName → Option Value} {mg mb : Str → Option Value} {s : Shared} {m : Str → Option Value} {Q : Flow → Shared → Prop} {E : Value → Shared → Prop} {rest : List (Addr × Obj)}
  {o1 o2 o3 o4 o5 o6 o7 ko1 ko2 od1 od2 : Obj} {cl sz ca kn k1 k2 c1 cd1 dm1 dq1 lk1 ld1 c2 cd2 dm2 dq2 lk2 ld2 : Nat} {ncl nsz nca nkn nq1 nq2 u1 u2 ua1 ua2 ta1 ta2 tb1 tb2 tc1 tc2 td1 td2 : Nat} {cap1 cap2 : Int}
  {vs : List Value} {ns : List Int} {ps1 ps2 : List (Str × Nat)} {kvs1 kvs2 kk1 kk2 : List (Str × Value)}
set_option maxRecDepth 100000 in
set_option maxHeartbeats 8000000 in
theorem told2b (B : Below callerA h₀ [] h₀) (X : (Mine.hd.heap_39 w.params).In h₀) (T : TT mean mg mb h₀) (F : Fr h₀ L s.heap m) (N : News h₀ L s.heap ((L + 1, o1) :: (L + 1 + 1, o2) :: (L + 1 + 1 + 1, o3) :: (L + 1 + 1 + 1 + 1, o4) :: (L + 1 + 1 + 1 + 1 + 1, o5) :: (L + 1 + 1 + 1 + 1 + 1 + 1, o6) :: (L + 1 + 1 + 1 + 1 + 1 + 1 + 1, o7) :: (cl, listOf vs.toArray ncl) :: (sz, listOf #[.int cap1 u1, .int cap2 u2] nsz) :: (ca, listOf #[.ref c1, .ref c2] nca) :: (kn, listOf #[.ref k1, .ref k2] nkn) :: (k1, ko1) :: (k2, ko2) :: (c1, instObj 169 cd1) :: (cd1, cdObj w dm1 dq1 lk1 cap1 ua1 ta1 tb1 tc1 td1) :: (dm1, od1) :: (dq1, listOf (svs ps1) nq1) :: (lk1, instObj 45 ld1) :: (ld1, dictOf [] 0) :: (c2, instObj 169 cd2) :: (cd2, cdObj w dm2 dq2 lk2 cap2 ua2 ta2 tb2 tc2 td2) :: (dm2, od2) :: (dq2, listOf (svs ps2) nq2) :: (lk2, instObj 45 ld2) :: (ld2, dictOf [] 0) :: rest))
    (q0 : (L + 1 + 1 + 1 + 1 + 1 + 1 + 1 < sz ∧ L + 1 ≠ cl ∧ L + 1 + 1 ≠ cl ∧ L + 1 + 1 + 1 ≠ cl ∧ L + 1 + 1 + 1 + 1 ≠ cl ∧ L + 1 + 1 + 1 + 1 + 1 ≠ cl ∧ L + 1 + 1 + 1 + 1 + 1 + 1 ≠ cl ∧ L + 1 + 1 + 1 + 1 + 1 + 1 + 1 ≠ cl) ∧ cl < sz ∧ sz < cd1 ∧ cd1 < c1 ∧ c1 < dm1 ∧ dm1 < dq1 ∧ dq1 < ld1 ∧ ld1 < lk1 ∧ lk1 < cd2 ∧ cd2 < c2 ∧ c2 < dm2 ∧ dm2 < dq2 ∧ dq2 < ld2 ∧ ld2 < lk2 ∧ lk2 < ca ∧ ca < kn ∧ ca < k1 ∧ ca < k2 ∧ k1 ≠ k2 ∧ k1 ≠ kn ∧ k2 ≠ kn)
    (hroff : OwnOff rest [L + 1, L + 1 + 1, L + 1 + 1 + 1, L + 1 + 1 + 1 + 1, L + 1 + 1 + 1 + 1 + 1, L + 1 + 1 + 1 + 1 + 1 + 1, L + 1 + 1 + 1 + 1 + 1 + 1 + 1, kn, k1, k2, c1, cd1, dm1, dq1, lk1, ld1, c2, cd2, dm2, dq2, lk2, ld2])
    (mcl : m (Str.ofString "cells") = some (.ref cl)) (msz : m (Str.ofString "sizes") = some (.ref sz)) (mca : m (Str.ofString "caches") = some (.ref ca)) {κ : Str} {tκ ti td tn : Tok} {i dd : Int} {Do no Dt nt : Nat} {v1 v2 : Value} {b1 b2 : Bool} (x1 : o1.data = .cell (some (.ref kn))) (x2 : o2.data = .cell (some (.int i ti))) (x3 : o3.data = .cell (some (.int dd td))) (x4 : o4.data = .cell (some (.str κ tκ))) (hdd : 0 ≤ dd ∧ dd < 6) (mth : m (Str.ofString "there") = some (.ref Dt)) (mto : m (Str.ofString "told") = some (.ref Do)) (mDt : (Dt, listOf #[.bool b1, .bool b2] nt) ∈ rest) (mDo : (Do, listOf #[v1, v2] no) ∈ rest) (hk1 : ko1.IsDictOf (strKind prog w) kk1) (hk2 : ko2.IsDictOf (strKind prog w) kk2) (lok1 : (k1 == sysModules) = false) (lok2 : (k2 == sysModules) = false) (zk1 : kk1.length ≤ 900) (zk2 : kk2.length ≤ 900) (x5 : o5.data = .cell (some (.int 1 tn))) (hai : ∀ y, valueAt kk2 κ = some y → ∃ x t, y = .int x t)
    (h : ∀ h' tk wv, (wv = .none ∨ ∃ x t, wv = .int x t) → Wanted dd b2 kk2 κ wv → Fr h₀ L h' (fun y => if y = (Str.ofString "wanted") then some wv else m y) → News h₀ L h' ((L + 1, o1) :: (L + 1 + 1, o2) :: (L + 1 + 1 + 1, o3) :: (L + 1 + 1 + 1 + 1, o4) :: (L + 1 + 1 + 1 + 1 + 1, o5) :: (L + 1 + 1 + 1 + 1 + 1 + 1, o6) :: (L + 1 + 1 + 1 + 1 + 1 + 1 + 1, o7) :: (cl, listOf vs.toArray ncl) :: (sz, listOf #[.int cap1 u1, .int cap2 u2] nsz) :: (ca, listOf #[.ref c1, .ref c2] nca) :: (kn, listOf #[.ref k1, .ref k2] nkn) :: (k1, ko1) :: (k2, ko2) :: (c1, instObj 169 cd1) :: (cd1, cdObj w dm1 dq1 lk1 cap1 ua1 ta1 tb1 tc1 td1) :: (dm1, od1) :: (dq1, listOf (svs ps1) nq1) :: (lk1, instObj 45 ld1) :: (ld1, dictOf [] 0) :: (c2, instObj 169 cd2) :: (cd2, cdObj w dm2 dq2 lk2 cap2 ua2 ta2 tb2 tc2 td2) :: (dm2, od2) :: (dq2, listOf (svs ps2) nq2) :: (lk2, instObj 45 ld2) :: (ld2, dictOf [] 0) :: rest) → Q .next { s with heap := h', toks := tk }) :
    wpAny (model prog w) (callerA.deeper (lawE w L fa cv)) (exec (hdS (tlS (bodyS (st5 w)))) (lawE w L fa cv)) Q E s := by
  have q0c := q0
  obtain ⟨q1, q2, q3, q4, q5, q6, q7, q8, q9, q10, q11, q12, q13, q14, q15, q16, q17, q18, q19, q20, q21⟩ := q0
  unfold st5 turnB forS lawB lawF
  dsimp only [hdS, tlS, bodyS]
  show wpAny _ (callerA.deeper (envOfC "law" (lawS w) L fa cv)) (exec _ (envOfC "law" (lawS w) L fa cv)) _ _ _
  unfold lawS lawF
  dsimp only
  have fDo := fun b hb => hroff _ mDo b hb
  have fDt := fun b hb => hroff _ mDt b hb
  have n1 : @Ne Nat Do k2 := fDo k2 (by simp)
  have n2 : @Ne Nat Dt k2 := fDt k2 (by simp)
  have N0 : News h₀ L s.heap ((Do, listOf #[v1, v2] no) :: (Dt, listOf #[.bool b1, .bool b2] nt) :: (L + 1, o1) :: (L + 1 + 1, o2) :: (L + 1 + 1 + 1, o3) :: (L + 1 + 1 + 1 + 1, o4) :: (L + 1 + 1 + 1 + 1 + 1, o5) :: (L + 1 + 1 + 1 + 1 + 1 + 1, o6) :: (L + 1 + 1 + 1 + 1 + 1 + 1 + 1, o7) :: (cl, listOf vs.toArray ncl) :: (sz, listOf #[.int cap1 u1, .int cap2 u2] nsz) :: (ca, listOf #[.ref c1, .ref c2] nca) :: (kn, listOf #[.ref k1, .ref k2] nkn) :: (k1, ko1) :: (k2, ko2) :: (c1, instObj 169 cd1) :: (cd1, cdObj w dm1 dq1 lk1 cap1 ua1 ta1 tb1 tc1 td1) :: (dm1, od1) :: (dq1, listOf (svs ps1) nq1) :: (lk1, instObj 45 ld1) :: (ld1, dictOf [] 0) :: (c2, instObj 169 cd2) :: (cd2, cdObj w dm2 dq2 lk2 cap2 ua2 ta2 tb2 tc2 td2) :: (dm2, od2) :: (dq2, listOf (svs ps2) nq2) :: (lk2, instObj 45 ld2) :: (ld2, dictOf [] 0) :: rest) := fun q hq => by
    rcases List.mem_cons.mp hq with rfl | hq
    · exact N _ (by k_mem)
    rcases List.mem_cons.mp hq with rfl | hq
    · exact N _ (by k_mem)
    · exact N _ hq
  clear N fDo fDt
  cases hv : valueAt kk2 κ
  · cases b2
    all_goals k_steps
    all_goals first
      | (refine h _ _ _ ?_ ?_ (by assumption) (news_tail (news_tail (by assumption))); (first | exact .inl rfl | exact .inr ⟨_, _, rfl⟩); refine ⟨fun e1 e2 y e3 => ?_, fun e => ?_⟩ <;> first | rfl | exact absurd e1 ‹¬ dd < 4› | (exfalso; rcases e2 with e2 | e2; (· exact e2 ‹dd = 2›); cases e2; done) | (rw [hv] at e3; exact Option.some.inj e3) | (rw [hv] at e3; exact absurd e3 (by simp)) | (exfalso; rcases e with e | e | ⟨e, e'⟩; (· exact e ‹dd < 4›); (· rw [hv] at e; cases e); (first | (cases e'; done) | exact ‹dd ≠ 2› e | exact ‹¬ dd = 2› e)))
  · rename_i y0
    obtain ⟨x0, tx0, rfl⟩ := hai _ hv
    cases b2
    all_goals k_steps
    all_goals first
      | (refine h _ _ _ ?_ ?_ (by assumption) (news_tail (news_tail (by assumption))); (first | exact .inl rfl | exact .inr ⟨_, _, rfl⟩); refine ⟨fun e1 e2 y e3 => ?_, fun e => ?_⟩ <;> first | rfl | exact absurd e1 ‹¬ dd < 4› | (exfalso; rcases e2 with e2 | e2; (· exact e2 ‹dd = 2›); cases e2; done) | (rw [hv] at e3; exact Option.some.inj e3) | (rw [hv] at e3; exact absurd e3 (by simp)) | (exfalso; rcases e with e | e | ⟨e, e'⟩; (· exact e ‹dd < 4›); (· rw [hv] at e; cases e); (first | (cases e'; done) | exact ‹dd ≠ 2› e | exact ‹¬ dd = 2› e)))
end
end
section
local macro_rules | `(tactic| walk_at "idle line 0") => `(tactic| fail)
local macro_rules | `(tactic| walk_at "idle line 1") => `(tactic| fail)
local macro_rules | `(tactic| k_mem) => `(tactic| first | with_reducible exact List.mem_cons_self | with_reducible assumption | (with_reducible refine List.mem_cons_of_mem _ ?_; k_mem))
local macro_rules | `(tactic| walk_at "eval Name") => `(tactic| (k_here; k_dflt (refine' nameX_L ?F ?v ?_ ?a ?b; (case a => rfl); (case b => rfl); (case F => k_asm); (case v => assumption))))
local macro_rules | `(tactic| walk_at "call type:list") => `(tactic| (k_here; (with_reducible show wpAny _ _ (call (Value.type "list") [Value.ref _]) _ _ _); k_dflt (refine' list_w (base := ?bb) (A₀ := ?aa) ?C ?m1 ?m2 ?m3 ?m4 ?m5 ?m6 ?o ?d ?lo ?z rfl ?u ?_; (case C => exact ⟨by assumption, by k_asm, by assumption, by k_asm, by assumption, rfl, rfl, rfl, by (simp only [depth_mark, depth_deeper, depth_caller]; decide), by (simp only [units_mark, units_deeper]; decide)⟩); (case m1 => k_mem); (case m2 => k_mem); (case m3 => k_mem); (case m4 => k_mem); (case m5 => k_mem); (case m6 => k_mem); (case u => simp only [units_mark, units_deeper]; decide); (case o => exact ⟨by assumption, by assumption, by assumption, by assumption, by assumption⟩); (case d => assumption); (case lo => assumption); (case z => exact ⟨by assumption, by assumption⟩)); intro h' tk' D' n' F' N' l1; (have l2 := l1); (k_lt l2); (try k_sweep); (try k_unmd)))
local macro_rules | `(tactic| walk_at "compareOp In str ref") => `(tactic| (k_here; k_dflt (refine' in_strs ?l ?_; (case l => exact ⟨_, News.get (by k_asm) (by k_mem), rfl, _, rfl⟩))))
local macro_rules | `(tactic| walk_at "CompSrc") => `(tactic| (k_here; refine halt ?_))
local macro_rules | `(tactic| walk_at "CompSrcT") => `(tactic| (k_here; refine halt ?_))
local macro_rules | `(tactic| walk_at "call ref") => `(tactic| (k_here; (with_reducible show wpAny _ _ (call (Value.ref 180) _) _ _ _); refine halt ?_))
local macro_rules | `(tactic| walk_at "call ref") => `(tactic| (k_here; (with_reducible show wpAny _ _ (call (Value.ref 93) _) _ _ _); refine halt ?_))
local macro_rules | `(tactic| walk_at "compareOp In str ref") => `(tactic| (k_here; k_dflt (first
  | (refine' in_some ?N ?p ?d ?lo ?v ?_; (case N => k_asm); (case p => k_mem); (case d => assumption); (case lo => assumption); (case v => assumption))
  | (refine' in_none ?N ?p ?d ?lo ?v ?_; (case N => k_asm); (case p => k_mem); (case d => assumption); (case lo => assumption); (case v => assumption)))))
section
variable {prog : Program} {w : World} {h₀ : Heap} {L fa : Nat} {cv : Value} {mean : ExcName → Option Value} {mg mb : Str → Option Value} {s : Shared} {m : Str → Option Value} {Q : Flow → Shared → Prop} {E : Value → Shared → Prop} {rest : List (Addr × Obj)}
  {o1 o2 o3 o4 o5 o6 o7 ko1 ko2 od1 od2 : Obj} {cl sz ca kn k1 k2 c1 cd1 dm1 dq1 lk1 ld1 c2 cd2 dm2 dq2 lk2 ld2 : Nat} {ncl nsz nca nkn nq1 nq2 u1 u2 ua1 ua2 ta1 ta2 tb1 tb2 tc1 tc2 td1 td2 : Nat} {cap1 cap2 : Int}
  {vs : List Value} {ns : List Int} {ps1 ps2 : List (Str × Nat)} {kvs1 kvs2 kk1 kk2 : List (Str × Value)}
set_option maxRecDepth 100000 in
set_option maxHeartbeats 8000000 in
theorem told1c (B : Below callerA h₀ [] h₀) (X : (Mine.hd.heap_39 w.params).In h₀) (T : TT mean mg mb h₀) (F : Fr h₀ L s.heap m) (N : News h₀ L s.heap ((L + 1, o1) :: (L + 1 + 1, o2) :: (L + 1 + 1 + 1, o3) :: (L + 1 + 1 + 1 + 1, o4) :: (L + 1 + 1 + 1 + 1 + 1, o5) :: (L + 1 + 1 + 1 + 1 + 1 + 1, o6) :: (L + 1 + 1 + 1 + 1 + 1 + 1 + 1, o7) :: (cl, listOf vs.toArray ncl) :: (sz, listOf #[.int cap1 u1, .int cap2 u2] nsz) :: (ca, listOf #[.ref c1, .ref c2] nca) :: (kn, listOf #[.ref k1, .ref k2] nkn) :: (k1, ko1) :: (k2, ko2) :: (c1, instObj 169 cd1) :: (cd1, cdObj w dm1 dq1 lk1 cap1 ua1 ta1 tb1 tc1 td1) :: (dm1, od1) :: (dq1, listOf (svs ps1) nq1) :: (lk1, instObj 45 ld1) :: (ld1, dictOf [] 0) :: (c2, instObj 169 cd2) :: (cd2, cdObj w dm2 dq2 lk2 cap2 ua2 ta2 tb2 tc2 td2) :: (dm2, od2) :: (dq2, listOf (svs ps2) nq2) :: (lk2, instObj 45 ld2) :: (ld2, dictOf [] 0) :: rest))
    (q0 : (L + 1 + 1 + 1 + 1 + 1 + 1 + 1 < sz ∧ L + 1 ≠ cl ∧ L + 1 + 1 ≠ cl ∧ L + 1 + 1 + 1 ≠ cl ∧ L + 1 + 1 + 1 + 1 ≠ cl ∧ L + 1 + 1 + 1 + 1 + 1 ≠ cl ∧ L + 1 + 1 + 1 + 1 + 1 + 1 ≠ cl ∧ L + 1 + 1 + 1 + 1 + 1 + 1 + 1 ≠ cl) ∧ cl < sz ∧ sz < cd1 ∧ cd1 < c1 ∧ c1 < dm1 ∧ dm1 < dq1 ∧ dq1 < ld1 ∧ ld1 < lk1 ∧ lk1 < cd2 ∧ cd2 < c2 ∧ c2 < dm2 ∧ dm2 < dq2 ∧ dq2 < ld2 ∧ ld2 < lk2 ∧ lk2 < ca ∧ ca < kn ∧ ca < k1 ∧ ca < k2 ∧ k1 ≠ k2 ∧ k1 ≠ kn ∧ k2 ≠ kn)
    (hroff : OwnOff rest [L + 1, L + 1 + 1, L + 1 + 1 + 1, L + 1 + 1 + 1 + 1, L + 1 + 1 + 1 + 1 + 1, L + 1 + 1 + 1 + 1 + 1 + 1, L + 1 + 1 + 1 + 1 + 1 + 1 + 1, kn, k1, k2, c1, cd1, dm1, dq1, lk1, ld1, c2, cd2, dm2, dq2, lk2, ld2])
    (mcl : m (Str.ofString "cells") = some (.ref cl)) (msz : m (Str.ofString "sizes") = some (.ref sz)) (mca : m (Str.ofString "caches") = some (.ref ca)) {κ : Str} {tκ ti td tn : Tok} {i dd : Int} {Do no Dt nt : Nat} {v1 v2 : Value} {b1 b2 : Bool} (x1 : o1.data = .cell (some (.ref kn))) (x2 : o2.data = .cell (some (.int i ti))) (x3 : o3.data = .cell (some (.int dd td))) (x4 : o4.data = .cell (some (.str κ tκ))) (hdd : 0 ≤ dd ∧ dd < 6) (mth : m (Str.ofString "there") = some (.ref Dt)) (mto : m (Str.ofString "told") = some (.ref Do)) (mDt : (Dt, listOf #[.bool b1, .bool b2] nt) ∈ rest) (mDo : (Do, listOf #[v1, v2] no) ∈ rest) (hk1 : ko1.IsDictOf (strKind prog w) kk1) (hk2 : ko2.IsDictOf (strKind prog w) kk2) (lok1 : (k1 == sysModules) = false) (lok2 : (k2 == sysModules) = false) (zk1 : kk1.length ≤ 900) (zk2 : kk2.length ≤ 900) (x5 : o5.data = .cell (some (.int 0 tn))) {wv : Value} (mw : m (Str.ofString "wanted") = some wv) (hT : (3 < dd ∧ v1 = .bool b1) ∨ (dd < 4 ∧ v1 = .none ∧ wv = .none) ∨ (dd < 4 ∧ ∃ x t t', wv = .int x t ∧ v1 = .int x t'))
    (h : ∀ h' tk, Fr h₀ L h' m → News h₀ L h' ((L + 1, o1) :: (L + 1 + 1, o2) :: (L + 1 + 1 + 1, o3) :: (L + 1 + 1 + 1 + 1, o4) :: (L + 1 + 1 + 1 + 1 + 1, o5) :: (L + 1 + 1 + 1 + 1 + 1 + 1, o6) :: (L + 1 + 1 + 1 + 1 + 1 + 1 + 1, o7) :: (cl, listOf vs.toArray ncl) :: (sz, listOf #[.int cap1 u1, .int cap2 u2] nsz) :: (ca, listOf #[.ref c1, .ref c2] nca) :: (kn, listOf #[.ref k1, .ref k2] nkn) :: (k1, ko1) :: (k2, ko2) :: (c1, instObj 169 cd1) :: (cd1, cdObj w dm1 dq1 lk1 cap1 ua1 ta1 tb1 tc1 td1) :: (dm1, od1) :: (dq1, listOf (svs ps1) nq1) :: (lk1, instObj 45 ld1) :: (ld1, dictOf [] 0) :: (c2, instObj 169 cd2) :: (cd2, cdObj w dm2 dq2 lk2 cap2 ua2 ta2 tb2 tc2 td2) :: (dm2, od2) :: (dq2, listOf (svs ps2) nq2) :: (lk2, instObj 45 ld2) :: (ld2, dictOf [] 0) :: rest) → Q .next { s with heap := h', toks := tk }) :
    wpAny (model prog w) (callerA.deeper (lawE w L fa cv)) (exec (hdS (tlS (tlS (bodyS (st5 w))))) (lawE w L fa cv)) Q E s := by
  have q0c := q0
  obtain ⟨q1, q2, q3, q4, q5, q6, q7, q8, q9, q10, q11, q12, q13, q14, q15, q16, q17, q18, q19, q20, q21⟩ := q0
  unfold st5 turnB forS lawB lawF
  dsimp only [hdS, tlS, bodyS]
  show wpAny _ (callerA.deeper (envOfC "law" (lawS w) L fa cv)) (exec _ (envOfC "law" (lawS w) L fa cv)) _ _ _
  unfold lawS lawF
  dsimp only
  have fDo := fun b hb => hroff _ mDo b hb
  have fDt := fun b hb => hroff _ mDt b hb
  have n1 : @Ne Nat Do k1 := fDo k1 (by simp)
  have n2 : @Ne Nat Dt k1 := fDt k1 (by simp)
  have N0 : News h₀ L s.heap ((Do, listOf #[v1, v2] no) :: (Dt, listOf #[.bool b1, .bool b2] nt) :: (L + 1, o1) :: (L + 1 + 1, o2) :: (L + 1 + 1 + 1, o3) :: (L + 1 + 1 + 1 + 1, o4) :: (L + 1 + 1 + 1 + 1 + 1, o5) :: (L + 1 + 1 + 1 + 1 + 1 + 1, o6) :: (L + 1 + 1 + 1 + 1 + 1 + 1 + 1, o7) :: (cl, listOf vs.toArray ncl) :: (sz, listOf #[.int cap1 u1, .int cap2 u2] nsz) :: (ca, listOf #[.ref c1, .ref c2] nca) :: (kn, listOf #[.ref k1, .ref k2] nkn) :: (k1, ko1) :: (k2, ko2) :: (c1, instObj 169 cd1) :: (cd1, cdObj w dm1 dq1 lk1 cap1 ua1 ta1 tb1 tc1 td1) :: (dm1, od1) :: (dq1, listOf (svs ps1) nq1) :: (lk1, instObj 45 ld1) :: (ld1, dictOf [] 0) :: (c2, instObj 169 cd2) :: (cd2, cdObj w dm2 dq2 lk2 cap2 ua2 ta2 tb2 tc2 td2) :: (dm2, od2) :: (dq2, listOf (svs ps2) nq2) :: (lk2, instObj 45 ld2) :: (ld2, dictOf [] 0) :: rest) := fun q hq => by
    rcases List.mem_cons.mp hq with rfl | hq
    · exact N _ (by k_mem)
    rcases List.mem_cons.mp hq with rfl | hq
    · exact N _ (by k_mem)
    · exact N _ hq
  clear N fDo fDt
  rcases hT with ⟨q, rfl⟩ | ⟨q, rfl, rfl⟩ | ⟨q, x, t, t', rfl, rfl⟩
  · cases b1
    all_goals k_steps
    all_goals first
      | (exact h _ _ (by assumption) (news_tail (news_tail (by assumption))))
      | (exfalso; exact ‹x ≠ x› rfl)
      | (exfalso; omega)
  · k_steps
    all_goals first
      | (exact h _ _ (by assumption) (news_tail (news_tail (by assumption))))
      | (exfalso; exact ‹x ≠ x› rfl)
      | (exfalso; omega)
  · k_steps
    all_goals first
      | (exact h _ _ (by assumption) (news_tail (news_tail (by assumption))))
      | (exfalso; exact ‹x ≠ x› rfl)
      | (exfalso; omega)
end
end
section
local macro_rules | `(tactic| k_mem) => `(tactic| first | with_reducible exact List.mem_cons_self | with_reducible assumption | (with_reducible refine List.mem_cons_of_mem _ ?_; k_mem))
local macro_rules | `(tactic| walk_at "eval Name") => `(tactic| (k_here; k_dflt (refine' nameX_L ?F ?v ?_ ?a ?b; (case a => rfl); (case b => rfl); (case F => k_asm); (case v => assumption))))
local macro_rules | `(tactic| walk_at "call type:list") => `(tactic| (k_here; (with_reducible show wpAny _ _ (call (Value.type "list") [Value.ref _]) _ _ _); k_dflt (refine' list_w (base := ?bb) (A₀ := ?aa) ?C ?m1 ?m2 ?m3 ?m4 ?m5 ?m6 ?o ?d ?lo ?z rfl ?u ?_; (case C => exact ⟨by assumption, by k_asm, by assumption, by k_asm, by assumption, rfl, rfl, rfl, by (simp only [depth_mark, depth_deeper, depth_caller]; decide), by (simp only [units_mark, units_deeper]; decide)⟩); (case m1 => k_mem); (case m2 => k_mem); (case m3 => k_mem); (case m4 => k_mem); (case m5 => k_mem); (case m6 => k_mem); (case u => simp only [units_mark, units_deeper]; decide); (case o => exact ⟨by assumption, by assumption, by assumption, by assumption, by assumption⟩); (case d => assumption); (case lo => assumption); (case z => exact ⟨by assumption, by assumption⟩)); intro h' tk' D' n' F' N' l1; (have l2 := l1); (k_lt l2); (try k_sweep); (try k_unmd)))
local macro_rules | `(tactic| walk_at "compareOp In str ref") => `(tactic| (k_here; k_dflt (refine' in_strs ?l ?_; (case l => exact ⟨_, News.get (by k_asm) (by k_mem), rfl, _, rfl⟩))))
local macro_rules | `(tactic| walk_at "CompSrc") => `(tactic| (k_here; refine halt ?_))
local macro_rules | `(tactic| walk_at "CompSrcT") => `(tactic| (k_here; refine halt ?_))
local macro_rules | `(tactic| walk_at "call ref") => `(tactic| (k_here; (with_reducible show wpAny _ _ (call (Value.ref 180) _) _ _ _); refine halt ?_))
local macro_rules | `(tactic| walk_at "call ref") => `(tactic| (k_here; (with_reducible show wpAny _ _ (call (Value.ref 93) _) _ _ _); refine halt ?_))
local macro_rules | `(tactic| walk_at "compareOp In str ref") => `(tactic| (k_here; k_dflt (first
  | (refine' in_some ?N ?p ?d ?lo ?v ?_; (case N => k_asm); (case p => k_mem); (case d => assumption); (case lo => assumption); (case v => assumption))
  | (refine' in_none ?N ?p ?d ?lo ?v ?_; (case N => k_asm); (case p => k_mem); (case d => assumption); (case lo => assumption); (case v => assumption)))))
section
variable {prog : Program} {w : World} {h₀ : Heap} {L fa : Nat} {cv : Value} {mean : ExcName → Option Value} {mg mb : Str → Option Value} {s : Shared} {m : Str → Option Value} {Q : Flow → Shared → Prop} {E : Value → Shared → Prop} {rest : List (Addr × Obj)}
  {o1 o2 o3 o4 o5 o6 o7 ko1 ko2 od1 od2 : Obj} {cl sz ca kn k1 k2 c1 cd1 dm1 dq1 lk1 ld1 c2 cd2 dm2 dq2 lk2 ld2 : Nat} {ncl nsz nca nkn nq1 nq2 u1 u2 ua1 ua2 ta1 ta2 tb1 tb2 tc1 tc2 td1 td2 : Nat} {cap1 cap2 : Int}
  {vs : List Value} {ns : List Int} {ps1 ps2 : List (Str × Nat)} {kvs1 kvs2 kk1 kk2 : List (Str × Value)}
set_option maxRecDepth 100000 in
set_option maxHeartbeats 8000000 in
theorem told2c (B : Below callerA h₀ [] h₀) (X : (Mine.hd.heap_39 w.params).In h₀) (T : TT mean mg mb h₀) (F : Fr h₀ L s.heap m) (N : News h₀ L s.heap ((L + 1, o1) :: (L + 1 + 1, o2) :: (L + 1 + 1 + 1, o3) :: (L + 1 + 1 + 1 + 1, o4) :: (L + 1 + 1 + 1 + 1 + 1, o5) :: (L + 1 + 1 + 1 + 1 + 1 + 1, o6) :: (L + 1 + 1 + 1 + 1 + 1 + 1 + 1, o7) :: (cl, listOf vs.toArray ncl) :: (sz, listOf #[.int cap1 u1, .int cap2 u2] nsz) :: (ca, listOf #[.ref c1, .ref c2] nca) :: (kn, listOf #[.ref k1, .ref k2] nkn) :: (k1, ko1) :: (k2, ko2) :: (c1, instObj 169 cd1) :: (cd1, cdObj w dm1 dq1 lk1 cap1 ua1 ta1 tb1 tc1 td1) :: (dm1, od1) :: (dq1, listOf (svs ps1) nq1) :: (lk1, instObj 45 ld1) :: (ld1, dictOf [] 0) :: (c2, instObj 169 cd2) :: (cd2, cdObj w dm2 dq2 lk2 cap2 ua2 ta2 tb2 tc2 td2) :: (dm2, od2) :: (dq2, listOf (svs ps2) nq2) :: (lk2, instObj 45 ld2) :: (ld2, dictOf [] 0) :: rest))
    (q0 : (L + 1 + 1 + 1 + 1 + 1 + 1 + 1 < sz ∧ L + 1 ≠ cl ∧ L + 1 + 1 ≠ cl ∧ L + 1 + 1 + 1 ≠ cl ∧ L + 1 + 1 + 1 + 1 ≠ cl ∧ L + 1 + 1 + 1 + 1 + 1 ≠ cl ∧ L + 1 + 1 + 1 + 1 + 1 + 1 ≠ cl ∧ L + 1 + 1 + 1 + 1 + 1 + 1 + 1 ≠ cl) ∧ cl < sz ∧ sz < cd1 ∧ cd1 < c1 ∧ c1 < dm1 ∧ dm1 < dq1 ∧ dq1 < ld1 ∧ ld1 < lk1 ∧ lk1 < cd2 ∧ cd2 < c2 ∧ c2 < dm2 ∧ dm2 < dq2 ∧ dq2 < ld2 ∧ ld2 < lk2 ∧ lk2 < ca ∧ ca < kn ∧ ca < k1 ∧ ca < k2 ∧ k1 ≠ k2 ∧ k1 ≠ kn ∧ k2 ≠ kn)
    (hroff : OwnOff rest [L + 1, L + 1 + 1, L + 1 + 1 + 1, L + 1 + 1 + 1 + 1, L + 1 + 1 + 1 + 1 + 1, L + 1 + 1 + 1 + 1 + 1 + 1, L + 1 + 1 + 1 + 1 + 1 + 1 + 1, kn, k1, k2, c1, cd1, dm1, dq1, lk1, ld1, c2, cd2, dm2, dq2, lk2, ld2])
    (mcl : m (Str.ofString "cells") = some (.ref cl)) (msz : m (Str.ofString "sizes") = some (.ref sz)) (mca : m (Str.ofString "caches") = some (.ref ca)) {κ : Str} {tκ ti td tn : Tok} {i dd : Int} {Do no Dt nt : Nat} {v1 v2 : Value} {b1 b2 : Bool} (x1 : o1.data = .cell (some (.ref kn))) (x2 : o2.data = .cell (some (.int i ti))) (x3 : o3.data = .cell (some (.int dd td))) (x4 : o4.data = .cell (some (.str κ tκ))) (hdd : 0 ≤ dd ∧ dd < 6) (mth : m (Str.ofString "there") = some (.ref Dt)) (mto : m (Str.ofString "told") = some (.ref Do)) (mDt : (Dt, listOf #[.bool b1, .bool b2] nt) ∈ rest) (mDo : (Do, listOf #[v1, v2] no) ∈ rest) (hk1 : ko1.IsDictOf (strKind prog w) kk1) (hk2 : ko2.IsDictOf (strKind prog w) kk2) (lok1 : (k1 == sysModules) = false) (lok2 : (k2 == sysModules) = false) (zk1 : kk1.length ≤ 900) (zk2 : kk2.length ≤ 900) (x5 : o5.data = .cell (some (.int 1 tn))) {wv : Value} (mw : m (Str.ofString "wanted") = some wv) (hT : (3 < dd ∧ v2 = .bool b2) ∨ (dd < 4 ∧ v2 = .none ∧ wv = .none) ∨ (dd < 4 ∧ ∃ x t t', wv = .int x t ∧ v2 = .int x t'))
    (h : ∀ h' tk, Fr h₀ L h' m → News h₀ L h' ((L + 1, o1) :: (L + 1 + 1, o2) :: (L + 1 + 1 + 1, o3) :: (L + 1 + 1 + 1 + 1, o4) :: (L + 1 + 1 + 1 + 1 + 1, o5) :: (L + 1 + 1 + 1 + 1 + 1 + 1, o6) :: (L + 1 + 1 + 1 + 1 + 1 + 1 + 1, o7) :: (cl, listOf vs.toArray ncl) :: (sz, listOf #[.int cap1 u1, .int cap2 u2] nsz) :: (ca, listOf #[.ref c1, .ref c2] nca) :: (kn, listOf #[.ref k1, .ref k2] nkn) :: (k1, ko1) :: (k2, ko2) :: (c1, instObj 169 cd1) :: (cd1, cdObj w dm1 dq1 lk1 cap1 ua1 ta1 tb1 tc1 td1) :: (dm1, od1) :: (dq1, listOf (svs ps1) nq1) :: (lk1, instObj 45 ld1) :: (ld1, dictOf [] 0) :: (c2, instObj 169 cd2) :: (cd2, cdObj w dm2 dq2 lk2 cap2 ua2 ta2 tb2 tc2 td2) :: (dm2, od2) :: (dq2, listOf (svs ps2) nq2) :: (lk2, instObj 45 ld2) :: (ld2, dictOf [] 0) :: rest) → Q .next { s with heap := h', toks := tk }) :
    wpAny (model prog w) (callerA.deeper (lawE w L fa cv)) (exec (hdS (tlS (tlS (bodyS (st5 w))))) (lawE w L fa cv)) Q E s := by
  have q0c := q0
  obtain ⟨q1, q2, q3, q4, q5, q6, q7, q8, q9, q10, q11, q12, q13, q14, q15, q16, q17, q18, q19, q20, q21⟩ := q0
  unfold st5 turnB forS lawB lawF
  dsimp only [hdS, tlS, bodyS]
  show wpAny _ (callerA.deeper (envOfC "law" (lawS w) L fa cv)) (exec _ (envOfC "law" (lawS w) L fa cv)) _ _ _
  unfold lawS lawF
  dsimp only
  have fDo := fun b hb => hroff _ mDo b hb
  have fDt := fun b hb => hroff _ mDt b hb
  have n1 : @Ne Nat Do k2 := fDo k2 (by simp)
  have n2 : @Ne Nat Dt k2 := fDt k2 (by simp)
  have N0 : News h₀ L s.heap ((Do, listOf #[v1, v2] no) :: (Dt, listOf #[.bool b1, .bool b2] nt) :: (L + 1, o1) :: (L + 1 + 1, o2) :: (L + 1 + 1 + 1, o3) :: (L + 1 + 1 + 1 + 1, o4) :: (L + 1 + 1 + 1 + 1 + 1, o5) :: (L + 1 + 1 + 1 + 1 + 1 + 1, o6) :: (L + 1 + 1 + 1 + 1 + 1 + 1 + 1, o7) :: (cl, listOf vs.toArray ncl) :: (sz, listOf #[.int cap1 u1, .int cap2 u2] nsz) :: (ca, listOf #[.ref c1, .ref c2] nca) :: (kn, listOf #[.ref k1, .ref k2] nkn) :: (k1, ko1) :: (k2, ko2) :: (c1, instObj 169 cd1) :: (cd1, cdObj w dm1 dq1 lk1 cap1 ua1 ta1 tb1 tc1 td1) :: (dm1, od1) :: (dq1, listOf (svs ps1) nq1) :: (lk1, instObj 45 ld1) :: (ld1, dictOf [] 0) :: (c2, instObj 169 cd2) :: (cd2, cdObj w dm2 dq2 lk2 cap2 ua2 ta2 tb2 tc2 td2) :: (dm2, od2) :: (dq2, listOf (svs ps2) nq2) :: (lk2, instObj 45 ld2) :: (ld2, dictOf [] 0) :: rest) := fun q hq => by
    rcases List.mem_cons.mp hq with rfl | hq
    · exact N _ (by k_mem)
    rcases List.mem_cons.mp hq with rfl | hq
    · exact N _ (by k_mem)
    · exact N _ hq
  clear N fDo fDt
  rcases hT with ⟨q, rfl⟩ | ⟨q, rfl, rfl⟩ | ⟨q, x, t, t', rfl, rfl⟩
  · cases b2
    all_goals k_steps
    all_goals first
      | (exact h _ _ (by assumption) (news_tail (news_tail (by assumption))))
      | (exfalso; exact ‹x ≠ x› rfl)
      | (exfalso; omega)
  · k_steps
    all_goals first
      | (exact h _ _ (by assumption) (news_tail (news_tail (by assumption))))
      | (exfalso; exact ‹x ≠ x› rfl)
      | (exfalso; omega)
  · k_steps
    all_goals first
      | (exact h _ _ (by assumption) (news_tail (news_tail (by assumption))))
      | (exfalso; exact ‹x ≠ x› rfl)
      | (exfalso; omega)
end
end
section
section
variable {prog : Program} {w : World} {h₀ : Heap} {L fa : Nat} {cv : Value} {mean : ExcName → Option Value} {mg mb : Str → Option Value} {s : Shared} {m : Str → Option Value} {Q : Flow → Shared → Prop} {E : Value → Shared → Prop} {rest : List (Addr × Obj)}
  {o1 o2 o3 o4 o5 o6 o7 ko1 ko2 od1 od2 : Obj} {cl sz ca kn k1 k2 c1 cd1 dm1 dq1 lk1 ld1 c2 cd2 dm2 dq2 lk2 ld2 : Nat} {ncl nsz nca nkn nq1 nq2 u1 u2 ua1 ua2 ta1 ta2 tb1 tb2 tc1 tc2 td1 td2 : Nat} {cap1 cap2 : Int}
  {vs : List Value} {ns : List Int} {ps1 ps2 : List (Str × Nat)} {kvs1 kvs2 kk1 kk2 : List (Str × Value)}
theorem told1 (B : Below callerA h₀ [] h₀) (X : (Mine.hd.heap_39 w.params).In h₀) (T : TT mean mg mb h₀) (F : Fr h₀ L s.heap m) (N : News h₀ L s.heap ((L + 1, o1) :: (L + 1 + 1, o2) :: (L + 1 + 1 + 1, o3) :: (L + 1 + 1 + 1 + 1, o4) :: (L + 1 + 1 + 1 + 1 + 1, o5) :: (L + 1 + 1 + 1 + 1 + 1 + 1, o6) :: (L + 1 + 1 + 1 + 1 + 1 + 1 + 1, o7) :: (cl, listOf vs.toArray ncl) :: (sz, listOf #[.int cap1 u1, .int cap2 u2] nsz) :: (ca, listOf #[.ref c1, .ref c2] nca) :: (kn, listOf #[.ref k1, .ref k2] nkn) :: (k1, ko1) :: (k2, ko2) :: (c1, instObj 169 cd1) :: (cd1, cdObj w dm1 dq1 lk1 cap1 ua1 ta1 tb1 tc1 td1) :: (dm1, od1) :: (dq1, listOf (svs ps1) nq1) :: (lk1, instObj 45 ld1) :: (ld1, dictOf [] 0) :: (c2, instObj 169 cd2) :: (cd2, cdObj w dm2 dq2 lk2 cap2 ua2 ta2 tb2 tc2 td2) :: (dm2, od2) :: (dq2, listOf (svs ps2) nq2) :: (lk2, instObj 45 ld2) :: (ld2, dictOf [] 0) :: rest))
    (q0 : (L + 1 + 1 + 1 + 1 + 1 + 1 + 1 < sz ∧ L + 1 ≠ cl ∧ L + 1 + 1 ≠ cl ∧ L + 1 + 1 + 1 ≠ cl ∧ L + 1 + 1 + 1 + 1 ≠ cl ∧ L + 1 + 1 + 1 + 1 + 1 ≠ cl ∧ L + 1 + 1 + 1 + 1 + 1 + 1 ≠ cl ∧ L + 1 + 1 + 1 + 1 + 1 + 1 + 1 ≠ cl) ∧ cl < sz ∧ sz < cd1 ∧ cd1 < c1 ∧ c1 < dm1 ∧ dm1 < dq1 ∧ dq1 < ld1 ∧ ld1 < lk1 ∧ lk1 < cd2 ∧ cd2 < c2 ∧ c2 < dm2 ∧ dm2 < dq2 ∧ dq2 < ld2 ∧ ld2 < lk2 ∧ lk2 < ca ∧ ca < kn ∧ ca < k1 ∧ ca < k2 ∧ k1 ≠ k2 ∧ k1 ≠ kn ∧ k2 ≠ kn)
    (hroff : OwnOff rest [L + 1, L + 1 + 1, L + 1 + 1 + 1, L + 1 + 1 + 1 + 1, L + 1 + 1 + 1 + 1 + 1, L + 1 + 1 + 1 + 1 + 1 + 1, L + 1 + 1 + 1 + 1 + 1 + 1 + 1, kn, k1, k2, c1, cd1, dm1, dq1, lk1, ld1, c2, cd2, dm2, dq2, lk2, ld2])
    (mcl : m (Str.ofString "cells") = some (.ref cl)) (msz : m (Str.ofString "sizes") = some (.ref sz)) (mca : m (Str.ofString "caches") = some (.ref ca)) {κ : Str} {tκ ti td tn : Tok} {i dd : Int} {Do no Dt nt : Nat} {v1 v2 : Value} {b1 b2 : Bool} (x1 : o1.data = .cell (some (.ref kn))) (x2 : o2.data = .cell (some (.int i ti))) (x3 : o3.data = .cell (some (.int dd td))) (x4 : o4.data = .cell (some (.str κ tκ))) (hdd : 0 ≤ dd ∧ dd < 6) (mth : m (Str.ofString "there") = some (.ref Dt)) (mto : m (Str.ofString "told") = some (.ref Do)) (mDt : (Dt, listOf #[.bool b1, .bool b2] nt) ∈ rest) (mDo : (Do, listOf #[v1, v2] no) ∈ rest) (hk1 : ko1.IsDictOf (strKind prog w) kk1) (hk2 : ko2.IsDictOf (strKind prog w) kk2) (lok1 : (k1 == sysModules) = false) (lok2 : (k2 == sysModules) = false) (zk1 : kk1.length ≤ 900) (zk2 : kk2.length ≤ 900) (x5 : o5.data = .cell (some (.int 0 tn))) (hT : Told dd b1 (kset dd b1 kk1 κ (.int i ti)) κ v1) (hai : ∀ y, valueAt (kset dd b1 kk1 κ (.int i ti)) κ = some y → ∃ x t, y = .int x t) (zk' : (kset dd b1 kk1 κ (.int i ti)).length ≤ 900)
    (h : ∀ h' tk m' ko1', (∀ y, y ≠ (Str.ofString "wanted") → m' y = m y) → ko1'.IsDictOf (strKind prog w) (kset dd b1 kk1 κ (.int i ti)) → Fr h₀ L h' m' → News h₀ L h' ((L + 1, o1) :: (L + 1 + 1, o2) :: (L + 1 + 1 + 1, o3) :: (L + 1 + 1 + 1 + 1, o4) :: (L + 1 + 1 + 1 + 1 + 1, o5) :: (L + 1 + 1 + 1 + 1 + 1 + 1, o6) :: (L + 1 + 1 + 1 + 1 + 1 + 1 + 1, o7) :: (cl, listOf vs.toArray ncl) :: (sz, listOf #[.int cap1 u1, .int cap2 u2] nsz) :: (ca, listOf #[.ref c1, .ref c2] nca) :: (kn, listOf #[.ref k1, .ref k2] nkn) :: (k1, ko1') :: (k2, ko2) :: (c1, instObj 169 cd1) :: (cd1, cdObj w dm1 dq1 lk1 cap1 ua1 ta1 tb1 tc1 td1) :: (dm1, od1) :: (dq1, listOf (svs ps1) nq1) :: (lk1, instObj 45 ld1) :: (ld1, dictOf [] 0) :: (c2, instObj 169 cd2) :: (cd2, cdObj w dm2 dq2 lk2 cap2 ua2 ta2 tb2 tc2 td2) :: (dm2, od2) :: (dq2, listOf (svs ps2) nq2) :: (lk2, instObj 45 ld2) :: (ld2, dictOf [] 0) :: rest) → Q .next { s with heap := h', toks := tk }) :
    wpAny (model prog w) (callerA.deeper (lawE w L fa cv)) (execs (bodyS (st5 w)) (lawE w L fa cv)) Q E s := by
  show wpAny _ _ (execs [(hdS (bodyS (st5 w))), (hdS (tlS (bodyS (st5 w)))), (hdS (tlS (tlS (bodyS (st5 w)))))] _) _ _ _
  refine ex_cons (told1a B X T F N q0 hroff mcl msz mca x1 x2 x3 x4 hdd mth mto mDt mDo hk1 hk2 lok1 lok2 zk1 zk2 x5 fun h1 tk1 ko1' hk1' F1 N1 => ?_)
  dsimp only
  refine ex_cons (told1b (kk1 := kset dd b1 kk1 κ (.int i ti)) B X T F1 N1 q0 hroff mcl msz mca x1 x2 x3 x4 hdd mth mto mDt mDo hk1' hk2 lok1 lok2 zk' zk2 x5 hai fun h2 tk2 wv hw1 hW F2 N2 => ?_)
  dsimp only
  refine ex_cons (told1c (kk1 := kset dd b1 kk1 κ (.int i ti)) B X T F2 N2 q0 hroff mcl msz mca x1 x2 x3 x4 hdd mth mto mDt mDo hk1' hk2 lok1 lok2 zk' zk2 x5 rfl (told_c hT hW) fun h3 tk3 F3 N3 => ?_)
  dsimp only
  refine wpAny_execs_nil (h h3 tk3 _ ko1' (fun y hy => by simp only [hy, if_false]) hk1' F3 N3)
end
end
section
section
variable {prog : Program} {w : World} {h₀ : Heap} {L fa : Nat} {cv : Value} {mean : ExcName → Option Value} {mg mb : Str → Option Value} {s : Shared} {m : Str → Option Value} {Q : Flow → Shared → Prop} {E : Value → Shared → Prop} {rest : List (Addr × Obj)}
  {o1 o2 o3 o4 o5 o6 o7 ko1 ko2 od1 od2 : Obj} {cl sz ca kn k1 k2 c1 cd1 dm1 dq1 lk1 ld1 c2 cd2 dm2 dq2 lk2 ld2 : Nat} {ncl nsz nca nkn nq1 nq2 u1 u2 ua1 ua2 ta1 ta2 tb1 tb2 tc1 tc2 td1 td2 : Nat} {cap1 cap2 : Int}
  {vs : List Value} {ns : List Int} {ps1 ps2 : List (Str × Nat)} {kvs1 kvs2 kk1 kk2 : List (Str × Value)}
theorem told2 (B : Below callerA h₀ [] h₀) (X : (Mine.hd.heap_39 w.params).In h₀) (T : TT mean mg mb h₀) (F : Fr h₀ L s.heap m) (N : News h₀ L s.heap ((L + 1, o1) :: (L + 1 + 1, o2) :: (L + 1 + 1 + 1, o3) :: (L + 1 + 1 + 1 + 1, o4) :: (L + 1 + 1 + 1 + 1 + 1, o5) :: (L + 1 + 1 + 1 + 1 + 1 + 1, o6) :: (L + 1 + 1 + 1 + 1 + 1 + 1 + 1, o7) :: (cl, listOf vs.toArray ncl) :: (sz, listOf #[.int cap1 u1, .int cap2 u2] nsz) :: (ca, listOf #[.ref c1, .ref c2] nca) :: (kn, listOf #[.ref k1, .ref k2] nkn) :: (k1, ko1) :: (k2, ko2) :: (c1, instObj 169 cd1) :: (cd1, cdObj w dm1 dq1 lk1 cap1 ua1 ta1 tb1 tc1 td1) :: (dm1, od1) :: (dq1, listOf (svs ps1) nq1) :: (lk1, instObj 45 ld1) :: (ld1, dictOf [] 0) :: (c2, instObj 169 cd2) :: (cd2, cdObj w dm2 dq2 lk2 cap2 ua2 ta2 tb2 tc2 td2) :: (dm2, od2) :: (dq2, listOf (svs ps2) nq2) :: (lk2, instObj 45 ld2) :: (ld2, dictOf [] 0) :: rest))
    (q0 : (L + 1 + 1 + 1 + 1 + 1 + 1 + 1 < sz ∧ L + 1 ≠ cl ∧ L + 1 + 1 ≠ cl ∧ L + 1 + 1 + 1 ≠ cl ∧ L + 1 + 1 + 1 + 1 ≠ cl ∧ L + 1 + 1 + 1 + 1 + 1 ≠ cl ∧ L + 1 + 1 + 1 + 1 + 1 + 1 ≠ cl ∧ L + 1 + 1 + 1 + 1 + 1 + 1 + 1 ≠ cl) ∧ cl < sz ∧ sz < cd1 ∧ cd1 < c1 ∧ c1 < dm1 ∧ dm1 < dq1 ∧ dq1 < ld1 ∧ ld1 < lk1 ∧ lk1 < cd2 ∧ cd2 < c2 ∧ c2 < dm2 ∧ dm2 < dq2 ∧ dq2 < ld2 ∧ ld2 < lk2 ∧ lk2 < ca ∧ ca < kn ∧ ca < k1 ∧ ca < k2 ∧ k1 ≠ k2 ∧ k1 ≠ kn ∧ k2 ≠ kn)
    (hroff : OwnOff rest [L + 1, L + 1 + 1, L + 1 + 1 + 1, L + 1 + 1 + 1 + 1, L + 1 + 1 + 1 + 1 + 1, L + 1 + 1 + 1 + 1 + 1 + 1, L + 1 + 1 + 1 + 1 + 1 + 1 + 1, kn, k1, k2, c1, cd1, dm1, dq1, lk1, ld1, c2, cd2, dm2, dq2, lk2, ld2])
    (mcl : m (Str.ofString "cells") = some (.ref cl)) (msz : m (Str.ofString "sizes") = some (.ref sz)) (mca : m (Str.ofString "caches") = some (.ref ca)) {κ : Str} {tκ ti td tn : Tok} {i dd : Int} {Do no Dt nt : Nat} {v1 v2 : Value} {b1 b2 : Bool} (x1 : o1.data = .cell (some (.ref kn))) (x2 : o2.data = .cell (some (.int i ti))) (x3 : o3.data = .cell (some (.int dd td))) (x4 : o4.data = .cell (some (.str κ tκ))) (hdd : 0 ≤ dd ∧ dd < 6) (mth : m (Str.ofString "there") = some (.ref Dt)) (mto : m (Str.ofString "told") = some (.ref Do)) (mDt : (Dt, listOf #[.bool b1, .bool b2] nt) ∈ rest) (mDo : (Do, listOf #[v1, v2] no) ∈ rest) (hk1 : ko1.IsDictOf (strKind prog w) kk1) (hk2 : ko2.IsDictOf (strKind prog w) kk2) (lok1 : (k1 == sysModules) = false) (lok2 : (k2 == sysModules) = false) (zk1 : kk1.length ≤ 900) (zk2 : kk2.length ≤ 900) (x5 : o5.data = .cell (some (.int 1 tn))) (hT : Told dd b2 (kset dd b2 kk2 κ (.int i ti)) κ v2) (hai : ∀ y, valueAt (kset dd b2 kk2 κ (.int i ti)) κ = some y → ∃ x t, y = .int x t) (zk' : (kset dd b2 kk2 κ (.int i ti)).length ≤ 900)
    (h : ∀ h' tk m' ko2', (∀ y, y ≠ (Str.ofString "wanted") → m' y = m y) → ko2'.IsDictOf (strKind prog w) (kset dd b2 kk2 κ (.int i ti)) → Fr h₀ L h' m' → News h₀ L h' ((L + 1, o1) :: (L + 1 + 1, o2) :: (L + 1 + 1 + 1, o3) :: (L + 1 + 1 + 1 + 1, o4) :: (L + 1 + 1 + 1 + 1 + 1, o5) :: (L + 1 + 1 + 1 + 1 + 1 + 1, o6) :: (L + 1 + 1 + 1 + 1 + 1 + 1 + 1, o7) :: (cl, listOf vs.toArray ncl) :: (sz, listOf #[.int cap1 u1, .int cap2 u2] nsz) :: (ca, listOf #[.ref c1, .ref c2] nca) :: (kn, listOf #[.ref k1, .ref k2] nkn) :: (k1, ko1) :: (k2, ko2') :: (c1, instObj 169 cd1) :: (cd1, cdObj w dm1 dq1 lk1 cap1 ua1 ta1 tb1 tc1 td1) :: (dm1, od1) :: (dq1, listOf (svs ps1) nq1) :: (lk1, instObj 45 ld1) :: (ld1, dictOf [] 0) :: (c2, instObj 169 cd2) :: (cd2, cdObj w dm2 dq2 lk2 cap2 ua2 ta2 tb2 tc2 td2) :: (dm2, od2) :: (dq2, listOf (svs ps2) nq2) :: (lk2, instObj 45 ld2) :: (ld2, dictOf [] 0) :: rest) → Q .next { s with heap := h', toks := tk }) :
    wpAny (model prog w) (callerA.deeper (lawE w L fa cv)) (execs (bodyS (st5 w)) (lawE w L fa cv)) Q E s := by
  show wpAny _ _ (execs [(hdS (bodyS (st5 w))), (hdS (tlS (bodyS (st5 w)))), (hdS (tlS (tlS (bodyS (st5 w)))))] _) _ _ _
  refine ex_cons (told2a B X T F N q0 hroff mcl msz mca x1 x2 x3 x4 hdd mth mto mDt mDo hk1 hk2 lok1 lok2 zk1 zk2 x5 fun h1 tk1 ko2' hk2' F1 N1 => ?_)
  dsimp only
  refine ex_cons (told2b (kk2 := kset dd b2 kk2 κ (.int i ti)) B X T F1 N1 q0 hroff mcl msz mca x1 x2 x3 x4 hdd mth mto mDt mDo hk1 hk2' lok1 lok2 zk1 zk' x5 hai fun h2 tk2 wv hw1 hW F2 N2 => ?_)
  dsimp only
  refine ex_cons (told2c (kk2 := kset dd b2 kk2 κ (.int i ti)) B X T F2 N2 q0 hroff mcl msz mca x1 x2 x3 x4 hdd mth mto mDt mDo hk1 hk2' lok1 lok2 zk1 zk' x5 rfl (told_c hT hW) fun h3 tk3 F3 N3 => ?_)
  dsimp only
  refine wpAny_execs_nil (h h3 tk3 _ ko2' (fun y hy => by simp only [hy, if_false]) hk2' F3 N3)
end
end
section
local macro_rules | `(tactic| k_mem) => `(tactic| first | with_reducible exact List.mem_cons_self | with_reducible assumption | (with_reducible refine List.mem_cons_of_mem _ ?_; k_mem))
local macro_rules | `(tactic| walk_at "eval Name") => `(tactic| (k_here; k_dflt (refine' nameX_L ?F ?v ?_ ?a ?b; (case a => rfl); (case b => rfl); (case F => k_asm); (case v => assumption))))
local macro_rules | `(tactic| walk_at "call type:list") => `(tactic| (k_here; (with_reducible show wpAny _ _ (call (Value.type "list") [Value.ref _]) _ _ _); k_dflt (refine' list_w (base := ?bb) (A₀ := ?aa) ?C ?m1 ?m2 ?m3 ?m4 ?m5 ?m6 ?o ?d ?lo ?z rfl ?u ?_; (case C => exact ⟨by assumption, by k_asm, by assumption, by k_asm, by assumption, rfl, rfl, rfl, by (simp only [depth_mark, depth_deeper, depth_caller]; decide), by (simp only [units_mark, units_deeper]; decide)⟩); (case m1 => k_mem); (case m2 => k_mem); (case m3 => k_mem); (case m4 => k_mem); (case m5 => k_mem); (case m6 => k_mem); (case u => simp only [units_mark, units_deeper]; decide); (case o => exact ⟨by assumption, by assumption, by assumption, by assumption, by assumption⟩); (case d => assumption); (case lo => assumption); (case z => exact ⟨by assumption, by assumption⟩)); intro h' tk' D' n' F' N' l1; (have l2 := l1); (k_lt l2); (try k_sweep); (try k_unmd)))
local macro_rules | `(tactic| walk_at "compareOp In str ref") => `(tactic| (k_here; k_dflt (refine' in_strs ?l ?_; (case l => exact ⟨_, News.get (by k_asm) (by k_mem), rfl, _, rfl⟩))))
local macro_rules | `(tactic| walk_at "CompSrc") => `(tactic| (k_here; refine halt ?_))
local macro_rules | `(tactic| walk_at "CompSrcT") => `(tactic| (k_here; refine halt ?_))
local macro_rules | `(tactic| walk_at "call ref") => `(tactic| (k_here; (with_reducible show wpAny _ _ (call (Value.ref 180) _) _ _ _); refine halt ?_))
local macro_rules | `(tactic| walk_at "call ref") => `(tactic| (k_here; (with_reducible show wpAny _ _ (call (Value.ref 93) _) _ _ _); refine halt ?_))
section
variable {prog : Program} {w : World} {h₀ : Heap} {L fa : Nat} {cv : Value} {mean : ExcName → Option Value} {mg mb : Str → Option Value} {s : Shared} {m : Str → Option Value} {Q : Flow → Shared → Prop} {E : Value → Shared → Prop} {rest : List (Addr × Obj)}
  {o1 o2 o3 o4 o5 o6 o7 ko1 ko2 od1 od2 : Obj} {cl sz ca kn k1 k2 c1 cd1 dm1 dq1 lk1 ld1 c2 cd2 dm2 dq2 lk2 ld2 : Nat} {ncl nsz nca nkn nq1 nq2 u1 u2 ua1 ua2 ta1 ta2 tb1 tb2 tc1 tc2 td1 td2 : Nat} {cap1 cap2 : Int}
  {vs : List Value} {ns : List Int} {ps1 ps2 : List (Str × Nat)} {kvs1 kvs2 kk1 kk2 : List (Str × Value)}
set_option maxRecDepth 100000 in
set_option maxHeartbeats 8000000 in
theorem turn5 (B : Below callerA h₀ [] h₀) (X : (Mine.hd.heap_39 w.params).In h₀) (T : TT mean mg mb h₀) (F : Fr h₀ L s.heap m) (N : News h₀ L s.heap ((L + 1, o1) :: (L + 1 + 1, o2) :: (L + 1 + 1 + 1, o3) :: (L + 1 + 1 + 1 + 1, o4) :: (L + 1 + 1 + 1 + 1 + 1, o5) :: (L + 1 + 1 + 1 + 1 + 1 + 1, o6) :: (L + 1 + 1 + 1 + 1 + 1 + 1 + 1, o7) :: (cl, listOf vs.toArray ncl) :: (sz, listOf #[.int cap1 u1, .int cap2 u2] nsz) :: (ca, listOf #[.ref c1, .ref c2] nca) :: (kn, listOf #[.ref k1, .ref k2] nkn) :: (k1, ko1) :: (k2, ko2) :: (c1, instObj 169 cd1) :: (cd1, cdObj w dm1 dq1 lk1 cap1 ua1 ta1 tb1 tc1 td1) :: (dm1, od1) :: (dq1, listOf (svs ps1) nq1) :: (lk1, instObj 45 ld1) :: (ld1, dictOf [] 0) :: (c2, instObj 169 cd2) :: (cd2, cdObj w dm2 dq2 lk2 cap2 ua2 ta2 tb2 tc2 td2) :: (dm2, od2) :: (dq2, listOf (svs ps2) nq2) :: (lk2, instObj 45 ld2) :: (ld2, dictOf [] 0) :: rest))
    (q0 : (L + 1 + 1 + 1 + 1 + 1 + 1 + 1 < sz ∧ L + 1 ≠ cl ∧ L + 1 + 1 ≠ cl ∧ L + 1 + 1 + 1 ≠ cl ∧ L + 1 + 1 + 1 + 1 ≠ cl ∧ L + 1 + 1 + 1 + 1 + 1 ≠ cl ∧ L + 1 + 1 + 1 + 1 + 1 + 1 ≠ cl ∧ L + 1 + 1 + 1 + 1 + 1 + 1 + 1 ≠ cl) ∧ cl < sz ∧ sz < cd1 ∧ cd1 < c1 ∧ c1 < dm1 ∧ dm1 < dq1 ∧ dq1 < ld1 ∧ ld1 < lk1 ∧ lk1 < cd2 ∧ cd2 < c2 ∧ c2 < dm2 ∧ dm2 < dq2 ∧ dq2 < ld2 ∧ ld2 < lk2 ∧ lk2 < ca ∧ ca < kn ∧ ca < k1 ∧ ca < k2 ∧ k1 ≠ k2 ∧ k1 ≠ kn ∧ k2 ≠ kn)
    (hroff : OwnOff rest [L + 1, L + 1 + 1, L + 1 + 1 + 1, L + 1 + 1 + 1 + 1, L + 1 + 1 + 1 + 1 + 1, L + 1 + 1 + 1 + 1 + 1 + 1, L + 1 + 1 + 1 + 1 + 1 + 1 + 1, kn, k1, k2, c1, cd1, dm1, dq1, lk1, ld1, c2, cd2, dm2, dq2, lk2, ld2])
    (mcl : m (Str.ofString "cells") = some (.ref cl)) (msz : m (Str.ofString "sizes") = some (.ref sz)) (mca : m (Str.ofString "caches") = some (.ref ca)) {κ : Str} {tκ ti td tn : Tok} {i dd : Int} {Do no Dt nt : Nat} {v1 v2 : Value} {b1 b2 : Bool} (x1 : o1.data = .cell (some (.ref kn))) (x2 : o2.data = .cell (some (.int i ti))) (x3 : o3.data = .cell (some (.int dd td))) (x4 : o4.data = .cell (some (.str κ tκ))) (hdd : 0 ≤ dd ∧ dd < 6) (mth : m (Str.ofString "there") = some (.ref Dt)) (mto : m (Str.ofString "told") = some (.ref Do)) (mDt : (Dt, listOf #[.bool b1, .bool b2] nt) ∈ rest) (mDo : (Do, listOf #[v1, v2] no) ∈ rest) (hk1 : ko1.IsDictOf (strKind prog w) kk1) (hk2 : ko2.IsDictOf (strKind prog w) kk2) (lok1 : (k1 == sysModules) = false) (lok2 : (k2 == sysModules) = false) (zk1 : kk1.length ≤ 900) (zk2 : kk2.length ≤ 900) {y5 : Option Value} (x5 : o5.data = .cell y5) (hT1 : Told dd b1 (kset dd b1 kk1 κ (.int i ti)) κ v1) (hT2 : Told dd b2 (kset dd b2 kk2 κ (.int i ti)) κ v2) (hai1 : ∀ y, valueAt (kset dd b1 kk1 κ (.int i ti)) κ = some y → ∃ x t, y = .int x t) (hai2 : ∀ y, valueAt (kset dd b2 kk2 κ (.int i ti)) κ = some y → ∃ x t, y = .int x t) (zk1' : (kset dd b1 kk1 κ (.int i ti)).length ≤ 900) (zk2' : (kset dd b2 kk2 κ (.int i ti)).length ≤ 900)
    (h : ∀ h' tk m' oo5 y5 ko1' ko2', (∀ y, y ≠ (Str.ofString "wanted") → m' y = m y) → oo5.data = .cell y5 → ko1'.IsDictOf (strKind prog w) (kset dd b1 kk1 κ (.int i ti)) → ko2'.IsDictOf (strKind prog w) (kset dd b2 kk2 κ (.int i ti)) → Fr h₀ L h' m' → News h₀ L h' ((L + 1, o1) :: (L + 1 + 1, o2) :: (L + 1 + 1 + 1, o3) :: (L + 1 + 1 + 1 + 1, o4) :: (L + 1 + 1 + 1 + 1 + 1, oo5) :: (L + 1 + 1 + 1 + 1 + 1 + 1, o6) :: (L + 1 + 1 + 1 + 1 + 1 + 1 + 1, o7) :: (cl, listOf vs.toArray ncl) :: (sz, listOf #[.int cap1 u1, .int cap2 u2] nsz) :: (ca, listOf #[.ref c1, .ref c2] nca) :: (kn, listOf #[.ref k1, .ref k2] nkn) :: (k1, ko1') :: (k2, ko2') :: (c1, instObj 169 cd1) :: (cd1, cdObj w dm1 dq1 lk1 cap1 ua1 ta1 tb1 tc1 td1) :: (dm1, od1) :: (dq1, listOf (svs ps1) nq1) :: (lk1, instObj 45 ld1) :: (ld1, dictOf [] 0) :: (c2, instObj 169 cd2) :: (cd2, cdObj w dm2 dq2 lk2 cap2 ua2 ta2 tb2 tc2 td2) :: (dm2, od2) :: (dq2, listOf (svs ps2) nq2) :: (lk2, instObj 45 ld2) :: (ld2, dictOf [] 0) :: rest) → Q .next { s with heap := h', toks := tk }) :
    wpAny (model prog w) (callerA.deeper (lawE w L fa cv)) (exec (st5 w) (lawE w L fa cv)) Q E s := by
  have e5 : ∃ px iter pos, st5 w = .For (.Name (Str.ofString "n") px) iter (bodyS (st5 w)) [] pos := ⟨_, _, _, rfl⟩
  have q0c := q0
  obtain ⟨q1, q2, q3, q4, q5, q6, q7, q8, q9, q10, q11, q12, q13, q14, q15, q16, q17, q18, q19, q20, q21⟩ := q0c
  unfold st5 turnB forS lawB lawF
  dsimp only [hdS, tlS, bodyS]
  show wpAny _ (callerA.deeper (envOfC "law" (lawS w) L fa cv)) (exec _ (envOfC "law" (lawS w) L fa cv)) _ _ _
  unfold lawS lawF
  dsimp only
  (try k_fold)
  refine for_range (h₀ := h₀) (L := L) (body := bodyS (st5 w)) ?_
  k_steps
  refine ⟨_, 0, 2, _, _, _, 2, m, ((L + 1, o1) :: (L + 1 + 1, o2) :: (L + 1 + 1 + 1, o3) :: (L + 1 + 1 + 1 + 1, o4) :: (L + 1 + 1 + 1 + 1 + 1, o5) :: (L + 1 + 1 + 1 + 1 + 1 + 1, o6) :: (L + 1 + 1 + 1 + 1 + 1 + 1 + 1, o7) :: (cl, listOf vs.toArray ncl) :: (sz, listOf #[.int cap1 u1, .int cap2 u2] nsz) :: (ca, listOf #[.ref c1, .ref c2] nca) :: (kn, listOf #[.ref k1, .ref k2] nkn) :: (k1, ko1) :: (k2, ko2) :: (c1, instObj 169 cd1) :: (cd1, cdObj w dm1 dq1 lk1 cap1 ua1 ta1 tb1 tc1 td1) :: (dm1, od1) :: (dq1, listOf (svs ps1) nq1) :: (lk1, instObj 45 ld1) :: (ld1, dictOf [] 0) :: (c2, instObj 169 cd2) :: (cd2, cdObj w dm2 dq2 lk2 cap2 ua2 ta2 tb2 tc2 td2) :: (dm2, od2) :: (dq2, listOf (svs ps2) nq2) :: (lk2, instObj 45 ld2) :: (ld2, dictOf [] 0) :: rest), fun jj m' nw => match jj with | 0 => (∀ y, y ≠ (Str.ofString "wanted") → m' y = m y) ∧ ∃ oo5 y5, oo5.data = .cell y5 ∧ nw = ((L + 1, o1) :: (L + 1 + 1, o2) :: (L + 1 + 1 + 1, o3) :: (L + 1 + 1 + 1 + 1, o4) :: (L + 1 + 1 + 1 + 1 + 1, oo5) :: (L + 1 + 1 + 1 + 1 + 1 + 1, o6) :: (L + 1 + 1 + 1 + 1 + 1 + 1 + 1, o7) :: (cl, listOf vs.toArray ncl) :: (sz, listOf #[.int cap1 u1, .int cap2 u2] nsz) :: (ca, listOf #[.ref c1, .ref c2] nca) :: (kn, listOf #[.ref k1, .ref k2] nkn) :: (k1, ko1) :: (k2, ko2) :: (c1, instObj 169 cd1) :: (cd1, cdObj w dm1 dq1 lk1 cap1 ua1 ta1 tb1 tc1 td1) :: (dm1, od1) :: (dq1, listOf (svs ps1) nq1) :: (lk1, instObj 45 ld1) :: (ld1, dictOf [] 0) :: (c2, instObj 169 cd2) :: (cd2, cdObj w dm2 dq2 lk2 cap2 ua2 ta2 tb2 tc2 td2) :: (dm2, od2) :: (dq2, listOf (svs ps2) nq2) :: (lk2, instObj 45 ld2) :: (ld2, dictOf [] 0) :: rest) | 1 => (∀ y, y ≠ (Str.ofString "wanted") → m' y = m y) ∧ ∃ oo5 y5 ko1', oo5.data = .cell y5 ∧ ko1'.IsDictOf (strKind prog w) (kset dd b1 kk1 κ (.int i ti)) ∧ nw = ((L + 1, o1) :: (L + 1 + 1, o2) :: (L + 1 + 1 + 1, o3) :: (L + 1 + 1 + 1 + 1, o4) :: (L + 1 + 1 + 1 + 1 + 1, oo5) :: (L + 1 + 1 + 1 + 1 + 1 + 1, o6) :: (L + 1 + 1 + 1 + 1 + 1 + 1 + 1, o7) :: (cl, listOf vs.toArray ncl) :: (sz, listOf #[.int cap1 u1, .int cap2 u2] nsz) :: (ca, listOf #[.ref c1, .ref c2] nca) :: (kn, listOf #[.ref k1, .ref k2] nkn) :: (k1, ko1') :: (k2, ko2) :: (c1, instObj 169 cd1) :: (cd1, cdObj w dm1 dq1 lk1 cap1 ua1 ta1 tb1 tc1 td1) :: (dm1, od1) :: (dq1, listOf (svs ps1) nq1) :: (lk1, instObj 45 ld1) :: (ld1, dictOf [] 0) :: (c2, instObj 169 cd2) :: (cd2, cdObj w dm2 dq2 lk2 cap2 ua2 ta2 tb2 tc2 td2) :: (dm2, od2) :: (dq2, listOf (svs ps2) nq2) :: (lk2, instObj 45 ld2) :: (ld2, dictOf [] 0) :: rest) | _ => (∀ y, y ≠ (Str.ofString "wanted") → m' y = m y) ∧ ∃ oo5 y5 ko1' ko2', oo5.data = .cell y5 ∧ ko1'.IsDictOf (strKind prog w) (kset dd b1 kk1 κ (.int i ti)) ∧ ko2'.IsDictOf (strKind prog w) (kset dd b2 kk2 κ (.int i ti)) ∧ nw = ((L + 1, o1) :: (L + 1 + 1, o2) :: (L + 1 + 1 + 1, o3) :: (L + 1 + 1 + 1 + 1, o4) :: (L + 1 + 1 + 1 + 1 + 1, oo5) :: (L + 1 + 1 + 1 + 1 + 1 + 1, o6) :: (L + 1 + 1 + 1 + 1 + 1 + 1 + 1, o7) :: (cl, listOf vs.toArray ncl) :: (sz, listOf #[.int cap1 u1, .int cap2 u2] nsz) :: (ca, listOf #[.ref c1, .ref c2] nca) :: (kn, listOf #[.ref k1, .ref k2] nkn) :: (k1, ko1') :: (k2, ko2') :: (c1, instObj 169 cd1) :: (cd1, cdObj w dm1 dq1 lk1 cap1 ua1 ta1 tb1 tc1 td1) :: (dm1, od1) :: (dq1, listOf (svs ps1) nq1) :: (lk1, instObj 45 ld1) :: (ld1, dictOf [] 0) :: (c2, instObj 169 cd2) :: (cd2, cdObj w dm2 dq2 lk2 cap2 ua2 ta2 tb2 tc2 td2) :: (dm2, od2) :: (dq2, listOf (svs ps2) nq2) :: (lk2, instObj 45 ld2) :: (ld2, dictOf [] 0) :: rest), rfl, rfl, by assumption, by assumption, by assumption, by rfl, by rfl, ⟨fun _ _ => rfl, o5, _, x5, rfl⟩, ?_, ?_⟩
  · intro ii m' nw I oI h2 tk2 t E' hi2 hJ F2 N2 off
    rcases (by omega : ii = 0 ∨ ii = 1) with rfl | rfl
    · obtain ⟨hag, oo5, y5', ho5, rfl⟩ := hJ
      have off' := off
      simp only [LCg.Off1, and_true] at off'
      show wpAny _ (callerA.deeper (envOfC "law" (lawS w) L fa cv)) (storeName (envOfC "law" (lawS w) L fa cv) _ (.int 0 t)) _ _ _
      · unfold lawS lawF
        dsimp only
        refine storeX_C (v := .int 0 t) F2 N2 (by rfl) (by k_updF) ho5 (fun h3 oo5' F3 N3 d3 => ?_) (by rfl) (by rfl)
        have N4 := news_in ((L + 1, o1) :: (L + 1 + 1, o2) :: (L + 1 + 1 + 1, o3) :: (L + 1 + 1 + 1 + 1, o4) :: (L + 1 + 1 + 1 + 1 + 1, oo5') :: (L + 1 + 1 + 1 + 1 + 1 + 1, o6) :: (L + 1 + 1 + 1 + 1 + 1 + 1 + 1, o7) :: (cl, listOf vs.toArray ncl) :: (sz, listOf #[.int cap1 u1, .int cap2 u2] nsz) :: (ca, listOf #[.ref c1, .ref c2] nca) :: (kn, listOf #[.ref k1, .ref k2] nkn) :: (k1, ko1) :: (k2, ko2) :: (c1, instObj 169 cd1) :: (cd1, cdObj w dm1 dq1 lk1 cap1 ua1 ta1 tb1 tc1 td1) :: (dm1, od1) :: (dq1, listOf (svs ps1) nq1) :: (lk1, instObj 45 ld1) :: (ld1, dictOf [] 0) :: (c2, instObj 169 cd2) :: (cd2, cdObj w dm2 dq2 lk2 cap2 ua2 ta2 tb2 tc2 td2) :: (dm2, od2) :: (dq2, listOf (svs ps2) nq2) :: (lk2, instObj 45 ld2) :: (ld2, dictOf [] 0) :: []) [(I, oI)] N3
        refine told1 (rest := (I, oI) :: rest) (kk1 := kk1) B X T F3 N4 q0 (own_cons (off1_off off (by intro b hb; simp only [List.mem_cons, List.mem_nil_iff, or_false] at hb; rcases hb with rfl | rfl | rfl | rfl | rfl | rfl | rfl | rfl | rfl | rfl | rfl | rfl | rfl | rfl | rfl | rfl | rfl | rfl | rfl | rfl | rfl | rfl <;> exact ⟨_, by k_mem⟩)) hroff) ((hag _ (by decide)).trans mcl) ((hag _ (by decide)).trans msz) ((hag _ (by decide)).trans mca) x1 x2 x3 x4 hdd ((hag _ (by decide)).trans mth) ((hag _ (by decide)).trans mto) (List.mem_cons_of_mem _ mDt) (List.mem_cons_of_mem _ mDo) hk1 hk2 lok1 lok2 zk1 zk2 d3 hT1 hai1 zk1' fun h5 tk5 m5 ko1' hag5 hk5 F5 N5 => ?_
        have N6 := news_in [(I, oI)] ((L + 1, o1) :: (L + 1 + 1, o2) :: (L + 1 + 1 + 1, o3) :: (L + 1 + 1 + 1 + 1, o4) :: (L + 1 + 1 + 1 + 1 + 1, oo5') :: (L + 1 + 1 + 1 + 1 + 1 + 1, o6) :: (L + 1 + 1 + 1 + 1 + 1 + 1 + 1, o7) :: (cl, listOf vs.toArray ncl) :: (sz, listOf #[.int cap1 u1, .int cap2 u2] nsz) :: (ca, listOf #[.ref c1, .ref c2] nca) :: (kn, listOf #[.ref k1, .ref k2] nkn) :: (k1, ko1') :: (k2, ko2) :: (c1, instObj 169 cd1) :: (cd1, cdObj w dm1 dq1 lk1 cap1 ua1 ta1 tb1 tc1 td1) :: (dm1, od1) :: (dq1, listOf (svs ps1) nq1) :: (lk1, instObj 45 ld1) :: (ld1, dictOf [] 0) :: (c2, instObj 169 cd2) :: (cd2, cdObj w dm2 dq2 lk2 cap2 ua2 ta2 tb2 tc2 td2) :: (dm2, od2) :: (dq2, listOf (svs ps2) nq2) :: (lk2, instObj 45 ld2) :: (ld2, dictOf [] 0) :: []) N5
        exact ⟨rfl, h5, tk5, m5, _, rfl, F5, N6, off, fun y hy => (hag5 y hy).trans (hag y hy), oo5', _, ko1', d3, hk5, rfl⟩
    · obtain ⟨hag, oo5, y5', ko1', ho5, hka, rfl⟩ := hJ
      have off' := off
      simp only [LCg.Off1, and_true] at off'
      show wpAny _ (callerA.deeper (envOfC "law" (lawS w) L fa cv)) (storeName (envOfC "law" (lawS w) L fa cv) _ (.int 1 t)) _ _ _
      · unfold lawS lawF
        dsimp only
        refine storeX_C (v := .int 1 t) F2 N2 (by rfl) (by k_updF) ho5 (fun h3 oo5' F3 N3 d3 => ?_) (by rfl) (by rfl)
        have N4 := news_in ((L + 1, o1) :: (L + 1 + 1, o2) :: (L + 1 + 1 + 1, o3) :: (L + 1 + 1 + 1 + 1, o4) :: (L + 1 + 1 + 1 + 1 + 1, oo5') :: (L + 1 + 1 + 1 + 1 + 1 + 1, o6) :: (L + 1 + 1 + 1 + 1 + 1 + 1 + 1, o7) :: (cl, listOf vs.toArray ncl) :: (sz, listOf #[.int cap1 u1, .int cap2 u2] nsz) :: (ca, listOf #[.ref c1, .ref c2] nca) :: (kn, listOf #[.ref k1, .ref k2] nkn) :: (k1, ko1') :: (k2, ko2) :: (c1, instObj 169 cd1) :: (cd1, cdObj w dm1 dq1 lk1 cap1 ua1 ta1 tb1 tc1 td1) :: (dm1, od1) :: (dq1, listOf (svs ps1) nq1) :: (lk1, instObj 45 ld1) :: (ld1, dictOf [] 0) :: (c2, instObj 169 cd2) :: (cd2, cdObj w dm2 dq2 lk2 cap2 ua2 ta2 tb2 tc2 td2) :: (dm2, od2) :: (dq2, listOf (svs ps2) nq2) :: (lk2, instObj 45 ld2) :: (ld2, dictOf [] 0) :: []) [(I, oI)] N3
        refine told2 (rest := (I, oI) :: rest) (kk1 := (kset dd b1 kk1 κ (.int i ti))) B X T F3 N4 q0 (own_cons (off1_off off (by intro b hb; simp only [List.mem_cons, List.mem_nil_iff, or_false] at hb; rcases hb with rfl | rfl | rfl | rfl | rfl | rfl | rfl | rfl | rfl | rfl | rfl | rfl | rfl | rfl | rfl | rfl | rfl | rfl | rfl | rfl | rfl | rfl <;> exact ⟨_, by k_mem⟩)) hroff) ((hag _ (by decide)).trans mcl) ((hag _ (by decide)).trans msz) ((hag _ (by decide)).trans mca) x1 x2 x3 x4 hdd ((hag _ (by decide)).trans mth) ((hag _ (by decide)).trans mto) (List.mem_cons_of_mem _ mDt) (List.mem_cons_of_mem _ mDo) hka hk2 lok1 lok2 zk1' zk2 d3 hT2 hai2 zk2' fun h5 tk5 m5 ko2' hag5 hk5 F5 N5 => ?_
        have N6 := news_in [(I, oI)] ((L + 1, o1) :: (L + 1 + 1, o2) :: (L + 1 + 1 + 1, o3) :: (L + 1 + 1 + 1 + 1, o4) :: (L + 1 + 1 + 1 + 1 + 1, oo5') :: (L + 1 + 1 + 1 + 1 + 1 + 1, o6) :: (L + 1 + 1 + 1 + 1 + 1 + 1 + 1, o7) :: (cl, listOf vs.toArray ncl) :: (sz, listOf #[.int cap1 u1, .int cap2 u2] nsz) :: (ca, listOf #[.ref c1, .ref c2] nca) :: (kn, listOf #[.ref k1, .ref k2] nkn) :: (k1, ko1') :: (k2, ko2') :: (c1, instObj 169 cd1) :: (cd1, cdObj w dm1 dq1 lk1 cap1 ua1 ta1 tb1 tc1 td1) :: (dm1, od1) :: (dq1, listOf (svs ps1) nq1) :: (lk1, instObj 45 ld1) :: (ld1, dictOf [] 0) :: (c2, instObj 169 cd2) :: (cd2, cdObj w dm2 dq2 lk2 cap2 ua2 ta2 tb2 tc2 td2) :: (dm2, od2) :: (dq2, listOf (svs ps2) nq2) :: (lk2, instObj 45 ld2) :: (ld2, dictOf [] 0) :: []) N5
        exact ⟨rfl, h5, tk5, m5, _, rfl, F5, N6, off, fun y hy => (hag5 y hy).trans (hag y hy), oo5', _, ko1', ko2', d3, hka, hk5, rfl⟩
  · intro m' nw h2 tk2 ⟨hag, oo5, y5', ko1', ko2', ho5, hka, hkb, e⟩ F2 N2
    subst e
    (try k_unmd)
    (try k_unfold)
    (try dsimp only)
    exact h h2 _ m' oo5 _ ko1' ko2' hag ho5 hka hkb F2 N2
end
end
section
local macro_rules | `(tactic| walk_at "idle line 0") => `(tactic| fail)
local macro_rules | `(tactic| walk_at "idle line 1") => `(tactic| fail)
local macro_rules | `(tactic| walk_at "idle line 2") => `(tactic| fail)
local macro_rules | `(tactic| walk_at "idle line 3") => `(tactic| fail)
local macro_rules | `(tactic| k_mem) => `(tactic| first | with_reducible exact List.mem_cons_self | with_reducible assumption | (with_reducible refine List.mem_cons_of_mem _ ?_; k_mem))
local macro_rules | `(tactic| walk_at "eval Name") => `(tactic| (k_here; k_dflt (refine' nameX_L ?F ?v ?_ ?a ?b; (case a => rfl); (case b => rfl); (case F => k_asm); (case v => assumption))))
local macro_rules | `(tactic| walk_at "call type:list") => `(tactic| (k_here; (with_reducible show wpAny _ _ (call (Value.type "list") [Value.ref _]) _ _ _); k_dflt (refine' list_w (base := ?bb) (A₀ := ?aa) ?C ?m1 ?m2 ?m3 ?m4 ?m5 ?m6 ?o ?d ?lo ?z rfl ?u ?_; (case C => exact ⟨by assumption, by k_asm, by assumption, by k_asm, by assumption, rfl, rfl, rfl, by (simp only [depth_mark, depth_deeper, depth_caller]; decide), by (simp only [units_mark, units_deeper]; decide)⟩); (case m1 => k_mem); (case m2 => k_mem); (case m3 => k_mem); (case m4 => k_mem); (case m5 => k_mem); (case m6 => k_mem); (case u => simp only [units_mark, units_deeper]; decide); (case o => exact ⟨by assumption, by assumption, by assumption, by assumption, by assumption⟩); (case d => assumption); (case lo => assumption); (case z => exact ⟨by assumption, by assumption⟩)); intro h' tk' D' n' F' N' l1; (have l2 := l1); (k_lt l2); (try k_sweep); (try k_unmd)))
local macro_rules | `(tactic| walk_at "compareOp In str ref") => `(tactic| (k_here; k_dflt (refine' in_strs ?l ?_; (case l => exact ⟨_, News.get (by k_asm) (by k_mem), rfl, _, rfl⟩))))
local macro_rules | `(tactic| walk_at "CompSrc") => `(tactic| (k_here; refine halt ?_))
local macro_rules | `(tactic| walk_at "CompSrcT") => `(tactic| (k_here; refine halt ?_))
local macro_rules | `(tactic| walk_at "call ref") => `(tactic| (k_here; (with_reducible show wpAny _ _ (call (Value.ref 180) _) _ _ _); refine halt ?_))
local macro_rules | `(tactic| walk_at "call ref") => `(tactic| (k_here; (with_reducible show wpAny _ _ (call (Value.ref 93) _) _ _ _); refine halt ?_))
section
variable {prog : Program} {w : World} {h₀ : Heap} {L fa : Nat} {cv : Value} {mean : ExcName → Option Value} {mg mb : Str → Option Value} {s : Shared} {m : Str → Option Value} {Q : Flow → Shared → Prop} {E : Value → Shared → Prop} {rest : List (Addr × Obj)}
  {o1 o2 o3 o4 o5 o6 o7 ko1 ko2 od1 od2 : Obj} {cl sz ca kn k1 k2 c1 cd1 dm1 dq1 lk1 ld1 c2 cd2 dm2 dq2 lk2 ld2 : Nat} {ncl nsz nca nkn nq1 nq2 u1 u2 ua1 ua2 ta1 ta2 tb1 tb2 tc1 tc2 td1 td2 : Nat} {cap1 cap2 : Int}
  {vs : List Value} {ns : List Int} {ps1 ps2 : List (Str × Nat)} {kvs1 kvs2 kk1 kk2 : List (Str × Value)}
set_option maxRecDepth 100000 in
set_option maxHeartbeats 8000000 in
theorem last1a (B : Below callerA h₀ [] h₀) (X : (Mine.hd.heap_39 w.params).In h₀) (T : TT mean mg mb h₀) (F : Fr h₀ L s.heap m) (N : News h₀ L s.heap ((L + 1, o1) :: (L + 1 + 1, o2) :: (L + 1 + 1 + 1, o3) :: (L + 1 + 1 + 1 + 1, o4) :: (L + 1 + 1 + 1 + 1 + 1, o5) :: (L + 1 + 1 + 1 + 1 + 1 + 1, o6) :: (L + 1 + 1 + 1 + 1 + 1 + 1 + 1, o7) :: (cl, listOf vs.toArray ncl) :: (sz, listOf #[.int cap1 u1, .int cap2 u2] nsz) :: (ca, listOf #[.ref c1, .ref c2] nca) :: (kn, listOf #[.ref k1, .ref k2] nkn) :: (k1, ko1) :: (k2, ko2) :: (c1, instObj 169 cd1) :: (cd1, cdObj w dm1 dq1 lk1 cap1 ua1 ta1 tb1 tc1 td1) :: (dm1, od1) :: (dq1, listOf (svs ps1) nq1) :: (lk1, instObj 45 ld1) :: (ld1, dictOf [] 0) :: (c2, instObj 169 cd2) :: (cd2, cdObj w dm2 dq2 lk2 cap2 ua2 ta2 tb2 tc2 td2) :: (dm2, od2) :: (dq2, listOf (svs ps2) nq2) :: (lk2, instObj 45 ld2) :: (ld2, dictOf [] 0) :: rest))
    (q0 : (L + 1 + 1 + 1 + 1 + 1 + 1 + 1 < sz ∧ L + 1 ≠ cl ∧ L + 1 + 1 ≠ cl ∧ L + 1 + 1 + 1 ≠ cl ∧ L + 1 + 1 + 1 + 1 ≠ cl ∧ L + 1 + 1 + 1 + 1 + 1 ≠ cl ∧ L + 1 + 1 + 1 + 1 + 1 + 1 ≠ cl ∧ L + 1 + 1 + 1 + 1 + 1 + 1 + 1 ≠ cl) ∧ cl < sz ∧ sz < cd1 ∧ cd1 < c1 ∧ c1 < dm1 ∧ dm1 < dq1 ∧ dq1 < ld1 ∧ ld1 < lk1 ∧ lk1 < cd2 ∧ cd2 < c2 ∧ c2 < dm2 ∧ dm2 < dq2 ∧ dq2 < ld2 ∧ ld2 < lk2 ∧ lk2 < ca ∧ ca < kn ∧ ca < k1 ∧ ca < k2 ∧ k1 ≠ k2 ∧ k1 ≠ kn ∧ k2 ≠ kn)
    (hroff : OwnOff rest [L + 1, L + 1 + 1, L + 1 + 1 + 1, L + 1 + 1 + 1 + 1, L + 1 + 1 + 1 + 1 + 1, L + 1 + 1 + 1 + 1 + 1 + 1, L + 1 + 1 + 1 + 1 + 1 + 1 + 1, kn, k1, k2, c1, cd1, dm1, dq1, lk1, ld1, c2, cd2, dm2, dq2, lk2, ld2])
    (mcl : m (Str.ofString "cells") = some (.ref cl)) (msz : m (Str.ofString "sizes") = some (.ref sz)) (mca : m (Str.ofString "caches") = some (.ref ca)) {tn : Tok} (x5 : o5.data = .cell (some (.int 0 tn))) {Ds De : Nat} {y6 : Option Value} (x6 : o6.data = .cell y6) (x7 : o7.data = .cell (some (.ref Ds))) (mla : m (Str.ofString "large") = some (.ref De))
    (h : ∀ h' tk oo6, oo6.data = .cell (some (.ref Ds)) → Fr h₀ L h' (fun y => if y = (Str.ofString "cache") then some (.ref c1) else m y) → News h₀ L h' ((L + 1, o1) :: (L + 1 + 1, o2) :: (L + 1 + 1 + 1, o3) :: (L + 1 + 1 + 1 + 1, o4) :: (L + 1 + 1 + 1 + 1 + 1, o5) :: (L + 1 + 1 + 1 + 1 + 1 + 1, oo6) :: (L + 1 + 1 + 1 + 1 + 1 + 1 + 1, o7) :: (cl, listOf vs.toArray ncl) :: (sz, listOf #[.int cap1 u1, .int cap2 u2] nsz) :: (ca, listOf #[.ref c1, .ref c2] nca) :: (kn, listOf #[.ref k1, .ref k2] nkn) :: (k1, ko1) :: (k2, ko2) :: (c1, instObj 169 cd1) :: (cd1, cdObj w dm1 dq1 lk1 cap1 ua1 ta1 tb1 tc1 td1) :: (dm1, od1) :: (dq1, listOf (svs ps1) nq1) :: (lk1, instObj 45 ld1) :: (ld1, dictOf [] 0) :: (c2, instObj 169 cd2) :: (cd2, cdObj w dm2 dq2 lk2 cap2 ua2 ta2 tb2 tc2 td2) :: (dm2, od2) :: (dq2, listOf (svs ps2) nq2) :: (lk2, instObj 45 ld2) :: (ld2, dictOf [] 0) :: rest) → Q .next { s with heap := h', toks := tk }) :
    wpAny (model prog w) (callerA.deeper (lawE w L fa cv)) (exec (hdS (bodyS (st8 w))) (lawE w L fa cv)) Q E s := by
  have q0c := q0
  obtain ⟨q1, q2, q3, q4, q5, q6, q7, q8, q9, q10, q11, q12, q13, q14, q15, q16, q17, q18, q19, q20, q21⟩ := q0
  unfold st8 turnB forS lawB lawF
  dsimp only [hdS, tlS, bodyS]
  show wpAny _ (callerA.deeper (envOfC "law" (lawS w) L fa cv)) (exec _ (envOfC "law" (lawS w) L fa cv)) _ _ _
  unfold lawS lawF
  dsimp only
  k_steps
  all_goals first
    | exact h _ _ _ (by assumption) (by assumption) (news_tail (news_tail (by assumption)))
    | exact h _ _ _ (by assumption) (by assumption) (news_tail (by assumption))
end
end
section
local macro_rules | `(tactic| walk_at "idle line 0") => `(tactic| fail)
local macro_rules | `(tactic| walk_at "idle line 1") => `(tactic| fail)
local macro_rules | `(tactic| k_mem) => `(tactic| first | with_reducible exact List.mem_cons_self | with_reducible assumption | (with_reducible refine List.mem_cons_of_mem _ ?_; k_mem))
local macro_rules | `(tactic| walk_at "eval Name") => `(tactic| (k_here; k_dflt (refine' nameX_L ?F ?v ?_ ?a ?b; (case a => rfl); (case b => rfl); (case F => k_asm); (case v => assumption))))
local macro_rules | `(tactic| walk_at "call type:list") => `(tactic| (k_here; (with_reducible show wpAny _ _ (call (Value.type "list") [Value.ref _]) _ _ _); k_dflt (refine' list_w (base := ?bb) (A₀ := ?aa) ?C ?m1 ?m2 ?m3 ?m4 ?m5 ?m6 ?o ?d ?lo ?z rfl ?u ?_; (case C => exact ⟨by assumption, by k_asm, by assumption, by k_asm, by assumption, rfl, rfl, rfl, by (simp only [depth_mark, depth_deeper, depth_caller]; decide), by (simp only [units_mark, units_deeper]; decide)⟩); (case m1 => k_mem); (case m2 => k_mem); (case m3 => k_mem); (case m4 => k_mem); (case m5 => k_mem); (case m6 => k_mem); (case u => simp only [units_mark, units_deeper]; decide); (case o => exact ⟨by assumption, by assumption, by assumption, by assumption, by assumption⟩); (case d => assumption); (case lo => assumption); (case z => exact ⟨by assumption, by assumption⟩)); intro h' tk' D' n' F' N' l1; (have l2 := l1); (k_lt l2); (try k_sweep); (try k_unmd)))
local macro_rules | `(tactic| walk_at "compareOp In str ref") => `(tactic| (k_here; k_dflt (refine' in_strs ?l ?_; (case l => exact ⟨_, News.get (by k_asm) (by k_mem), rfl, _, rfl⟩))))
local macro_rules | `(tactic| walk_at "CompSrc") => `(tactic| (k_here; refine halt ?_))
local macro_rules | `(tactic| walk_at "CompSrcT") => `(tactic| (k_here; refine halt ?_))
local macro_rules | `(tactic| walk_at "call ref") => `(tactic| (k_here; (with_reducible show wpAny _ _ (call (Value.ref 180) _) _ _ _); refine halt ?_))
local macro_rules | `(tactic| walk_at "call ref") => `(tactic| (k_here; (with_reducible show wpAny _ _ (call (Value.ref 93) _) _ _ _); refine halt ?_))
section
variable {prog : Program} {w : World} {h₀ : Heap} {L fa : Nat} {cv : Value} {mean : ExcName → Option Value} {mg mb : Str → Option Value} {s : Shared} {m : Str → Option Value} {Q : Flow → Shared → Prop} {E : Value → Shared → Prop} {rest : List (Addr × Obj)}
  {o1 o2 o3 o4 o5 o6 o7 ko1 ko2 od1 od2 : Obj} {cl sz ca kn k1 k2 c1 cd1 dm1 dq1 lk1 ld1 c2 cd2 dm2 dq2 lk2 ld2 : Nat} {ncl nsz nca nkn nq1 nq2 u1 u2 ua1 ua2 ta1 ta2 tb1 tb2 tc1 tc2 td1 td2 : Nat} {cap1 cap2 : Int}
  {vs : List Value} {ns : List Int} {ps1 ps2 : List (Str × Nat)} {kvs1 kvs2 kk1 kk2 : List (Str × Value)}
set_option maxRecDepth 100000 in
set_option maxHeartbeats 8000000 in
theorem last2a (B : Below callerA h₀ [] h₀) (X : (Mine.hd.heap_39 w.params).In h₀) (T : TT mean mg mb h₀) (F : Fr h₀ L s.heap m) (N : News h₀ L s.heap ((L + 1, o1) :: (L + 1 + 1, o2) :: (L + 1 + 1 + 1, o3) :: (L + 1 + 1 + 1 + 1, o4) :: (L + 1 + 1 + 1 + 1 + 1, o5) :: (L + 1 + 1 + 1 + 1 + 1 + 1, o6) :: (L + 1 + 1 + 1 + 1 + 1 + 1 + 1, o7) :: (cl, listOf vs.toArray ncl) :: (sz, listOf #[.int cap1 u1, .int cap2 u2] nsz) :: (ca, listOf #[.ref c1, .ref c2] nca) :: (kn, listOf #[.ref k1, .ref k2] nkn) :: (k1, ko1) :: (k2, ko2) :: (c1, instObj 169 cd1) :: (cd1, cdObj w dm1 dq1 lk1 cap1 ua1 ta1 tb1 tc1 td1) :: (dm1, od1) :: (dq1, listOf (svs ps1) nq1) :: (lk1, instObj 45 ld1) :: (ld1, dictOf [] 0) :: (c2, instObj 169 cd2) :: (cd2, cdObj w dm2 dq2 lk2 cap2 ua2 ta2 tb2 tc2 td2) :: (dm2, od2) :: (dq2, listOf (svs ps2) nq2) :: (lk2, instObj 45 ld2) :: (ld2, dictOf [] 0) :: rest))
    (q0 : (L + 1 + 1 + 1 + 1 + 1 + 1 + 1 < sz ∧ L + 1 ≠ cl ∧ L + 1 + 1 ≠ cl ∧ L + 1 + 1 + 1 ≠ cl ∧ L + 1 + 1 + 1 + 1 ≠ cl ∧ L + 1 + 1 + 1 + 1 + 1 ≠ cl ∧ L + 1 + 1 + 1 + 1 + 1 + 1 ≠ cl ∧ L + 1 + 1 + 1 + 1 + 1 + 1 + 1 ≠ cl) ∧ cl < sz ∧ sz < cd1 ∧ cd1 < c1 ∧ c1 < dm1 ∧ dm1 < dq1 ∧ dq1 < ld1 ∧ ld1 < lk1 ∧ lk1 < cd2 ∧ cd2 < c2 ∧ c2 < dm2 ∧ dm2 < dq2 ∧ dq2 < ld2 ∧ ld2 < lk2 ∧ lk2 < ca ∧ ca < kn ∧ ca < k1 ∧ ca < k2 ∧ k1 ≠ k2 ∧ k1 ≠ kn ∧ k2 ≠ kn)
    (hroff : OwnOff rest [L + 1, L + 1 + 1, L + 1 + 1 + 1, L + 1 + 1 + 1 + 1, L + 1 + 1 + 1 + 1 + 1, L + 1 + 1 + 1 + 1 + 1 + 1, L + 1 + 1 + 1 + 1 + 1 + 1 + 1, kn, k1, k2, c1, cd1, dm1, dq1, lk1, ld1, c2, cd2, dm2, dq2, lk2, ld2])
    (mcl : m (Str.ofString "cells") = some (.ref cl)) (msz : m (Str.ofString "sizes") = some (.ref sz)) (mca : m (Str.ofString "caches") = some (.ref ca)) {tn : Tok} (x5 : o5.data = .cell (some (.int 1 tn))) {Ds De : Nat} {y6 : Option Value} (x6 : o6.data = .cell y6) (x7 : o7.data = .cell (some (.ref Ds))) (mla : m (Str.ofString "large") = some (.ref De))
    (h : ∀ h' tk oo6, oo6.data = .cell (some (.ref De)) → Fr h₀ L h' (fun y => if y = (Str.ofString "cache") then some (.ref c2) else m y) → News h₀ L h' ((L + 1, o1) :: (L + 1 + 1, o2) :: (L + 1 + 1 + 1, o3) :: (L + 1 + 1 + 1 + 1, o4) :: (L + 1 + 1 + 1 + 1 + 1, o5) :: (L + 1 + 1 + 1 + 1 + 1 + 1, oo6) :: (L + 1 + 1 + 1 + 1 + 1 + 1 + 1, o7) :: (cl, listOf vs.toArray ncl) :: (sz, listOf #[.int cap1 u1, .int cap2 u2] nsz) :: (ca, listOf #[.ref c1, .ref c2] nca) :: (kn, listOf #[.ref k1, .ref k2] nkn) :: (k1, ko1) :: (k2, ko2) :: (c1, instObj 169 cd1) :: (cd1, cdObj w dm1 dq1 lk1 cap1 ua1 ta1 tb1 tc1 td1) :: (dm1, od1) :: (dq1, listOf (svs ps1) nq1) :: (lk1, instObj 45 ld1) :: (ld1, dictOf [] 0) :: (c2, instObj 169 cd2) :: (cd2, cdObj w dm2 dq2 lk2 cap2 ua2 ta2 tb2 tc2 td2) :: (dm2, od2) :: (dq2, listOf (svs ps2) nq2) :: (lk2, instObj 45 ld2) :: (ld2, dictOf [] 0) :: rest) → Q .next { s with heap := h', toks := tk }) :
    wpAny (model prog w) (callerA.deeper (lawE w L fa cv)) (exec (hdS (bodyS (st8 w))) (lawE w L fa cv)) Q E s := by
  have q0c := q0
  obtain ⟨q1, q2, q3, q4, q5, q6, q7, q8, q9, q10, q11, q12, q13, q14, q15, q16, q17, q18, q19, q20, q21⟩ := q0
  unfold st8 turnB forS lawB lawF
  dsimp only [hdS, tlS, bodyS]
  show wpAny _ (callerA.deeper (envOfC "law" (lawS w) L fa cv)) (exec _ (envOfC "law" (lawS w) L fa cv)) _ _ _
  unfold lawS lawF
  dsimp only
  k_steps
  all_goals first
    | exact h _ _ _ (by assumption) (by assumption) (news_tail (news_tail (by assumption)))
    | exact h _ _ _ (by assumption) (by assumption) (news_tail (by assumption))
end
end
section
local macro_rules | `(tactic| walk_at "idle line 0") => `(tactic| fail)
local macro_rules | `(tactic| k_mem) => `(tactic| first | with_reducible exact List.mem_cons_self | with_reducible assumption | (with_reducible refine List.mem_cons_of_mem _ ?_; k_mem))
local macro_rules | `(tactic| walk_at "eval Name") => `(tactic| (k_here; k_dflt (refine' nameX_L ?F ?v ?_ ?a ?b; (case a => rfl); (case b => rfl); (case F => k_asm); (case v => assumption))))
local macro_rules | `(tactic| walk_at "call type:list") => `(tactic| (k_here; (with_reducible show wpAny _ _ (call (Value.type "list") [Value.ref _]) _ _ _); k_dflt (refine' list_w (base := ?bb) (A₀ := ?aa) ?C ?m1 ?m2 ?m3 ?m4 ?m5 ?m6 ?o ?d ?lo ?z rfl ?u ?_; (case C => exact ⟨by assumption, by k_asm, by assumption, by k_asm, by assumption, rfl, rfl, rfl, by (simp only [depth_mark, depth_deeper, depth_caller]; decide), by (simp only [units_mark, units_deeper]; decide)⟩); (case m1 => k_mem); (case m2 => k_mem); (case m3 => k_mem); (case m4 => k_mem); (case m5 => k_mem); (case m6 => k_mem); (case u => simp only [units_mark, units_deeper]; decide); (case o => exact ⟨by assumption, by assumption, by assumption, by assumption, by assumption⟩); (case d => assumption); (case lo => assumption); (case z => exact ⟨by assumption, by assumption⟩)); intro h' tk' D' n' F' N' l1; (have l2 := l1); (k_lt l2); (try k_sweep); (try k_unmd)))
local macro_rules | `(tactic| walk_at "compareOp In str ref") => `(tactic| (k_here; k_dflt (refine' in_strs ?l ?_; (case l => exact ⟨_, News.get (by k_asm) (by k_mem), rfl, _, rfl⟩))))
local macro_rules | `(tactic| walk_at "CompSrc") => `(tactic| (k_here; refine halt ?_))
local macro_rules | `(tactic| walk_at "CompSrcT") => `(tactic| (k_here; refine halt ?_))
local macro_rules | `(tactic| walk_at "call ref") => `(tactic| (k_here; (with_reducible show wpAny _ _ (call (Value.ref 180) _) _ _ _); refine halt ?_))
local macro_rules | `(tactic| walk_at "call ref") => `(tactic| (k_here; (with_reducible show wpAny _ _ (call (Value.ref 93) _) _ _ _); refine halt ?_))
local macro_rules | `(tactic| walk_at "CompEnd") => `(tactic| (refine halt ?_))
local macro_rules | `(tactic| walk_at "exec Assign cons ListComp") => `(tactic| (k_here; refine halt ?_))
section
variable {prog : Program} {w : World} {h₀ : Heap} {L fa : Nat} {cv : Value} {mean : ExcName → Option Value} {mg mb : Str → Option Value} {s : Shared} {m : Str → Option Value} {Q : Flow → Shared → Prop} {E : Value → Shared → Prop} {rest : List (Addr × Obj)}
  {o1 o2 o3 o4 o5 o6 o7 ko1 ko2 od1 od2 : Obj} {cl sz ca kn k1 k2 c1 cd1 dm1 dq1 lk1 ld1 c2 cd2 dm2 dq2 lk2 ld2 : Nat} {ncl nsz nca nkn nq1 nq2 u1 u2 ua1 ua2 ta1 ta2 tb1 tb2 tc1 tc2 td1 td2 : Nat} {cap1 cap2 : Int}
  {vs : List Value} {ns : List Int} {ps1 ps2 : List (Str × Nat)} {kvs1 kvs2 kk1 kk2 : List (Str × Value)}
set_option maxRecDepth 100000 in
set_option maxHeartbeats 8000000 in
theorem last1b (B : Below callerA h₀ [] h₀) (X : (Mine.hd.heap_39 w.params).In h₀) (T : TT mean mg mb h₀) (F : Fr h₀ L s.heap m) (N : News h₀ L s.heap ((L + 1, o1) :: (L + 1 + 1, o2) :: (L + 1 + 1 + 1, o3) :: (L + 1 + 1 + 1 + 1, o4) :: (L + 1 + 1 + 1 + 1 + 1, o5) :: (L + 1 + 1 + 1 + 1 + 1 + 1, o6) :: (L + 1 + 1 + 1 + 1 + 1 + 1 + 1, o7) :: (cl, listOf vs.toArray ncl) :: (sz, listOf #[.int cap1 u1, .int cap2 u2] nsz) :: (ca, listOf #[.ref c1, .ref c2] nca) :: (kn, listOf #[.ref k1, .ref k2] nkn) :: (k1, ko1) :: (k2, ko2) :: (c1, instObj 169 cd1) :: (cd1, cdObj w dm1 dq1 lk1 cap1 ua1 ta1 tb1 tc1 td1) :: (dm1, od1) :: (dq1, listOf (svs ps1) nq1) :: (lk1, instObj 45 ld1) :: (ld1, dictOf [] 0) :: (c2, instObj 169 cd2) :: (cd2, cdObj w dm2 dq2 lk2 cap2 ua2 ta2 tb2 tc2 td2) :: (dm2, od2) :: (dq2, listOf (svs ps2) nq2) :: (lk2, instObj 45 ld2) :: (ld2, dictOf [] 0) :: rest))
    (q0 : (L + 1 + 1 + 1 + 1 + 1 + 1 + 1 < sz ∧ L + 1 ≠ cl ∧ L + 1 + 1 ≠ cl ∧ L + 1 + 1 + 1 ≠ cl ∧ L + 1 + 1 + 1 + 1 ≠ cl ∧ L + 1 + 1 + 1 + 1 + 1 ≠ cl ∧ L + 1 + 1 + 1 + 1 + 1 + 1 ≠ cl ∧ L + 1 + 1 + 1 + 1 + 1 + 1 + 1 ≠ cl) ∧ cl < sz ∧ sz < cd1 ∧ cd1 < c1 ∧ c1 < dm1 ∧ dm1 < dq1 ∧ dq1 < ld1 ∧ ld1 < lk1 ∧ lk1 < cd2 ∧ cd2 < c2 ∧ c2 < dm2 ∧ dm2 < dq2 ∧ dq2 < ld2 ∧ ld2 < lk2 ∧ lk2 < ca ∧ ca < kn ∧ ca < k1 ∧ ca < k2 ∧ k1 ≠ k2 ∧ k1 ≠ kn ∧ k2 ≠ kn)
    (hroff : OwnOff rest [L + 1, L + 1 + 1, L + 1 + 1 + 1, L + 1 + 1 + 1 + 1, L + 1 + 1 + 1 + 1 + 1, L + 1 + 1 + 1 + 1 + 1 + 1, L + 1 + 1 + 1 + 1 + 1 + 1 + 1, kn, k1, k2, c1, cd1, dm1, dq1, lk1, ld1, c2, cd2, dm2, dq2, lk2, ld2])
    (mcl : m (Str.ofString "cells") = some (.ref cl)) (msz : m (Str.ofString "sizes") = some (.ref sz)) (mca : m (Str.ofString "caches") = some (.ref ca)) {tn : Tok} (x5 : o5.data = .cell (some (.int 0 tn))) {κ : Str} {tκ : Tok} {Db D1 D2 nb n1 n2 : Nat} {B1 B2 : List (Str × Nat)} (x4 : o4.data = .cell (some (.str κ tκ))) (mb : m (Str.ofString "before") = some (.ref Db)) (mDb : (Db, listOf #[.ref D1, .ref D2] nb) ∈ rest) (mD1 : (D1, listOf (svs B1) n1) ∈ rest) (mD2 : (D2, listOf (svs B2) n2) ∈ rest) (zB1 : B1.length ≤ 900) (zB2 : B2.length ≤ 900)
    (h : ∀ h' tk (Dr nr : Nat), Fr h₀ L h' (fun y => if y = (Str.ofString "rest") then some (.ref Dr) else m y) → News h₀ L h' ((L + 1, o1) :: (L + 1 + 1, o2) :: (L + 1 + 1 + 1, o3) :: (L + 1 + 1 + 1 + 1, o4) :: (L + 1 + 1 + 1 + 1 + 1, o5) :: (L + 1 + 1 + 1 + 1 + 1 + 1, o6) :: (L + 1 + 1 + 1 + 1 + 1 + 1 + 1, o7) :: (cl, listOf vs.toArray ncl) :: (sz, listOf #[.int cap1 u1, .int cap2 u2] nsz) :: (ca, listOf #[.ref c1, .ref c2] nca) :: (kn, listOf #[.ref k1, .ref k2] nkn) :: (k1, ko1) :: (k2, ko2) :: (c1, instObj 169 cd1) :: (cd1, cdObj w dm1 dq1 lk1 cap1 ua1 ta1 tb1 tc1 td1) :: (dm1, od1) :: (dq1, listOf (svs ps1) nq1) :: (lk1, instObj 45 ld1) :: (ld1, dictOf [] 0) :: (c2, instObj 169 cd2) :: (cd2, cdObj w dm2 dq2 lk2 cap2 ua2 ta2 tb2 tc2 td2) :: (dm2, od2) :: (dq2, listOf (svs ps2) nq2) :: (lk2, instObj 45 ld2) :: (ld2, dictOf [] 0) :: (Dr, listOf (svs (B1.filter (fun p => p.1 != κ))) nr) :: rest) → OwnOff ((Dr, listOf (svs (B1.filter (fun p => p.1 != κ))) nr) :: rest) [L + 1, L + 1 + 1, L + 1 + 1 + 1, L + 1 + 1 + 1 + 1, L + 1 + 1 + 1 + 1 + 1, L + 1 + 1 + 1 + 1 + 1 + 1, L + 1 + 1 + 1 + 1 + 1 + 1 + 1, kn, k1, k2, c1, cd1, dm1, dq1, lk1, ld1, c2, cd2, dm2, dq2, lk2, ld2] → Q .next { s with heap := h', toks := tk }) :
    wpAny (model prog w) (callerA.deeper (lawE w L fa cv)) (exec (hdS (tlS (bodyS (st8 w)))) (lawE w L fa cv)) Q E s := by
  have q0c := q0
  obtain ⟨q1, q2, q3, q4, q5, q6, q7, q8, q9, q10, q11, q12, q13, q14, q15, q16, q17, q18, q19, q20, q21⟩ := q0
  unfold st8 turnB forS lawB lawF
  dsimp only [hdS, tlS, bodyS]
  show wpAny _ (callerA.deeper (envOfC "law" (lawS w) L fa cv)) (exec _ (envOfC "law" (lawS w) L fa cv)) _ _ _
  unfold lawS lawF
  dsimp only
  have N0 : News h₀ L s.heap ((Db, listOf #[.ref D1, .ref D2] nb) :: ((L + 1, o1) :: (L + 1 + 1, o2) :: (L + 1 + 1 + 1, o3) :: (L + 1 + 1 + 1 + 1, o4) :: (L + 1 + 1 + 1 + 1 + 1, o5) :: (L + 1 + 1 + 1 + 1 + 1 + 1, o6) :: (L + 1 + 1 + 1 + 1 + 1 + 1 + 1, o7) :: (cl, listOf vs.toArray ncl) :: (sz, listOf #[.int cap1 u1, .int cap2 u2] nsz) :: (ca, listOf #[.ref c1, .ref c2] nca) :: (kn, listOf #[.ref k1, .ref k2] nkn) :: (k1, ko1) :: (k2, ko2) :: (c1, instObj 169 cd1) :: (cd1, cdObj w dm1 dq1 lk1 cap1 ua1 ta1 tb1 tc1 td1) :: (dm1, od1) :: (dq1, listOf (svs ps1) nq1) :: (lk1, instObj 45 ld1) :: (ld1, dictOf [] 0) :: (c2, instObj 169 cd2) :: (cd2, cdObj w dm2 dq2 lk2 cap2 ua2 ta2 tb2 tc2 td2) :: (dm2, od2) :: (dq2, listOf (svs ps2) nq2) :: (lk2, instObj 45 ld2) :: (ld2, dictOf [] 0) :: rest)) := fun q hq => by
    rcases List.mem_cons.mp hq with rfl | hq
    · exact N _ (by k_mem)
    · exact N _ hq
  k_steps
  unfold Halt
  (try k_fold)
  refine LCt.Assign_ListComp_T (F₀ := by assumption) (by rfl) (by with_unfolding_all rfl) (by with_unfolding_all rfl) (by decide) (by rfl) (by decide) (by rfl) (by rfl) (by rfl) ?_
  k_steps
  unfold Halt
  refine LCt.CompSrcT.ledger (ax := D1) (its := svs B1) (k := n1) (by rfl) (by assumption) N (by k_mem) (by rw [sizeLine_eq]; simp [svs]; omega) ?_
  intro g1
  try dsimp only
  refine compT_of (fun i ys nw => ys = ((B1.take i).filter (fun p => p.1 != κ)).map sv ∧ nw = ((L + 1, o1) :: (L + 1 + 1, o2) :: (L + 1 + 1 + 1, o3) :: (L + 1 + 1 + 1 + 1, o4) :: (L + 1 + 1 + 1 + 1 + 1, o5) :: (L + 1 + 1 + 1 + 1 + 1 + 1, o6) :: (L + 1 + 1 + 1 + 1 + 1 + 1 + 1, o7) :: (cl, listOf vs.toArray ncl) :: (sz, listOf #[.int cap1 u1, .int cap2 u2] nsz) :: (ca, listOf #[.ref c1, .ref c2] nca) :: (kn, listOf #[.ref k1, .ref k2] nkn) :: (k1, ko1) :: (k2, ko2) :: (c1, instObj 169 cd1) :: (cd1, cdObj w dm1 dq1 lk1 cap1 ua1 ta1 tb1 tc1 td1) :: (dm1, od1) :: (dq1, listOf (svs ps1) nq1) :: (lk1, instObj 45 ld1) :: (ld1, dictOf [] 0) :: (c2, instObj 169 cd2) :: (cd2, cdObj w dm2 dq2 lk2 cap2 ua2 ta2 tb2 tc2 td2) :: (dm2, od2) :: (dq2, listOf (svs ps2) nq2) :: (lk2, instObj 45 ld2) :: (ld2, dictOf [] 0) :: rest)) ⟨rfl, rfl⟩ ?_ ?_
  · intro i ys nw hi ⟨ey, e⟩ v I oI C oC D m₂ h2 tk2 E' hP hC hx F2 N2 off ne
    subst e
    obtain ⟨p, ep, rfl⟩ := svs_at hP
    k_fold
    k_steps
    all_goals unfold Halt
    all_goals (refine cend0 F2 N2 off (.inr ⟨_, by k_mem, rfl, _, rfl⟩) ⟨?_, rfl⟩)
    all_goals rw [List.take_add_one, ep, ey]
    all_goals first
      | (simp only [List.filter_append, List.map_append, Option.toList_some, List.filter_cons, ‹(p.1 != κ) = true›, if_true, List.filter_nil, List.map_cons, List.map_nil]; done)
      | (simp only [List.filter_append, List.map_append, Option.toList_some, List.filter_cons, ‹(p.1 != κ) = false›, Bool.false_eq_true, if_false, List.filter_nil, List.map_cons, List.map_nil, List.append_nil]; done)
  · intro ys nw ⟨ey, e⟩
    subst e
    intro D h2 tk2 F2 N2 off
    obtain rfl : ys = (B1.filter (fun p => p.1 != κ)).map sv := by rw [ey, List.take_of_length_le (by simp [svs])]
    (try k_unmd)
    (try k_unfold)
    (try dsimp only)
    exact h _ _ D _ F2 (news_in ((L + 1, o1) :: (L + 1 + 1, o2) :: (L + 1 + 1 + 1, o3) :: (L + 1 + 1 + 1 + 1, o4) :: (L + 1 + 1 + 1 + 1 + 1, o5) :: (L + 1 + 1 + 1 + 1 + 1 + 1, o6) :: (L + 1 + 1 + 1 + 1 + 1 + 1 + 1, o7) :: (cl, listOf vs.toArray ncl) :: (sz, listOf #[.int cap1 u1, .int cap2 u2] nsz) :: (ca, listOf #[.ref c1, .ref c2] nca) :: (kn, listOf #[.ref k1, .ref k2] nkn) :: (k1, ko1) :: (k2, ko2) :: (c1, instObj 169 cd1) :: (cd1, cdObj w dm1 dq1 lk1 cap1 ua1 ta1 tb1 tc1 td1) :: (dm1, od1) :: (dq1, listOf (svs ps1) nq1) :: (lk1, instObj 45 ld1) :: (ld1, dictOf [] 0) :: (c2, instObj 169 cd2) :: (cd2, cdObj w dm2 dq2 lk2 cap2 ua2 ta2 tb2 tc2 td2) :: (dm2, od2) :: (dq2, listOf (svs ps2) nq2) :: (lk2, instObj 45 ld2) :: (ld2, dictOf [] 0) :: []) [_] N2) (own_cons (off1_off off (by intro b hb; simp only [List.mem_cons, List.mem_nil_iff, or_false] at hb; rcases hb with rfl | rfl | rfl | rfl | rfl | rfl | rfl | rfl | rfl | rfl | rfl | rfl | rfl | rfl | rfl | rfl | rfl | rfl | rfl | rfl | rfl | rfl <;> exact ⟨_, by k_mem⟩)) hroff)
end
end
section
local macro_rules | `(tactic| walk_at "idle line 0") => `(tactic| fail)
local macro_rules | `(tactic| walk_at "idle line 1") => `(tactic| fail)
local macro_rules | `(tactic| walk_at "idle line 2") => `(tactic| fail)
local macro_rules | `(tactic| k_mem) => `(tactic| first | with_reducible exact List.mem_cons_self | with_reducible assumption | (with_reducible refine List.mem_cons_of_mem _ ?_; k_mem))
local macro_rules | `(tactic| walk_at "eval Name") => `(tactic| (k_here; k_dflt (refine' nameX_L ?F ?v ?_ ?a ?b; (case a => rfl); (case b => rfl); (case F => k_asm); (case v => assumption))))
local macro_rules | `(tactic| walk_at "call type:list") => `(tactic| (k_here; (with_reducible show wpAny _ _ (call (Value.type "list") [Value.ref _]) _ _ _); k_dflt (refine' list_w (base := ?bb) (A₀ := ?aa) ?C ?m1 ?m2 ?m3 ?m4 ?m5 ?m6 ?o ?d ?lo ?z rfl ?u ?_; (case C => exact ⟨by assumption, by k_asm, by assumption, by k_asm, by assumption, rfl, rfl, rfl, by (simp only [depth_mark, depth_deeper, depth_caller]; decide), by (simp only [units_mark, units_deeper]; decide)⟩); (case m1 => k_mem); (case m2 => k_mem); (case m3 => k_mem); (case m4 => k_mem); (case m5 => k_mem); (case m6 => k_mem); (case u => simp only [units_mark, units_deeper]; decide); (case o => exact ⟨by assumption, by assumption, by assumption, by assumption, by assumption⟩); (case d => assumption); (case lo => assumption); (case z => exact ⟨by assumption, by assumption⟩)); intro h' tk' D' n' F' N' l1; (have l2 := l1); (k_lt l2); (try k_sweep); (try k_unmd)))
local macro_rules | `(tactic| walk_at "compareOp In str ref") => `(tactic| (k_here; k_dflt (refine' in_strs ?l ?_; (case l => exact ⟨_, News.get (by k_asm) (by k_mem), rfl, _, rfl⟩))))
local macro_rules | `(tactic| walk_at "CompSrc") => `(tactic| (k_here; refine halt ?_))
local macro_rules | `(tactic| walk_at "CompSrcT") => `(tactic| (k_here; refine halt ?_))
local macro_rules | `(tactic| walk_at "call ref") => `(tactic| (k_here; (with_reducible show wpAny _ _ (call (Value.ref 180) _) _ _ _); refine halt ?_))
local macro_rules | `(tactic| walk_at "call ref") => `(tactic| (k_here; (with_reducible show wpAny _ _ (call (Value.ref 93) _) _ _ _); refine halt ?_))
local macro_rules | `(tactic| walk_at "CompEnd") => `(tactic| (refine halt ?_))
local macro_rules | `(tactic| walk_at "exec Assign cons ListComp") => `(tactic| (k_here; refine halt ?_))
section
variable {prog : Program} {w : World} {h₀ : Heap} {L fa : Nat} {cv : Value} {mean : ExcName → Option Value} {mg mb : Str → Option Value} {s : Shared} {m : Str → Option Value} {Q : Flow → Shared → Prop} {E : Value → Shared → Prop} {rest : List (Addr × Obj)}
  {o1 o2 o3 o4 o5 o6 o7 ko1 ko2 od1 od2 : Obj} {cl sz ca kn k1 k2 c1 cd1 dm1 dq1 lk1 ld1 c2 cd2 dm2 dq2 lk2 ld2 : Nat} {ncl nsz nca nkn nq1 nq2 u1 u2 ua1 ua2 ta1 ta2 tb1 tb2 tc1 tc2 td1 td2 : Nat} {cap1 cap2 : Int}
  {vs : List Value} {ns : List Int} {ps1 ps2 : List (Str × Nat)} {kvs1 kvs2 kk1 kk2 : List (Str × Value)}
set_option maxRecDepth 100000 in
set_option maxHeartbeats 8000000 in
theorem last2b (B : Below callerA h₀ [] h₀) (X : (Mine.hd.heap_39 w.params).In h₀) (T : TT mean mg mb h₀) (F : Fr h₀ L s.heap m) (N : News h₀ L s.heap ((L + 1, o1) :: (L + 1 + 1, o2) :: (L + 1 + 1 + 1, o3) :: (L + 1 + 1 + 1 + 1, o4) :: (L + 1 + 1 + 1 + 1 + 1, o5) :: (L + 1 + 1 + 1 + 1 + 1 + 1, o6) :: (L + 1 + 1 + 1 + 1 + 1 + 1 + 1, o7) :: (cl, listOf vs.toArray ncl) :: (sz, listOf #[.int cap1 u1, .int cap2 u2] nsz) :: (ca, listOf #[.ref c1, .ref c2] nca) :: (kn, listOf #[.ref k1, .ref k2] nkn) :: (k1, ko1) :: (k2, ko2) :: (c1, instObj 169 cd1) :: (cd1, cdObj w dm1 dq1 lk1 cap1 ua1 ta1 tb1 tc1 td1) :: (dm1, od1) :: (dq1, listOf (svs ps1) nq1) :: (lk1, instObj 45 ld1) :: (ld1, dictOf [] 0) :: (c2, instObj 169 cd2) :: (cd2, cdObj w dm2 dq2 lk2 cap2 ua2 ta2 tb2 tc2 td2) :: (dm2, od2) :: (dq2, listOf (svs ps2) nq2) :: (lk2, instObj 45 ld2) :: (ld2, dictOf [] 0) :: rest))
    (q0 : (L + 1 + 1 + 1 + 1 + 1 + 1 + 1 < sz ∧ L + 1 ≠ cl ∧ L + 1 + 1 ≠ cl ∧ L + 1 + 1 + 1 ≠ cl ∧ L + 1 + 1 + 1 + 1 ≠ cl ∧ L + 1 + 1 + 1 + 1 + 1 ≠ cl ∧ L + 1 + 1 + 1 + 1 + 1 + 1 ≠ cl ∧ L + 1 + 1 + 1 + 1 + 1 + 1 + 1 ≠ cl) ∧ cl < sz ∧ sz < cd1 ∧ cd1 < c1 ∧ c1 < dm1 ∧ dm1 < dq1 ∧ dq1 < ld1 ∧ ld1 < lk1 ∧ lk1 < cd2 ∧ cd2 < c2 ∧ c2 < dm2 ∧ dm2 < dq2 ∧ dq2 < ld2 ∧ ld2 < lk2 ∧ lk2 < ca ∧ ca < kn ∧ ca < k1 ∧ ca < k2 ∧ k1 ≠ k2 ∧ k1 ≠ kn ∧ k2 ≠ kn)
    (hroff : OwnOff rest [L + 1, L + 1 + 1, L + 1 + 1 + 1, L + 1 + 1 + 1 + 1, L + 1 + 1 + 1 + 1 + 1, L + 1 + 1 + 1 + 1 + 1 + 1, L + 1 + 1 + 1 + 1 + 1 + 1 + 1, kn, k1, k2, c1, cd1, dm1, dq1, lk1, ld1, c2, cd2, dm2, dq2, lk2, ld2])
    (mcl : m (Str.ofString "cells") = some (.ref cl)) (msz : m (Str.ofString "sizes") = some (.ref sz)) (mca : m (Str.ofString "caches") = some (.ref ca)) {tn : Tok} (x5 : o5.data = .cell (some (.int 1 tn))) {κ : Str} {tκ : Tok} {Db D1 D2 nb n1 n2 : Nat} {B1 B2 : List (Str × Nat)} (x4 : o4.data = .cell (some (.str κ tκ))) (mb : m (Str.ofString "before") = some (.ref Db)) (mDb : (Db, listOf #[.ref D1, .ref D2] nb) ∈ rest) (mD1 : (D1, listOf (svs B1) n1) ∈ rest) (mD2 : (D2, listOf (svs B2) n2) ∈ rest) (zB1 : B1.length ≤ 900) (zB2 : B2.length ≤ 900)
    (h : ∀ h' tk (Dr nr : Nat), Fr h₀ L h' (fun y => if y = (Str.ofString "rest") then some (.ref Dr) else m y) → News h₀ L h' ((L + 1, o1) :: (L + 1 + 1, o2) :: (L + 1 + 1 + 1, o3) :: (L + 1 + 1 + 1 + 1, o4) :: (L + 1 + 1 + 1 + 1 + 1, o5) :: (L + 1 + 1 + 1 + 1 + 1 + 1, o6) :: (L + 1 + 1 + 1 + 1 + 1 + 1 + 1, o7) :: (cl, listOf vs.toArray ncl) :: (sz, listOf #[.int cap1 u1, .int cap2 u2] nsz) :: (ca, listOf #[.ref c1, .ref c2] nca) :: (kn, listOf #[.ref k1, .ref k2] nkn) :: (k1, ko1) :: (k2, ko2) :: (c1, instObj 169 cd1) :: (cd1, cdObj w dm1 dq1 lk1 cap1 ua1 ta1 tb1 tc1 td1) :: (dm1, od1) :: (dq1, listOf (svs ps1) nq1) :: (lk1, instObj 45 ld1) :: (ld1, dictOf [] 0) :: (c2, instObj 169 cd2) :: (cd2, cdObj w dm2 dq2 lk2 cap2 ua2 ta2 tb2 tc2 td2) :: (dm2, od2) :: (dq2, listOf (svs ps2) nq2) :: (lk2, instObj 45 ld2) :: (ld2, dictOf [] 0) :: (Dr, listOf (svs (B2.filter (fun p => p.1 != κ))) nr) :: rest) → OwnOff ((Dr, listOf (svs (B2.filter (fun p => p.1 != κ))) nr) :: rest) [L + 1, L + 1 + 1, L + 1 + 1 + 1, L + 1 + 1 + 1 + 1, L + 1 + 1 + 1 + 1 + 1, L + 1 + 1 + 1 + 1 + 1 + 1, L + 1 + 1 + 1 + 1 + 1 + 1 + 1, kn, k1, k2, c1, cd1, dm1, dq1, lk1, ld1, c2, cd2, dm2, dq2, lk2, ld2] → Q .next { s with heap := h', toks := tk }) :
    wpAny (model prog w) (callerA.deeper (lawE w L fa cv)) (exec (hdS (tlS (bodyS (st8 w)))) (lawE w L fa cv)) Q E s := by
  have q0c := q0
  obtain ⟨q1, q2, q3, q4, q5, q6, q7, q8, q9, q10, q11, q12, q13, q14, q15, q16, q17, q18, q19, q20, q21⟩ := q0
  unfold st8 turnB forS lawB lawF
  dsimp only [hdS, tlS, bodyS]
  show wpAny _ (callerA.deeper (envOfC "law" (lawS w) L fa cv)) (exec _ (envOfC "law" (lawS w) L fa cv)) _ _ _
  unfold lawS lawF
  dsimp only
  have N0 : News h₀ L s.heap ((Db, listOf #[.ref D1, .ref D2] nb) :: ((L + 1, o1) :: (L + 1 + 1, o2) :: (L + 1 + 1 + 1, o3) :: (L + 1 + 1 + 1 + 1, o4) :: (L + 1 + 1 + 1 + 1 + 1, o5) :: (L + 1 + 1 + 1 + 1 + 1 + 1, o6) :: (L + 1 + 1 + 1 + 1 + 1 + 1 + 1, o7) :: (cl, listOf vs.toArray ncl) :: (sz, listOf #[.int cap1 u1, .int cap2 u2] nsz) :: (ca, listOf #[.ref c1, .ref c2] nca) :: (kn, listOf #[.ref k1, .ref k2] nkn) :: (k1, ko1) :: (k2, ko2) :: (c1, instObj 169 cd1) :: (cd1, cdObj w dm1 dq1 lk1 cap1 ua1 ta1 tb1 tc1 td1) :: (dm1, od1) :: (dq1, listOf (svs ps1) nq1) :: (lk1, instObj 45 ld1) :: (ld1, dictOf [] 0) :: (c2, instObj 169 cd2) :: (cd2, cdObj w dm2 dq2 lk2 cap2 ua2 ta2 tb2 tc2 td2) :: (dm2, od2) :: (dq2, listOf (svs ps2) nq2) :: (lk2, instObj 45 ld2) :: (ld2, dictOf [] 0) :: rest)) := fun q hq => by
    rcases List.mem_cons.mp hq with rfl | hq
    · exact N _ (by k_mem)
    · exact N _ hq
  k_steps
  unfold Halt
  (try k_fold)
  refine LCt.Assign_ListComp_T (F₀ := by assumption) (by rfl) (by with_unfolding_all rfl) (by with_unfolding_all rfl) (by decide) (by rfl) (by decide) (by rfl) (by rfl) (by rfl) ?_
  k_steps
  unfold Halt
  refine LCt.CompSrcT.ledger (ax := D2) (its := svs B2) (k := n2) (by rfl) (by assumption) N (by k_mem) (by rw [sizeLine_eq]; simp [svs]; omega) ?_
  intro g1
  try dsimp only
  refine compT_of (fun i ys nw => ys = ((B2.take i).filter (fun p => p.1 != κ)).map sv ∧ nw = ((L + 1, o1) :: (L + 1 + 1, o2) :: (L + 1 + 1 + 1, o3) :: (L + 1 + 1 + 1 + 1, o4) :: (L + 1 + 1 + 1 + 1 + 1, o5) :: (L + 1 + 1 + 1 + 1 + 1 + 1, o6) :: (L + 1 + 1 + 1 + 1 + 1 + 1 + 1, o7) :: (cl, listOf vs.toArray ncl) :: (sz, listOf #[.int cap1 u1, .int cap2 u2] nsz) :: (ca, listOf #[.ref c1, .ref c2] nca) :: (kn, listOf #[.ref k1, .ref k2] nkn) :: (k1, ko1) :: (k2, ko2) :: (c1, instObj 169 cd1) :: (cd1, cdObj w dm1 dq1 lk1 cap1 ua1 ta1 tb1 tc1 td1) :: (dm1, od1) :: (dq1, listOf (svs ps1) nq1) :: (lk1, instObj 45 ld1) :: (ld1, dictOf [] 0) :: (c2, instObj 169 cd2) :: (cd2, cdObj w dm2 dq2 lk2 cap2 ua2 ta2 tb2 tc2 td2) :: (dm2, od2) :: (dq2, listOf (svs ps2) nq2) :: (lk2, instObj 45 ld2) :: (ld2, dictOf [] 0) :: rest)) ⟨rfl, rfl⟩ ?_ ?_
  · intro i ys nw hi ⟨ey, e⟩ v I oI C oC D m₂ h2 tk2 E' hP hC hx F2 N2 off ne
    subst e
    obtain ⟨p, ep, rfl⟩ := svs_at hP
    k_fold
    k_steps
    all_goals unfold Halt
    all_goals (refine cend0 F2 N2 off (.inr ⟨_, by k_mem, rfl, _, rfl⟩) ⟨?_, rfl⟩)
    all_goals rw [List.take_add_one, ep, ey]
    all_goals first
      | (simp only [List.filter_append, List.map_append, Option.toList_some, List.filter_cons, ‹(p.1 != κ) = true›, if_true, List.filter_nil, List.map_cons, List.map_nil]; done)
      | (simp only [List.filter_append, List.map_append, Option.toList_some, List.filter_cons, ‹(p.1 != κ) = false›, Bool.false_eq_true, if_false, List.filter_nil, List.map_cons, List.map_nil, List.append_nil]; done)
  · intro ys nw ⟨ey, e⟩
    subst e
    intro D h2 tk2 F2 N2 off
    obtain rfl : ys = (B2.filter (fun p => p.1 != κ)).map sv := by rw [ey, List.take_of_length_le (by simp [svs])]
    (try k_unmd)
    (try k_unfold)
    (try dsimp only)
    exact h _ _ D _ F2 (news_in ((L + 1, o1) :: (L + 1 + 1, o2) :: (L + 1 + 1 + 1, o3) :: (L + 1 + 1 + 1 + 1, o4) :: (L + 1 + 1 + 1 + 1 + 1, o5) :: (L + 1 + 1 + 1 + 1 + 1 + 1, o6) :: (L + 1 + 1 + 1 + 1 + 1 + 1 + 1, o7) :: (cl, listOf vs.toArray ncl) :: (sz, listOf #[.int cap1 u1, .int cap2 u2] nsz) :: (ca, listOf #[.ref c1, .ref c2] nca) :: (kn, listOf #[.ref k1, .ref k2] nkn) :: (k1, ko1) :: (k2, ko2) :: (c1, instObj 169 cd1) :: (cd1, cdObj w dm1 dq1 lk1 cap1 ua1 ta1 tb1 tc1 td1) :: (dm1, od1) :: (dq1, listOf (svs ps1) nq1) :: (lk1, instObj 45 ld1) :: (ld1, dictOf [] 0) :: (c2, instObj 169 cd2) :: (cd2, cdObj w dm2 dq2 lk2 cap2 ua2 ta2 tb2 tc2 td2) :: (dm2, od2) :: (dq2, listOf (svs ps2) nq2) :: (lk2, instObj 45 ld2) :: (ld2, dictOf [] 0) :: []) [_] N2) (own_cons (off1_off off (by intro b hb; simp only [List.mem_cons, List.mem_nil_iff, or_false] at hb; rcases hb with rfl | rfl | rfl | rfl | rfl | rfl | rfl | rfl | rfl | rfl | rfl | rfl | rfl | rfl | rfl | rfl | rfl | rfl | rfl | rfl | rfl | rfl <;> exact ⟨_, by k_mem⟩)) hroff)
end
end
section
local macro_rules | `(tactic| walk_at "idle line 0") => `(tactic| fail)
local macro_rules | `(tactic| walk_at "idle line 1") => `(tactic| fail)
local macro_rules | `(tactic| walk_at "idle line 2") => `(tactic| fail)
local macro_rules | `(tactic| k_mem) => `(tactic| first | with_reducible exact List.mem_cons_self | with_reducible assumption | (with_reducible refine List.mem_cons_of_mem _ ?_; k_mem))
local macro_rules | `(tactic| walk_at "eval Name") => `(tactic| (k_here; k_dflt (refine' nameX_L ?F ?v ?_ ?a ?b; (case a => rfl); (case b => rfl); (case F => k_asm); (case v => assumption))))
local macro_rules | `(tactic| walk_at "call type:list") => `(tactic| (k_here; (with_reducible show wpAny _ _ (call (Value.type "list") [Value.ref _]) _ _ _); k_dflt (refine' list_w (base := ?bb) (A₀ := ?aa) ?C ?m1 ?m2 ?m3 ?m4 ?m5 ?m6 ?o ?d ?lo ?z rfl ?u ?_; (case C => exact ⟨by assumption, by k_asm, by assumption, by k_asm, by assumption, rfl, rfl, rfl, by (simp only [depth_mark, depth_deeper, depth_caller]; decide), by (simp only [units_mark, units_deeper]; decide)⟩); (case m1 => k_mem); (case m2 => k_mem); (case m3 => k_mem); (case m4 => k_mem); (case m5 => k_mem); (case m6 => k_mem); (case u => simp only [units_mark, units_deeper]; decide); (case o => exact ⟨by assumption, by assumption, by assumption, by assumption, by assumption⟩); (case d => assumption); (case lo => assumption); (case z => exact ⟨by assumption, by assumption⟩)); intro h' tk' D' n' F' N' l1; (have l2 := l1); (k_lt l2); (try k_sweep); (try k_unmd)))
local macro_rules | `(tactic| walk_at "compareOp In str ref") => `(tactic| (k_here; k_dflt (refine' in_strs ?l ?_; (case l => exact ⟨_, News.get (by k_asm) (by k_mem), rfl, _, rfl⟩))))
local macro_rules | `(tactic| walk_at "CompSrc") => `(tactic| (k_here; refine halt ?_))
local macro_rules | `(tactic| walk_at "CompSrcT") => `(tactic| (k_here; refine halt ?_))
local macro_rules | `(tactic| walk_at "call ref") => `(tactic| (k_here; (with_reducible show wpAny _ _ (call (Value.ref 180) _) _ _ _); refine halt ?_))
local macro_rules | `(tactic| walk_at "call ref") => `(tactic| (k_here; (with_reducible show wpAny _ _ (call (Value.ref 93) _) _ _ _); refine halt ?_))
local macro_rules | `(tactic| walk_at "CompEnd") => `(tactic| (refine halt ?_))
local macro_rules | `(tactic| walk_at "exec Assign cons ListComp") => `(tactic| (k_here; refine halt ?_))
local macro_rules | `(tactic| walk_at "subscriptTail Name Slice ref ref") => `(tactic| (k_here; (with_reducible show wpAny _ _ (subscriptTail _ (PySem.Expr.Slice _ _ none _) (Value.ref _) (Value.ref _)) _ _ _); k_dflt (refine' kms_slice_lit ?F ?N ?l ?p ?q rfl ?_ ?s ?t ?z; (case F => k_asm); (case N => k_asm); (case l => kmk_list); (case p => kmk_part); (case q => kmk_part); (case s => with_unfolding_all rfl); (case t => kmk_pure); (case z => (rw [sizeLine_eq]; simp; omega))); intro D' h' F' N' l1; (try k_sweep)))
section
variable {prog : Program} {w : World} {h₀ : Heap} {L fa : Nat} {cv : Value} {mean : ExcName → Option Value} {mg mb : Str → Option Value} {s : Shared} {m : Str → Option Value} {Q : Flow → Shared → Prop} {E : Value → Shared → Prop} {rest : List (Addr × Obj)}
  {o1 o2 o3 o4 o5 o6 o7 ko1 ko2 od1 od2 : Obj} {cl sz ca kn k1 k2 c1 cd1 dm1 dq1 lk1 ld1 c2 cd2 dm2 dq2 lk2 ld2 : Nat} {ncl nsz nca nkn nq1 nq2 u1 u2 ua1 ua2 ta1 ta2 tb1 tb2 tc1 tc2 td1 td2 : Nat} {cap1 cap2 : Int}
  {vs : List Value} {ns : List Int} {ps1 ps2 : List (Str × Nat)} {kvs1 kvs2 kk1 kk2 : List (Str × Value)}
set_option maxRecDepth 100000 in
set_option maxHeartbeats 8000000 in
theorem last1c (B : Below callerA h₀ [] h₀) (X : (Mine.hd.heap_39 w.params).In h₀) (T : TT mean mg mb h₀) (F : Fr h₀ L s.heap m) (N : News h₀ L s.heap ((L + 1, o1) :: (L + 1 + 1, o2) :: (L + 1 + 1 + 1, o3) :: (L + 1 + 1 + 1 + 1, o4) :: (L + 1 + 1 + 1 + 1 + 1, o5) :: (L + 1 + 1 + 1 + 1 + 1 + 1, o6) :: (L + 1 + 1 + 1 + 1 + 1 + 1 + 1, o7) :: (cl, listOf vs.toArray ncl) :: (sz, listOf #[.int cap1 u1, .int cap2 u2] nsz) :: (ca, listOf #[.ref c1, .ref c2] nca) :: (kn, listOf #[.ref k1, .ref k2] nkn) :: (k1, ko1) :: (k2, ko2) :: (c1, instObj 169 cd1) :: (cd1, cdObj w dm1 dq1 lk1 cap1 ua1 ta1 tb1 tc1 td1) :: (dm1, od1) :: (dq1, listOf (svs ps1) nq1) :: (lk1, instObj 45 ld1) :: (ld1, dictOf [] 0) :: (c2, instObj 169 cd2) :: (cd2, cdObj w dm2 dq2 lk2 cap2 ua2 ta2 tb2 tc2 td2) :: (dm2, od2) :: (dq2, listOf (svs ps2) nq2) :: (lk2, instObj 45 ld2) :: (ld2, dictOf [] 0) :: rest))
    (q0 : (L + 1 + 1 + 1 + 1 + 1 + 1 + 1 < sz ∧ L + 1 ≠ cl ∧ L + 1 + 1 ≠ cl ∧ L + 1 + 1 + 1 ≠ cl ∧ L + 1 + 1 + 1 + 1 ≠ cl ∧ L + 1 + 1 + 1 + 1 + 1 ≠ cl ∧ L + 1 + 1 + 1 + 1 + 1 + 1 ≠ cl ∧ L + 1 + 1 + 1 + 1 + 1 + 1 + 1 ≠ cl) ∧ cl < sz ∧ sz < cd1 ∧ cd1 < c1 ∧ c1 < dm1 ∧ dm1 < dq1 ∧ dq1 < ld1 ∧ ld1 < lk1 ∧ lk1 < cd2 ∧ cd2 < c2 ∧ c2 < dm2 ∧ dm2 < dq2 ∧ dq2 < ld2 ∧ ld2 < lk2 ∧ lk2 < ca ∧ ca < kn ∧ ca < k1 ∧ ca < k2 ∧ k1 ≠ k2 ∧ k1 ≠ kn ∧ k2 ≠ kn)
    (hroff : OwnOff rest [L + 1, L + 1 + 1, L + 1 + 1 + 1, L + 1 + 1 + 1 + 1, L + 1 + 1 + 1 + 1 + 1, L + 1 + 1 + 1 + 1 + 1 + 1, L + 1 + 1 + 1 + 1 + 1 + 1 + 1, kn, k1, k2, c1, cd1, dm1, dq1, lk1, ld1, c2, cd2, dm2, dq2, lk2, ld2])
    (mcl : m (Str.ofString "cells") = some (.ref cl)) (msz : m (Str.ofString "sizes") = some (.ref sz)) (mca : m (Str.ofString "caches") = some (.ref ca)) {tn : Tok} (x5 : o5.data = .cell (some (.int 0 tn))) {κ : Str} {tκ td : Tok} {dd : Int} {Db D1 D2 nb n1 n2 Dt nt Dr nr : Nat} {t1 t2 : Bool} {B1 B2 RR : List (Str × Nat)} (x3 : o3.data = .cell (some (.int dd td))) (x4 : o4.data = .cell (some (.str κ tκ))) (mb : m (Str.ofString "before") = some (.ref Db)) (mth : m (Str.ofString "there") = some (.ref Dt)) (mre : m (Str.ofString "rest") = some (.ref Dr)) (mDb : (Db, listOf #[.ref D1, .ref D2] nb) ∈ rest) (mDt : (Dt, listOf #[.bool t1, .bool t2] nt) ∈ rest) (mDr : (Dr, listOf (svs RR) nr) ∈ rest) (mD1 : (D1, listOf (svs B1) n1) ∈ rest) (mD2 : (D2, listOf (svs B2) n2) ∈ rest) (hcap : 0 ≤ cap1) (hdd : 0 ≤ dd ∧ dd < 6) (zR : RR.length ≤ 900)
    (h : ∀ h' tk (Dc : Nat) (O : List (Str × Nat)) nc rest', keysOf O = ordK dd t1 cap1 κ (keysOf B1) (keysOf RR) → Fr h₀ L h' (fun y => if y = (Str.ofString "order") then some (.ref Dc) else m y) → News h₀ L h' ((L + 1, o1) :: (L + 1 + 1, o2) :: (L + 1 + 1 + 1, o3) :: (L + 1 + 1 + 1 + 1, o4) :: (L + 1 + 1 + 1 + 1 + 1, o5) :: (L + 1 + 1 + 1 + 1 + 1 + 1, o6) :: (L + 1 + 1 + 1 + 1 + 1 + 1 + 1, o7) :: (cl, listOf vs.toArray ncl) :: (sz, listOf #[.int cap1 u1, .int cap2 u2] nsz) :: (ca, listOf #[.ref c1, .ref c2] nca) :: (kn, listOf #[.ref k1, .ref k2] nkn) :: (k1, ko1) :: (k2, ko2) :: (c1, instObj 169 cd1) :: (cd1, cdObj w dm1 dq1 lk1 cap1 ua1 ta1 tb1 tc1 td1) :: (dm1, od1) :: (dq1, listOf (svs ps1) nq1) :: (lk1, instObj 45 ld1) :: (ld1, dictOf [] 0) :: (c2, instObj 169 cd2) :: (cd2, cdObj w dm2 dq2 lk2 cap2 ua2 ta2 tb2 tc2 td2) :: (dm2, od2) :: (dq2, listOf (svs ps2) nq2) :: (lk2, instObj 45 ld2) :: (ld2, dictOf [] 0) :: rest') → OwnOff rest' [L + 1, L + 1 + 1, L + 1 + 1 + 1, L + 1 + 1 + 1 + 1, L + 1 + 1 + 1 + 1 + 1, L + 1 + 1 + 1 + 1 + 1 + 1, L + 1 + 1 + 1 + 1 + 1 + 1 + 1, kn, k1, k2, c1, cd1, dm1, dq1, lk1, ld1, c2, cd2, dm2, dq2, lk2, ld2] → (∀ p ∈ rest, p ∈ rest') → (Dc, listOf (svs O) nc) ∈ rest' → Q .next { s with heap := h', toks := tk }) :
    wpAny (model prog w) (callerA.deeper (lawE w L fa cv)) (exec (hdS (tlS (tlS (bodyS (st8 w))))) (lawE w L fa cv)) Q E s := by
  have q0c := q0
  obtain ⟨q1, q2, q3, q4, q5, q6, q7, q8, q9, q10, q11, q12, q13, q14, q15, q16, q17, q18, q19, q20, q21⟩ := q0
  unfold st8 turnB forS lawB lawF
  dsimp only [hdS, tlS, bodyS]
  show wpAny _ (callerA.deeper (envOfC "law" (lawS w) L fa cv)) (exec _ (envOfC "law" (lawS w) L fa cv)) _ _ _
  unfold lawS lawF
  dsimp only
  have N0 : News h₀ L s.heap ((Dr, listOf (svs RR) nr) :: (Dt, listOf #[.bool t1, .bool t2] nt) :: (Db, listOf #[.ref D1, .ref D2] nb) :: ((L + 1, o1) :: (L + 1 + 1, o2) :: (L + 1 + 1 + 1, o3) :: (L + 1 + 1 + 1 + 1, o4) :: (L + 1 + 1 + 1 + 1 + 1, o5) :: (L + 1 + 1 + 1 + 1 + 1 + 1, o6) :: (L + 1 + 1 + 1 + 1 + 1 + 1 + 1, o7) :: (cl, listOf vs.toArray ncl) :: (sz, listOf #[.int cap1 u1, .int cap2 u2] nsz) :: (ca, listOf #[.ref c1, .ref c2] nca) :: (kn, listOf #[.ref k1, .ref k2] nkn) :: (k1, ko1) :: (k2, ko2) :: (c1, instObj 169 cd1) :: (cd1, cdObj w dm1 dq1 lk1 cap1 ua1 ta1 tb1 tc1 td1) :: (dm1, od1) :: (dq1, listOf (svs ps1) nq1) :: (lk1, instObj 45 ld1) :: (ld1, dictOf [] 0) :: (c2, instObj 169 cd2) :: (cd2, cdObj w dm2 dq2 lk2 cap2 ua2 ta2 tb2 tc2 td2) :: (dm2, od2) :: (dq2, listOf (svs ps2) nq2) :: (lk2, instObj 45 ld2) :: (ld2, dictOf [] 0) :: rest)) := fun q hq => by
    rcases List.mem_cons.mp hq with rfl | hq
    · exact N _ (by k_mem)
    rcases List.mem_cons.mp hq with rfl | hq
    · exact N _ (by k_mem)
    rcases List.mem_cons.mp hq with rfl | hq
    · exact N _ (by k_mem)
    · exact N _ hq
  clear N
  cases t1
  all_goals k_steps
  all_goals first
    | exact h _ _ D1 B1 n1 rest (by simp only [ordK, *, true_or, or_true, and_self, if_true]) (by assumption) (news_tail (news_tail (news_tail (by assumption)))) hroff (fun _ q => q) mD1
    | exact h _ _ Dr RR nr rest (by simp only [ordK, ‹dd ≠ 4›, ‹dd = 5›, false_or, if_true]; simp) (by assumption) (news_tail (news_tail (news_tail (by assumption)))) hroff (fun _ q => q) mDr
    | (rename_i l' hh3 l1a hh2 tt D9 hh1 l9 hh0 F9 N9; rw [show (kms_pick ([Value.str κ tκ] ++ List.map sv RR).toArray.toList none (some ([cap1, cap2].getD (Int.toNat 0) 0))) = (((κ, tκ) :: RR).take cap1.toNat).map sv from (kms_take _ _ hcap).trans (by simp [sv, List.map_take])] at N9; exact h _ _ D9 (((κ, tκ) :: RR).take cap1.toNat) 0 ((D9, listOf (svs (((κ, tκ) :: RR).take cap1.toNat)) 0) :: rest) (by simp only [ordK, ‹dd ≠ 4›, ‹dd ≠ 5›, false_or, if_false]; first | (rw [if_neg (by simp [*])]; simp [keysOf, List.map_take]) | simp [*, keysOf, List.map_take]) F9 (news_in ((L + 1, o1) :: (L + 1 + 1, o2) :: (L + 1 + 1 + 1, o3) :: (L + 1 + 1 + 1 + 1, o4) :: (L + 1 + 1 + 1 + 1 + 1, o5) :: (L + 1 + 1 + 1 + 1 + 1 + 1, o6) :: (L + 1 + 1 + 1 + 1 + 1 + 1 + 1, o7) :: (cl, listOf vs.toArray ncl) :: (sz, listOf #[.int cap1 u1, .int cap2 u2] nsz) :: (ca, listOf #[.ref c1, .ref c2] nca) :: (kn, listOf #[.ref k1, .ref k2] nkn) :: (k1, ko1) :: (k2, ko2) :: (c1, instObj 169 cd1) :: (cd1, cdObj w dm1 dq1 lk1 cap1 ua1 ta1 tb1 tc1 td1) :: (dm1, od1) :: (dq1, listOf (svs ps1) nq1) :: (lk1, instObj 45 ld1) :: (ld1, dictOf [] 0) :: (c2, instObj 169 cd2) :: (cd2, cdObj w dm2 dq2 lk2 cap2 ua2 ta2 tb2 tc2 td2) :: (dm2, od2) :: (dq2, listOf (svs ps2) nq2) :: (lk2, instObj 45 ld2) :: (ld2, dictOf [] 0) :: []) [_] (fun q hq => N9 q (by rcases List.mem_cons.mp hq with rfl | hq; (· exact .head _); exact List.mem_cons_of_mem _ (List.mem_cons_of_mem _ (List.mem_cons_of_mem _ (List.mem_cons_of_mem _ (List.mem_cons_of_mem _ (List.mem_cons_of_mem _ hq)))))))) (own_cons (new_off l9 (by intro b hb; simp only [List.mem_cons, List.mem_nil_iff, or_false] at hb; rcases hb with rfl | rfl | rfl | rfl | rfl | rfl | rfl | rfl | rfl | rfl | rfl | rfl | rfl | rfl | rfl | rfl | rfl | rfl | rfl | rfl | rfl | rfl <;> exact ⟨_, by k_mem⟩)) hroff) (fun _ q => List.mem_cons_of_mem _ q) (.head _))
end
end
section
local macro_rules | `(tactic| walk_at "idle line 0") => `(tactic| fail)
local macro_rules | `(tactic| k_mem) => `(tactic| first | with_reducible exact List.mem_cons_self | with_reducible assumption | (with_reducible refine List.mem_cons_of_mem _ ?_; k_mem))
local macro_rules | `(tactic| walk_at "eval Name") => `(tactic| (k_here; k_dflt (refine' nameX_L ?F ?v ?_ ?a ?b; (case a => rfl); (case b => rfl); (case F => k_asm); (case v => assumption))))
local macro_rules | `(tactic| walk_at "call type:list") => `(tactic| (k_here; (with_reducible show wpAny _ _ (call (Value.type "list") [Value.ref _]) _ _ _); k_dflt (refine' list_w (base := ?bb) (A₀ := ?aa) ?C ?m1 ?m2 ?m3 ?m4 ?m5 ?m6 ?o ?d ?lo ?z rfl ?u ?_; (case C => exact ⟨by assumption, by k_asm, by assumption, by k_asm, by assumption, rfl, rfl, rfl, by (simp only [depth_mark, depth_deeper, depth_caller]; decide), by (simp only [units_mark, units_deeper]; decide)⟩); (case m1 => k_mem); (case m2 => k_mem); (case m3 => k_mem); (case m4 => k_mem); (case m5 => k_mem); (case m6 => k_mem); (case u => simp only [units_mark, units_deeper]; decide); (case o => exact ⟨by assumption, by assumption, by assumption, by assumption, by assumption⟩); (case d => assumption); (case lo => assumption); (case z => exact ⟨by assumption, by assumption⟩)); intro h' tk' D' n' F' N' l1; (have l2 := l1); (k_lt l2); (try k_sweep); (try k_unmd)))
local macro_rules | `(tactic| walk_at "compareOp In str ref") => `(tactic| (k_here; k_dflt (refine' in_strs ?l ?_; (case l => exact ⟨_, News.get (by k_asm) (by k_mem), rfl, _, rfl⟩))))
local macro_rules | `(tactic| walk_at "CompSrc") => `(tactic| (k_here; refine halt ?_))
local macro_rules | `(tactic| walk_at "CompSrcT") => `(tactic| (k_here; refine halt ?_))
local macro_rules | `(tactic| walk_at "call ref") => `(tactic| (k_here; (with_reducible show wpAny _ _ (call (Value.ref 180) _) _ _ _); refine halt ?_))
local macro_rules | `(tactic| walk_at "call ref") => `(tactic| (k_here; (with_reducible show wpAny _ _ (call (Value.ref 93) _) _ _ _); refine halt ?_))
local macro_rules | `(tactic| walk_at "CompEnd") => `(tactic| (refine halt ?_))
local macro_rules | `(tactic| walk_at "exec Assign cons ListComp") => `(tactic| (k_here; refine halt ?_))
local macro_rules | `(tactic| walk_at "subscriptTail Name Slice ref ref") => `(tactic| (k_here; (with_reducible show wpAny _ _ (subscriptTail _ (PySem.Expr.Slice _ _ none _) (Value.ref _) (Value.ref _)) _ _ _); k_dflt (refine' kms_slice_lit ?F ?N ?l ?p ?q rfl ?_ ?s ?t ?z; (case F => k_asm); (case N => k_asm); (case l => kmk_list); (case p => kmk_part); (case q => kmk_part); (case s => with_unfolding_all rfl); (case t => kmk_pure); (case z => (rw [sizeLine_eq]; simp; omega))); intro D' h' F' N' l1; (try k_sweep)))
section
variable {prog : Program} {w : World} {h₀ : Heap} {L fa : Nat} {cv : Value} {mean : ExcName → Option Value} {mg mb : Str → Option Value} {s : Shared} {m : Str → Option Value} {Q : Flow → Shared → Prop} {E : Value → Shared → Prop} {rest : List (Addr × Obj)}
  {o1 o2 o3 o4 o5 o6 o7 ko1 ko2 od1 od2 : Obj} {cl sz ca kn k1 k2 c1 cd1 dm1 dq1 lk1 ld1 c2 cd2 dm2 dq2 lk2 ld2 : Nat} {ncl nsz nca nkn nq1 nq2 u1 u2 ua1 ua2 ta1 ta2 tb1 tb2 tc1 tc2 td1 td2 : Nat} {cap1 cap2 : Int}
  {vs : List Value} {ns : List Int} {ps1 ps2 : List (Str × Nat)} {kvs1 kvs2 kk1 kk2 : List (Str × Value)}
set_option maxRecDepth 100000 in
set_option maxHeartbeats 8000000 in
theorem last2c (B : Below callerA h₀ [] h₀) (X : (Mine.hd.heap_39 w.params).In h₀) (T : TT mean mg mb h₀) (F : Fr h₀ L s.heap m) (N : News h₀ L s.heap ((L + 1, o1) :: (L + 1 + 1, o2) :: (L + 1 + 1 + 1, o3) :: (L + 1 + 1 + 1 + 1, o4) :: (L + 1 + 1 + 1 + 1 + 1, o5) :: (L + 1 + 1 + 1 + 1 + 1 + 1, o6) :: (L + 1 + 1 + 1 + 1 + 1 + 1 + 1, o7) :: (cl, listOf vs.toArray ncl) :: (sz, listOf #[.int cap1 u1, .int cap2 u2] nsz) :: (ca, listOf #[.ref c1, .ref c2] nca) :: (kn, listOf #[.ref k1, .ref k2] nkn) :: (k1, ko1) :: (k2, ko2) :: (c1, instObj 169 cd1) :: (cd1, cdObj w dm1 dq1 lk1 cap1 ua1 ta1 tb1 tc1 td1) :: (dm1, od1) :: (dq1, listOf (svs ps1) nq1) :: (lk1, instObj 45 ld1) :: (ld1, dictOf [] 0) :: (c2, instObj 169 cd2) :: (cd2, cdObj w dm2 dq2 lk2 cap2 ua2 ta2 tb2 tc2 td2) :: (dm2, od2) :: (dq2, listOf (svs ps2) nq2) :: (lk2, instObj 45 ld2) :: (ld2, dictOf [] 0) :: rest))
    (q0 : (L + 1 + 1 + 1 + 1 + 1 + 1 + 1 < sz ∧ L + 1 ≠ cl ∧ L + 1 + 1 ≠ cl ∧ L + 1 + 1 + 1 ≠ cl ∧ L + 1 + 1 + 1 + 1 ≠ cl ∧ L + 1 + 1 + 1 + 1 + 1 ≠ cl ∧ L + 1 + 1 + 1 + 1 + 1 + 1 ≠ cl ∧ L + 1 + 1 + 1 + 1 + 1 + 1 + 1 ≠ cl) ∧ cl < sz ∧ sz < cd1 ∧ cd1 < c1 ∧ c1 < dm1 ∧ dm1 < dq1 ∧ dq1 < ld1 ∧ ld1 < lk1 ∧ lk1 < cd2 ∧ cd2 < c2 ∧ c2 < dm2 ∧ dm2 < dq2 ∧ dq2 < ld2 ∧ ld2 < lk2 ∧ lk2 < ca ∧ ca < kn ∧ ca < k1 ∧ ca < k2 ∧ k1 ≠ k2 ∧ k1 ≠ kn ∧ k2 ≠ kn)
    (hroff : OwnOff rest [L + 1, L + 1 + 1, L + 1 + 1 + 1, L + 1 + 1 + 1 + 1, L + 1 + 1 + 1 + 1 + 1, L + 1 + 1 + 1 + 1 + 1 + 1, L + 1 + 1 + 1 + 1 + 1 + 1 + 1, kn, k1, k2, c1, cd1, dm1, dq1, lk1, ld1, c2, cd2, dm2, dq2, lk2, ld2])
    (mcl : m (Str.ofString "cells") = some (.ref cl)) (msz : m (Str.ofString "sizes") = some (.ref sz)) (mca : m (Str.ofString "caches") = some (.ref ca)) {tn : Tok} (x5 : o5.data = .cell (some (.int 1 tn))) {κ : Str} {tκ td : Tok} {dd : Int} {Db D1 D2 nb n1 n2 Dt nt Dr nr : Nat} {t1 t2 : Bool} {B1 B2 RR : List (Str × Nat)} (x3 : o3.data = .cell (some (.int dd td))) (x4 : o4.data = .cell (some (.str κ tκ))) (mb : m (Str.ofString "before") = some (.ref Db)) (mth : m (Str.ofString "there") = some (.ref Dt)) (mre : m (Str.ofString "rest") = some (.ref Dr)) (mDb : (Db, listOf #[.ref D1, .ref D2] nb) ∈ rest) (mDt : (Dt, listOf #[.bool t1, .bool t2] nt) ∈ rest) (mDr : (Dr, listOf (svs RR) nr) ∈ rest) (mD1 : (D1, listOf (svs B1) n1) ∈ rest) (mD2 : (D2, listOf (svs B2) n2) ∈ rest) (hcap : 0 ≤ cap2) (hdd : 0 ≤ dd ∧ dd < 6) (zR : RR.length ≤ 900)
    (h : ∀ h' tk (Dc : Nat) (O : List (Str × Nat)) nc rest', keysOf O = ordK dd t2 cap2 κ (keysOf B2) (keysOf RR) → Fr h₀ L h' (fun y => if y = (Str.ofString "order") then some (.ref Dc) else m y) → News h₀ L h' ((L + 1, o1) :: (L + 1 + 1, o2) :: (L + 1 + 1 + 1, o3) :: (L + 1 + 1 + 1 + 1, o4) :: (L + 1 + 1 + 1 + 1 + 1, o5) :: (L + 1 + 1 + 1 + 1 + 1 + 1, o6) :: (L + 1 + 1 + 1 + 1 + 1 + 1 + 1, o7) :: (cl, listOf vs.toArray ncl) :: (sz, listOf #[.int cap1 u1, .int cap2 u2] nsz) :: (ca, listOf #[.ref c1, .ref c2] nca) :: (kn, listOf #[.ref k1, .ref k2] nkn) :: (k1, ko1) :: (k2, ko2) :: (c1, instObj 169 cd1) :: (cd1, cdObj w dm1 dq1 lk1 cap1 ua1 ta1 tb1 tc1 td1) :: (dm1, od1) :: (dq1, listOf (svs ps1) nq1) :: (lk1, instObj 45 ld1) :: (ld1, dictOf [] 0) :: (c2, instObj 169 cd2) :: (cd2, cdObj w dm2 dq2 lk2 cap2 ua2 ta2 tb2 tc2 td2) :: (dm2, od2) :: (dq2, listOf (svs ps2) nq2) :: (lk2, instObj 45 ld2) :: (ld2, dictOf [] 0) :: rest') → OwnOff rest' [L + 1, L + 1 + 1, L + 1 + 1 + 1, L + 1 + 1 + 1 + 1, L + 1 + 1 + 1 + 1 + 1, L + 1 + 1 + 1 + 1 + 1 + 1, L + 1 + 1 + 1 + 1 + 1 + 1 + 1, kn, k1, k2, c1, cd1, dm1, dq1, lk1, ld1, c2, cd2, dm2, dq2, lk2, ld2] → (∀ p ∈ rest, p ∈ rest') → (Dc, listOf (svs O) nc) ∈ rest' → Q .next { s with heap := h', toks := tk }) :
    wpAny (model prog w) (callerA.deeper (lawE w L fa cv)) (exec (hdS (tlS (tlS (bodyS (st8 w))))) (lawE w L fa cv)) Q E s := by
  have q0c := q0
  obtain ⟨q1, q2, q3, q4, q5, q6, q7, q8, q9, q10, q11, q12, q13, q14, q15, q16, q17, q18, q19, q20, q21⟩ := q0
  unfold st8 turnB forS lawB lawF
  dsimp only [hdS, tlS, bodyS]
  show wpAny _ (callerA.deeper (envOfC "law" (lawS w) L fa cv)) (exec _ (envOfC "law" (lawS w) L fa cv)) _ _ _
  unfold lawS lawF
  dsimp only
  have N0 : News h₀ L s.heap ((Dr, listOf (svs RR) nr) :: (Dt, listOf #[.bool t1, .bool t2] nt) :: (Db, listOf #[.ref D1, .ref D2] nb) :: ((L + 1, o1) :: (L + 1 + 1, o2) :: (L + 1 + 1 + 1, o3) :: (L + 1 + 1 + 1 + 1, o4) :: (L + 1 + 1 + 1 + 1 + 1, o5) :: (L + 1 + 1 + 1 + 1 + 1 + 1, o6) :: (L + 1 + 1 + 1 + 1 + 1 + 1 + 1, o7) :: (cl, listOf vs.toArray ncl) :: (sz, listOf #[.int cap1 u1, .int cap2 u2] nsz) :: (ca, listOf #[.ref c1, .ref c2] nca) :: (kn, listOf #[.ref k1, .ref k2] nkn) :: (k1, ko1) :: (k2, ko2) :: (c1, instObj 169 cd1) :: (cd1, cdObj w dm1 dq1 lk1 cap1 ua1 ta1 tb1 tc1 td1) :: (dm1, od1) :: (dq1, listOf (svs ps1) nq1) :: (lk1, instObj 45 ld1) :: (ld1, dictOf [] 0) :: (c2, instObj 169 cd2) :: (cd2, cdObj w dm2 dq2 lk2 cap2 ua2 ta2 tb2 tc2 td2) :: (dm2, od2) :: (dq2, listOf (svs ps2) nq2) :: (lk2, instObj 45 ld2) :: (ld2, dictOf [] 0) :: rest)) := fun q hq => by
    rcases List.mem_cons.mp hq with rfl | hq
    · exact N _ (by k_mem)
    rcases List.mem_cons.mp hq with rfl | hq
    · exact N _ (by k_mem)
    rcases List.mem_cons.mp hq with rfl | hq
    · exact N _ (by k_mem)
    · exact N _ hq
  clear N
  cases t2
  all_goals k_steps
  all_goals first
    | exact h _ _ D2 B2 n2 rest (by simp only [ordK, *, true_or, or_true, and_self, if_true]) (by assumption) (news_tail (news_tail (news_tail (by assumption)))) hroff (fun _ q => q) mD2
    | exact h _ _ Dr RR nr rest (by simp only [ordK, ‹dd ≠ 4›, ‹dd = 5›, false_or, if_true]; simp) (by assumption) (news_tail (news_tail (news_tail (by assumption)))) hroff (fun _ q => q) mDr
    | (rename_i l' hh3 l1a hh2 tt D9 hh1 l9 hh0 F9 N9; rw [show (kms_pick ([Value.str κ tκ] ++ List.map sv RR).toArray.toList none (some ([cap1, cap2].getD (Int.toNat 1) 0))) = (((κ, tκ) :: RR).take cap2.toNat).map sv from (kms_take _ _ hcap).trans (by simp [sv, List.map_take])] at N9; exact h _ _ D9 (((κ, tκ) :: RR).take cap2.toNat) 0 ((D9, listOf (svs (((κ, tκ) :: RR).take cap2.toNat)) 0) :: rest) (by simp only [ordK, ‹dd ≠ 4›, ‹dd ≠ 5›, false_or, if_false]; first | (rw [if_neg (by simp [*])]; simp [keysOf, List.map_take]) | simp [*, keysOf, List.map_take]) F9 (news_in ((L + 1, o1) :: (L + 1 + 1, o2) :: (L + 1 + 1 + 1, o3) :: (L + 1 + 1 + 1 + 1, o4) :: (L + 1 + 1 + 1 + 1 + 1, o5) :: (L + 1 + 1 + 1 + 1 + 1 + 1, o6) :: (L + 1 + 1 + 1 + 1 + 1 + 1 + 1, o7) :: (cl, listOf vs.toArray ncl) :: (sz, listOf #[.int cap1 u1, .int cap2 u2] nsz) :: (ca, listOf #[.ref c1, .ref c2] nca) :: (kn, listOf #[.ref k1, .ref k2] nkn) :: (k1, ko1) :: (k2, ko2) :: (c1, instObj 169 cd1) :: (cd1, cdObj w dm1 dq1 lk1 cap1 ua1 ta1 tb1 tc1 td1) :: (dm1, od1) :: (dq1, listOf (svs ps1) nq1) :: (lk1, instObj 45 ld1) :: (ld1, dictOf [] 0) :: (c2, instObj 169 cd2) :: (cd2, cdObj w dm2 dq2 lk2 cap2 ua2 ta2 tb2 tc2 td2) :: (dm2, od2) :: (dq2, listOf (svs ps2) nq2) :: (lk2, instObj 45 ld2) :: (ld2, dictOf [] 0) :: []) [_] (fun q hq => N9 q (by rcases List.mem_cons.mp hq with rfl | hq; (· exact .head _); exact List.mem_cons_of_mem _ (List.mem_cons_of_mem _ (List.mem_cons_of_mem _ (List.mem_cons_of_mem _ (List.mem_cons_of_mem _ (List.mem_cons_of_mem _ hq)))))))) (own_cons (new_off l9 (by intro b hb; simp only [List.mem_cons, List.mem_nil_iff, or_false] at hb; rcases hb with rfl | rfl | rfl | rfl | rfl | rfl | rfl | rfl | rfl | rfl | rfl | rfl | rfl | rfl | rfl | rfl | rfl | rfl | rfl | rfl | rfl | rfl <;> exact ⟨_, by k_mem⟩)) hroff) (fun _ q => List.mem_cons_of_mem _ q) (.head _))
end
end
section
local macro_rules | `(tactic| k_mem) => `(tactic| first | with_reducible exact List.mem_cons_self | with_reducible assumption | (with_reducible refine List.mem_cons_of_mem _ ?_; k_mem))
local macro_rules | `(tactic| walk_at "eval Name") => `(tactic| (k_here; k_dflt (refine' nameX_L ?F ?v ?_ ?a ?b; (case a => rfl); (case b => rfl); (case F => k_asm); (case v => assumption))))
local macro_rules | `(tactic| walk_at "call type:list") => `(tactic| (k_here; (with_reducible show wpAny _ _ (call (Value.type "list") [Value.ref _]) _ _ _); k_dflt (refine' list_w (base := ?bb) (A₀ := ?aa) ?C ?m1 ?m2 ?m3 ?m4 ?m5 ?m6 ?o ?d ?lo ?z rfl ?u ?_; (case C => exact ⟨by assumption, by k_asm, by assumption, by k_asm, by assumption, rfl, rfl, rfl, by (simp only [depth_mark, depth_deeper, depth_caller]; decide), by (simp only [units_mark, units_deeper]; decide)⟩); (case m1 => k_mem); (case m2 => k_mem); (case m3 => k_mem); (case m4 => k_mem); (case m5 => k_mem); (case m6 => k_mem); (case u => simp only [units_mark, units_deeper]; decide); (case o => exact ⟨by assumption, by assumption, by assumption, by assumption, by assumption⟩); (case d => assumption); (case lo => assumption); (case z => exact ⟨by assumption, by assumption⟩)); intro h' tk' D' n' F' N' l1; (have l2 := l1); (k_lt l2); (try k_sweep); (try k_unmd)))
local macro_rules | `(tactic| walk_at "compareOp In str ref") => `(tactic| (k_here; k_dflt (refine' in_strs ?l ?_; (case l => exact ⟨_, News.get (by k_asm) (by k_mem), rfl, _, rfl⟩))))
local macro_rules | `(tactic| walk_at "CompSrc") => `(tactic| (k_here; refine halt ?_))
local macro_rules | `(tactic| walk_at "CompSrcT") => `(tactic| (k_here; refine halt ?_))
local macro_rules | `(tactic| walk_at "call ref") => `(tactic| (k_here; (with_reducible show wpAny _ _ (call (Value.ref 180) _) _ _ _); refine halt ?_))
local macro_rules | `(tactic| walk_at "call ref") => `(tactic| (k_here; (with_reducible show wpAny _ _ (call (Value.ref 93) _) _ _ _); refine halt ?_))
local macro_rules | `(tactic| walk_at "compareOp NotEq ref ref") => `(tactic| (k_here; k_dflt (refine' ne_strs ?a ?b ?e ?u ?_; (case a => exact ⟨_, News.get (by k_asm) (by k_mem), rfl, _, rfl⟩); (case b => exact ⟨_, News.get (by k_asm) (by k_mem), rfl, _, rfl⟩); (case e => assumption); (case u => simp only [units_mark, units_deeper]; decide))))
section
variable {prog : Program} {w : World} {h₀ : Heap} {L fa : Nat} {cv : Value} {mean : ExcName → Option Value} {mg mb : Str → Option Value} {s : Shared} {m : Str → Option Value} {Q : Flow → Shared → Prop} {E : Value → Shared → Prop} {rest : List (Addr × Obj)}
  {o1 o2 o3 o4 o5 o6 o7 ko1 ko2 od1 od2 : Obj} {cl sz ca kn k1 k2 c1 cd1 dm1 dq1 lk1 ld1 c2 cd2 dm2 dq2 lk2 ld2 : Nat} {ncl nsz nca nkn nq1 nq2 u1 u2 ua1 ua2 ta1 ta2 tb1 tb2 tc1 tc2 td1 td2 : Nat} {cap1 cap2 : Int}
  {vs : List Value} {ns : List Int} {ps1 ps2 : List (Str × Nat)} {kvs1 kvs2 kk1 kk2 : List (Str × Value)}
set_option maxRecDepth 100000 in
set_option maxHeartbeats 8000000 in
theorem last_d (B : Below callerA h₀ [] h₀) (X : (Mine.hd.heap_39 w.params).In h₀) (T : TT mean mg mb h₀) (F : Fr h₀ L s.heap m) (N : News h₀ L s.heap ((L + 1, o1) :: (L + 1 + 1, o2) :: (L + 1 + 1 + 1, o3) :: (L + 1 + 1 + 1 + 1, o4) :: (L + 1 + 1 + 1 + 1 + 1, o5) :: (L + 1 + 1 + 1 + 1 + 1 + 1, o6) :: (L + 1 + 1 + 1 + 1 + 1 + 1 + 1, o7) :: (cl, listOf vs.toArray ncl) :: (sz, listOf #[.int cap1 u1, .int cap2 u2] nsz) :: (ca, listOf #[.ref c1, .ref c2] nca) :: (kn, listOf #[.ref k1, .ref k2] nkn) :: (k1, ko1) :: (k2, ko2) :: (c1, instObj 169 cd1) :: (cd1, cdObj w dm1 dq1 lk1 cap1 ua1 ta1 tb1 tc1 td1) :: (dm1, od1) :: (dq1, listOf (svs ps1) nq1) :: (lk1, instObj 45 ld1) :: (ld1, dictOf [] 0) :: (c2, instObj 169 cd2) :: (cd2, cdObj w dm2 dq2 lk2 cap2 ua2 ta2 tb2 tc2 td2) :: (dm2, od2) :: (dq2, listOf (svs ps2) nq2) :: (lk2, instObj 45 ld2) :: (ld2, dictOf [] 0) :: rest))
    (q0 : (L + 1 + 1 + 1 + 1 + 1 + 1 + 1 < sz ∧ L + 1 ≠ cl ∧ L + 1 + 1 ≠ cl ∧ L + 1 + 1 + 1 ≠ cl ∧ L + 1 + 1 + 1 + 1 ≠ cl ∧ L + 1 + 1 + 1 + 1 + 1 ≠ cl ∧ L + 1 + 1 + 1 + 1 + 1 + 1 ≠ cl ∧ L + 1 + 1 + 1 + 1 + 1 + 1 + 1 ≠ cl) ∧ cl < sz ∧ sz < cd1 ∧ cd1 < c1 ∧ c1 < dm1 ∧ dm1 < dq1 ∧ dq1 < ld1 ∧ ld1 < lk1 ∧ lk1 < cd2 ∧ cd2 < c2 ∧ c2 < dm2 ∧ dm2 < dq2 ∧ dq2 < ld2 ∧ ld2 < lk2 ∧ lk2 < ca ∧ ca < kn ∧ ca < k1 ∧ ca < k2 ∧ k1 ≠ k2 ∧ k1 ≠ kn ∧ k2 ≠ kn)
    (hroff : OwnOff rest [L + 1, L + 1 + 1, L + 1 + 1 + 1, L + 1 + 1 + 1 + 1, L + 1 + 1 + 1 + 1 + 1, L + 1 + 1 + 1 + 1 + 1 + 1, L + 1 + 1 + 1 + 1 + 1 + 1 + 1, kn, k1, k2, c1, cd1, dm1, dq1, lk1, ld1, c2, cd2, dm2, dq2, lk2, ld2])
    (mcl : m (Str.ofString "cells") = some (.ref cl)) (msz : m (Str.ofString "sizes") = some (.ref sz)) (mca : m (Str.ofString "caches") = some (.ref ca)) {Dk Dc nk nc : Nat} {pk O : List (Str × Nat)} (x6 : o6.data = .cell (some (.ref Dk))) (mor : m (Str.ofString "order") = some (.ref Dc)) (mDk : (Dk, listOf (svs pk) nk) ∈ rest) (mDc : (Dc, listOf (svs O) nc) ∈ rest) (he : keysOf pk = keysOf O)
    (h : ∀ h' tk, Fr h₀ L h' m → News h₀ L h' ((L + 1, o1) :: (L + 1 + 1, o2) :: (L + 1 + 1 + 1, o3) :: (L + 1 + 1 + 1 + 1, o4) :: (L + 1 + 1 + 1 + 1 + 1, o5) :: (L + 1 + 1 + 1 + 1 + 1 + 1, o6) :: (L + 1 + 1 + 1 + 1 + 1 + 1 + 1, o7) :: (cl, listOf vs.toArray ncl) :: (sz, listOf #[.int cap1 u1, .int cap2 u2] nsz) :: (ca, listOf #[.ref c1, .ref c2] nca) :: (kn, listOf #[.ref k1, .ref k2] nkn) :: (k1, ko1) :: (k2, ko2) :: (c1, instObj 169 cd1) :: (cd1, cdObj w dm1 dq1 lk1 cap1 ua1 ta1 tb1 tc1 td1) :: (dm1, od1) :: (dq1, listOf (svs ps1) nq1) :: (lk1, instObj 45 ld1) :: (ld1, dictOf [] 0) :: (c2, instObj 169 cd2) :: (cd2, cdObj w dm2 dq2 lk2 cap2 ua2 ta2 tb2 tc2 td2) :: (dm2, od2) :: (dq2, listOf (svs ps2) nq2) :: (lk2, instObj 45 ld2) :: (ld2, dictOf [] 0) :: rest) → Q .next { s with heap := h', toks := tk }) :
    wpAny (model prog w) (callerA.deeper (lawE w L fa cv)) (exec (hdS (tlS (tlS (tlS (bodyS (st8 w)))))) (lawE w L fa cv)) Q E s := by
  have q0c := q0
  obtain ⟨q1, q2, q3, q4, q5, q6, q7, q8, q9, q10, q11, q12, q13, q14, q15, q16, q17, q18, q19, q20, q21⟩ := q0
  unfold st8 turnB forS lawB lawF
  dsimp only [hdS, tlS, bodyS]
  show wpAny _ (callerA.deeper (envOfC "law" (lawS w) L fa cv)) (exec _ (envOfC "law" (lawS w) L fa cv)) _ _ _
  unfold lawS lawF
  dsimp only
  k_steps
  all_goals first
    | exact h _ _ (by assumption) (by assumption)
end
end
section
local macro_rules | `(tactic| k_mem) => `(tactic| first | with_reducible exact List.mem_cons_self | with_reducible assumption | (with_reducible refine List.mem_cons_of_mem _ ?_; k_mem))
local macro_rules | `(tactic| walk_at "eval Name") => `(tactic| (k_here; k_dflt (refine' nameX_L ?F ?v ?_ ?a ?b; (case a => rfl); (case b => rfl); (case F => k_asm); (case v => assumption))))
local macro_rules | `(tactic| walk_at "call type:list") => `(tactic| (k_here; (with_reducible show wpAny _ _ (call (Value.type "list") [Value.ref _]) _ _ _); k_dflt (refine' list_w (base := ?bb) (A₀ := ?aa) ?C ?m1 ?m2 ?m3 ?m4 ?m5 ?m6 ?o ?d ?lo ?z rfl ?u ?_; (case C => exact ⟨by assumption, by k_asm, by assumption, by k_asm, by assumption, rfl, rfl, rfl, by (simp only [depth_mark, depth_deeper, depth_caller]; decide), by (simp only [units_mark, units_deeper]; decide)⟩); (case m1 => k_mem); (case m2 => k_mem); (case m3 => k_mem); (case m4 => k_mem); (case m5 => k_mem); (case m6 => k_mem); (case u => simp only [units_mark, units_deeper]; decide); (case o => exact ⟨by assumption, by assumption, by assumption, by assumption, by assumption⟩); (case d => assumption); (case lo => assumption); (case z => exact ⟨by assumption, by assumption⟩)); intro h' tk' D' n' F' N' l1; (have l2 := l1); (k_lt l2); (try k_sweep); (try k_unmd)))
local macro_rules | `(tactic| walk_at "compareOp In str ref") => `(tactic| (k_here; k_dflt (refine' in_strs ?l ?_; (case l => exact ⟨_, News.get (by k_asm) (by k_mem), rfl, _, rfl⟩))))
local macro_rules | `(tactic| walk_at "CompSrc") => `(tactic| (k_here; refine halt ?_))
local macro_rules | `(tactic| walk_at "CompSrcT") => `(tactic| (k_here; refine halt ?_))
local macro_rules | `(tactic| walk_at "call type:list") => `(tactic| (k_here; (with_reducible show wpAny _ _ (call (Value.type "list") [Value.ref _]) _ _ _); refine halt ?_))
local macro_rules | `(tactic| walk_at "call ref") => `(tactic| (k_here; (with_reducible show wpAny _ _ (call (Value.ref 180) _) _ _ _); refine halt ?_))
local macro_rules | `(tactic| walk_at "call ref") => `(tactic| (k_here; (with_reducible show wpAny _ _ (call (Value.ref 93) _) _ _ _); refine halt ?_))
local macro_rules | `(tactic| walk_at "call ref") => `(tactic| (k_here; (with_reducible show wpAny _ _ (call (Value.ref 107) _) _ _ _); k_dflt (refine' len_w (base := ?bb) (A₀ := ?aa) ?C ?m1 ?m2 ?m3 ?m4 ?m5 ?m6 ?o ?d ?lo ?z  ?_; (case C => exact ⟨by assumption, by k_asm, by assumption, by k_asm, by assumption, rfl, rfl, rfl, by (simp only [depth_mark, depth_deeper, depth_caller]; decide), by (simp only [units_mark, units_deeper]; decide)⟩); (case m1 => k_mem); (case m2 => k_mem); (case m3 => k_mem); (case m4 => k_mem); (case m5 => k_mem); (case m6 => k_mem); (case o => exact ⟨by assumption, by assumption, by assumption, by assumption, by assumption⟩); (case d => assumption); (case lo => assumption); (case z => exact ⟨by assumption, by assumption⟩)); intro h' tk' tl' F' N'; (try dsimp only [PySem.W.LenBack]); (try (refine ⟨⟨by omega, by omega⟩, ?_⟩)); (try dsimp only); (try k_sweep); (try k_unmd)))
local macro_rules | `(tactic| walk_at "call ref") => `(tactic| (k_here; (with_reducible show wpAny _ _ (call (Value.ref 152) _) _ _ _); k_dflt (refine' keys_w (base := ?bb) (A₀ := ?aa) ?C ?m1 ?m2 ?m3 ?m4 ?m5 ?m6 ?o ?d ?lo ?z rfl ?x ?_; (case C => exact ⟨by assumption, by k_asm, by assumption, by k_asm, by assumption, rfl, rfl, rfl, by (simp only [depth_mark, depth_deeper, depth_caller]; decide), by (simp only [units_mark, units_deeper]; decide)⟩); (case m1 => k_mem); (case m2 => k_mem); (case m3 => k_mem); (case m4 => k_mem); (case m5 => k_mem); (case m6 => k_mem); (case x => simp only [depth_mark, depth_deeper, depth_caller, units_mark, units_deeper]; decide); (case o => exact ⟨by assumption, by assumption, by assumption, by assumption, by assumption⟩); (case d => assumption); (case lo => assumption); (case z => exact ⟨by assumption, by assumption⟩)); intro h' tk' D' n' F' N' l1; (have l2 := l1); (k_lt l2); (try k_sweep); (try k_unmd)))
local macro_rules | `(tactic| walk_at "call type:reversed") => `(tactic| (k_here; (with_reducible show wpAny _ _ (call (Value.type "reversed") _) _ _ _); k_dflt (refine' revd_w (base := ?bb) (A₀ := ?aa) ?C ?m1 ?m2 ?m3 ?m4 ?m5 ?m6 ?o ?d ?lo ?z ?u ?_; (case C => exact ⟨by assumption, by k_asm, by assumption, by k_asm, by assumption, rfl, rfl, rfl, by (simp only [depth_mark, depth_deeper, depth_caller]; decide), by (simp only [units_mark, units_deeper]; decide)⟩); (case m1 => k_mem); (case m2 => k_mem); (case m3 => k_mem); (case m4 => k_mem); (case m5 => k_mem); (case m6 => k_mem); (case u => simp only [units_mark, units_deeper]; decide); (case o => exact ⟨by assumption, by assumption, by assumption, by assumption, by assumption⟩); (case d => assumption); (case lo => assumption); (case z => exact ⟨by assumption, by assumption⟩)); intro h' tk' I' T' F' N' l1 l2; (have l3 := l2); (k_lt l3); (try k_sweep); (try k_unmd)))
local macro_rules | `(tactic| walk_at "call builtin:len") => `(tactic| (k_here; (with_reducible show wpAny _ _ (call (Value.builtin "len") [Value.ref _]) _ _ _); k_dflt (refine' len_svs ?a ?z ?_; (case a => exact ⟨_, News.get (by k_asm) (by k_mem), rfl, _, rfl⟩); (case z => first | omega | (simp only [List.length_reverse]; omega)))))
local macro_rules | `(tactic| walk_at "compareOp NotEq ref ref") => `(tactic| (k_here; k_dflt (refine' ne_strs ?a ?b ?e ?u ?_; (case a => exact ⟨_, News.get (by k_asm) (by k_mem), rfl, _, rfl⟩); (case b => exact ⟨_, News.get (by k_asm) (by k_mem), rfl, _, rfl⟩); (case e => rfl); (case u => simp only [units_mark, units_deeper]; decide))))
local macro_rules | `(tactic| walk_at "CompEnd") => `(tactic| (refine halt ?_))
local macro_rules | `(tactic| walk_at "eval ListComp") => `(tactic| (k_here; refine halt ?_))
local macro_rules | `(tactic| walk_at "subscriptTail") => `(tactic| (k_here; (with_reducible show wpAny _ _ (subscriptTail _ _ (Value.ref _) (Value.int (_ - _) _)) _ _ _); refine halt ?_))
section
variable {prog : Program} {w : World} {h₀ : Heap} {L fa : Nat} {cv : Value} {mean : ExcName → Option Value} {mg mb : Str → Option Value} {s : Shared} {m : Str → Option Value} {Q : Flow → Shared → Prop} {E : Value → Shared → Prop} {rest : List (Addr × Obj)}
  {o1 o2 o3 o4 o5 o6 o7 ko1 ko2 od1 od2 : Obj} {cl sz ca kn k1 k2 c1 cd1 dm1 dq1 lk1 ld1 c2 cd2 dm2 dq2 lk2 ld2 : Nat} {ncl nsz nca nkn nq1 nq2 u1 u2 ua1 ua2 ta1 ta2 tb1 tb2 tc1 tc2 td1 td2 : Nat} {cap1 cap2 : Int}
  {vs : List Value} {ns : List Int} {ps1 ps2 : List (Str × Nat)} {kvs1 kvs2 kk1 kk2 : List (Str × Value)}
set_option maxRecDepth 100000 in
set_option maxHeartbeats 8000000 in
theorem last1e (B : Below callerA h₀ [] h₀) (X : (Mine.hd.heap_39 w.params).In h₀) (T : TT mean mg mb h₀) (F : Fr h₀ L s.heap m) (N : News h₀ L s.heap ((L + 1, o1) :: (L + 1 + 1, o2) :: (L + 1 + 1 + 1, o3) :: (L + 1 + 1 + 1 + 1, o4) :: (L + 1 + 1 + 1 + 1 + 1, o5) :: (L + 1 + 1 + 1 + 1 + 1 + 1, o6) :: (L + 1 + 1 + 1 + 1 + 1 + 1 + 1, o7) :: (cl, listOf vs.toArray ncl) :: (sz, listOf #[.int cap1 u1, .int cap2 u2] nsz) :: (ca, listOf #[.ref c1, .ref c2] nca) :: (kn, listOf #[.ref k1, .ref k2] nkn) :: (k1, ko1) :: (k2, ko2) :: (c1, instObj 169 cd1) :: (cd1, cdObj w dm1 dq1 lk1 cap1 ua1 ta1 tb1 tc1 td1) :: (dm1, od1) :: (dq1, listOf (svs ps1) nq1) :: (lk1, instObj 45 ld1) :: (ld1, dictOf [] 0) :: (c2, instObj 169 cd2) :: (cd2, cdObj w dm2 dq2 lk2 cap2 ua2 ta2 tb2 tc2 td2) :: (dm2, od2) :: (dq2, listOf (svs ps2) nq2) :: (lk2, instObj 45 ld2) :: (ld2, dictOf [] 0) :: rest))
    (q0 : (L + 1 + 1 + 1 + 1 + 1 + 1 + 1 < sz ∧ L + 1 ≠ cl ∧ L + 1 + 1 ≠ cl ∧ L + 1 + 1 + 1 ≠ cl ∧ L + 1 + 1 + 1 + 1 ≠ cl ∧ L + 1 + 1 + 1 + 1 + 1 ≠ cl ∧ L + 1 + 1 + 1 + 1 + 1 + 1 ≠ cl ∧ L + 1 + 1 + 1 + 1 + 1 + 1 + 1 ≠ cl) ∧ cl < sz ∧ sz < cd1 ∧ cd1 < c1 ∧ c1 < dm1 ∧ dm1 < dq1 ∧ dq1 < ld1 ∧ ld1 < lk1 ∧ lk1 < cd2 ∧ cd2 < c2 ∧ c2 < dm2 ∧ dm2 < dq2 ∧ dq2 < ld2 ∧ ld2 < lk2 ∧ lk2 < ca ∧ ca < kn ∧ ca < k1 ∧ ca < k2 ∧ k1 ≠ k2 ∧ k1 ≠ kn ∧ k2 ≠ kn)
    (hroff : OwnOff rest [L + 1, L + 1 + 1, L + 1 + 1 + 1, L + 1 + 1 + 1 + 1, L + 1 + 1 + 1 + 1 + 1, L + 1 + 1 + 1 + 1 + 1 + 1, L + 1 + 1 + 1 + 1 + 1 + 1 + 1, kn, k1, k2, c1, cd1, dm1, dq1, lk1, ld1, c2, cd2, dm2, dq2, lk2, ld2])
    (mcl : m (Str.ofString "cells") = some (.ref cl)) (msz : m (Str.ofString "sizes") = some (.ref sz)) (mca : m (Str.ofString "caches") = some (.ref ca)) {tn : Tok} (x5 : o5.data = .cell (some (.int 0 tn))) {Dk nk : Nat} (x6 : o6.data = .cell (some (.ref Dk))) (mch : m (Str.ofString "cache") = some (.ref c1)) (mDk : (Dk, listOf (svs ps1.reverse) nk) ∈ rest) (hcp : (kvs1.length : Int) ≤ cap1) (hd1 : od1.IsDictOf (strKind prog w) kvs1) (lo1 : (dm1 == sysModules) = false) (hz1 : kvs1.length ≤ 900 ∧ ps1.length = kvs1.length)
    (h : ∀ h' tk, Fr h₀ L h' m → News h₀ L h' ((L + 1, o1) :: (L + 1 + 1, o2) :: (L + 1 + 1 + 1, o3) :: (L + 1 + 1 + 1 + 1, o4) :: (L + 1 + 1 + 1 + 1 + 1, o5) :: (L + 1 + 1 + 1 + 1 + 1 + 1, o6) :: (L + 1 + 1 + 1 + 1 + 1 + 1 + 1, o7) :: (cl, listOf vs.toArray ncl) :: (sz, listOf #[.int cap1 u1, .int cap2 u2] nsz) :: (ca, listOf #[.ref c1, .ref c2] nca) :: (kn, listOf #[.ref k1, .ref k2] nkn) :: (k1, ko1) :: (k2, ko2) :: (c1, instObj 169 cd1) :: (cd1, cdObj w dm1 dq1 lk1 cap1 ua1 ta1 tb1 tc1 td1) :: (dm1, od1) :: (dq1, listOf (svs ps1) nq1) :: (lk1, instObj 45 ld1) :: (ld1, dictOf [] 0) :: (c2, instObj 169 cd2) :: (cd2, cdObj w dm2 dq2 lk2 cap2 ua2 ta2 tb2 tc2 td2) :: (dm2, od2) :: (dq2, listOf (svs ps2) nq2) :: (lk2, instObj 45 ld2) :: (ld2, dictOf [] 0) :: rest) → Q .next { s with heap := h', toks := tk }) :
    wpAny (model prog w) (callerA.deeper (lawE w L fa cv)) (exec (hdS (tlS (tlS (tlS (tlS (bodyS (st8 w))))))) (lawE w L fa cv)) Q E s := by
  have q0c := q0
  obtain ⟨q1, q2, q3, q4, q5, q6, q7, q8, q9, q10, q11, q12, q13, q14, q15, q16, q17, q18, q19, q20, q21⟩ := q0
  obtain ⟨z1, z2⟩ := hz1
  unfold st8 turnB forS lawB lawF
  dsimp only [hdS, tlS, bodyS]
  show wpAny _ (callerA.deeper (envOfC "law" (lawS w) L fa cv)) (exec _ (envOfC "law" (lawS w) L fa cv)) _ _ _
  unfold lawS lawF
  dsimp only
  have N0 : News h₀ L s.heap ((Dk, listOf (svs ps1.reverse) nk) :: ((L + 1, o1) :: (L + 1 + 1, o2) :: (L + 1 + 1 + 1, o3) :: (L + 1 + 1 + 1 + 1, o4) :: (L + 1 + 1 + 1 + 1 + 1, o5) :: (L + 1 + 1 + 1 + 1 + 1 + 1, o6) :: (L + 1 + 1 + 1 + 1 + 1 + 1 + 1, o7) :: (cl, listOf vs.toArray ncl) :: (sz, listOf #[.int cap1 u1, .int cap2 u2] nsz) :: (ca, listOf #[.ref c1, .ref c2] nca) :: (kn, listOf #[.ref k1, .ref k2] nkn) :: (k1, ko1) :: (k2, ko2) :: (c1, instObj 169 cd1) :: (cd1, cdObj w dm1 dq1 lk1 cap1 ua1 ta1 tb1 tc1 td1) :: (dm1, od1) :: (dq1, listOf (svs ps1) nq1) :: (lk1, instObj 45 ld1) :: (ld1, dictOf [] 0) :: (c2, instObj 169 cd2) :: (cd2, cdObj w dm2 dq2 lk2 cap2 ua2 ta2 tb2 tc2 td2) :: (dm2, od2) :: (dq2, listOf (svs ps2) nq2) :: (lk2, instObj 45 ld2) :: (ld2, dictOf [] 0) :: rest)) := fun q hq => by
    rcases List.mem_cons.mp hq with rfl | hq
    · exact N _ (by k_mem)
    · exact N _ hq
  clear N
  have hcp' : (kvs1.length : Int) ≤ [cap1, cap2].getD (Int.toNat 0) 0 := hcp
  have hlr : ps1.reverse.length = ps1.length := List.length_reverse
  k_steps
  all_goals (try (exfalso; omega))
  unfold Halt
  rename_i hh1 tk1 D1 n1 lA1 lA2 h2 tk2 I2 T2 F2 N2 lB1 lB2 lB3
  refine list_ti rfl F2 N2 lB1 lB2 (by omega) (fun h3 tk3 D3 n3 F3 N3 lC => ?_)
  clear N2 F2 lB2 lB3 lA1 lA2
  k_steps
  unfold Halt
  (try k_fold)
  refine LCg.ListComp_U (F₀ := by assumption) (by with_unfolding_all rfl) (by decide) (by rfl) (by decide) (by rfl) ?_
  k_steps
  unfold Halt
  rename_i h4 tk4 t4 u4 v4 hR F4 N4 keep4
  refine LCg.CompSrc.range (n := ps1.length) (by rfl) F4 N4 hR (small_one (by omega) (by omega) (by omega) (by omega)) (by rw [PySem.rangeSize_one]; split <;> omega) (by rw [sizeLine_eq]; omega) ?_
  intro g1
  try dsimp only
  refine comp_of (fun i ys nw => ys = (ps1.take i).map sv ∧ nw = ((D3, listOf (svs ps1) n3) :: (D1, listOf (svs ps1.reverse) n1) :: (Dk, listOf (svs ps1.reverse) nk) :: ((L + 1, o1) :: (L + 1 + 1, o2) :: (L + 1 + 1 + 1, o3) :: (L + 1 + 1 + 1 + 1, o4) :: (L + 1 + 1 + 1 + 1 + 1, o5) :: (L + 1 + 1 + 1 + 1 + 1 + 1, o6) :: (L + 1 + 1 + 1 + 1 + 1 + 1 + 1, o7) :: (cl, listOf vs.toArray ncl) :: (sz, listOf #[.int cap1 u1, .int cap2 u2] nsz) :: (ca, listOf #[.ref c1, .ref c2] nca) :: (kn, listOf #[.ref k1, .ref k2] nkn) :: (k1, ko1) :: (k2, ko2) :: (c1, instObj 169 cd1) :: (cd1, cdObj w dm1 dq1 lk1 cap1 ua1 ta1 tb1 tc1 td1) :: (dm1, od1) :: (dq1, listOf (svs ps1) nq1) :: (lk1, instObj 45 ld1) :: (ld1, dictOf [] 0) :: (c2, instObj 169 cd2) :: (cd2, cdObj w dm2 dq2 lk2 cap2 ua2 ta2 tb2 tc2 td2) :: (dm2, od2) :: (dq2, listOf (svs ps2) nq2) :: (lk2, instObj 45 ld2) :: (ld2, dictOf [] 0) :: rest))) ⟨rfl, rfl⟩ ?_ ?_
  · clear F4 N4 keep4 hR
    intro i ys nw hi ⟨ey, e⟩ v I oI C oC D m₂ h5 tk5 E' hP hC hx F5 N5 off ne
    subst e
    obtain ⟨t5, rfl⟩ := hP
    k_fold
    k_steps
    unfold Halt
    refine sub_svs (ps := ps1.reverse) (p := ps1[i]) ⟨_, (N5 (Dk, _) (by k_mem)).1, rfl, _, rfl⟩ (by omega) ?_ (by omega) ?_
    · have e9 : (((ps1.reverse.length : Nat) : Int) - 1 - (0 + (i : Int))).toNat = ps1.length - 1 - i := by omega
      rw [e9, List.getElem?_reverse (by omega), show ps1.length - 1 - (ps1.length - 1 - i) = i from by omega]
      exact List.getElem?_eq_getElem hi
    · k_unfold
      refine cend0 F5 N5 off trivial ⟨?_, rfl⟩
      rw [List.take_add_one, List.getElem?_eq_getElem hi, List.map_append, ey]
      rfl
  · intro ys nw ⟨ey, e⟩
    subst e
    intro D h5 tk5 F5 N5 off
    obtain rfl : ys = ps1.map sv := by rw [ey, List.take_of_length_le (Nat.le_refl _)]
    (try k_unmd)
    k_unfold
    try dsimp only
    refine ne_strs (ps := ps1) (qs := ps1) (a := D3) (b := D) ⟨_, (N5 (D3, _) (by k_mem)).1, rfl, _, rfl⟩ ⟨_, (N5 _ (.head _)).1, rfl, _, rfl⟩ rfl (by simp only [units_mark, units_deeper]; decide) ?_
    k_steps
    exact h _ _ F5 (news_tail (news_tail (news_tail (news_tail N5))))
end
end
section
local macro_rules | `(tactic| walk_at "idle line 0") => `(tactic| fail)
local macro_rules | `(tactic| k_mem) => `(tactic| first | with_reducible exact List.mem_cons_self | with_reducible assumption | (with_reducible refine List.mem_cons_of_mem _ ?_; k_mem))
local macro_rules | `(tactic| walk_at "eval Name") => `(tactic| (k_here; k_dflt (refine' nameX_L ?F ?v ?_ ?a ?b; (case a => rfl); (case b => rfl); (case F => k_asm); (case v => assumption))))
local macro_rules | `(tactic| walk_at "call type:list") => `(tactic| (k_here; (with_reducible show wpAny _ _ (call (Value.type "list") [Value.ref _]) _ _ _); k_dflt (refine' list_w (base := ?bb) (A₀ := ?aa) ?C ?m1 ?m2 ?m3 ?m4 ?m5 ?m6 ?o ?d ?lo ?z rfl ?u ?_; (case C => exact ⟨by assumption, by k_asm, by assumption, by k_asm, by assumption, rfl, rfl, rfl, by (simp only [depth_mark, depth_deeper, depth_caller]; decide), by (simp only [units_mark, units_deeper]; decide)⟩); (case m1 => k_mem); (case m2 => k_mem); (case m3 => k_mem); (case m4 => k_mem); (case m5 => k_mem); (case m6 => k_mem); (case u => simp only [units_mark, units_deeper]; decide); (case o => exact ⟨by assumption, by assumption, by assumption, by assumption, by assumption⟩); (case d => assumption); (case lo => assumption); (case z => exact ⟨by assumption, by assumption⟩)); intro h' tk' D' n' F' N' l1; (have l2 := l1); (k_lt l2); (try k_sweep); (try k_unmd)))
local macro_rules | `(tactic| walk_at "compareOp In str ref") => `(tactic| (k_here; k_dflt (refine' in_strs ?l ?_; (case l => exact ⟨_, News.get (by k_asm) (by k_mem), rfl, _, rfl⟩))))
local macro_rules | `(tactic| walk_at "CompSrc") => `(tactic| (k_here; refine halt ?_))
local macro_rules | `(tactic| walk_at "CompSrcT") => `(tactic| (k_here; refine halt ?_))
local macro_rules | `(tactic| walk_at "call type:list") => `(tactic| (k_here; (with_reducible show wpAny _ _ (call (Value.type "list") [Value.ref _]) _ _ _); refine halt ?_))
local macro_rules | `(tactic| walk_at "call ref") => `(tactic| (k_here; (with_reducible show wpAny _ _ (call (Value.ref 180) _) _ _ _); refine halt ?_))
local macro_rules | `(tactic| walk_at "call ref") => `(tactic| (k_here; (with_reducible show wpAny _ _ (call (Value.ref 93) _) _ _ _); refine halt ?_))
local macro_rules | `(tactic| walk_at "call ref") => `(tactic| (k_here; (with_reducible show wpAny _ _ (call (Value.ref 107) _) _ _ _); k_dflt (refine' len_w (base := ?bb) (A₀ := ?aa) ?C ?m1 ?m2 ?m3 ?m4 ?m5 ?m6 ?o ?d ?lo ?z  ?_; (case C => exact ⟨by assumption, by k_asm, by assumption, by k_asm, by assumption, rfl, rfl, rfl, by (simp only [depth_mark, depth_deeper, depth_caller]; decide), by (simp only [units_mark, units_deeper]; decide)⟩); (case m1 => k_mem); (case m2 => k_mem); (case m3 => k_mem); (case m4 => k_mem); (case m5 => k_mem); (case m6 => k_mem); (case o => exact ⟨by assumption, by assumption, by assumption, by assumption, by assumption⟩); (case d => assumption); (case lo => assumption); (case z => exact ⟨by assumption, by assumption⟩)); intro h' tk' tl' F' N'; (try dsimp only [PySem.W.LenBack]); (try (refine ⟨⟨by omega, by omega⟩, ?_⟩)); (try dsimp only); (try k_sweep); (try k_unmd)))
local macro_rules | `(tactic| walk_at "call ref") => `(tactic| (k_here; (with_reducible show wpAny _ _ (call (Value.ref 152) _) _ _ _); k_dflt (refine' keys_w (base := ?bb) (A₀ := ?aa) ?C ?m1 ?m2 ?m3 ?m4 ?m5 ?m6 ?o ?d ?lo ?z rfl ?x ?_; (case C => exact ⟨by assumption, by k_asm, by assumption, by k_asm, by assumption, rfl, rfl, rfl, by (simp only [depth_mark, depth_deeper, depth_caller]; decide), by (simp only [units_mark, units_deeper]; decide)⟩); (case m1 => k_mem); (case m2 => k_mem); (case m3 => k_mem); (case m4 => k_mem); (case m5 => k_mem); (case m6 => k_mem); (case x => simp only [depth_mark, depth_deeper, depth_caller, units_mark, units_deeper]; decide); (case o => exact ⟨by assumption, by assumption, by assumption, by assumption, by assumption⟩); (case d => assumption); (case lo => assumption); (case z => exact ⟨by assumption, by assumption⟩)); intro h' tk' D' n' F' N' l1; (have l2 := l1); (k_lt l2); (try k_sweep); (try k_unmd)))
local macro_rules | `(tactic| walk_at "call type:reversed") => `(tactic| (k_here; (with_reducible show wpAny _ _ (call (Value.type "reversed") _) _ _ _); k_dflt (refine' revd_w (base := ?bb) (A₀ := ?aa) ?C ?m1 ?m2 ?m3 ?m4 ?m5 ?m6 ?o ?d ?lo ?z ?u ?_; (case C => exact ⟨by assumption, by k_asm, by assumption, by k_asm, by assumption, rfl, rfl, rfl, by (simp only [depth_mark, depth_deeper, depth_caller]; decide), by (simp only [units_mark, units_deeper]; decide)⟩); (case m1 => k_mem); (case m2 => k_mem); (case m3 => k_mem); (case m4 => k_mem); (case m5 => k_mem); (case m6 => k_mem); (case u => simp only [units_mark, units_deeper]; decide); (case o => exact ⟨by assumption, by assumption, by assumption, by assumption, by assumption⟩); (case d => assumption); (case lo => assumption); (case z => exact ⟨by assumption, by assumption⟩)); intro h' tk' I' T' F' N' l1 l2; (have l3 := l2); (k_lt l3); (try k_sweep); (try k_unmd)))
local macro_rules | `(tactic| walk_at "call builtin:len") => `(tactic| (k_here; (with_reducible show wpAny _ _ (call (Value.builtin "len") [Value.ref _]) _ _ _); k_dflt (refine' len_svs ?a ?z ?_; (case a => exact ⟨_, News.get (by k_asm) (by k_mem), rfl, _, rfl⟩); (case z => first | omega | (simp only [List.length_reverse]; omega)))))
local macro_rules | `(tactic| walk_at "compareOp NotEq ref ref") => `(tactic| (k_here; k_dflt (refine' ne_strs ?a ?b ?e ?u ?_; (case a => exact ⟨_, News.get (by k_asm) (by k_mem), rfl, _, rfl⟩); (case b => exact ⟨_, News.get (by k_asm) (by k_mem), rfl, _, rfl⟩); (case e => rfl); (case u => simp only [units_mark, units_deeper]; decide))))
local macro_rules | `(tactic| walk_at "CompEnd") => `(tactic| (refine halt ?_))
local macro_rules | `(tactic| walk_at "eval ListComp") => `(tactic| (k_here; refine halt ?_))
local macro_rules | `(tactic| walk_at "subscriptTail") => `(tactic| (k_here; (with_reducible show wpAny _ _ (subscriptTail _ _ (Value.ref _) (Value.int (_ - _) _)) _ _ _); refine halt ?_))
section
variable {prog : Program} {w : World} {h₀ : Heap} {L fa : Nat} {cv : Value} {mean : ExcName → Option Value} {mg mb : Str → Option Value} {s : Shared} {m : Str → Option Value} {Q : Flow → Shared → Prop} {E : Value → Shared → Prop} {rest : List (Addr × Obj)}
  {o1 o2 o3 o4 o5 o6 o7 ko1 ko2 od1 od2 : Obj} {cl sz ca kn k1 k2 c1 cd1 dm1 dq1 lk1 ld1 c2 cd2 dm2 dq2 lk2 ld2 : Nat} {ncl nsz nca nkn nq1 nq2 u1 u2 ua1 ua2 ta1 ta2 tb1 tb2 tc1 tc2 td1 td2 : Nat} {cap1 cap2 : Int}
  {vs : List Value} {ns : List Int} {ps1 ps2 : List (Str × Nat)} {kvs1 kvs2 kk1 kk2 : List (Str × Value)}
set_option maxRecDepth 100000 in
set_option maxHeartbeats 8000000 in
theorem last2e (B : Below callerA h₀ [] h₀) (X : (Mine.hd.heap_39 w.params).In h₀) (T : TT mean mg mb h₀) (F : Fr h₀ L s.heap m) (N : News h₀ L s.heap ((L + 1, o1) :: (L + 1 + 1, o2) :: (L + 1 + 1 + 1, o3) :: (L + 1 + 1 + 1 + 1, o4) :: (L + 1 + 1 + 1 + 1 + 1, o5) :: (L + 1 + 1 + 1 + 1 + 1 + 1, o6) :: (L + 1 + 1 + 1 + 1 + 1 + 1 + 1, o7) :: (cl, listOf vs.toArray ncl) :: (sz, listOf #[.int cap1 u1, .int cap2 u2] nsz) :: (ca, listOf #[.ref c1, .ref c2] nca) :: (kn, listOf #[.ref k1, .ref k2] nkn) :: (k1, ko1) :: (k2, ko2) :: (c1, instObj 169 cd1) :: (cd1, cdObj w dm1 dq1 lk1 cap1 ua1 ta1 tb1 tc1 td1) :: (dm1, od1) :: (dq1, listOf (svs ps1) nq1) :: (lk1, instObj 45 ld1) :: (ld1, dictOf [] 0) :: (c2, instObj 169 cd2) :: (cd2, cdObj w dm2 dq2 lk2 cap2 ua2 ta2 tb2 tc2 td2) :: (dm2, od2) :: (dq2, listOf (svs ps2) nq2) :: (lk2, instObj 45 ld2) :: (ld2, dictOf [] 0) :: rest))
    (q0 : (L + 1 + 1 + 1 + 1 + 1 + 1 + 1 < sz ∧ L + 1 ≠ cl ∧ L + 1 + 1 ≠ cl ∧ L + 1 + 1 + 1 ≠ cl ∧ L + 1 + 1 + 1 + 1 ≠ cl ∧ L + 1 + 1 + 1 + 1 + 1 ≠ cl ∧ L + 1 + 1 + 1 + 1 + 1 + 1 ≠ cl ∧ L + 1 + 1 + 1 + 1 + 1 + 1 + 1 ≠ cl) ∧ cl < sz ∧ sz < cd1 ∧ cd1 < c1 ∧ c1 < dm1 ∧ dm1 < dq1 ∧ dq1 < ld1 ∧ ld1 < lk1 ∧ lk1 < cd2 ∧ cd2 < c2 ∧ c2 < dm2 ∧ dm2 < dq2 ∧ dq2 < ld2 ∧ ld2 < lk2 ∧ lk2 < ca ∧ ca < kn ∧ ca < k1 ∧ ca < k2 ∧ k1 ≠ k2 ∧ k1 ≠ kn ∧ k2 ≠ kn)
    (hroff : OwnOff rest [L + 1, L + 1 + 1, L + 1 + 1 + 1, L + 1 + 1 + 1 + 1, L + 1 + 1 + 1 + 1 + 1, L + 1 + 1 + 1 + 1 + 1 + 1, L + 1 + 1 + 1 + 1 + 1 + 1 + 1, kn, k1, k2, c1, cd1, dm1, dq1, lk1, ld1, c2, cd2, dm2, dq2, lk2, ld2])
    (mcl : m (Str.ofString "cells") = some (.ref cl)) (msz : m (Str.ofString "sizes") = some (.ref sz)) (mca : m (Str.ofString "caches") = some (.ref ca)) {tn : Tok} (x5 : o5.data = .cell (some (.int 1 tn))) {Dk nk : Nat} (x6 : o6.data = .cell (some (.ref Dk))) (mch : m (Str.ofString "cache") = some (.ref c2)) (mDk : (Dk, listOf (svs ps2.reverse) nk) ∈ rest) (hcp : (kvs2.length : Int) ≤ cap2) (hd2 : od2.IsDictOf (strKind prog w) kvs2) (lo2 : (dm2 == sysModules) = false) (hz2 : kvs2.length ≤ 900 ∧ ps2.length = kvs2.length)
    (h : ∀ h' tk, Fr h₀ L h' m → News h₀ L h' ((L + 1, o1) :: (L + 1 + 1, o2) :: (L + 1 + 1 + 1, o3) :: (L + 1 + 1 + 1 + 1, o4) :: (L + 1 + 1 + 1 + 1 + 1, o5) :: (L + 1 + 1 + 1 + 1 + 1 + 1, o6) :: (L + 1 + 1 + 1 + 1 + 1 + 1 + 1, o7) :: (cl, listOf vs.toArray ncl) :: (sz, listOf #[.int cap1 u1, .int cap2 u2] nsz) :: (ca, listOf #[.ref c1, .ref c2] nca) :: (kn, listOf #[.ref k1, .ref k2] nkn) :: (k1, ko1) :: (k2, ko2) :: (c1, instObj 169 cd1) :: (cd1, cdObj w dm1 dq1 lk1 cap1 ua1 ta1 tb1 tc1 td1) :: (dm1, od1) :: (dq1, listOf (svs ps1) nq1) :: (lk1, instObj 45 ld1) :: (ld1, dictOf [] 0) :: (c2, instObj 169 cd2) :: (cd2, cdObj w dm2 dq2 lk2 cap2 ua2 ta2 tb2 tc2 td2) :: (dm2, od2) :: (dq2, listOf (svs ps2) nq2) :: (lk2, instObj 45 ld2) :: (ld2, dictOf [] 0) :: rest) → Q .next { s with heap := h', toks := tk }) :
    wpAny (model prog w) (callerA.deeper (lawE w L fa cv)) (exec (hdS (tlS (tlS (tlS (tlS (bodyS (st8 w))))))) (lawE w L fa cv)) Q E s := by
  have q0c := q0
  obtain ⟨q1, q2, q3, q4, q5, q6, q7, q8, q9, q10, q11, q12, q13, q14, q15, q16, q17, q18, q19, q20, q21⟩ := q0
  obtain ⟨z1, z2⟩ := hz2
  unfold st8 turnB forS lawB lawF
  dsimp only [hdS, tlS, bodyS]
  show wpAny _ (callerA.deeper (envOfC "law" (lawS w) L fa cv)) (exec _ (envOfC "law" (lawS w) L fa cv)) _ _ _
  unfold lawS lawF
  dsimp only
  have N0 : News h₀ L s.heap ((Dk, listOf (svs ps2.reverse) nk) :: ((L + 1, o1) :: (L + 1 + 1, o2) :: (L + 1 + 1 + 1, o3) :: (L + 1 + 1 + 1 + 1, o4) :: (L + 1 + 1 + 1 + 1 + 1, o5) :: (L + 1 + 1 + 1 + 1 + 1 + 1, o6) :: (L + 1 + 1 + 1 + 1 + 1 + 1 + 1, o7) :: (cl, listOf vs.toArray ncl) :: (sz, listOf #[.int cap1 u1, .int cap2 u2] nsz) :: (ca, listOf #[.ref c1, .ref c2] nca) :: (kn, listOf #[.ref k1, .ref k2] nkn) :: (k1, ko1) :: (k2, ko2) :: (c1, instObj 169 cd1) :: (cd1, cdObj w dm1 dq1 lk1 cap1 ua1 ta1 tb1 tc1 td1) :: (dm1, od1) :: (dq1, listOf (svs ps1) nq1) :: (lk1, instObj 45 ld1) :: (ld1, dictOf [] 0) :: (c2, instObj 169 cd2) :: (cd2, cdObj w dm2 dq2 lk2 cap2 ua2 ta2 tb2 tc2 td2) :: (dm2, od2) :: (dq2, listOf (svs ps2) nq2) :: (lk2, instObj 45 ld2) :: (ld2, dictOf [] 0) :: rest)) := fun q hq => by
    rcases List.mem_cons.mp hq with rfl | hq
    · exact N _ (by k_mem)
    · exact N _ hq
  clear N
  have hcp' : (kvs2.length : Int) ≤ [cap1, cap2].getD (Int.toNat 1) 0 := hcp
  have hlr : ps2.reverse.length = ps2.length := List.length_reverse
  k_steps
  all_goals (try (exfalso; omega))
  unfold Halt
  rename_i hh1 tk1 D1 n1 lA1 lA2 h2 tk2 I2 T2 F2 N2 lB1 lB2 lB3
  refine list_ti rfl F2 N2 lB1 lB2 (by omega) (fun h3 tk3 D3 n3 F3 N3 lC => ?_)
  clear N2 F2 lB2 lB3 lA1 lA2
  k_steps
  unfold Halt
  (try k_fold)
  refine LCg.ListComp_U (F₀ := by assumption) (by with_unfolding_all rfl) (by decide) (by rfl) (by decide) (by rfl) ?_
  k_steps
  unfold Halt
  rename_i h4 tk4 t4 u4 v4 hR F4 N4 keep4
  refine LCg.CompSrc.range (n := ps2.length) (by rfl) F4 N4 hR (small_one (by omega) (by omega) (by omega) (by omega)) (by rw [PySem.rangeSize_one]; split <;> omega) (by rw [sizeLine_eq]; omega) ?_
  intro g1
  try dsimp only
  refine comp_of (fun i ys nw => ys = (ps2.take i).map sv ∧ nw = ((D3, listOf (svs ps2) n3) :: (D1, listOf (svs ps2.reverse) n1) :: (Dk, listOf (svs ps2.reverse) nk) :: ((L + 1, o1) :: (L + 1 + 1, o2) :: (L + 1 + 1 + 1, o3) :: (L + 1 + 1 + 1 + 1, o4) :: (L + 1 + 1 + 1 + 1 + 1, o5) :: (L + 1 + 1 + 1 + 1 + 1 + 1, o6) :: (L + 1 + 1 + 1 + 1 + 1 + 1 + 1, o7) :: (cl, listOf vs.toArray ncl) :: (sz, listOf #[.int cap1 u1, .int cap2 u2] nsz) :: (ca, listOf #[.ref c1, .ref c2] nca) :: (kn, listOf #[.ref k1, .ref k2] nkn) :: (k1, ko1) :: (k2, ko2) :: (c1, instObj 169 cd1) :: (cd1, cdObj w dm1 dq1 lk1 cap1 ua1 ta1 tb1 tc1 td1) :: (dm1, od1) :: (dq1, listOf (svs ps1) nq1) :: (lk1, instObj 45 ld1) :: (ld1, dictOf [] 0) :: (c2, instObj 169 cd2) :: (cd2, cdObj w dm2 dq2 lk2 cap2 ua2 ta2 tb2 tc2 td2) :: (dm2, od2) :: (dq2, listOf (svs ps2) nq2) :: (lk2, instObj 45 ld2) :: (ld2, dictOf [] 0) :: rest))) ⟨rfl, rfl⟩ ?_ ?_
  · clear F4 N4 keep4 hR
    intro i ys nw hi ⟨ey, e⟩ v I oI C oC D m₂ h5 tk5 E' hP hC hx F5 N5 off ne
    subst e
    obtain ⟨t5, rfl⟩ := hP
    k_fold
    k_steps
    unfold Halt
    refine sub_svs (ps := ps2.reverse) (p := ps2[i]) ⟨_, (N5 (Dk, _) (by k_mem)).1, rfl, _, rfl⟩ (by omega) ?_ (by omega) ?_
    · have e9 : (((ps2.reverse.length : Nat) : Int) - 1 - (0 + (i : Int))).toNat = ps2.length - 1 - i := by omega
      rw [e9, List.getElem?_reverse (by omega), show ps2.length - 1 - (ps2.length - 1 - i) = i from by omega]
      exact List.getElem?_eq_getElem hi
    · k_unfold
      refine cend0 F5 N5 off trivial ⟨?_, rfl⟩
      rw [List.take_add_one, List.getElem?_eq_getElem hi, List.map_append, ey]
      rfl
  · intro ys nw ⟨ey, e⟩
    subst e
    intro D h5 tk5 F5 N5 off
    obtain rfl : ys = ps2.map sv := by rw [ey, List.take_of_length_le (Nat.le_refl _)]
    (try k_unmd)
    k_unfold
    try dsimp only
    refine ne_strs (ps := ps2) (qs := ps2) (a := D3) (b := D) ⟨_, (N5 (D3, _) (by k_mem)).1, rfl, _, rfl⟩ ⟨_, (N5 _ (.head _)).1, rfl, _, rfl⟩ rfl (by simp only [units_mark, units_deeper]; decide) ?_
    k_steps
    exact h _ _ F5 (news_tail (news_tail (news_tail (news_tail N5))))
end
end
section
local macro_rules | `(tactic| k_mem) => `(tactic| first | with_reducible exact List.mem_cons_self | with_reducible assumption | (with_reducible refine List.mem_cons_of_mem _ ?_; k_mem))
local macro_rules | `(tactic| walk_at "eval Name") => `(tactic| (k_here; k_dflt (refine' nameX_L ?F ?v ?_ ?a ?b; (case a => rfl); (case b => rfl); (case F => k_asm); (case v => assumption))))
local macro_rules | `(tactic| walk_at "call type:list") => `(tactic| (k_here; (with_reducible show wpAny _ _ (call (Value.type "list") [Value.ref _]) _ _ _); k_dflt (refine' list_w (base := ?bb) (A₀ := ?aa) ?C ?m1 ?m2 ?m3 ?m4 ?m5 ?m6 ?o ?d ?lo ?z rfl ?u ?_; (case C => exact ⟨by assumption, by k_asm, by assumption, by k_asm, by assumption, rfl, rfl, rfl, by (simp only [depth_mark, depth_deeper, depth_caller]; decide), by (simp only [units_mark, units_deeper]; decide)⟩); (case m1 => k_mem); (case m2 => k_mem); (case m3 => k_mem); (case m4 => k_mem); (case m5 => k_mem); (case m6 => k_mem); (case u => simp only [units_mark, units_deeper]; decide); (case o => exact ⟨by assumption, by assumption, by assumption, by assumption, by assumption⟩); (case d => assumption); (case lo => assumption); (case z => exact ⟨by assumption, by assumption⟩)); intro h' tk' D' n' F' N' l1; (have l2 := l1); (k_lt l2); (try k_sweep); (try k_unmd)))
local macro_rules | `(tactic| walk_at "compareOp In str ref") => `(tactic| (k_here; k_dflt (refine' in_strs ?l ?_; (case l => exact ⟨_, News.get (by k_asm) (by k_mem), rfl, _, rfl⟩))))
local macro_rules | `(tactic| walk_at "CompSrc") => `(tactic| (k_here; refine halt ?_))
local macro_rules | `(tactic| walk_at "CompSrcT") => `(tactic| (k_here; refine halt ?_))
local macro_rules | `(tactic| walk_at "call type:list") => `(tactic| (k_here; (with_reducible show wpAny _ _ (call (Value.type "list") [Value.ref _]) _ _ _); refine halt ?_))
local macro_rules | `(tactic| walk_at "call ref") => `(tactic| (k_here; (with_reducible show wpAny _ _ (call (Value.ref 180) _) _ _ _); refine halt ?_))
local macro_rules | `(tactic| walk_at "call ref") => `(tactic| (k_here; (with_reducible show wpAny _ _ (call (Value.ref 93) _) _ _ _); refine halt ?_))
local macro_rules | `(tactic| walk_at "call ref") => `(tactic| (k_here; (with_reducible show wpAny _ _ (call (Value.ref 140) _) _ _ _); refine halt ?_))
local macro_rules | `(tactic| walk_at "call ref") => `(tactic| (k_here; (with_reducible show wpAny _ _ (call (Value.ref 145) _) _ _ _); refine halt ?_))
local macro_rules | `(tactic| walk_at "call builtin:len") => `(tactic| (k_here; (with_reducible show wpAny _ _ (call (Value.builtin "len") [Value.ref _]) _ _ _); k_dflt (refine' len_svs ?a ?z ?_; (case a => exact ⟨_, News.get (by k_asm) (by k_mem), rfl, _, rfl⟩); (case z => first | omega | (simp only [List.length_reverse]; omega)))))
local macro_rules | `(tactic| walk_at "CompEnd") => `(tactic| (refine halt ?_))
local macro_rules | `(tactic| walk_at "eval ListComp") => `(tactic| (k_here; refine halt ?_))
section
variable {prog : Program} {w : World} {h₀ : Heap} {L fa : Nat} {cv : Value} {mean : ExcName → Option Value} {mg mb : Str → Option Value} {s : Shared} {m : Str → Option Value} {Q : Flow → Shared → Prop} {E : Value → Shared → Prop} {rest : List (Addr × Obj)}
  {o1 o2 o3 o4 o5 o6 o7 ko1 ko2 od1 od2 : Obj} {cl sz ca kn k1 k2 c1 cd1 dm1 dq1 lk1 ld1 c2 cd2 dm2 dq2 lk2 ld2 : Nat} {ncl nsz nca nkn nq1 nq2 u1 u2 ua1 ua2 ta1 ta2 tb1 tb2 tc1 tc2 td1 td2 : Nat} {cap1 cap2 : Int}
  {vs : List Value} {ns : List Int} {ps1 ps2 : List (Str × Nat)} {kvs1 kvs2 kk1 kk2 : List (Str × Value)}
set_option maxRecDepth 100000 in
set_option maxHeartbeats 8000000 in
theorem last1f (B : Below callerA h₀ [] h₀) (X : (Mine.hd.heap_39 w.params).In h₀) (T : TT mean mg mb h₀) (F : Fr h₀ L s.heap m) (N : News h₀ L s.heap ((L + 1, o1) :: (L + 1 + 1, o2) :: (L + 1 + 1 + 1, o3) :: (L + 1 + 1 + 1 + 1, o4) :: (L + 1 + 1 + 1 + 1 + 1, o5) :: (L + 1 + 1 + 1 + 1 + 1 + 1, o6) :: (L + 1 + 1 + 1 + 1 + 1 + 1 + 1, o7) :: (cl, listOf vs.toArray ncl) :: (sz, listOf #[.int cap1 u1, .int cap2 u2] nsz) :: (ca, listOf #[.ref c1, .ref c2] nca) :: (kn, listOf #[.ref k1, .ref k2] nkn) :: (k1, ko1) :: (k2, ko2) :: (c1, instObj 169 cd1) :: (cd1, cdObj w dm1 dq1 lk1 cap1 ua1 ta1 tb1 tc1 td1) :: (dm1, od1) :: (dq1, listOf (svs ps1) nq1) :: (lk1, instObj 45 ld1) :: (ld1, dictOf [] 0) :: (c2, instObj 169 cd2) :: (cd2, cdObj w dm2 dq2 lk2 cap2 ua2 ta2 tb2 tc2 td2) :: (dm2, od2) :: (dq2, listOf (svs ps2) nq2) :: (lk2, instObj 45 ld2) :: (ld2, dictOf [] 0) :: rest))
    (q0 : (L + 1 + 1 + 1 + 1 + 1 + 1 + 1 < sz ∧ L + 1 ≠ cl ∧ L + 1 + 1 ≠ cl ∧ L + 1 + 1 + 1 ≠ cl ∧ L + 1 + 1 + 1 + 1 ≠ cl ∧ L + 1 + 1 + 1 + 1 + 1 ≠ cl ∧ L + 1 + 1 + 1 + 1 + 1 + 1 ≠ cl ∧ L + 1 + 1 + 1 + 1 + 1 + 1 + 1 ≠ cl) ∧ cl < sz ∧ sz < cd1 ∧ cd1 < c1 ∧ c1 < dm1 ∧ dm1 < dq1 ∧ dq1 < ld1 ∧ ld1 < lk1 ∧ lk1 < cd2 ∧ cd2 < c2 ∧ c2 < dm2 ∧ dm2 < dq2 ∧ dq2 < ld2 ∧ ld2 < lk2 ∧ lk2 < ca ∧ ca < kn ∧ ca < k1 ∧ ca < k2 ∧ k1 ≠ k2 ∧ k1 ≠ kn ∧ k2 ≠ kn)
    (hroff : OwnOff rest [L + 1, L + 1 + 1, L + 1 + 1 + 1, L + 1 + 1 + 1 + 1, L + 1 + 1 + 1 + 1 + 1, L + 1 + 1 + 1 + 1 + 1 + 1, L + 1 + 1 + 1 + 1 + 1 + 1 + 1, kn, k1, k2, c1, cd1, dm1, dq1, lk1, ld1, c2, cd2, dm2, dq2, lk2, ld2])
    (mcl : m (Str.ofString "cells") = some (.ref cl)) (msz : m (Str.ofString "sizes") = some (.ref sz)) (mca : m (Str.ofString "caches") = some (.ref ca)) {tn : Tok} (x5 : o5.data = .cell (some (.int 0 tn))) {Dk nk : Nat} (x1 : o1.data = .cell (some (.ref kn))) (x6 : o6.data = .cell (some (.ref Dk))) (mch : m (Str.ofString "cache") = some (.ref c1)) (mDk : (Dk, listOf (svs ps1.reverse) nk) ∈ rest) (hag : Agree ps1 kvs1 kk1) (hm1 : Matches ps1 kvs1) (hk1 : ko1.IsDictOf (strKind prog w) kk1) (lok1 : (k1 == sysModules) = false) (hd1 : od1.IsDictOf (strKind prog w) kvs1) (lo1 : (dm1 == sysModules) = false) (hz1 : kvs1.length ≤ 900 ∧ ps1.length = kvs1.length)
    (h : ∀ h' tk, Fr h₀ L h' m → News h₀ L h' ((L + 1, o1) :: (L + 1 + 1, o2) :: (L + 1 + 1 + 1, o3) :: (L + 1 + 1 + 1 + 1, o4) :: (L + 1 + 1 + 1 + 1 + 1, o5) :: (L + 1 + 1 + 1 + 1 + 1 + 1, o6) :: (L + 1 + 1 + 1 + 1 + 1 + 1 + 1, o7) :: (cl, listOf vs.toArray ncl) :: (sz, listOf #[.int cap1 u1, .int cap2 u2] nsz) :: (ca, listOf #[.ref c1, .ref c2] nca) :: (kn, listOf #[.ref k1, .ref k2] nkn) :: (k1, ko1) :: (k2, ko2) :: (c1, instObj 169 cd1) :: (cd1, cdObj w dm1 dq1 lk1 cap1 ua1 ta1 tb1 tc1 td1) :: (dm1, od1) :: (dq1, listOf (svs ps1) nq1) :: (lk1, instObj 45 ld1) :: (ld1, dictOf [] 0) :: (c2, instObj 169 cd2) :: (cd2, cdObj w dm2 dq2 lk2 cap2 ua2 ta2 tb2 tc2 td2) :: (dm2, od2) :: (dq2, listOf (svs ps2) nq2) :: (lk2, instObj 45 ld2) :: (ld2, dictOf [] 0) :: rest) → Q .next { s with heap := h', toks := tk }) :
    wpAny (model prog w) (callerA.deeper (lawE w L fa cv)) (exec (hdS (tlS (tlS (tlS (tlS (tlS (bodyS (st8 w)))))))) (lawE w L fa cv)) Q E s := by
  have q0c := q0
  obtain ⟨q1, q2, q3, q4, q5, q6, q7, q8, q9, q10, q11, q12, q13, q14, q15, q16, q17, q18, q19, q20, q21⟩ := q0
  obtain ⟨z1, z2⟩ := hz1
  unfold st8 turnB forS lawB lawF
  dsimp only [hdS, tlS, bodyS]
  show wpAny _ (callerA.deeper (envOfC "law" (lawS w) L fa cv)) (exec _ (envOfC "law" (lawS w) L fa cv)) _ _ _
  unfold lawS lawF
  dsimp only
  have N0 : News h₀ L s.heap ((Dk, listOf (svs ps1.reverse) nk) :: ((L + 1, o1) :: (L + 1 + 1, o2) :: (L + 1 + 1 + 1, o3) :: (L + 1 + 1 + 1 + 1, o4) :: (L + 1 + 1 + 1 + 1 + 1, o5) :: (L + 1 + 1 + 1 + 1 + 1 + 1, o6) :: (L + 1 + 1 + 1 + 1 + 1 + 1 + 1, o7) :: (cl, listOf vs.toArray ncl) :: (sz, listOf #[.int cap1 u1, .int cap2 u2] nsz) :: (ca, listOf #[.ref c1, .ref c2] nca) :: (kn, listOf #[.ref k1, .ref k2] nkn) :: (k1, ko1) :: (k2, ko2) :: (c1, instObj 169 cd1) :: (cd1, cdObj w dm1 dq1 lk1 cap1 ua1 ta1 tb1 tc1 td1) :: (dm1, od1) :: (dq1, listOf (svs ps1) nq1) :: (lk1, instObj 45 ld1) :: (ld1, dictOf [] 0) :: (c2, instObj 169 cd2) :: (cd2, cdObj w dm2 dq2 lk2 cap2 ua2 ta2 tb2 tc2 td2) :: (dm2, od2) :: (dq2, listOf (svs ps2) nq2) :: (lk2, instObj 45 ld2) :: (ld2, dictOf [] 0) :: rest)) := fun q hq => by
    rcases List.mem_cons.mp hq with rfl | hq
    · exact N _ (by k_mem)
    · exact N _ hq
  clear N
  k_steps
  unfold Halt
  refine items_w (base := h₀) (A₀ := callerA) (news := (Dk, listOf (svs ps1.reverse) nk) :: ((L + 1, o1) :: (L + 1 + 1, o2) :: (L + 1 + 1 + 1, o3) :: (L + 1 + 1 + 1 + 1, o4) :: (L + 1 + 1 + 1 + 1 + 1, o5) :: (L + 1 + 1 + 1 + 1 + 1 + 1, o6) :: (L + 1 + 1 + 1 + 1 + 1 + 1 + 1, o7) :: (cl, listOf vs.toArray ncl) :: (sz, listOf #[.int cap1 u1, .int cap2 u2] nsz) :: (ca, listOf #[.ref c1, .ref c2] nca) :: (kn, listOf #[.ref k1, .ref k2] nkn) :: (k1, ko1) :: (k2, ko2) :: (c1, instObj 169 cd1) :: (cd1, cdObj w dm1 dq1 lk1 cap1 ua1 ta1 tb1 tc1 td1) :: (dm1, od1) :: (dq1, listOf (svs ps1) nq1) :: (lk1, instObj 45 ld1) :: (ld1, dictOf [] 0) :: (c2, instObj 169 cd2) :: (cd2, cdObj w dm2 dq2 lk2 cap2 ua2 ta2 tb2 tc2 td2) :: (dm2, od2) :: (dq2, listOf (svs ps2) nq2) :: (lk2, instObj 45 ld2) :: (ld2, dictOf [] 0) :: rest)) ⟨by assumption, by k_asm, by assumption, by k_asm, by assumption, rfl, rfl, rfl, by (simp only [depth_mark, depth_deeper, depth_caller]; decide), by (simp only [units_mark, units_deeper]; decide)⟩ (by k_mem) (by k_mem) (by k_mem) (by k_mem) (by k_mem) (by k_mem) ⟨by assumption, by assumption, by assumption, by assumption, by assumption⟩ hd1 lo1 ⟨z1, z2⟩ rfl (by simp only [depth_mark, depth_deeper, depth_caller, units_mark, units_deeper]; decide) hm1 (fun h1 tk1 D0 n0 tl ys0 F1 N1 hr hT off0 => ?_)
  have N2 : News h₀ L h1 ((D0, listOf ys0.toArray n0) :: (Dk, listOf (svs ps1.reverse) nk) :: ((L + 1, o1) :: (L + 1 + 1, o2) :: (L + 1 + 1 + 1, o3) :: (L + 1 + 1 + 1 + 1, o4) :: (L + 1 + 1 + 1 + 1 + 1, o5) :: (L + 1 + 1 + 1 + 1 + 1 + 1, o6) :: (L + 1 + 1 + 1 + 1 + 1 + 1 + 1, o7) :: (cl, listOf vs.toArray ncl) :: (sz, listOf #[.int cap1 u1, .int cap2 u2] nsz) :: (ca, listOf #[.ref c1, .ref c2] nca) :: (kn, listOf #[.ref k1, .ref k2] nkn) :: (k1, ko1) :: (k2, ko2) :: (c1, instObj 169 cd1) :: (cd1, cdObj w dm1 dq1 lk1 cap1 ua1 ta1 tb1 tc1 td1) :: (dm1, od1) :: (dq1, listOf (svs ps1) nq1) :: (lk1, instObj 45 ld1) :: (ld1, dictOf [] 0) :: (c2, instObj 169 cd2) :: (cd2, cdObj w dm2 dq2 lk2 cap2 ua2 ta2 tb2 tc2 td2) :: (dm2, od2) :: (dq2, listOf (svs ps2) nq2) :: (lk2, instObj 45 ld2) :: (ld2, dictOf [] 0) :: tl)) := fun q hq => by
    rcases List.mem_cons.mp hq with rfl | hq
    · exact N1 _ (.head _)
    · exact N1 q (.tail _ (sub_app (A := (Dk, listOf (svs ps1.reverse) nk) :: ((L + 1, o1) :: (L + 1 + 1, o2) :: (L + 1 + 1 + 1, o3) :: (L + 1 + 1 + 1 + 1, o4) :: (L + 1 + 1 + 1 + 1 + 1, o5) :: (L + 1 + 1 + 1 + 1 + 1 + 1, o6) :: (L + 1 + 1 + 1 + 1 + 1 + 1 + 1, o7) :: (cl, listOf vs.toArray ncl) :: (sz, listOf #[.int cap1 u1, .int cap2 u2] nsz) :: (ca, listOf #[.ref c1, .ref c2] nca) :: (kn, listOf #[.ref k1, .ref k2] nkn) :: (k1, ko1) :: (k2, ko2) :: (c1, instObj 169 cd1) :: (cd1, cdObj w dm1 dq1 lk1 cap1 ua1 ta1 tb1 tc1 td1) :: (dm1, od1) :: (dq1, listOf (svs ps1) nq1) :: (lk1, instObj 45 ld1) :: (ld1, dictOf [] 0) :: (c2, instObj 169 cd2) :: (cd2, cdObj w dm2 dq2 lk2 cap2 ua2 ta2 tb2 tc2 td2) :: (dm2, od2) :: (dq2, listOf (svs ps2) nq2) :: (lk2, instObj 45 ld2) :: (ld2, dictOf [] 0) :: [])) hr q hq))
  clear N0 N1 off0
  (try k_unmd)
  (try dsimp only)
  k_steps
  unfold Halt
  (try k_fold)
  refine LCg.ListComp_U (F₀ := by assumption) (by with_unfolding_all rfl) (by decide) (by rfl) (by decide) (by rfl) ?_
  k_steps
  unfold Halt
  refine LCg.CompSrc.ledger (ax := Dk) (its := svs ps1.reverse) (k := nk) (by rfl) (by assumption) N2 (by k_mem) (by rw [sizeLine_eq]; simp [svs]; omega) ?_
  intro g1
  try dsimp only
  refine comp_of (fun i ys nw => (∀ p ∈ (D0, listOf ys0.toArray n0) :: (Dk, listOf (svs ps1.reverse) nk) :: ((L + 1, o1) :: (L + 1 + 1, o2) :: (L + 1 + 1 + 1, o3) :: (L + 1 + 1 + 1 + 1, o4) :: (L + 1 + 1 + 1 + 1 + 1, o5) :: (L + 1 + 1 + 1 + 1 + 1 + 1, o6) :: (L + 1 + 1 + 1 + 1 + 1 + 1 + 1, o7) :: (cl, listOf vs.toArray ncl) :: (sz, listOf #[.int cap1 u1, .int cap2 u2] nsz) :: (ca, listOf #[.ref c1, .ref c2] nca) :: (kn, listOf #[.ref k1, .ref k2] nkn) :: (k1, ko1) :: (k2, ko2) :: (c1, instObj 169 cd1) :: (cd1, cdObj w dm1 dq1 lk1 cap1 ua1 ta1 tb1 tc1 td1) :: (dm1, od1) :: (dq1, listOf (svs ps1) nq1) :: (lk1, instObj 45 ld1) :: (ld1, dictOf [] 0) :: (c2, instObj 169 cd2) :: (cd2, cdObj w dm2 dq2 lk2 cap2 ua2 ta2 tb2 tc2 td2) :: (dm2, od2) :: (dq2, listOf (svs ps2) nq2) :: (lk2, instObj 45 ld2) :: (ld2, dictOf [] 0) :: tl), p ∈ nw) ∧ TupsAt nw ys ((prs kk1 ps1.reverse).take i)) ⟨fun _ q => q, .nil⟩ ?_ ?_
  · clear N2
    intro i ys nw hi ⟨hs, hT2⟩ v I oI C oC D m₂ h5 tk5 E' hP hC hx F5 N5 off ne
    obtain ⟨p, ep, rfl⟩ := svs_at hP
    obtain ⟨v', hv'⟩ := agree_at hag ep
    have N6 : News h₀ L h5 ((I, oI) :: (C, oC) :: (D, LCg.lst ys) :: (D0, listOf ys0.toArray n0) :: (Dk, listOf (svs ps1.reverse) nk) :: ((L + 1, o1) :: (L + 1 + 1, o2) :: (L + 1 + 1 + 1, o3) :: (L + 1 + 1 + 1 + 1, o4) :: (L + 1 + 1 + 1 + 1 + 1, o5) :: (L + 1 + 1 + 1 + 1 + 1 + 1, o6) :: (L + 1 + 1 + 1 + 1 + 1 + 1 + 1, o7) :: (cl, listOf vs.toArray ncl) :: (sz, listOf #[.int cap1 u1, .int cap2 u2] nsz) :: (ca, listOf #[.ref c1, .ref c2] nca) :: (kn, listOf #[.ref k1, .ref k2] nkn) :: (k1, ko1) :: (k2, ko2) :: (c1, instObj 169 cd1) :: (cd1, cdObj w dm1 dq1 lk1 cap1 ua1 ta1 tb1 tc1 td1) :: (dm1, od1) :: (dq1, listOf (svs ps1) nq1) :: (lk1, instObj 45 ld1) :: (ld1, dictOf [] 0) :: (c2, instObj 169 cd2) :: (cd2, cdObj w dm2 dq2 lk2 cap2 ua2 ta2 tb2 tc2 td2) :: (dm2, od2) :: (dq2, listOf (svs ps2) nq2) :: (lk2, instObj 45 ld2) :: (ld2, dictOf [] 0) :: nw)) := fun q hq => N5 q (sub_3 (sub_app (A := (D0, listOf ys0.toArray n0) :: (Dk, listOf (svs ps1.reverse) nk) :: ((L + 1, o1) :: (L + 1 + 1, o2) :: (L + 1 + 1 + 1, o3) :: (L + 1 + 1 + 1 + 1, o4) :: (L + 1 + 1 + 1 + 1 + 1, o5) :: (L + 1 + 1 + 1 + 1 + 1 + 1, o6) :: (L + 1 + 1 + 1 + 1 + 1 + 1 + 1, o7) :: (cl, listOf vs.toArray ncl) :: (sz, listOf #[.int cap1 u1, .int cap2 u2] nsz) :: (ca, listOf #[.ref c1, .ref c2] nca) :: (kn, listOf #[.ref k1, .ref k2] nkn) :: (k1, ko1) :: (k2, ko2) :: (c1, instObj 169 cd1) :: (cd1, cdObj w dm1 dq1 lk1 cap1 ua1 ta1 tb1 tc1 td1) :: (dm1, od1) :: (dq1, listOf (svs ps1) nq1) :: (lk1, instObj 45 ld1) :: (ld1, dictOf [] 0) :: (c2, instObj 169 cd2) :: (cd2, cdObj w dm2 dq2 lk2 cap2 ua2 ta2 tb2 tc2 td2) :: (dm2, od2) :: (dq2, listOf (svs ps2) nq2) :: (lk2, instObj 45 ld2) :: (ld2, dictOf [] 0) :: [])) hs) q hq)
    clear N5
    (try k_fold)
    k_steps
    unfold Halt
    rename_i T3 h3 F3 N3 l3
    obtain ⟨r1, r2, r3, r4⟩ := l3
    refine LCg.CompEnd.intro F3 N3 ((T3, tupOf #[.str p.1 p.2, v']) :: nw) (sub_31 fun q hq => List.mem_append_right ((D0, listOf ys0.toArray n0) :: (Dk, listOf (svs ps1.reverse) nk) :: ((L + 1, o1) :: (L + 1 + 1, o2) :: (L + 1 + 1 + 1, o3) :: (L + 1 + 1 + 1 + 1, o4) :: (L + 1 + 1 + 1 + 1 + 1, o5) :: (L + 1 + 1 + 1 + 1 + 1 + 1, o6) :: (L + 1 + 1 + 1 + 1 + 1 + 1 + 1, o7) :: (cl, listOf vs.toArray ncl) :: (sz, listOf #[.int cap1 u1, .int cap2 u2] nsz) :: (ca, listOf #[.ref c1, .ref c2] nca) :: (kn, listOf #[.ref k1, .ref k2] nkn) :: (k1, ko1) :: (k2, ko2) :: (c1, instObj 169 cd1) :: (cd1, cdObj w dm1 dq1 lk1 cap1 ua1 ta1 tb1 tc1 td1) :: (dm1, od1) :: (dq1, listOf (svs ps1) nq1) :: (lk1, instObj 45 ld1) :: (ld1, dictOf [] 0) :: (c2, instObj 169 cd2) :: (cd2, cdObj w dm2 dq2 lk2 cap2 ua2 ta2 tb2 tc2 td2) :: (dm2, od2) :: (dq2, listOf (svs ps2) nq2) :: (lk2, instObj 45 ld2) :: (ld2, dictOf [] 0) :: [])) hq) ⟨⟨Nat.ne_of_gt r1, Nat.ne_of_gt r2, Nat.ne_of_gt r3⟩, off⟩ (.inr ⟨_, .tail _ (hs _ (.tail _ (.head _))), rfl, _, rfl⟩) ⟨fun q hq => .tail _ (hs q hq), ?_⟩
    rw [prs_take ep hv']
    exact (hT2.mono fun q hq => List.mem_cons_of_mem _ hq).append (.cons (.head _) .nil)
  · intro ys nw ⟨hs, hT2⟩
    intro D h5 tk5 F5 N5 off
    rw [List.take_of_length_le (by simp [prs, svs])] at hT2
    have N6 : News h₀ L h5 ((D0, listOf ys0.toArray n0) :: (Dk, listOf (svs ps1.reverse) nk) :: ((L + 1, o1) :: (L + 1 + 1, o2) :: (L + 1 + 1 + 1, o3) :: (L + 1 + 1 + 1 + 1, o4) :: (L + 1 + 1 + 1 + 1 + 1, o5) :: (L + 1 + 1 + 1 + 1 + 1 + 1, o6) :: (L + 1 + 1 + 1 + 1 + 1 + 1 + 1, o7) :: (cl, listOf vs.toArray ncl) :: (sz, listOf #[.int cap1 u1, .int cap2 u2] nsz) :: (ca, listOf #[.ref c1, .ref c2] nca) :: (kn, listOf #[.ref k1, .ref k2] nkn) :: (k1, ko1) :: (k2, ko2) :: (c1, instObj 169 cd1) :: (cd1, cdObj w dm1 dq1 lk1 cap1 ua1 ta1 tb1 tc1 td1) :: (dm1, od1) :: (dq1, listOf (svs ps1) nq1) :: (lk1, instObj 45 ld1) :: (ld1, dictOf [] 0) :: (c2, instObj 169 cd2) :: (cd2, cdObj w dm2 dq2 lk2 cap2 ua2 ta2 tb2 tc2 td2) :: (dm2, od2) :: (dq2, listOf (svs ps2) nq2) :: (lk2, instObj 45 ld2) :: (ld2, dictOf [] 0) :: nw)) := fun q hq => N5 q (.tail _ (sub_app (A := (D0, listOf ys0.toArray n0) :: (Dk, listOf (svs ps1.reverse) nk) :: ((L + 1, o1) :: (L + 1 + 1, o2) :: (L + 1 + 1 + 1, o3) :: (L + 1 + 1 + 1 + 1, o4) :: (L + 1 + 1 + 1 + 1 + 1, o5) :: (L + 1 + 1 + 1 + 1 + 1 + 1, o6) :: (L + 1 + 1 + 1 + 1 + 1 + 1 + 1, o7) :: (cl, listOf vs.toArray ncl) :: (sz, listOf #[.int cap1 u1, .int cap2 u2] nsz) :: (ca, listOf #[.ref c1, .ref c2] nca) :: (kn, listOf #[.ref k1, .ref k2] nkn) :: (k1, ko1) :: (k2, ko2) :: (c1, instObj 169 cd1) :: (cd1, cdObj w dm1 dq1 lk1 cap1 ua1 ta1 tb1 tc1 td1) :: (dm1, od1) :: (dq1, listOf (svs ps1) nq1) :: (lk1, instObj 45 ld1) :: (ld1, dictOf [] 0) :: (c2, instObj 169 cd2) :: (cd2, cdObj w dm2 dq2 lk2 cap2 ua2 ta2 tb2 tc2 td2) :: (dm2, od2) :: (dq2, listOf (svs ps2) nq2) :: (lk2, instObj 45 ld2) :: (ld2, dictOf [] 0) :: [])) hs q hq))
    (try k_unmd)
    k_unfold
    try dsimp only
    refine ne_pairs (nw := nw) (fun q hq => N5 q (.tail _ hq)) ⟨_, (N6 _ (.head _)).1, rfl, _, rfl⟩ ⟨_, (N5 _ (.head _)).1, rfl, _, rfl⟩ (hT.mono (fun q hq => sub_tail (A := (D0, listOf ys0.toArray n0) :: (Dk, listOf (svs ps1.reverse) nk) :: ((L + 1, o1) :: (L + 1 + 1, o2) :: (L + 1 + 1 + 1, o3) :: (L + 1 + 1 + 1 + 1, o4) :: (L + 1 + 1 + 1 + 1 + 1, o5) :: (L + 1 + 1 + 1 + 1 + 1 + 1, o6) :: (L + 1 + 1 + 1 + 1 + 1 + 1 + 1, o7) :: (cl, listOf vs.toArray ncl) :: (sz, listOf #[.int cap1 u1, .int cap2 u2] nsz) :: (ca, listOf #[.ref c1, .ref c2] nca) :: (kn, listOf #[.ref k1, .ref k2] nkn) :: (k1, ko1) :: (k2, ko2) :: (c1, instObj 169 cd1) :: (cd1, cdObj w dm1 dq1 lk1 cap1 ua1 ta1 tb1 tc1 td1) :: (dm1, od1) :: (dq1, listOf (svs ps1) nq1) :: (lk1, instObj 45 ld1) :: (ld1, dictOf [] 0) :: (c2, instObj 169 cd2) :: (cd2, cdObj w dm2 dq2 lk2 cap2 ua2 ta2 tb2 tc2 td2) :: (dm2, od2) :: (dq2, listOf (svs ps2) nq2) :: (lk2, instObj 45 ld2) :: (ld2, dictOf [] 0) :: [])) hs q hq)) hT2 (agree_allI hag) (agree_allI2 hag) (agree_bare hag) (by simp only [units_mark, units_deeper]; decide) ?_
    clear N5
    k_steps
    unfold Halt
    refine values_w (base := h₀) (A₀ := callerA) (news := (D0, listOf ys0.toArray n0) :: (Dk, listOf (svs ps1.reverse) nk) :: ((L + 1, o1) :: (L + 1 + 1, o2) :: (L + 1 + 1 + 1, o3) :: (L + 1 + 1 + 1 + 1, o4) :: (L + 1 + 1 + 1 + 1 + 1, o5) :: (L + 1 + 1 + 1 + 1 + 1 + 1, o6) :: (L + 1 + 1 + 1 + 1 + 1 + 1 + 1, o7) :: (cl, listOf vs.toArray ncl) :: (sz, listOf #[.int cap1 u1, .int cap2 u2] nsz) :: (ca, listOf #[.ref c1, .ref c2] nca) :: (kn, listOf #[.ref k1, .ref k2] nkn) :: (k1, ko1) :: (k2, ko2) :: (c1, instObj 169 cd1) :: (cd1, cdObj w dm1 dq1 lk1 cap1 ua1 ta1 tb1 tc1 td1) :: (dm1, od1) :: (dq1, listOf (svs ps1) nq1) :: (lk1, instObj 45 ld1) :: (ld1, dictOf [] 0) :: (c2, instObj 169 cd2) :: (cd2, cdObj w dm2 dq2 lk2 cap2 ua2 ta2 tb2 tc2 td2) :: (dm2, od2) :: (dq2, listOf (svs ps2) nq2) :: (lk2, instObj 45 ld2) :: (ld2, dictOf [] 0) :: nw)) ⟨by assumption, by k_asm, by assumption, by k_asm, by assumption, rfl, rfl, rfl, by (simp only [depth_mark, depth_deeper, depth_caller]; decide), by (simp only [units_mark, units_deeper]; decide)⟩ (by k_mem) (by k_mem) (by k_mem) (by k_mem) (by k_mem) (by k_mem) ⟨by assumption, by assumption, by assumption, by assumption, by assumption⟩ hd1 lo1 ⟨z1, z2⟩ rfl (by simp only [depth_mark, depth_deeper, depth_caller, units_mark, units_deeper]; decide) hm1 (fun h6 tk6 D6 n6 us F6 N7 hus off6 => ?_)
    clear N6 off6
    (try k_unmd)
    (try dsimp only)
    k_steps
    unfold Halt
    (try k_fold)
    refine LCg.ListComp_U (F₀ := by assumption) (by with_unfolding_all rfl) (by decide) (by rfl) (by decide) (by rfl) ?_
    k_steps
    unfold Halt
    refine LCg.CompSrc.ledger (ax := Dk) (its := svs ps1.reverse) (k := nk) (by rfl) (by assumption) N7 (by k_mem) (by rw [sizeLine_eq]; simp [svs]; omega) ?_
    intro g2
    try dsimp only
    refine comp_of (fun i zs nw' => nw' = (D6, listOf (us.map (·.2)).toArray n6) :: (D0, listOf ys0.toArray n0) :: (Dk, listOf (svs ps1.reverse) nk) :: ((L + 1, o1) :: (L + 1 + 1, o2) :: (L + 1 + 1 + 1, o3) :: (L + 1 + 1 + 1 + 1, o4) :: (L + 1 + 1 + 1 + 1 + 1, o5) :: (L + 1 + 1 + 1 + 1 + 1 + 1, o6) :: (L + 1 + 1 + 1 + 1 + 1 + 1 + 1, o7) :: (cl, listOf vs.toArray ncl) :: (sz, listOf #[.int cap1 u1, .int cap2 u2] nsz) :: (ca, listOf #[.ref c1, .ref c2] nca) :: (kn, listOf #[.ref k1, .ref k2] nkn) :: (k1, ko1) :: (k2, ko2) :: (c1, instObj 169 cd1) :: (cd1, cdObj w dm1 dq1 lk1 cap1 ua1 ta1 tb1 tc1 td1) :: (dm1, od1) :: (dq1, listOf (svs ps1) nq1) :: (lk1, instObj 45 ld1) :: (ld1, dictOf [] 0) :: (c2, instObj 169 cd2) :: (cd2, cdObj w dm2 dq2 lk2 cap2 ua2 ta2 tb2 tc2 td2) :: (dm2, od2) :: (dq2, listOf (svs ps2) nq2) :: (lk2, instObj 45 ld2) :: (ld2, dictOf [] 0) :: nw) ∧ zs = ((prs kk1 ps1.reverse).take i).map (·.2)) ⟨rfl, rfl⟩ ?_ ?_
    · clear N7
      intro i zs nw' hi ⟨e, ez⟩ v I oI C oC D₂ m₂ h7 tk7 E' hP hC hx F7 N8 off7 ne7
      subst e
      obtain ⟨p, ep, rfl⟩ := svs_at hP
      obtain ⟨v', hv'⟩ := agree_at hag ep
      (try k_fold)
      k_steps
      unfold Halt
      refine cend0 F7 N8 off7 (.inr ⟨_, by k_mem, rfl, _, rfl⟩) ⟨rfl, ?_⟩
      rw [prs_take ep hv', List.map_append, ez]
      rfl
    · intro zs nw' ⟨e, ez⟩
      subst e
      intro D₂ h7 tk7 F7 N8 off7
      rw [List.take_of_length_le (by simp [prs, svs])] at ez
      subst ez
      (try k_unmd)
      k_unfold
      try dsimp only
      refine ne_vals (us := us) (vs := prs kk1 ps1.reverse) (a := D6) (b := D₂) ⟨_, (N8 (D6, _) (by k_mem)).1, rfl, _, rfl⟩ ⟨_, (N8 _ (.head _)).1, rfl, _, rfl⟩ (hus ▸ agree_allI hag) (agree_allI2 hag) (hus ▸ agree_bare hag) (by simp only [units_mark, units_deeper]; decide) ?_
      have N9 : News h₀ L h7 (((L + 1, o1) :: (L + 1 + 1, o2) :: (L + 1 + 1 + 1, o3) :: (L + 1 + 1 + 1 + 1, o4) :: (L + 1 + 1 + 1 + 1 + 1, o5) :: (L + 1 + 1 + 1 + 1 + 1 + 1, o6) :: (L + 1 + 1 + 1 + 1 + 1 + 1 + 1, o7) :: (cl, listOf vs.toArray ncl) :: (sz, listOf #[.int cap1 u1, .int cap2 u2] nsz) :: (ca, listOf #[.ref c1, .ref c2] nca) :: (kn, listOf #[.ref k1, .ref k2] nkn) :: (k1, ko1) :: (k2, ko2) :: (c1, instObj 169 cd1) :: (cd1, cdObj w dm1 dq1 lk1 cap1 ua1 ta1 tb1 tc1 td1) :: (dm1, od1) :: (dq1, listOf (svs ps1) nq1) :: (lk1, instObj 45 ld1) :: (ld1, dictOf [] 0) :: (c2, instObj 169 cd2) :: (cd2, cdObj w dm2 dq2 lk2 cap2 ua2 ta2 tb2 tc2 td2) :: (dm2, od2) :: (dq2, listOf (svs ps2) nq2) :: (lk2, instObj 45 ld2) :: (ld2, dictOf [] 0) :: rest)) := fun q hq => N8 q (.tail _ (.tail _ (.tail _ (.tail _ (sub_swap (A := ((L + 1, o1) :: (L + 1 + 1, o2) :: (L + 1 + 1 + 1, o3) :: (L + 1 + 1 + 1 + 1, o4) :: (L + 1 + 1 + 1 + 1 + 1, o5) :: (L + 1 + 1 + 1 + 1 + 1 + 1, o6) :: (L + 1 + 1 + 1 + 1 + 1 + 1 + 1, o7) :: (cl, listOf vs.toArray ncl) :: (sz, listOf #[.int cap1 u1, .int cap2 u2] nsz) :: (ca, listOf #[.ref c1, .ref c2] nca) :: (kn, listOf #[.ref k1, .ref k2] nkn) :: (k1, ko1) :: (k2, ko2) :: (c1, instObj 169 cd1) :: (cd1, cdObj w dm1 dq1 lk1 cap1 ua1 ta1 tb1 tc1 td1) :: (dm1, od1) :: (dq1, listOf (svs ps1) nq1) :: (lk1, instObj 45 ld1) :: (ld1, dictOf [] 0) :: (c2, instObj 169 cd2) :: (cd2, cdObj w dm2 dq2 lk2 cap2 ua2 ta2 tb2 tc2 td2) :: (dm2, od2) :: (dq2, listOf (svs ps2) nq2) :: (lk2, instObj 45 ld2) :: (ld2, dictOf [] 0) :: [])) (fun p hp => sub_tail (A := (D0, listOf ys0.toArray n0) :: (Dk, listOf (svs ps1.reverse) nk) :: ((L + 1, o1) :: (L + 1 + 1, o2) :: (L + 1 + 1 + 1, o3) :: (L + 1 + 1 + 1 + 1, o4) :: (L + 1 + 1 + 1 + 1 + 1, o5) :: (L + 1 + 1 + 1 + 1 + 1 + 1, o6) :: (L + 1 + 1 + 1 + 1 + 1 + 1 + 1, o7) :: (cl, listOf vs.toArray ncl) :: (sz, listOf #[.int cap1 u1, .int cap2 u2] nsz) :: (ca, listOf #[.ref c1, .ref c2] nca) :: (kn, listOf #[.ref k1, .ref k2] nkn) :: (k1, ko1) :: (k2, ko2) :: (c1, instObj 169 cd1) :: (cd1, cdObj w dm1 dq1 lk1 cap1 ua1 ta1 tb1 tc1 td1) :: (dm1, od1) :: (dq1, listOf (svs ps1) nq1) :: (lk1, instObj 45 ld1) :: (ld1, dictOf [] 0) :: (c2, instObj 169 cd2) :: (cd2, cdObj w dm2 dq2 lk2 cap2 ua2 ta2 tb2 tc2 td2) :: (dm2, od2) :: (dq2, listOf (svs ps2) nq2) :: (lk2, instObj 45 ld2) :: (ld2, dictOf [] 0) :: [])) hs p (sub_tail (A := (Dk, listOf (svs ps1.reverse) nk) :: ((L + 1, o1) :: (L + 1 + 1, o2) :: (L + 1 + 1 + 1, o3) :: (L + 1 + 1 + 1 + 1, o4) :: (L + 1 + 1 + 1 + 1 + 1, o5) :: (L + 1 + 1 + 1 + 1 + 1 + 1, o6) :: (L + 1 + 1 + 1 + 1 + 1 + 1 + 1, o7) :: (cl, listOf vs.toArray ncl) :: (sz, listOf #[.int cap1 u1, .int cap2 u2] nsz) :: (ca, listOf #[.ref c1, .ref c2] nca) :: (kn, listOf #[.ref k1, .ref k2] nkn) :: (k1, ko1) :: (k2, ko2) :: (c1, instObj 169 cd1) :: (cd1, cdObj w dm1 dq1 lk1 cap1 ua1 ta1 tb1 tc1 td1) :: (dm1, od1) :: (dq1, listOf (svs ps1) nq1) :: (lk1, instObj 45 ld1) :: (ld1, dictOf [] 0) :: (c2, instObj 169 cd2) :: (cd2, cdObj w dm2 dq2 lk2 cap2 ua2 ta2 tb2 tc2 td2) :: (dm2, od2) :: (dq2, listOf (svs ps2) nq2) :: (lk2, instObj 45 ld2) :: (ld2, dictOf [] 0) :: [])) hr p hp)) q hq)))))
      k_steps
      exact h _ _ F7 N9
end
end
section
local macro_rules | `(tactic| walk_at "idle line 0") => `(tactic| fail)
local macro_rules | `(tactic| k_mem) => `(tactic| first | with_reducible exact List.mem_cons_self | with_reducible assumption | (with_reducible refine List.mem_cons_of_mem _ ?_; k_mem))
local macro_rules | `(tactic| walk_at "eval Name") => `(tactic| (k_here; k_dflt (refine' nameX_L ?F ?v ?_ ?a ?b; (case a => rfl); (case b => rfl); (case F => k_asm); (case v => assumption))))
local macro_rules | `(tactic| walk_at "call type:list") => `(tactic| (k_here; (with_reducible show wpAny _ _ (call (Value.type "list") [Value.ref _]) _ _ _); k_dflt (refine' list_w (base := ?bb) (A₀ := ?aa) ?C ?m1 ?m2 ?m3 ?m4 ?m5 ?m6 ?o ?d ?lo ?z rfl ?u ?_; (case C => exact ⟨by assumption, by k_asm, by assumption, by k_asm, by assumption, rfl, rfl, rfl, by (simp only [depth_mark, depth_deeper, depth_caller]; decide), by (simp only [units_mark, units_deeper]; decide)⟩); (case m1 => k_mem); (case m2 => k_mem); (case m3 => k_mem); (case m4 => k_mem); (case m5 => k_mem); (case m6 => k_mem); (case u => simp only [units_mark, units_deeper]; decide); (case o => exact ⟨by assumption, by assumption, by assumption, by assumption, by assumption⟩); (case d => assumption); (case lo => assumption); (case z => exact ⟨by assumption, by assumption⟩)); intro h' tk' D' n' F' N' l1; (have l2 := l1); (k_lt l2); (try k_sweep); (try k_unmd)))
local macro_rules | `(tactic| walk_at "compareOp In str ref") => `(tactic| (k_here; k_dflt (refine' in_strs ?l ?_; (case l => exact ⟨_, News.get (by k_asm) (by k_mem), rfl, _, rfl⟩))))
local macro_rules | `(tactic| walk_at "CompSrc") => `(tactic| (k_here; refine halt ?_))
local macro_rules | `(tactic| walk_at "CompSrcT") => `(tactic| (k_here; refine halt ?_))
local macro_rules | `(tactic| walk_at "call type:list") => `(tactic| (k_here; (with_reducible show wpAny _ _ (call (Value.type "list") [Value.ref _]) _ _ _); refine halt ?_))
local macro_rules | `(tactic| walk_at "call ref") => `(tactic| (k_here; (with_reducible show wpAny _ _ (call (Value.ref 180) _) _ _ _); refine halt ?_))
local macro_rules | `(tactic| walk_at "call ref") => `(tactic| (k_here; (with_reducible show wpAny _ _ (call (Value.ref 93) _) _ _ _); refine halt ?_))
local macro_rules | `(tactic| walk_at "call ref") => `(tactic| (k_here; (with_reducible show wpAny _ _ (call (Value.ref 140) _) _ _ _); refine halt ?_))
local macro_rules | `(tactic| walk_at "call ref") => `(tactic| (k_here; (with_reducible show wpAny _ _ (call (Value.ref 145) _) _ _ _); refine halt ?_))
local macro_rules | `(tactic| walk_at "call builtin:len") => `(tactic| (k_here; (with_reducible show wpAny _ _ (call (Value.builtin "len") [Value.ref _]) _ _ _); k_dflt (refine' len_svs ?a ?z ?_; (case a => exact ⟨_, News.get (by k_asm) (by k_mem), rfl, _, rfl⟩); (case z => first | omega | (simp only [List.length_reverse]; omega)))))
local macro_rules | `(tactic| walk_at "CompEnd") => `(tactic| (refine halt ?_))
local macro_rules | `(tactic| walk_at "eval ListComp") => `(tactic| (k_here; refine halt ?_))
section
variable {prog : Program} {w : World} {h₀ : Heap} {L fa : Nat} {cv : Value} {mean : ExcName → Option Value} {mg mb : Str → Option Value} {s : Shared} {m : Str → Option Value} {Q : Flow → Shared → Prop} {E : Value → Shared → Prop} {rest : List (Addr × Obj)}
  {o1 o2 o3 o4 o5 o6 o7 ko1 ko2 od1 od2 : Obj} {cl sz ca kn k1 k2 c1 cd1 dm1 dq1 lk1 ld1 c2 cd2 dm2 dq2 lk2 ld2 : Nat} {ncl nsz nca nkn nq1 nq2 u1 u2 ua1 ua2 ta1 ta2 tb1 tb2 tc1 tc2 td1 td2 : Nat} {cap1 cap2 : Int}
  {vs : List Value} {ns : List Int} {ps1 ps2 : List (Str × Nat)} {kvs1 kvs2 kk1 kk2 : List (Str × Value)}
set_option maxRecDepth 100000 in
set_option maxHeartbeats 8000000 in
theorem last2f (B : Below callerA h₀ [] h₀) (X : (Mine.hd.heap_39 w.params).In h₀) (T : TT mean mg mb h₀) (F : Fr h₀ L s.heap m) (N : News h₀ L s.heap ((L + 1, o1) :: (L + 1 + 1, o2) :: (L + 1 + 1 + 1, o3) :: (L + 1 + 1 + 1 + 1, o4) :: (L + 1 + 1 + 1 + 1 + 1, o5) :: (L + 1 + 1 + 1 + 1 + 1 + 1, o6) :: (L + 1 + 1 + 1 + 1 + 1 + 1 + 1, o7) :: (cl, listOf vs.toArray ncl) :: (sz, listOf #[.int cap1 u1, .int cap2 u2] nsz) :: (ca, listOf #[.ref c1, .ref c2] nca) :: (kn, listOf #[.ref k1, .ref k2] nkn) :: (k1, ko1) :: (k2, ko2) :: (c1, instObj 169 cd1) :: (cd1, cdObj w dm1 dq1 lk1 cap1 ua1 ta1 tb1 tc1 td1) :: (dm1, od1) :: (dq1, listOf (svs ps1) nq1) :: (lk1, instObj 45 ld1) :: (ld1, dictOf [] 0) :: (c2, instObj 169 cd2) :: (cd2, cdObj w dm2 dq2 lk2 cap2 ua2 ta2 tb2 tc2 td2) :: (dm2, od2) :: (dq2, listOf (svs ps2) nq2) :: (lk2, instObj 45 ld2) :: (ld2, dictOf [] 0) :: rest))
    (q0 : (L + 1 + 1 + 1 + 1 + 1 + 1 + 1 < sz ∧ L + 1 ≠ cl ∧ L + 1 + 1 ≠ cl ∧ L + 1 + 1 + 1 ≠ cl ∧ L + 1 + 1 + 1 + 1 ≠ cl ∧ L + 1 + 1 + 1 + 1 + 1 ≠ cl ∧ L + 1 + 1 + 1 + 1 + 1 + 1 ≠ cl ∧ L + 1 + 1 + 1 + 1 + 1 + 1 + 1 ≠ cl) ∧ cl < sz ∧ sz < cd1 ∧ cd1 < c1 ∧ c1 < dm1 ∧ dm1 < dq1 ∧ dq1 < ld1 ∧ ld1 < lk1 ∧ lk1 < cd2 ∧ cd2 < c2 ∧ c2 < dm2 ∧ dm2 < dq2 ∧ dq2 < ld2 ∧ ld2 < lk2 ∧ lk2 < ca ∧ ca < kn ∧ ca < k1 ∧ ca < k2 ∧ k1 ≠ k2 ∧ k1 ≠ kn ∧ k2 ≠ kn)
    (hroff : OwnOff rest [L + 1, L + 1 + 1, L + 1 + 1 + 1, L + 1 + 1 + 1 + 1, L + 1 + 1 + 1 + 1 + 1, L + 1 + 1 + 1 + 1 + 1 + 1, L + 1 + 1 + 1 + 1 + 1 + 1 + 1, kn, k1, k2, c1, cd1, dm1, dq1, lk1, ld1, c2, cd2, dm2, dq2, lk2, ld2])
    (mcl : m (Str.ofString "cells") = some (.ref cl)) (msz : m (Str.ofString "sizes") = some (.ref sz)) (mca : m (Str.ofString "caches") = some (.ref ca)) {tn : Tok} (x5 : o5.data = .cell (some (.int 1 tn))) {Dk nk : Nat} (x1 : o1.data = .cell (some (.ref kn))) (x6 : o6.data = .cell (some (.ref Dk))) (mch : m (Str.ofString "cache") = some (.ref c2)) (mDk : (Dk, listOf (svs ps2.reverse) nk) ∈ rest) (hag : Agree ps2 kvs2 kk2) (hm2 : Matches ps2 kvs2) (hk2 : ko2.IsDictOf (strKind prog w) kk2) (lok2 : (k2 == sysModules) = false) (hd2 : od2.IsDictOf (strKind prog w) kvs2) (lo2 : (dm2 == sysModules) = false) (hz2 : kvs2.length ≤ 900 ∧ ps2.length = kvs2.length)
    (h : ∀ h' tk, Fr h₀ L h' m → News h₀ L h' ((L + 1, o1) :: (L + 1 + 1, o2) :: (L + 1 + 1 + 1, o3) :: (L + 1 + 1 + 1 + 1, o4) :: (L + 1 + 1 + 1 + 1 + 1, o5) :: (L + 1 + 1 + 1 + 1 + 1 + 1, o6) :: (L + 1 + 1 + 1 + 1 + 1 + 1 + 1, o7) :: (cl, listOf vs.toArray ncl) :: (sz, listOf #[.int cap1 u1, .int cap2 u2] nsz) :: (ca, listOf #[.ref c1, .ref c2] nca) :: (kn, listOf #[.ref k1, .ref k2] nkn) :: (k1, ko1) :: (k2, ko2) :: (c1, instObj 169 cd1) :: (cd1, cdObj w dm1 dq1 lk1 cap1 ua1 ta1 tb1 tc1 td1) :: (dm1, od1) :: (dq1, listOf (svs ps1) nq1) :: (lk1, instObj 45 ld1) :: (ld1, dictOf [] 0) :: (c2, instObj 169 cd2) :: (cd2, cdObj w dm2 dq2 lk2 cap2 ua2 ta2 tb2 tc2 td2) :: (dm2, od2) :: (dq2, listOf (svs ps2) nq2) :: (lk2, instObj 45 ld2) :: (ld2, dictOf [] 0) :: rest) → Q .next { s with heap := h', toks := tk }) :
    wpAny (model prog w) (callerA.deeper (lawE w L fa cv)) (exec (hdS (tlS (tlS (tlS (tlS (tlS (bodyS (st8 w)))))))) (lawE w L fa cv)) Q E s := by
  have q0c := q0
  obtain ⟨q1, q2, q3, q4, q5, q6, q7, q8, q9, q10, q11, q12, q13, q14, q15, q16, q17, q18, q19, q20, q21⟩ := q0
  obtain ⟨z1, z2⟩ := hz2
  unfold st8 turnB forS lawB lawF
  dsimp only [hdS, tlS, bodyS]
  show wpAny _ (callerA.deeper (envOfC "law" (lawS w) L fa cv)) (exec _ (envOfC "law" (lawS w) L fa cv)) _ _ _
  unfold lawS lawF
  dsimp only
  have N0 : News h₀ L s.heap ((Dk, listOf (svs ps2.reverse) nk) :: ((L + 1, o1) :: (L + 1 + 1, o2) :: (L + 1 + 1 + 1, o3) :: (L + 1 + 1 + 1 + 1, o4) :: (L + 1 + 1 + 1 + 1 + 1, o5) :: (L + 1 + 1 + 1 + 1 + 1 + 1, o6) :: (L + 1 + 1 + 1 + 1 + 1 + 1 + 1, o7) :: (cl, listOf vs.toArray ncl) :: (sz, listOf #[.int cap1 u1, .int cap2 u2] nsz) :: (ca, listOf #[.ref c1, .ref c2] nca) :: (kn, listOf #[.ref k1, .ref k2] nkn) :: (k1, ko1) :: (k2, ko2) :: (c1, instObj 169 cd1) :: (cd1, cdObj w dm1 dq1 lk1 cap1 ua1 ta1 tb1 tc1 td1) :: (dm1, od1) :: (dq1, listOf (svs ps1) nq1) :: (lk1, instObj 45 ld1) :: (ld1, dictOf [] 0) :: (c2, instObj 169 cd2) :: (cd2, cdObj w dm2 dq2 lk2 cap2 ua2 ta2 tb2 tc2 td2) :: (dm2, od2) :: (dq2, listOf (svs ps2) nq2) :: (lk2, instObj 45 ld2) :: (ld2, dictOf [] 0) :: rest)) := fun q hq => by
    rcases List.mem_cons.mp hq with rfl | hq
    · exact N _ (by k_mem)
    · exact N _ hq
  clear N
  k_steps
  unfold Halt
  refine items_w (base := h₀) (A₀ := callerA) (news := (Dk, listOf (svs ps2.reverse) nk) :: ((L + 1, o1) :: (L + 1 + 1, o2) :: (L + 1 + 1 + 1, o3) :: (L + 1 + 1 + 1 + 1, o4) :: (L + 1 + 1 + 1 + 1 + 1, o5) :: (L + 1 + 1 + 1 + 1 + 1 + 1, o6) :: (L + 1 + 1 + 1 + 1 + 1 + 1 + 1, o7) :: (cl, listOf vs.toArray ncl) :: (sz, listOf #[.int cap1 u1, .int cap2 u2] nsz) :: (ca, listOf #[.ref c1, .ref c2] nca) :: (kn, listOf #[.ref k1, .ref k2] nkn) :: (k1, ko1) :: (k2, ko2) :: (c1, instObj 169 cd1) :: (cd1, cdObj w dm1 dq1 lk1 cap1 ua1 ta1 tb1 tc1 td1) :: (dm1, od1) :: (dq1, listOf (svs ps1) nq1) :: (lk1, instObj 45 ld1) :: (ld1, dictOf [] 0) :: (c2, instObj 169 cd2) :: (cd2, cdObj w dm2 dq2 lk2 cap2 ua2 ta2 tb2 tc2 td2) :: (dm2, od2) :: (dq2, listOf (svs ps2) nq2) :: (lk2, instObj 45 ld2) :: (ld2, dictOf [] 0) :: rest)) ⟨by assumption, by k_asm, by assumption, by k_asm, by assumption, rfl, rfl, rfl, by (simp only [depth_mark, depth_deeper, depth_caller]; decide), by (simp only [units_mark, units_deeper]; decide)⟩ (by k_mem) (by k_mem) (by k_mem) (by k_mem) (by k_mem) (by k_mem) ⟨by assumption, by assumption, by assumption, by assumption, by assumption⟩ hd2 lo2 ⟨z1, z2⟩ rfl (by simp only [depth_mark, depth_deeper, depth_caller, units_mark, units_deeper]; decide) hm2 (fun h1 tk1 D0 n0 tl ys0 F1 N1 hr hT off0 => ?_)
  have N2 : News h₀ L h1 ((D0, listOf ys0.toArray n0) :: (Dk, listOf (svs ps2.reverse) nk) :: ((L + 1, o1) :: (L + 1 + 1, o2) :: (L + 1 + 1 + 1, o3) :: (L + 1 + 1 + 1 + 1, o4) :: (L + 1 + 1 + 1 + 1 + 1, o5) :: (L + 1 + 1 + 1 + 1 + 1 + 1, o6) :: (L + 1 + 1 + 1 + 1 + 1 + 1 + 1, o7) :: (cl, listOf vs.toArray ncl) :: (sz, listOf #[.int cap1 u1, .int cap2 u2] nsz) :: (ca, listOf #[.ref c1, .ref c2] nca) :: (kn, listOf #[.ref k1, .ref k2] nkn) :: (k1, ko1) :: (k2, ko2) :: (c1, instObj 169 cd1) :: (cd1, cdObj w dm1 dq1 lk1 cap1 ua1 ta1 tb1 tc1 td1) :: (dm1, od1) :: (dq1, listOf (svs ps1) nq1) :: (lk1, instObj 45 ld1) :: (ld1, dictOf [] 0) :: (c2, instObj 169 cd2) :: (cd2, cdObj w dm2 dq2 lk2 cap2 ua2 ta2 tb2 tc2 td2) :: (dm2, od2) :: (dq2, listOf (svs ps2) nq2) :: (lk2, instObj 45 ld2) :: (ld2, dictOf [] 0) :: tl)) := fun q hq => by
    rcases List.mem_cons.mp hq with rfl | hq
    · exact N1 _ (.head _)
    · exact N1 q (.tail _ (sub_app (A := (Dk, listOf (svs ps2.reverse) nk) :: ((L + 1, o1) :: (L + 1 + 1, o2) :: (L + 1 + 1 + 1, o3) :: (L + 1 + 1 + 1 + 1, o4) :: (L + 1 + 1 + 1 + 1 + 1, o5) :: (L + 1 + 1 + 1 + 1 + 1 + 1, o6) :: (L + 1 + 1 + 1 + 1 + 1 + 1 + 1, o7) :: (cl, listOf vs.toArray ncl) :: (sz, listOf #[.int cap1 u1, .int cap2 u2] nsz) :: (ca, listOf #[.ref c1, .ref c2] nca) :: (kn, listOf #[.ref k1, .ref k2] nkn) :: (k1, ko1) :: (k2, ko2) :: (c1, instObj 169 cd1) :: (cd1, cdObj w dm1 dq1 lk1 cap1 ua1 ta1 tb1 tc1 td1) :: (dm1, od1) :: (dq1, listOf (svs ps1) nq1) :: (lk1, instObj 45 ld1) :: (ld1, dictOf [] 0) :: (c2, instObj 169 cd2) :: (cd2, cdObj w dm2 dq2 lk2 cap2 ua2 ta2 tb2 tc2 td2) :: (dm2, od2) :: (dq2, listOf (svs ps2) nq2) :: (lk2, instObj 45 ld2) :: (ld2, dictOf [] 0) :: [])) hr q hq))
  clear N0 N1 off0
  (try k_unmd)
  (try dsimp only)
  k_steps
  unfold Halt
  (try k_fold)
  refine LCg.ListComp_U (F₀ := by assumption) (by with_unfolding_all rfl) (by decide) (by rfl) (by decide) (by rfl) ?_
  k_steps
  unfold Halt
  refine LCg.CompSrc.ledger (ax := Dk) (its := svs ps2.reverse) (k := nk) (by rfl) (by assumption) N2 (by k_mem) (by rw [sizeLine_eq]; simp [svs]; omega) ?_
  intro g1
  try dsimp only
  refine comp_of (fun i ys nw => (∀ p ∈ (D0, listOf ys0.toArray n0) :: (Dk, listOf (svs ps2.reverse) nk) :: ((L + 1, o1) :: (L + 1 + 1, o2) :: (L + 1 + 1 + 1, o3) :: (L + 1 + 1 + 1 + 1, o4) :: (L + 1 + 1 + 1 + 1 + 1, o5) :: (L + 1 + 1 + 1 + 1 + 1 + 1, o6) :: (L + 1 + 1 + 1 + 1 + 1 + 1 + 1, o7) :: (cl, listOf vs.toArray ncl) :: (sz, listOf #[.int cap1 u1, .int cap2 u2] nsz) :: (ca, listOf #[.ref c1, .ref c2] nca) :: (kn, listOf #[.ref k1, .ref k2] nkn) :: (k1, ko1) :: (k2, ko2) :: (c1, instObj 169 cd1) :: (cd1, cdObj w dm1 dq1 lk1 cap1 ua1 ta1 tb1 tc1 td1) :: (dm1, od1) :: (dq1, listOf (svs ps1) nq1) :: (lk1, instObj 45 ld1) :: (ld1, dictOf [] 0) :: (c2, instObj 169 cd2) :: (cd2, cdObj w dm2 dq2 lk2 cap2 ua2 ta2 tb2 tc2 td2) :: (dm2, od2) :: (dq2, listOf (svs ps2) nq2) :: (lk2, instObj 45 ld2) :: (ld2, dictOf [] 0) :: tl), p ∈ nw) ∧ TupsAt nw ys ((prs kk2 ps2.reverse).take i)) ⟨fun _ q => q, .nil⟩ ?_ ?_
  · clear N2
    intro i ys nw hi ⟨hs, hT2⟩ v I oI C oC D m₂ h5 tk5 E' hP hC hx F5 N5 off ne
    obtain ⟨p, ep, rfl⟩ := svs_at hP
    obtain ⟨v', hv'⟩ := agree_at hag ep
    have N6 : News h₀ L h5 ((I, oI) :: (C, oC) :: (D, LCg.lst ys) :: (D0, listOf ys0.toArray n0) :: (Dk, listOf (svs ps2.reverse) nk) :: ((L + 1, o1) :: (L + 1 + 1, o2) :: (L + 1 + 1 + 1, o3) :: (L + 1 + 1 + 1 + 1, o4) :: (L + 1 + 1 + 1 + 1 + 1, o5) :: (L + 1 + 1 + 1 + 1 + 1 + 1, o6) :: (L + 1 + 1 + 1 + 1 + 1 + 1 + 1, o7) :: (cl, listOf vs.toArray ncl) :: (sz, listOf #[.int cap1 u1, .int cap2 u2] nsz) :: (ca, listOf #[.ref c1, .ref c2] nca) :: (kn, listOf #[.ref k1, .ref k2] nkn) :: (k1, ko1) :: (k2, ko2) :: (c1, instObj 169 cd1) :: (cd1, cdObj w dm1 dq1 lk1 cap1 ua1 ta1 tb1 tc1 td1) :: (dm1, od1) :: (dq1, listOf (svs ps1) nq1) :: (lk1, instObj 45 ld1) :: (ld1, dictOf [] 0) :: (c2, instObj 169 cd2) :: (cd2, cdObj w dm2 dq2 lk2 cap2 ua2 ta2 tb2 tc2 td2) :: (dm2, od2) :: (dq2, listOf (svs ps2) nq2) :: (lk2, instObj 45 ld2) :: (ld2, dictOf [] 0) :: nw)) := fun q hq => N5 q (sub_3 (sub_app (A := (D0, listOf ys0.toArray n0) :: (Dk, listOf (svs ps2.reverse) nk) :: ((L + 1, o1) :: (L + 1 + 1, o2) :: (L + 1 + 1 + 1, o3) :: (L + 1 + 1 + 1 + 1, o4) :: (L + 1 + 1 + 1 + 1 + 1, o5) :: (L + 1 + 1 + 1 + 1 + 1 + 1, o6) :: (L + 1 + 1 + 1 + 1 + 1 + 1 + 1, o7) :: (cl, listOf vs.toArray ncl) :: (sz, listOf #[.int cap1 u1, .int cap2 u2] nsz) :: (ca, listOf #[.ref c1, .ref c2] nca) :: (kn, listOf #[.ref k1, .ref k2] nkn) :: (k1, ko1) :: (k2, ko2) :: (c1, instObj 169 cd1) :: (cd1, cdObj w dm1 dq1 lk1 cap1 ua1 ta1 tb1 tc1 td1) :: (dm1, od1) :: (dq1, listOf (svs ps1) nq1) :: (lk1, instObj 45 ld1) :: (ld1, dictOf [] 0) :: (c2, instObj 169 cd2) :: (cd2, cdObj w dm2 dq2 lk2 cap2 ua2 ta2 tb2 tc2 td2) :: (dm2, od2) :: (dq2, listOf (svs ps2) nq2) :: (lk2, instObj 45 ld2) :: (ld2, dictOf [] 0) :: [])) hs) q hq)
    clear N5
    (try k_fold)
    k_steps
    unfold Halt
    rename_i T3 h3 F3 N3 l3
    obtain ⟨r1, r2, r3, r4⟩ := l3
    refine LCg.CompEnd.intro F3 N3 ((T3, tupOf #[.str p.1 p.2, v']) :: nw) (sub_31 fun q hq => List.mem_append_right ((D0, listOf ys0.toArray n0) :: (Dk, listOf (svs ps2.reverse) nk) :: ((L + 1, o1) :: (L + 1 + 1, o2) :: (L + 1 + 1 + 1, o3) :: (L + 1 + 1 + 1 + 1, o4) :: (L + 1 + 1 + 1 + 1 + 1, o5) :: (L + 1 + 1 + 1 + 1 + 1 + 1, o6) :: (L + 1 + 1 + 1 + 1 + 1 + 1 + 1, o7) :: (cl, listOf vs.toArray ncl) :: (sz, listOf #[.int cap1 u1, .int cap2 u2] nsz) :: (ca, listOf #[.ref c1, .ref c2] nca) :: (kn, listOf #[.ref k1, .ref k2] nkn) :: (k1, ko1) :: (k2, ko2) :: (c1, instObj 169 cd1) :: (cd1, cdObj w dm1 dq1 lk1 cap1 ua1 ta1 tb1 tc1 td1) :: (dm1, od1) :: (dq1, listOf (svs ps1) nq1) :: (lk1, instObj 45 ld1) :: (ld1, dictOf [] 0) :: (c2, instObj 169 cd2) :: (cd2, cdObj w dm2 dq2 lk2 cap2 ua2 ta2 tb2 tc2 td2) :: (dm2, od2) :: (dq2, listOf (svs ps2) nq2) :: (lk2, instObj 45 ld2) :: (ld2, dictOf [] 0) :: [])) hq) ⟨⟨Nat.ne_of_gt r1, Nat.ne_of_gt r2, Nat.ne_of_gt r3⟩, off⟩ (.inr ⟨_, .tail _ (hs _ (.tail _ (.head _))), rfl, _, rfl⟩) ⟨fun q hq => .tail _ (hs q hq), ?_⟩
    rw [prs_take ep hv']
    exact (hT2.mono fun q hq => List.mem_cons_of_mem _ hq).append (.cons (.head _) .nil)
  · intro ys nw ⟨hs, hT2⟩
    intro D h5 tk5 F5 N5 off
    rw [List.take_of_length_le (by simp [prs, svs])] at hT2
    have N6 : News h₀ L h5 ((D0, listOf ys0.toArray n0) :: (Dk, listOf (svs ps2.reverse) nk) :: ((L + 1, o1) :: (L + 1 + 1, o2) :: (L + 1 + 1 + 1, o3) :: (L + 1 + 1 + 1 + 1, o4) :: (L + 1 + 1 + 1 + 1 + 1, o5) :: (L + 1 + 1 + 1 + 1 + 1 + 1, o6) :: (L + 1 + 1 + 1 + 1 + 1 + 1 + 1, o7) :: (cl, listOf vs.toArray ncl) :: (sz, listOf #[.int cap1 u1, .int cap2 u2] nsz) :: (ca, listOf #[.ref c1, .ref c2] nca) :: (kn, listOf #[.ref k1, .ref k2] nkn) :: (k1, ko1) :: (k2, ko2) :: (c1, instObj 169 cd1) :: (cd1, cdObj w dm1 dq1 lk1 cap1 ua1 ta1 tb1 tc1 td1) :: (dm1, od1) :: (dq1, listOf (svs ps1) nq1) :: (lk1, instObj 45 ld1) :: (ld1, dictOf [] 0) :: (c2, instObj 169 cd2) :: (cd2, cdObj w dm2 dq2 lk2 cap2 ua2 ta2 tb2 tc2 td2) :: (dm2, od2) :: (dq2, listOf (svs ps2) nq2) :: (lk2, instObj 45 ld2) :: (ld2, dictOf [] 0) :: nw)) := fun q hq => N5 q (.tail _ (sub_app (A := (D0, listOf ys0.toArray n0) :: (Dk, listOf (svs ps2.reverse) nk) :: ((L + 1, o1) :: (L + 1 + 1, o2) :: (L + 1 + 1 + 1, o3) :: (L + 1 + 1 + 1 + 1, o4) :: (L + 1 + 1 + 1 + 1 + 1, o5) :: (L + 1 + 1 + 1 + 1 + 1 + 1, o6) :: (L + 1 + 1 + 1 + 1 + 1 + 1 + 1, o7) :: (cl, listOf vs.toArray ncl) :: (sz, listOf #[.int cap1 u1, .int cap2 u2] nsz) :: (ca, listOf #[.ref c1, .ref c2] nca) :: (kn, listOf #[.ref k1, .ref k2] nkn) :: (k1, ko1) :: (k2, ko2) :: (c1, instObj 169 cd1) :: (cd1, cdObj w dm1 dq1 lk1 cap1 ua1 ta1 tb1 tc1 td1) :: (dm1, od1) :: (dq1, listOf (svs ps1) nq1) :: (lk1, instObj 45 ld1) :: (ld1, dictOf [] 0) :: (c2, instObj 169 cd2) :: (cd2, cdObj w dm2 dq2 lk2 cap2 ua2 ta2 tb2 tc2 td2) :: (dm2, od2) :: (dq2, listOf (svs ps2) nq2) :: (lk2, instObj 45 ld2) :: (ld2, dictOf [] 0) :: [])) hs q hq))
    (try k_unmd)
    k_unfold
    try dsimp only
    refine ne_pairs (nw := nw) (fun q hq => N5 q (.tail _ hq)) ⟨_, (N6 _ (.head _)).1, rfl, _, rfl⟩ ⟨_, (N5 _ (.head _)).1, rfl, _, rfl⟩ (hT.mono (fun q hq => sub_tail (A := (D0, listOf ys0.toArray n0) :: (Dk, listOf (svs ps2.reverse) nk) :: ((L + 1, o1) :: (L + 1 + 1, o2) :: (L + 1 + 1 + 1, o3) :: (L + 1 + 1 + 1 + 1, o4) :: (L + 1 + 1 + 1 + 1 + 1, o5) :: (L + 1 + 1 + 1 + 1 + 1 + 1, o6) :: (L + 1 + 1 + 1 + 1 + 1 + 1 + 1, o7) :: (cl, listOf vs.toArray ncl) :: (sz, listOf #[.int cap1 u1, .int cap2 u2] nsz) :: (ca, listOf #[.ref c1, .ref c2] nca) :: (kn, listOf #[.ref k1, .ref k2] nkn) :: (k1, ko1) :: (k2, ko2) :: (c1, instObj 169 cd1) :: (cd1, cdObj w dm1 dq1 lk1 cap1 ua1 ta1 tb1 tc1 td1) :: (dm1, od1) :: (dq1, listOf (svs ps1) nq1) :: (lk1, instObj 45 ld1) :: (ld1, dictOf [] 0) :: (c2, instObj 169 cd2) :: (cd2, cdObj w dm2 dq2 lk2 cap2 ua2 ta2 tb2 tc2 td2) :: (dm2, od2) :: (dq2, listOf (svs ps2) nq2) :: (lk2, instObj 45 ld2) :: (ld2, dictOf [] 0) :: [])) hs q hq)) hT2 (agree_allI hag) (agree_allI2 hag) (agree_bare hag) (by simp only [units_mark, units_deeper]; decide) ?_
    clear N5
    k_steps
    unfold Halt
    refine values_w (base := h₀) (A₀ := callerA) (news := (D0, listOf ys0.toArray n0) :: (Dk, listOf (svs ps2.reverse) nk) :: ((L + 1, o1) :: (L + 1 + 1, o2) :: (L + 1 + 1 + 1, o3) :: (L + 1 + 1 + 1 + 1, o4) :: (L + 1 + 1 + 1 + 1 + 1, o5) :: (L + 1 + 1 + 1 + 1 + 1 + 1, o6) :: (L + 1 + 1 + 1 + 1 + 1 + 1 + 1, o7) :: (cl, listOf vs.toArray ncl) :: (sz, listOf #[.int cap1 u1, .int cap2 u2] nsz) :: (ca, listOf #[.ref c1, .ref c2] nca) :: (kn, listOf #[.ref k1, .ref k2] nkn) :: (k1, ko1) :: (k2, ko2) :: (c1, instObj 169 cd1) :: (cd1, cdObj w dm1 dq1 lk1 cap1 ua1 ta1 tb1 tc1 td1) :: (dm1, od1) :: (dq1, listOf (svs ps1) nq1) :: (lk1, instObj 45 ld1) :: (ld1, dictOf [] 0) :: (c2, instObj 169 cd2) :: (cd2, cdObj w dm2 dq2 lk2 cap2 ua2 ta2 tb2 tc2 td2) :: (dm2, od2) :: (dq2, listOf (svs ps2) nq2) :: (lk2, instObj 45 ld2) :: (ld2, dictOf [] 0) :: nw)) ⟨by assumption, by k_asm, by assumption, by k_asm, by assumption, rfl, rfl, rfl, by (simp only [depth_mark, depth_deeper, depth_caller]; decide), by (simp only [units_mark, units_deeper]; decide)⟩ (by k_mem) (by k_mem) (by k_mem) (by k_mem) (by k_mem) (by k_mem) ⟨by assumption, by assumption, by assumption, by assumption, by assumption⟩ hd2 lo2 ⟨z1, z2⟩ rfl (by simp only [depth_mark, depth_deeper, depth_caller, units_mark, units_deeper]; decide) hm2 (fun h6 tk6 D6 n6 us F6 N7 hus off6 => ?_)
    clear N6 off6
    (try k_unmd)
    (try dsimp only)
    k_steps
    unfold Halt
    (try k_fold)
    refine LCg.ListComp_U (F₀ := by assumption) (by with_unfolding_all rfl) (by decide) (by rfl) (by decide) (by rfl) ?_
    k_steps
    unfold Halt
    refine LCg.CompSrc.ledger (ax := Dk) (its := svs ps2.reverse) (k := nk) (by rfl) (by assumption) N7 (by k_mem) (by rw [sizeLine_eq]; simp [svs]; omega) ?_
    intro g2
    try dsimp only
    refine comp_of (fun i zs nw' => nw' = (D6, listOf (us.map (·.2)).toArray n6) :: (D0, listOf ys0.toArray n0) :: (Dk, listOf (svs ps2.reverse) nk) :: ((L + 1, o1) :: (L + 1 + 1, o2) :: (L + 1 + 1 + 1, o3) :: (L + 1 + 1 + 1 + 1, o4) :: (L + 1 + 1 + 1 + 1 + 1, o5) :: (L + 1 + 1 + 1 + 1 + 1 + 1, o6) :: (L + 1 + 1 + 1 + 1 + 1 + 1 + 1, o7) :: (cl, listOf vs.toArray ncl) :: (sz, listOf #[.int cap1 u1, .int cap2 u2] nsz) :: (ca, listOf #[.ref c1, .ref c2] nca) :: (kn, listOf #[.ref k1, .ref k2] nkn) :: (k1, ko1) :: (k2, ko2) :: (c1, instObj 169 cd1) :: (cd1, cdObj w dm1 dq1 lk1 cap1 ua1 ta1 tb1 tc1 td1) :: (dm1, od1) :: (dq1, listOf (svs ps1) nq1) :: (lk1, instObj 45 ld1) :: (ld1, dictOf [] 0) :: (c2, instObj 169 cd2) :: (cd2, cdObj w dm2 dq2 lk2 cap2 ua2 ta2 tb2 tc2 td2) :: (dm2, od2) :: (dq2, listOf (svs ps2) nq2) :: (lk2, instObj 45 ld2) :: (ld2, dictOf [] 0) :: nw) ∧ zs = ((prs kk2 ps2.reverse).take i).map (·.2)) ⟨rfl, rfl⟩ ?_ ?_
    · clear N7
      intro i zs nw' hi ⟨e, ez⟩ v I oI C oC D₂ m₂ h7 tk7 E' hP hC hx F7 N8 off7 ne7
      subst e
      obtain ⟨p, ep, rfl⟩ := svs_at hP
      obtain ⟨v', hv'⟩ := agree_at hag ep
      (try k_fold)
      k_steps
      unfold Halt
      refine cend0 F7 N8 off7 (.inr ⟨_, by k_mem, rfl, _, rfl⟩) ⟨rfl, ?_⟩
      rw [prs_take ep hv', List.map_append, ez]
      rfl
    · intro zs nw' ⟨e, ez⟩
      subst e
      intro D₂ h7 tk7 F7 N8 off7
      rw [List.take_of_length_le (by simp [prs, svs])] at ez
      subst ez
      (try k_unmd)
      k_unfold
      try dsimp only
      refine ne_vals (us := us) (vs := prs kk2 ps2.reverse) (a := D6) (b := D₂) ⟨_, (N8 (D6, _) (by k_mem)).1, rfl, _, rfl⟩ ⟨_, (N8 _ (.head _)).1, rfl, _, rfl⟩ (hus ▸ agree_allI hag) (agree_allI2 hag) (hus ▸ agree_bare hag) (by simp only [units_mark, units_deeper]; decide) ?_
      have N9 : News h₀ L h7 (((L + 1, o1) :: (L + 1 + 1, o2) :: (L + 1 + 1 + 1, o3) :: (L + 1 + 1 + 1 + 1, o4) :: (L + 1 + 1 + 1 + 1 + 1, o5) :: (L + 1 + 1 + 1 + 1 + 1 + 1, o6) :: (L + 1 + 1 + 1 + 1 + 1 + 1 + 1, o7) :: (cl, listOf vs.toArray ncl) :: (sz, listOf #[.int cap1 u1, .int cap2 u2] nsz) :: (ca, listOf #[.ref c1, .ref c2] nca) :: (kn, listOf #[.ref k1, .ref k2] nkn) :: (k1, ko1) :: (k2, ko2) :: (c1, instObj 169 cd1) :: (cd1, cdObj w dm1 dq1 lk1 cap1 ua1 ta1 tb1 tc1 td1) :: (dm1, od1) :: (dq1, listOf (svs ps1) nq1) :: (lk1, instObj 45 ld1) :: (ld1, dictOf [] 0) :: (c2, instObj 169 cd2) :: (cd2, cdObj w dm2 dq2 lk2 cap2 ua2 ta2 tb2 tc2 td2) :: (dm2, od2) :: (dq2, listOf (svs ps2) nq2) :: (lk2, instObj 45 ld2) :: (ld2, dictOf [] 0) :: rest)) := fun q hq => N8 q (.tail _ (.tail _ (.tail _ (.tail _ (sub_swap (A := ((L + 1, o1) :: (L + 1 + 1, o2) :: (L + 1 + 1 + 1, o3) :: (L + 1 + 1 + 1 + 1, o4) :: (L + 1 + 1 + 1 + 1 + 1, o5) :: (L + 1 + 1 + 1 + 1 + 1 + 1, o6) :: (L + 1 + 1 + 1 + 1 + 1 + 1 + 1, o7) :: (cl, listOf vs.toArray ncl) :: (sz, listOf #[.int cap1 u1, .int cap2 u2] nsz) :: (ca, listOf #[.ref c1, .ref c2] nca) :: (kn, listOf #[.ref k1, .ref k2] nkn) :: (k1, ko1) :: (k2, ko2) :: (c1, instObj 169 cd1) :: (cd1, cdObj w dm1 dq1 lk1 cap1 ua1 ta1 tb1 tc1 td1) :: (dm1, od1) :: (dq1, listOf (svs ps1) nq1) :: (lk1, instObj 45 ld1) :: (ld1, dictOf [] 0) :: (c2, instObj 169 cd2) :: (cd2, cdObj w dm2 dq2 lk2 cap2 ua2 ta2 tb2 tc2 td2) :: (dm2, od2) :: (dq2, listOf (svs ps2) nq2) :: (lk2, instObj 45 ld2) :: (ld2, dictOf [] 0) :: [])) (fun p hp => sub_tail (A := (D0, listOf ys0.toArray n0) :: (Dk, listOf (svs ps2.reverse) nk) :: ((L + 1, o1) :: (L + 1 + 1, o2) :: (L + 1 + 1 + 1, o3) :: (L + 1 + 1 + 1 + 1, o4) :: (L + 1 + 1 + 1 + 1 + 1, o5) :: (L + 1 + 1 + 1 + 1 + 1 + 1, o6) :: (L + 1 + 1 + 1 + 1 + 1 + 1 + 1, o7) :: (cl, listOf vs.toArray ncl) :: (sz, listOf #[.int cap1 u1, .int cap2 u2] nsz) :: (ca, listOf #[.ref c1, .ref c2] nca) :: (kn, listOf #[.ref k1, .ref k2] nkn) :: (k1, ko1) :: (k2, ko2) :: (c1, instObj 169 cd1) :: (cd1, cdObj w dm1 dq1 lk1 cap1 ua1 ta1 tb1 tc1 td1) :: (dm1, od1) :: (dq1, listOf (svs ps1) nq1) :: (lk1, instObj 45 ld1) :: (ld1, dictOf [] 0) :: (c2, instObj 169 cd2) :: (cd2, cdObj w dm2 dq2 lk2 cap2 ua2 ta2 tb2 tc2 td2) :: (dm2, od2) :: (dq2, listOf (svs ps2) nq2) :: (lk2, instObj 45 ld2) :: (ld2, dictOf [] 0) :: [])) hs p (sub_tail (A := (Dk, listOf (svs ps2.reverse) nk) :: ((L + 1, o1) :: (L + 1 + 1, o2) :: (L + 1 + 1 + 1, o3) :: (L + 1 + 1 + 1 + 1, o4) :: (L + 1 + 1 + 1 + 1 + 1, o5) :: (L + 1 + 1 + 1 + 1 + 1 + 1, o6) :: (L + 1 + 1 + 1 + 1 + 1 + 1 + 1, o7) :: (cl, listOf vs.toArray ncl) :: (sz, listOf #[.int cap1 u1, .int cap2 u2] nsz) :: (ca, listOf #[.ref c1, .ref c2] nca) :: (kn, listOf #[.ref k1, .ref k2] nkn) :: (k1, ko1) :: (k2, ko2) :: (c1, instObj 169 cd1) :: (cd1, cdObj w dm1 dq1 lk1 cap1 ua1 ta1 tb1 tc1 td1) :: (dm1, od1) :: (dq1, listOf (svs ps1) nq1) :: (lk1, instObj 45 ld1) :: (ld1, dictOf [] 0) :: (c2, instObj 169 cd2) :: (cd2, cdObj w dm2 dq2 lk2 cap2 ua2 ta2 tb2 tc2 td2) :: (dm2, od2) :: (dq2, listOf (svs ps2) nq2) :: (lk2, instObj 45 ld2) :: (ld2, dictOf [] 0) :: [])) hr p hp)) q hq)))))
      k_steps
      exact h _ _ F7 N9
end
end
section
section
variable {prog : Program} {w : World} {h₀ : Heap} {L fa : Nat} {cv : Value} {mean : ExcName → Option Value} {mg mb : Str → Option Value} {s : Shared} {m : Str → Option Value} {Q : Flow → Shared → Prop} {E : Value → Shared → Prop} {rest : List (Addr × Obj)}
  {o1 o2 o3 o4 o5 o6 o7 ko1 ko2 od1 od2 : Obj} {cl sz ca kn k1 k2 c1 cd1 dm1 dq1 lk1 ld1 c2 cd2 dm2 dq2 lk2 ld2 : Nat} {ncl nsz nca nkn nq1 nq2 u1 u2 ua1 ua2 ta1 ta2 tb1 tb2 tc1 tc2 td1 td2 : Nat} {cap1 cap2 : Int}
  {vs : List Value} {ns : List Int} {ps1 ps2 : List (Str × Nat)} {kvs1 kvs2 kk1 kk2 : List (Str × Value)}
theorem last1 (B : Below callerA h₀ [] h₀) (X : (Mine.hd.heap_39 w.params).In h₀) (T : TT mean mg mb h₀) (F : Fr h₀ L s.heap m) (N : News h₀ L s.heap ((L + 1, o1) :: (L + 1 + 1, o2) :: (L + 1 + 1 + 1, o3) :: (L + 1 + 1 + 1 + 1, o4) :: (L + 1 + 1 + 1 + 1 + 1, o5) :: (L + 1 + 1 + 1 + 1 + 1 + 1, o6) :: (L + 1 + 1 + 1 + 1 + 1 + 1 + 1, o7) :: (cl, listOf vs.toArray ncl) :: (sz, listOf #[.int cap1 u1, .int cap2 u2] nsz) :: (ca, listOf #[.ref c1, .ref c2] nca) :: (kn, listOf #[.ref k1, .ref k2] nkn) :: (k1, ko1) :: (k2, ko2) :: (c1, instObj 169 cd1) :: (cd1, cdObj w dm1 dq1 lk1 cap1 ua1 ta1 tb1 tc1 td1) :: (dm1, od1) :: (dq1, listOf (svs ps1) nq1) :: (lk1, instObj 45 ld1) :: (ld1, dictOf [] 0) :: (c2, instObj 169 cd2) :: (cd2, cdObj w dm2 dq2 lk2 cap2 ua2 ta2 tb2 tc2 td2) :: (dm2, od2) :: (dq2, listOf (svs ps2) nq2) :: (lk2, instObj 45 ld2) :: (ld2, dictOf [] 0) :: rest))
    (q0 : (L + 1 + 1 + 1 + 1 + 1 + 1 + 1 < sz ∧ L + 1 ≠ cl ∧ L + 1 + 1 ≠ cl ∧ L + 1 + 1 + 1 ≠ cl ∧ L + 1 + 1 + 1 + 1 ≠ cl ∧ L + 1 + 1 + 1 + 1 + 1 ≠ cl ∧ L + 1 + 1 + 1 + 1 + 1 + 1 ≠ cl ∧ L + 1 + 1 + 1 + 1 + 1 + 1 + 1 ≠ cl) ∧ cl < sz ∧ sz < cd1 ∧ cd1 < c1 ∧ c1 < dm1 ∧ dm1 < dq1 ∧ dq1 < ld1 ∧ ld1 < lk1 ∧ lk1 < cd2 ∧ cd2 < c2 ∧ c2 < dm2 ∧ dm2 < dq2 ∧ dq2 < ld2 ∧ ld2 < lk2 ∧ lk2 < ca ∧ ca < kn ∧ ca < k1 ∧ ca < k2 ∧ k1 ≠ k2 ∧ k1 ≠ kn ∧ k2 ≠ kn)
    (hroff : OwnOff rest [L + 1, L + 1 + 1, L + 1 + 1 + 1, L + 1 + 1 + 1 + 1, L + 1 + 1 + 1 + 1 + 1, L + 1 + 1 + 1 + 1 + 1 + 1, L + 1 + 1 + 1 + 1 + 1 + 1 + 1, kn, k1, k2, c1, cd1, dm1, dq1, lk1, ld1, c2, cd2, dm2, dq2, lk2, ld2])
    (mcl : m (Str.ofString "cells") = some (.ref cl)) (msz : m (Str.ofString "sizes") = some (.ref sz)) (mca : m (Str.ofString "caches") = some (.ref ca)) {tn : Tok} (x5 : o5.data = .cell (some (.int 0 tn))) {y6 : Option Value} (x6 : o6.data = .cell y6) {κ : Str} {tκ td : Tok} {dd : Int} {Ds De Db D1 D2 Dt nb n1 n2 nt ns6 ne6 : Nat} {t1 t2 : Bool} {B1 B2 : List (Str × Nat)} (x1 : o1.data = .cell (some (.ref kn))) (x3 : o3.data = .cell (some (.int dd td))) (x4 : o4.data = .cell (some (.str κ tκ))) (x7 : o7.data = .cell (some (.ref Ds))) (mla : m (Str.ofString "large") = some (.ref De)) (mbe : m (Str.ofString "before") = some (.ref Db)) (mth : m (Str.ofString "there") = some (.ref Dt)) (mDb : (Db, listOf #[.ref D1, .ref D2] nb) ∈ rest) (mD1 : (D1, listOf (svs B1) n1) ∈ rest) (mD2 : (D2, listOf (svs B2) n2) ∈ rest) (mDt : (Dt, listOf #[.bool t1, .bool t2] nt) ∈ rest) (mDs : (Ds, listOf (svs ps1.reverse) ns6) ∈ rest) (mDe : (De, listOf (svs ps2.reverse) ne6) ∈ rest) (zB1 : B1.length ≤ 900) (zB2 : B2.length ≤ 900) (hdd : 0 ≤ dd ∧ dd < 6) (hcap1 : 0 ≤ cap1) (hcp1 : (kvs1.length : Int) ≤ cap1) (hag1 : Agree ps1 kvs1 kk1) (hm1 : Matches ps1 kvs1) (hk1 : ko1.IsDictOf (strKind prog w) kk1) (lok1 : (k1 == sysModules) = false) (hd1 : od1.IsDictOf (strKind prog w) kvs1) (lo1 : (dm1 == sysModules) = false) (hz1 : kvs1.length ≤ 900 ∧ ps1.length = kvs1.length) (hor1 : keysOf ps1.reverse = ordK dd t1 cap1 κ (keysOf B1) (keysOf (B1.filter (fun p => p.1 != κ))))
    (h : ∀ h' tk m' oo6 y6, (∀ y, y ≠ (Str.ofString "cache") → y ≠ (Str.ofString "rest") → y ≠ (Str.ofString "order") → m' y = m y) → oo6.data = .cell y6 → Fr h₀ L h' m' → News h₀ L h' ((L + 1, o1) :: (L + 1 + 1, o2) :: (L + 1 + 1 + 1, o3) :: (L + 1 + 1 + 1 + 1, o4) :: (L + 1 + 1 + 1 + 1 + 1, o5) :: (L + 1 + 1 + 1 + 1 + 1 + 1, oo6) :: (L + 1 + 1 + 1 + 1 + 1 + 1 + 1, o7) :: (cl, listOf vs.toArray ncl) :: (sz, listOf #[.int cap1 u1, .int cap2 u2] nsz) :: (ca, listOf #[.ref c1, .ref c2] nca) :: (kn, listOf #[.ref k1, .ref k2] nkn) :: (k1, ko1) :: (k2, ko2) :: (c1, instObj 169 cd1) :: (cd1, cdObj w dm1 dq1 lk1 cap1 ua1 ta1 tb1 tc1 td1) :: (dm1, od1) :: (dq1, listOf (svs ps1) nq1) :: (lk1, instObj 45 ld1) :: (ld1, dictOf [] 0) :: (c2, instObj 169 cd2) :: (cd2, cdObj w dm2 dq2 lk2 cap2 ua2 ta2 tb2 tc2 td2) :: (dm2, od2) :: (dq2, listOf (svs ps2) nq2) :: (lk2, instObj 45 ld2) :: (ld2, dictOf [] 0) :: rest) → Q .next { s with heap := h', toks := tk }) :
    wpAny (model prog w) (callerA.deeper (lawE w L fa cv)) (execs (bodyS (st8 w)) (lawE w L fa cv)) Q E s := by
  have zR : (B1.filter (fun p => p.1 != κ)).length ≤ 900 := Nat.le_trans (List.length_filter_le ..) zB1
  show wpAny _ _ (execs [(hdS (bodyS (st8 w))), (hdS (tlS (bodyS (st8 w)))), (hdS (tlS (tlS (bodyS (st8 w))))), (hdS (tlS (tlS (tlS (bodyS (st8 w)))))), (hdS (tlS (tlS (tlS (tlS (bodyS (st8 w))))))), (hdS (tlS (tlS (tlS (tlS (tlS (bodyS (st8 w))))))))] _) _ _ _
  refine ex_cons (last1a B X T F N q0 hroff mcl msz mca x5 x6 x7 mla fun h1 tk1 oo6 hx6 F1 N1 => ?_)
  dsimp only
  refine ex_cons (last1b B X T F1 N1 q0 hroff mcl msz mca x5 x4 mbe mDb mD1 mD2 zB1 zB2 fun h2 tk2 Dr nr F2 N2 hroff2 => ?_)
  dsimp only
  refine ex_cons (last1c (RR := (B1.filter (fun p => p.1 != κ))) (nr := nr) B X T F2 N2 q0 hroff2 mcl msz mca x5 x3 x4 mbe mth rfl (.tail _ mDb) (.tail _ mDt) (.head _) (.tail _ mD1) (.tail _ mD2) hcap1 hdd zR fun h3 tk3 Dc O nc rest3 hO F3 N3 hroff3 hs3 hDc => ?_)
  dsimp only
  have mk' := hs3 _ (.tail _ mDs)
  refine ex_cons (last_d B X T F3 N3 q0 hroff3 mcl msz mca hx6 rfl mk' hDc (hor1.trans hO.symm) fun h4 tk4 F4 N4 => ?_)
  dsimp only
  refine ex_cons (last1e B X T F4 N4 q0 hroff3 mcl msz mca x5 hx6 rfl mk' hcp1 hd1 lo1 hz1 fun h5 tk5 F5 N5 => ?_)
  dsimp only
  refine ex_cons (last1f B X T F5 N5 q0 hroff3 mcl msz mca x5 x1 hx6 rfl mk' hag1 hm1 hk1 lok1 hd1 lo1 hz1 fun h6 tk6 F6 N6 => ?_)
  dsimp only
  refine wpAny_execs_nil (h h6 tk6 _ oo6 _ (fun y y1 y2 y3 => by simp only [y1, y2, y3, if_false]) hx6 F6 (fun q hq => N6 q (sub_swap (A := ((L + 1, o1) :: (L + 1 + 1, o2) :: (L + 1 + 1 + 1, o3) :: (L + 1 + 1 + 1 + 1, o4) :: (L + 1 + 1 + 1 + 1 + 1, o5) :: (L + 1 + 1 + 1 + 1 + 1 + 1, oo6) :: (L + 1 + 1 + 1 + 1 + 1 + 1 + 1, o7) :: (cl, listOf vs.toArray ncl) :: (sz, listOf #[.int cap1 u1, .int cap2 u2] nsz) :: (ca, listOf #[.ref c1, .ref c2] nca) :: (kn, listOf #[.ref k1, .ref k2] nkn) :: (k1, ko1) :: (k2, ko2) :: (c1, instObj 169 cd1) :: (cd1, cdObj w dm1 dq1 lk1 cap1 ua1 ta1 tb1 tc1 td1) :: (dm1, od1) :: (dq1, listOf (svs ps1) nq1) :: (lk1, instObj 45 ld1) :: (ld1, dictOf [] 0) :: (c2, instObj 169 cd2) :: (cd2, cdObj w dm2 dq2 lk2 cap2 ua2 ta2 tb2 tc2 td2) :: (dm2, od2) :: (dq2, listOf (svs ps2) nq2) :: (lk2, instObj 45 ld2) :: (ld2, dictOf [] 0) :: [])) (fun p hp => hs3 p (.tail _ hp)) q hq)))
end
end
section
section
variable {prog : Program} {w : World} {h₀ : Heap} {L fa : Nat} {cv : Value} {mean : ExcName → Option Value} {mg mb : Str → Option Value} {s : Shared} {m : Str → Option Value} {Q : Flow → Shared → Prop} {E : Value → Shared → Prop} {rest : List (Addr × Obj)}
  {o1 o2 o3 o4 o5 o6 o7 ko1 ko2 od1 od2 : Obj} {cl sz ca kn k1 k2 c1 cd1 dm1 dq1 lk1 ld1 c2 cd2 dm2 dq2 lk2 ld2 : Nat} {ncl nsz nca nkn nq1 nq2 u1 u2 ua1 ua2 ta1 ta2 tb1 tb2 tc1 tc2 td1 td2 : Nat} {cap1 cap2 : Int}
  {vs : List Value} {ns : List Int} {ps1 ps2 : List (Str × Nat)} {kvs1 kvs2 kk1 kk2 : List (Str × Value)}
theorem last2 (B : Below callerA h₀ [] h₀) (X : (Mine.hd.heap_39 w.params).In h₀) (T : TT mean mg mb h₀) (F : Fr h₀ L s.heap m) (N : News h₀ L s.heap ((L + 1, o1) :: (L + 1 + 1, o2) :: (L + 1 + 1 + 1, o3) :: (L + 1 + 1 + 1 + 1, o4) :: (L + 1 + 1 + 1 + 1 + 1, o5) :: (L + 1 + 1 + 1 + 1 + 1 + 1, o6) :: (L + 1 + 1 + 1 + 1 + 1 + 1 + 1, o7) :: (cl, listOf vs.toArray ncl) :: (sz, listOf #[.int cap1 u1, .int cap2 u2] nsz) :: (ca, listOf #[.ref c1, .ref c2] nca) :: (kn, listOf #[.ref k1, .ref k2] nkn) :: (k1, ko1) :: (k2, ko2) :: (c1, instObj 169 cd1) :: (cd1, cdObj w dm1 dq1 lk1 cap1 ua1 ta1 tb1 tc1 td1) :: (dm1, od1) :: (dq1, listOf (svs ps1) nq1) :: (lk1, instObj 45 ld1) :: (ld1, dictOf [] 0) :: (c2, instObj 169 cd2) :: (cd2, cdObj w dm2 dq2 lk2 cap2 ua2 ta2 tb2 tc2 td2) :: (dm2, od2) :: (dq2, listOf (svs ps2) nq2) :: (lk2, instObj 45 ld2) :: (ld2, dictOf [] 0) :: rest))
    (q0 : (L + 1 + 1 + 1 + 1 + 1 + 1 + 1 < sz ∧ L + 1 ≠ cl ∧ L + 1 + 1 ≠ cl ∧ L + 1 + 1 + 1 ≠ cl ∧ L + 1 + 1 + 1 + 1 ≠ cl ∧ L + 1 + 1 + 1 + 1 + 1 ≠ cl ∧ L + 1 + 1 + 1 + 1 + 1 + 1 ≠ cl ∧ L + 1 + 1 + 1 + 1 + 1 + 1 + 1 ≠ cl) ∧ cl < sz ∧ sz < cd1 ∧ cd1 < c1 ∧ c1 < dm1 ∧ dm1 < dq1 ∧ dq1 < ld1 ∧ ld1 < lk1 ∧ lk1 < cd2 ∧ cd2 < c2 ∧ c2 < dm2 ∧ dm2 < dq2 ∧ dq2 < ld2 ∧ ld2 < lk2 ∧ lk2 < ca ∧ ca < kn ∧ ca < k1 ∧ ca < k2 ∧ k1 ≠ k2 ∧ k1 ≠ kn ∧ k2 ≠ kn)
    (hroff : OwnOff rest [L + 1, L + 1 + 1, L + 1 + 1 + 1, L + 1 + 1 + 1 + 1, L + 1 + 1 + 1 + 1 + 1, L + 1 + 1 + 1 + 1 + 1 + 1, L + 1 + 1 + 1 + 1 + 1 + 1 + 1, kn, k1, k2, c1, cd1, dm1, dq1, lk1, ld1, c2, cd2, dm2, dq2, lk2, ld2])
    (mcl : m (Str.ofString "cells") = some (.ref cl)) (msz : m (Str.ofString "sizes") = some (.ref sz)) (mca : m (Str.ofString "caches") = some (.ref ca)) {tn : Tok} (x5 : o5.data = .cell (some (.int 1 tn))) {y6 : Option Value} (x6 : o6.data = .cell y6) {κ : Str} {tκ td : Tok} {dd : Int} {Ds De Db D1 D2 Dt nb n1 n2 nt ns6 ne6 : Nat} {t1 t2 : Bool} {B1 B2 : List (Str × Nat)} (x1 : o1.data = .cell (some (.ref kn))) (x3 : o3.data = .cell (some (.int dd td))) (x4 : o4.data = .cell (some (.str κ tκ))) (x7 : o7.data = .cell (some (.ref Ds))) (mla : m (Str.ofString "large") = some (.ref De)) (mbe : m (Str.ofString "before") = some (.ref Db)) (mth : m (Str.ofString "there") = some (.ref Dt)) (mDb : (Db, listOf #[.ref D1, .ref D2] nb) ∈ rest) (mD1 : (D1, listOf (svs B1) n1) ∈ rest) (mD2 : (D2, listOf (svs B2) n2) ∈ rest) (mDt : (Dt, listOf #[.bool t1, .bool t2] nt) ∈ rest) (mDs : (Ds, listOf (svs ps1.reverse) ns6) ∈ rest) (mDe : (De, listOf (svs ps2.reverse) ne6) ∈ rest) (zB1 : B1.length ≤ 900) (zB2 : B2.length ≤ 900) (hdd : 0 ≤ dd ∧ dd < 6) (hcap2 : 0 ≤ cap2) (hcp2 : (kvs2.length : Int) ≤ cap2) (hag2 : Agree ps2 kvs2 kk2) (hm2 : Matches ps2 kvs2) (hk2 : ko2.IsDictOf (strKind prog w) kk2) (lok2 : (k2 == sysModules) = false) (hd2 : od2.IsDictOf (strKind prog w) kvs2) (lo2 : (dm2 == sysModules) = false) (hz2 : kvs2.length ≤ 900 ∧ ps2.length = kvs2.length) (hor2 : keysOf ps2.reverse = ordK dd t2 cap2 κ (keysOf B2) (keysOf (B2.filter (fun p => p.1 != κ))))
    (h : ∀ h' tk m' oo6 y6, (∀ y, y ≠ (Str.ofString "cache") → y ≠ (Str.ofString "rest") → y ≠ (Str.ofString "order") → m' y = m y) → oo6.data = .cell y6 → Fr h₀ L h' m' → News h₀ L h' ((L + 1, o1) :: (L + 1 + 1, o2) :: (L + 1 + 1 + 1, o3) :: (L + 1 + 1 + 1 + 1, o4) :: (L + 1 + 1 + 1 + 1 + 1, o5) :: (L + 1 + 1 + 1 + 1 + 1 + 1, oo6) :: (L + 1 + 1 + 1 + 1 + 1 + 1 + 1, o7) :: (cl, listOf vs.toArray ncl) :: (sz, listOf #[.int cap1 u1, .int cap2 u2] nsz) :: (ca, listOf #[.ref c1, .ref c2] nca) :: (kn, listOf #[.ref k1, .ref k2] nkn) :: (k1, ko1) :: (k2, ko2) :: (c1, instObj 169 cd1) :: (cd1, cdObj w dm1 dq1 lk1 cap1 ua1 ta1 tb1 tc1 td1) :: (dm1, od1) :: (dq1, listOf (svs ps1) nq1) :: (lk1, instObj 45 ld1) :: (ld1, dictOf [] 0) :: (c2, instObj 169 cd2) :: (cd2, cdObj w dm2 dq2 lk2 cap2 ua2 ta2 tb2 tc2 td2) :: (dm2, od2) :: (dq2, listOf (svs ps2) nq2) :: (lk2, instObj 45 ld2) :: (ld2, dictOf [] 0) :: rest) → Q .next { s with heap := h', toks := tk }) :
    wpAny (model prog w) (callerA.deeper (lawE w L fa cv)) (execs (bodyS (st8 w)) (lawE w L fa cv)) Q E s := by
  have zR : (B2.filter (fun p => p.1 != κ)).length ≤ 900 := Nat.le_trans (List.length_filter_le ..) zB2
  show wpAny _ _ (execs [(hdS (bodyS (st8 w))), (hdS (tlS (bodyS (st8 w)))), (hdS (tlS (tlS (bodyS (st8 w))))), (hdS (tlS (tlS (tlS (bodyS (st8 w)))))), (hdS (tlS (tlS (tlS (tlS (bodyS (st8 w))))))), (hdS (tlS (tlS (tlS (tlS (tlS (bodyS (st8 w))))))))] _) _ _ _
  refine ex_cons (last2a B X T F N q0 hroff mcl msz mca x5 x6 x7 mla fun h1 tk1 oo6 hx6 F1 N1 => ?_)
  dsimp only
  refine ex_cons (last2b B X T F1 N1 q0 hroff mcl msz mca x5 x4 mbe mDb mD1 mD2 zB1 zB2 fun h2 tk2 Dr nr F2 N2 hroff2 => ?_)
  dsimp only
  refine ex_cons (last2c (RR := (B2.filter (fun p => p.1 != κ))) (nr := nr) B X T F2 N2 q0 hroff2 mcl msz mca x5 x3 x4 mbe mth rfl (.tail _ mDb) (.tail _ mDt) (.head _) (.tail _ mD1) (.tail _ mD2) hcap2 hdd zR fun h3 tk3 Dc O nc rest3 hO F3 N3 hroff3 hs3 hDc => ?_)
  dsimp only
  have mk' := hs3 _ (.tail _ mDe)
  refine ex_cons (last_d B X T F3 N3 q0 hroff3 mcl msz mca hx6 rfl mk' hDc (hor2.trans hO.symm) fun h4 tk4 F4 N4 => ?_)
  dsimp only
  refine ex_cons (last2e B X T F4 N4 q0 hroff3 mcl msz mca x5 hx6 rfl mk' hcp2 hd2 lo2 hz2 fun h5 tk5 F5 N5 => ?_)
  dsimp only
  refine ex_cons (last2f B X T F5 N5 q0 hroff3 mcl msz mca x5 x1 hx6 rfl mk' hag2 hm2 hk2 lok2 hd2 lo2 hz2 fun h6 tk6 F6 N6 => ?_)
  dsimp only
  refine wpAny_execs_nil (h h6 tk6 _ oo6 _ (fun y y1 y2 y3 => by simp only [y1, y2, y3, if_false]) hx6 F6 (fun q hq => N6 q (sub_swap (A := ((L + 1, o1) :: (L + 1 + 1, o2) :: (L + 1 + 1 + 1, o3) :: (L + 1 + 1 + 1 + 1, o4) :: (L + 1 + 1 + 1 + 1 + 1, o5) :: (L + 1 + 1 + 1 + 1 + 1 + 1, oo6) :: (L + 1 + 1 + 1 + 1 + 1 + 1 + 1, o7) :: (cl, listOf vs.toArray ncl) :: (sz, listOf #[.int cap1 u1, .int cap2 u2] nsz) :: (ca, listOf #[.ref c1, .ref c2] nca) :: (kn, listOf #[.ref k1, .ref k2] nkn) :: (k1, ko1) :: (k2, ko2) :: (c1, instObj 169 cd1) :: (cd1, cdObj w dm1 dq1 lk1 cap1 ua1 ta1 tb1 tc1 td1) :: (dm1, od1) :: (dq1, listOf (svs ps1) nq1) :: (lk1, instObj 45 ld1) :: (ld1, dictOf [] 0) :: (c2, instObj 169 cd2) :: (cd2, cdObj w dm2 dq2 lk2 cap2 ua2 ta2 tb2 tc2 td2) :: (dm2, od2) :: (dq2, listOf (svs ps2) nq2) :: (lk2, instObj 45 ld2) :: (ld2, dictOf [] 0) :: [])) (fun p hp => hs3 p (.tail _ hp)) q hq)))
end
end
section
local macro_rules | `(tactic| k_mem) => `(tactic| first | with_reducible exact List.mem_cons_self | with_reducible assumption | (with_reducible refine List.mem_cons_of_mem _ ?_; k_mem))
local macro_rules | `(tactic| walk_at "eval Name") => `(tactic| (k_here; k_dflt (refine' nameX_L ?F ?v ?_ ?a ?b; (case a => rfl); (case b => rfl); (case F => k_asm); (case v => assumption))))
local macro_rules | `(tactic| walk_at "call type:list") => `(tactic| (k_here; (with_reducible show wpAny _ _ (call (Value.type "list") [Value.ref _]) _ _ _); k_dflt (refine' list_w (base := ?bb) (A₀ := ?aa) ?C ?m1 ?m2 ?m3 ?m4 ?m5 ?m6 ?o ?d ?lo ?z rfl ?u ?_; (case C => exact ⟨by assumption, by k_asm, by assumption, by k_asm, by assumption, rfl, rfl, rfl, by (simp only [depth_mark, depth_deeper, depth_caller]; decide), by (simp only [units_mark, units_deeper]; decide)⟩); (case m1 => k_mem); (case m2 => k_mem); (case m3 => k_mem); (case m4 => k_mem); (case m5 => k_mem); (case m6 => k_mem); (case u => simp only [units_mark, units_deeper]; decide); (case o => exact ⟨by assumption, by assumption, by assumption, by assumption, by assumption⟩); (case d => assumption); (case lo => assumption); (case z => exact ⟨by assumption, by assumption⟩)); intro h' tk' D' n' F' N' l1; (have l2 := l1); (k_lt l2); (try k_sweep); (try k_unmd)))
local macro_rules | `(tactic| walk_at "compareOp In str ref") => `(tactic| (k_here; k_dflt (refine' in_strs ?l ?_; (case l => exact ⟨_, News.get (by k_asm) (by k_mem), rfl, _, rfl⟩))))
local macro_rules | `(tactic| walk_at "CompSrc") => `(tactic| (k_here; refine halt ?_))
local macro_rules | `(tactic| walk_at "CompSrcT") => `(tactic| (k_here; refine halt ?_))
local macro_rules | `(tactic| walk_at "call ref") => `(tactic| (k_here; (with_reducible show wpAny _ _ (call (Value.ref 180) _) _ _ _); refine halt ?_))
local macro_rules | `(tactic| walk_at "call ref") => `(tactic| (k_here; (with_reducible show wpAny _ _ (call (Value.ref 93) _) _ _ _); refine halt ?_))
section
variable {prog : Program} {w : World} {h₀ : Heap} {L fa : Nat} {cv : Value} {mean : ExcName → Option Value} {mg mb : Str → Option Value} {s : Shared} {m : Str → Option Value} {Q : Flow → Shared → Prop} {E : Value → Shared → Prop} {rest : List (Addr × Obj)}
  {o1 o2 o3 o4 o5 o6 o7 ko1 ko2 od1 od2 : Obj} {cl sz ca kn k1 k2 c1 cd1 dm1 dq1 lk1 ld1 c2 cd2 dm2 dq2 lk2 ld2 : Nat} {ncl nsz nca nkn nq1 nq2 u1 u2 ua1 ua2 ta1 ta2 tb1 tb2 tc1 tc2 td1 td2 : Nat} {cap1 cap2 : Int}
  {vs : List Value} {ns : List Int} {ps1 ps2 : List (Str × Nat)} {kvs1 kvs2 kk1 kk2 : List (Str × Value)}
set_option maxRecDepth 100000 in
set_option maxHeartbeats 8000000 in
theorem turn8 (B : Below callerA h₀ [] h₀) (X : (Mine.hd.heap_39 w.params).In h₀) (T : TT mean mg mb h₀) (F : Fr h₀ L s.heap m) (N : News h₀ L s.heap ((L + 1, o1) :: (L + 1 + 1, o2) :: (L + 1 + 1 + 1, o3) :: (L + 1 + 1 + 1 + 1, o4) :: (L + 1 + 1 + 1 + 1 + 1, o5) :: (L + 1 + 1 + 1 + 1 + 1 + 1, o6) :: (L + 1 + 1 + 1 + 1 + 1 + 1 + 1, o7) :: (cl, listOf vs.toArray ncl) :: (sz, listOf #[.int cap1 u1, .int cap2 u2] nsz) :: (ca, listOf #[.ref c1, .ref c2] nca) :: (kn, listOf #[.ref k1, .ref k2] nkn) :: (k1, ko1) :: (k2, ko2) :: (c1, instObj 169 cd1) :: (cd1, cdObj w dm1 dq1 lk1 cap1 ua1 ta1 tb1 tc1 td1) :: (dm1, od1) :: (dq1, listOf (svs ps1) nq1) :: (lk1, instObj 45 ld1) :: (ld1, dictOf [] 0) :: (c2, instObj 169 cd2) :: (cd2, cdObj w dm2 dq2 lk2 cap2 ua2 ta2 tb2 tc2 td2) :: (dm2, od2) :: (dq2, listOf (svs ps2) nq2) :: (lk2, instObj 45 ld2) :: (ld2, dictOf [] 0) :: rest))
    (q0 : (L + 1 + 1 + 1 + 1 + 1 + 1 + 1 < sz ∧ L + 1 ≠ cl ∧ L + 1 + 1 ≠ cl ∧ L + 1 + 1 + 1 ≠ cl ∧ L + 1 + 1 + 1 + 1 ≠ cl ∧ L + 1 + 1 + 1 + 1 + 1 ≠ cl ∧ L + 1 + 1 + 1 + 1 + 1 + 1 ≠ cl ∧ L + 1 + 1 + 1 + 1 + 1 + 1 + 1 ≠ cl) ∧ cl < sz ∧ sz < cd1 ∧ cd1 < c1 ∧ c1 < dm1 ∧ dm1 < dq1 ∧ dq1 < ld1 ∧ ld1 < lk1 ∧ lk1 < cd2 ∧ cd2 < c2 ∧ c2 < dm2 ∧ dm2 < dq2 ∧ dq2 < ld2 ∧ ld2 < lk2 ∧ lk2 < ca ∧ ca < kn ∧ ca < k1 ∧ ca < k2 ∧ k1 ≠ k2 ∧ k1 ≠ kn ∧ k2 ≠ kn)
    (hroff : OwnOff rest [L + 1, L + 1 + 1, L + 1 + 1 + 1, L + 1 + 1 + 1 + 1, L + 1 + 1 + 1 + 1 + 1, L + 1 + 1 + 1 + 1 + 1 + 1, L + 1 + 1 + 1 + 1 + 1 + 1 + 1, kn, k1, k2, c1, cd1, dm1, dq1, lk1, ld1, c2, cd2, dm2, dq2, lk2, ld2])
    (mcl : m (Str.ofString "cells") = some (.ref cl)) (msz : m (Str.ofString "sizes") = some (.ref sz)) (mca : m (Str.ofString "caches") = some (.ref ca)) {y5 y6 : Option Value} (x5 : o5.data = .cell y5) (x6 : o6.data = .cell y6) {κ : Str} {tκ td : Tok} {dd : Int} {Ds De Db D1 D2 Dt nb n1 n2 nt ns6 ne6 : Nat} {t1 t2 : Bool} {B1 B2 : List (Str × Nat)} (x1 : o1.data = .cell (some (.ref kn))) (x3 : o3.data = .cell (some (.int dd td))) (x4 : o4.data = .cell (some (.str κ tκ))) (x7 : o7.data = .cell (some (.ref Ds))) (mla : m (Str.ofString "large") = some (.ref De)) (mbe : m (Str.ofString "before") = some (.ref Db)) (mth : m (Str.ofString "there") = some (.ref Dt)) (mDb : (Db, listOf #[.ref D1, .ref D2] nb) ∈ rest) (mD1 : (D1, listOf (svs B1) n1) ∈ rest) (mD2 : (D2, listOf (svs B2) n2) ∈ rest) (mDt : (Dt, listOf #[.bool t1, .bool t2] nt) ∈ rest) (mDs : (Ds, listOf (svs ps1.reverse) ns6) ∈ rest) (mDe : (De, listOf (svs ps2.reverse) ne6) ∈ rest) (zB1 : B1.length ≤ 900) (zB2 : B2.length ≤ 900) (hdd : 0 ≤ dd ∧ dd < 6) (hcap1 : 0 ≤ cap1) (hcp1 : (kvs1.length : Int) ≤ cap1) (hag1 : Agree ps1 kvs1 kk1) (hm1 : Matches ps1 kvs1) (hk1 : ko1.IsDictOf (strKind prog w) kk1) (lok1 : (k1 == sysModules) = false) (hd1 : od1.IsDictOf (strKind prog w) kvs1) (lo1 : (dm1 == sysModules) = false) (hz1 : kvs1.length ≤ 900 ∧ ps1.length = kvs1.length) (hor1 : keysOf ps1.reverse = ordK dd t1 cap1 κ (keysOf B1) (keysOf (B1.filter (fun p => p.1 != κ)))) (hcap2 : 0 ≤ cap2) (hcp2 : (kvs2.length : Int) ≤ cap2) (hag2 : Agree ps2 kvs2 kk2) (hm2 : Matches ps2 kvs2) (hk2 : ko2.IsDictOf (strKind prog w) kk2) (lok2 : (k2 == sysModules) = false) (hd2 : od2.IsDictOf (strKind prog w) kvs2) (lo2 : (dm2 == sysModules) = false) (hz2 : kvs2.length ≤ 900 ∧ ps2.length = kvs2.length) (hor2 : keysOf ps2.reverse = ordK dd t2 cap2 κ (keysOf B2) (keysOf (B2.filter (fun p => p.1 != κ))))
    (h : ∀ h' tk m' oo5 y5 oo6 y6, (∀ y, y ≠ (Str.ofString "cache") → y ≠ (Str.ofString "rest") → y ≠ (Str.ofString "order") → m' y = m y) → oo5.data = .cell y5 → oo6.data = .cell y6 → Fr h₀ L h' m' → News h₀ L h' ((L + 1, o1) :: (L + 1 + 1, o2) :: (L + 1 + 1 + 1, o3) :: (L + 1 + 1 + 1 + 1, o4) :: (L + 1 + 1 + 1 + 1 + 1, oo5) :: (L + 1 + 1 + 1 + 1 + 1 + 1, oo6) :: (L + 1 + 1 + 1 + 1 + 1 + 1 + 1, o7) :: (cl, listOf vs.toArray ncl) :: (sz, listOf #[.int cap1 u1, .int cap2 u2] nsz) :: (ca, listOf #[.ref c1, .ref c2] nca) :: (kn, listOf #[.ref k1, .ref k2] nkn) :: (k1, ko1) :: (k2, ko2) :: (c1, instObj 169 cd1) :: (cd1, cdObj w dm1 dq1 lk1 cap1 ua1 ta1 tb1 tc1 td1) :: (dm1, od1) :: (dq1, listOf (svs ps1) nq1) :: (lk1, instObj 45 ld1) :: (ld1, dictOf [] 0) :: (c2, instObj 169 cd2) :: (cd2, cdObj w dm2 dq2 lk2 cap2 ua2 ta2 tb2 tc2 td2) :: (dm2, od2) :: (dq2, listOf (svs ps2) nq2) :: (lk2, instObj 45 ld2) :: (ld2, dictOf [] 0) :: rest) → Q .next { s with heap := h', toks := tk }) :
    wpAny (model prog w) (callerA.deeper (lawE w L fa cv)) (exec (st8 w) (lawE w L fa cv)) Q E s := by
  have q0c := q0
  obtain ⟨q1, q2, q3, q4, q5, q6, q7, q8, q9, q10, q11, q12, q13, q14, q15, q16, q17, q18, q19, q20, q21⟩ := q0c
  unfold st8 turnB forS lawB lawF
  dsimp only [hdS, tlS, bodyS]
  show wpAny _ (callerA.deeper (envOfC "law" (lawS w) L fa cv)) (exec _ (envOfC "law" (lawS w) L fa cv)) _ _ _
  unfold lawS lawF
  dsimp only
  (try k_fold)
  refine for_range (h₀ := h₀) (L := L) (body := bodyS (st8 w)) ?_
  k_steps
  refine ⟨_, 0, 2, _, _, _, 2, m, ((L + 1, o1) :: (L + 1 + 1, o2) :: (L + 1 + 1 + 1, o3) :: (L + 1 + 1 + 1 + 1, o4) :: (L + 1 + 1 + 1 + 1 + 1, o5) :: (L + 1 + 1 + 1 + 1 + 1 + 1, o6) :: (L + 1 + 1 + 1 + 1 + 1 + 1 + 1, o7) :: (cl, listOf vs.toArray ncl) :: (sz, listOf #[.int cap1 u1, .int cap2 u2] nsz) :: (ca, listOf #[.ref c1, .ref c2] nca) :: (kn, listOf #[.ref k1, .ref k2] nkn) :: (k1, ko1) :: (k2, ko2) :: (c1, instObj 169 cd1) :: (cd1, cdObj w dm1 dq1 lk1 cap1 ua1 ta1 tb1 tc1 td1) :: (dm1, od1) :: (dq1, listOf (svs ps1) nq1) :: (lk1, instObj 45 ld1) :: (ld1, dictOf [] 0) :: (c2, instObj 169 cd2) :: (cd2, cdObj w dm2 dq2 lk2 cap2 ua2 ta2 tb2 tc2 td2) :: (dm2, od2) :: (dq2, listOf (svs ps2) nq2) :: (lk2, instObj 45 ld2) :: (ld2, dictOf [] 0) :: rest), fun jj m' nw => (∀ y, y ≠ (Str.ofString "cache") → y ≠ (Str.ofString "rest") → y ≠ (Str.ofString "order") → m' y = m y) ∧ ∃ oo5 y5 oo6 y6, oo5.data = .cell y5 ∧ oo6.data = .cell y6 ∧ nw = ((L + 1, o1) :: (L + 1 + 1, o2) :: (L + 1 + 1 + 1, o3) :: (L + 1 + 1 + 1 + 1, o4) :: (L + 1 + 1 + 1 + 1 + 1, oo5) :: (L + 1 + 1 + 1 + 1 + 1 + 1, oo6) :: (L + 1 + 1 + 1 + 1 + 1 + 1 + 1, o7) :: (cl, listOf vs.toArray ncl) :: (sz, listOf #[.int cap1 u1, .int cap2 u2] nsz) :: (ca, listOf #[.ref c1, .ref c2] nca) :: (kn, listOf #[.ref k1, .ref k2] nkn) :: (k1, ko1) :: (k2, ko2) :: (c1, instObj 169 cd1) :: (cd1, cdObj w dm1 dq1 lk1 cap1 ua1 ta1 tb1 tc1 td1) :: (dm1, od1) :: (dq1, listOf (svs ps1) nq1) :: (lk1, instObj 45 ld1) :: (ld1, dictOf [] 0) :: (c2, instObj 169 cd2) :: (cd2, cdObj w dm2 dq2 lk2 cap2 ua2 ta2 tb2 tc2 td2) :: (dm2, od2) :: (dq2, listOf (svs ps2) nq2) :: (lk2, instObj 45 ld2) :: (ld2, dictOf [] 0) :: rest), rfl, rfl, by assumption, by assumption, by assumption, by rfl, by rfl, ⟨fun _ _ _ _ => rfl, o5, _, o6, _, x5, x6, rfl⟩, ?_, ?_⟩
  · intro ii m' nw I oI h2 tk2 t E' hi2 hJ F2 N2 off
    obtain ⟨hag, oo5, y5', oo6, y6', ho5, ho6, rfl⟩ := hJ
    have off' := off
    simp only [LCg.Off1, and_true] at off'
    rcases (by omega : ii = 0 ∨ ii = 1) with rfl | rfl
    · show wpAny _ (callerA.deeper (envOfC "law" (lawS w) L fa cv)) (storeName (envOfC "law" (lawS w) L fa cv) _ (.int 0 t)) _ _ _
      · unfold lawS lawF
        dsimp only
        refine storeX_C (v := .int 0 t) F2 N2 (by rfl) (by k_updF) ho5 (fun h3 oo5' F3 N3 d3 => ?_) (by rfl) (by rfl)
        have N4 := news_in ((L + 1, o1) :: (L + 1 + 1, o2) :: (L + 1 + 1 + 1, o3) :: (L + 1 + 1 + 1 + 1, o4) :: (L + 1 + 1 + 1 + 1 + 1, oo5') :: (L + 1 + 1 + 1 + 1 + 1 + 1, oo6) :: (L + 1 + 1 + 1 + 1 + 1 + 1 + 1, o7) :: (cl, listOf vs.toArray ncl) :: (sz, listOf #[.int cap1 u1, .int cap2 u2] nsz) :: (ca, listOf #[.ref c1, .ref c2] nca) :: (kn, listOf #[.ref k1, .ref k2] nkn) :: (k1, ko1) :: (k2, ko2) :: (c1, instObj 169 cd1) :: (cd1, cdObj w dm1 dq1 lk1 cap1 ua1 ta1 tb1 tc1 td1) :: (dm1, od1) :: (dq1, listOf (svs ps1) nq1) :: (lk1, instObj 45 ld1) :: (ld1, dictOf [] 0) :: (c2, instObj 169 cd2) :: (cd2, cdObj w dm2 dq2 lk2 cap2 ua2 ta2 tb2 tc2 td2) :: (dm2, od2) :: (dq2, listOf (svs ps2) nq2) :: (lk2, instObj 45 ld2) :: (ld2, dictOf [] 0) :: []) [(I, oI)] N3
        refine last1 (rest := (I, oI) :: rest) B X T F3 N4 q0 (own_cons (off1_off off (by intro b hb; simp only [List.mem_cons, List.mem_nil_iff, or_false] at hb; rcases hb with rfl | rfl | rfl | rfl | rfl | rfl | rfl | rfl | rfl | rfl | rfl | rfl | rfl | rfl | rfl | rfl | rfl | rfl | rfl | rfl | rfl | rfl <;> exact ⟨_, by k_mem⟩)) hroff) ((hag _ (by decide) (by decide) (by decide)).trans mcl) ((hag _ (by decide) (by decide) (by decide)).trans msz) ((hag _ (by decide) (by decide) (by decide)).trans mca) d3 ho6 x1 x3 x4 x7 ((hag _ (by decide) (by decide) (by decide)).trans mla) ((hag _ (by decide) (by decide) (by decide)).trans mbe) ((hag _ (by decide) (by decide) (by decide)).trans mth) (.tail _ mDb) (.tail _ mD1) (.tail _ mD2) (.tail _ mDt) (.tail _ mDs) (.tail _ mDe) zB1 zB2 hdd hcap1 hcp1 hag1 hm1 hk1 lok1 hd1 lo1 hz1 hor1 fun h5 tk5 m5 oo6' y6' hag5 ho6' F5 N5 => ?_
        have N6 := news_in [(I, oI)] ((L + 1, o1) :: (L + 1 + 1, o2) :: (L + 1 + 1 + 1, o3) :: (L + 1 + 1 + 1 + 1, o4) :: (L + 1 + 1 + 1 + 1 + 1, oo5') :: (L + 1 + 1 + 1 + 1 + 1 + 1, oo6') :: (L + 1 + 1 + 1 + 1 + 1 + 1 + 1, o7) :: (cl, listOf vs.toArray ncl) :: (sz, listOf #[.int cap1 u1, .int cap2 u2] nsz) :: (ca, listOf #[.ref c1, .ref c2] nca) :: (kn, listOf #[.ref k1, .ref k2] nkn) :: (k1, ko1) :: (k2, ko2) :: (c1, instObj 169 cd1) :: (cd1, cdObj w dm1 dq1 lk1 cap1 ua1 ta1 tb1 tc1 td1) :: (dm1, od1) :: (dq1, listOf (svs ps1) nq1) :: (lk1, instObj 45 ld1) :: (ld1, dictOf [] 0) :: (c2, instObj 169 cd2) :: (cd2, cdObj w dm2 dq2 lk2 cap2 ua2 ta2 tb2 tc2 td2) :: (dm2, od2) :: (dq2, listOf (svs ps2) nq2) :: (lk2, instObj 45 ld2) :: (ld2, dictOf [] 0) :: []) N5
        exact ⟨rfl, h5, tk5, m5, _, rfl, F5, N6, off, fun y a b c => (hag5 y a b c).trans (hag y a b c), oo5', _, oo6', _, d3, ho6', rfl⟩
    · show wpAny _ (callerA.deeper (envOfC "law" (lawS w) L fa cv)) (storeName (envOfC "law" (lawS w) L fa cv) _ (.int 1 t)) _ _ _
      · unfold lawS lawF
        dsimp only
        refine storeX_C (v := .int 1 t) F2 N2 (by rfl) (by k_updF) ho5 (fun h3 oo5' F3 N3 d3 => ?_) (by rfl) (by rfl)
        have N4 := news_in ((L + 1, o1) :: (L + 1 + 1, o2) :: (L + 1 + 1 + 1, o3) :: (L + 1 + 1 + 1 + 1, o4) :: (L + 1 + 1 + 1 + 1 + 1, oo5') :: (L + 1 + 1 + 1 + 1 + 1 + 1, oo6) :: (L + 1 + 1 + 1 + 1 + 1 + 1 + 1, o7) :: (cl, listOf vs.toArray ncl) :: (sz, listOf #[.int cap1 u1, .int cap2 u2] nsz) :: (ca, listOf #[.ref c1, .ref c2] nca) :: (kn, listOf #[.ref k1, .ref k2] nkn) :: (k1, ko1) :: (k2, ko2) :: (c1, instObj 169 cd1) :: (cd1, cdObj w dm1 dq1 lk1 cap1 ua1 ta1 tb1 tc1 td1) :: (dm1, od1) :: (dq1, listOf (svs ps1) nq1) :: (lk1, instObj 45 ld1) :: (ld1, dictOf [] 0) :: (c2, instObj 169 cd2) :: (cd2, cdObj w dm2 dq2 lk2 cap2 ua2 ta2 tb2 tc2 td2) :: (dm2, od2) :: (dq2, listOf (svs ps2) nq2) :: (lk2, instObj 45 ld2) :: (ld2, dictOf [] 0) :: []) [(I, oI)] N3
        refine last2 (rest := (I, oI) :: rest) B X T F3 N4 q0 (own_cons (off1_off off (by intro b hb; simp only [List.mem_cons, List.mem_nil_iff, or_false] at hb; rcases hb with rfl | rfl | rfl | rfl | rfl | rfl | rfl | rfl | rfl | rfl | rfl | rfl | rfl | rfl | rfl | rfl | rfl | rfl | rfl | rfl | rfl | rfl <;> exact ⟨_, by k_mem⟩)) hroff) ((hag _ (by decide) (by decide) (by decide)).trans mcl) ((hag _ (by decide) (by decide) (by decide)).trans msz) ((hag _ (by decide) (by decide) (by decide)).trans mca) d3 ho6 x1 x3 x4 x7 ((hag _ (by decide) (by decide) (by decide)).trans mla) ((hag _ (by decide) (by decide) (by decide)).trans mbe) ((hag _ (by decide) (by decide) (by decide)).trans mth) (.tail _ mDb) (.tail _ mD1) (.tail _ mD2) (.tail _ mDt) (.tail _ mDs) (.tail _ mDe) zB1 zB2 hdd hcap2 hcp2 hag2 hm2 hk2 lok2 hd2 lo2 hz2 hor2 fun h5 tk5 m5 oo6' y6' hag5 ho6' F5 N5 => ?_
        have N6 := news_in [(I, oI)] ((L + 1, o1) :: (L + 1 + 1, o2) :: (L + 1 + 1 + 1, o3) :: (L + 1 + 1 + 1 + 1, o4) :: (L + 1 + 1 + 1 + 1 + 1, oo5') :: (L + 1 + 1 + 1 + 1 + 1 + 1, oo6') :: (L + 1 + 1 + 1 + 1 + 1 + 1 + 1, o7) :: (cl, listOf vs.toArray ncl) :: (sz, listOf #[.int cap1 u1, .int cap2 u2] nsz) :: (ca, listOf #[.ref c1, .ref c2] nca) :: (kn, listOf #[.ref k1, .ref k2] nkn) :: (k1, ko1) :: (k2, ko2) :: (c1, instObj 169 cd1) :: (cd1, cdObj w dm1 dq1 lk1 cap1 ua1 ta1 tb1 tc1 td1) :: (dm1, od1) :: (dq1, listOf (svs ps1) nq1) :: (lk1, instObj 45 ld1) :: (ld1, dictOf [] 0) :: (c2, instObj 169 cd2) :: (cd2, cdObj w dm2 dq2 lk2 cap2 ua2 ta2 tb2 tc2 td2) :: (dm2, od2) :: (dq2, listOf (svs ps2) nq2) :: (lk2, instObj 45 ld2) :: (ld2, dictOf [] 0) :: []) N5
        exact ⟨rfl, h5, tk5, m5, _, rfl, F5, N6, off, fun y a b c => (hag5 y a b c).trans (hag y a b c), oo5', _, oo6', _, d3, ho6', rfl⟩
  · intro m' nw h2 tk2 ⟨hag, oo5, y5', oo6, y6', ho5, ho6, e⟩ F2 N2
    subst e
    (try k_unmd)
    (try k_unfold)
    (try dsimp only)
    exact h h2 _ m' oo5 _ oo6 _ hag ho5 ho6 F2 N2
end
end
section
section
variable {prog : Program} {w : World} {h₀ : Heap} {L fa : Nat} {cv : Value} {mean : ExcName → Option Value} {mg mb : Str → Option Value} {s : Shared} {m : Str → Option Value} {Q : Flow → Shared → Prop} {E : Value → Shared → Prop} {rest : List (Addr × Obj)}
  {o1 o2 o3 o4 o5 o6 o7 ko1 ko2 od1 od2 : Obj} {cl sz ca kn k1 k2 c1 cd1 dm1 dq1 lk1 ld1 c2 cd2 dm2 dq2 lk2 ld2 : Nat} {ncl nsz nca nkn nq1 nq2 u1 u2 ua1 ua2 ta1 ta2 tb1 tb2 tc1 tc2 td1 td2 : Nat} {cap1 cap2 : Int}
  {vs : List Value} {ns : List Int} {ps1 ps2 : List (Str × Nat)} {kvs1 kvs2 kk1 kk2 : List (Str × Value)}
set_option maxRecDepth 100000 in
set_option maxHeartbeats 8000000 in
theorem turnTail (B : Below callerA h₀ [] h₀) (X : (Mine.hd.heap_39 w.params).In h₀) (T : TT mean mg mb h₀) (F : Fr h₀ L s.heap m) (N : News h₀ L s.heap ((L + 1, o1) :: (L + 1 + 1, o2) :: (L + 1 + 1 + 1, o3) :: (L + 1 + 1 + 1 + 1, o4) :: (L + 1 + 1 + 1 + 1 + 1, o5) :: (L + 1 + 1 + 1 + 1 + 1 + 1, o6) :: (L + 1 + 1 + 1 + 1 + 1 + 1 + 1, o7) :: (cl, listOf vs.toArray ncl) :: (sz, listOf #[.int cap1 u1, .int cap2 u2] nsz) :: (ca, listOf #[.ref c1, .ref c2] nca) :: (kn, listOf #[.ref k1, .ref k2] nkn) :: (k1, ko1) :: (k2, ko2) :: (c1, instObj 169 cd1) :: (cd1, cdObj w dm1 dq1 lk1 cap1 ua1 ta1 tb1 tc1 td1) :: (dm1, od1) :: (dq1, listOf (svs ps1) nq1) :: (lk1, instObj 45 ld1) :: (ld1, dictOf [] 0) :: (c2, instObj 169 cd2) :: (cd2, cdObj w dm2 dq2 lk2 cap2 ua2 ta2 tb2 tc2 td2) :: (dm2, od2) :: (dq2, listOf (svs ps2) nq2) :: (lk2, instObj 45 ld2) :: (ld2, dictOf [] 0) :: rest))
    (q0 : (L + 1 + 1 + 1 + 1 + 1 + 1 + 1 < sz ∧ L + 1 ≠ cl ∧ L + 1 + 1 ≠ cl ∧ L + 1 + 1 + 1 ≠ cl ∧ L + 1 + 1 + 1 + 1 ≠ cl ∧ L + 1 + 1 + 1 + 1 + 1 ≠ cl ∧ L + 1 + 1 + 1 + 1 + 1 + 1 ≠ cl ∧ L + 1 + 1 + 1 + 1 + 1 + 1 + 1 ≠ cl) ∧ cl < sz ∧ sz < cd1 ∧ cd1 < c1 ∧ c1 < dm1 ∧ dm1 < dq1 ∧ dq1 < ld1 ∧ ld1 < lk1 ∧ lk1 < cd2 ∧ cd2 < c2 ∧ c2 < dm2 ∧ dm2 < dq2 ∧ dq2 < ld2 ∧ ld2 < lk2 ∧ lk2 < ca ∧ ca < kn ∧ ca < k1 ∧ ca < k2 ∧ k1 ≠ k2 ∧ k1 ≠ kn ∧ k2 ≠ kn)
    (hroff : OwnOff rest [L + 1, L + 1 + 1, L + 1 + 1 + 1, L + 1 + 1 + 1 + 1, L + 1 + 1 + 1 + 1 + 1, L + 1 + 1 + 1 + 1 + 1 + 1, L + 1 + 1 + 1 + 1 + 1 + 1 + 1, kn, k1, k2, c1, cd1, dm1, dq1, lk1, ld1, c2, cd2, dm2, dq2, lk2, ld2])
    (mcl : m (Str.ofString "cells") = some (.ref cl)) (msz : m (Str.ofString "sizes") = some (.ref sz)) (mca : m (Str.ofString "caches") = some (.ref ca)) {κ : Str} {tκ ti td : Tok} {i dd : Int} {y5 y6 y7 : Option Value} (x1 : o1.data = .cell (some (.ref kn))) (x2 : o2.data = .cell (some (.int i ti))) (x3 : o3.data = .cell (some (.int dd td))) (x4 : o4.data = .cell (some (.str κ tκ))) (x5 : o5.data = .cell y5) (x6 : o6.data = .cell y6) (x7 : o7.data = .cell y7) (hdd : 0 ≤ dd ∧ dd < 6) (cp : 1 ≤ cap1 ∧ cap1 ≤ cap2 ∧ cap2 ≤ 900) (hd1 : od1.IsDictOf (strKind prog w) kvs1) (lo1 : (dm1 == sysModules) = false) (hd2 : od2.IsDictOf (strKind prog w) kvs2) (lo2 : (dm2 == sysModules) = false) (hk1 : ko1.IsDictOf (strKind prog w) kk1) (lok1 : (k1 == sysModules) = false) (zk1 : kk1.length ≤ 800) (hk2 : ko2.IsDictOf (strKind prog w) kk2) (lok2 : (k2 == sysModules) = false) (zk2 : kk2.length ≤ 800) (hI : Inv cap1 cap2 ps1 kvs1 kk1 ps2 kvs2 kk2)
    (h : ∀ h' tk m' oo5 y5 oo6 y6 oo7 y7 ko1' ko2' od1' od2' nq1' nq2', (∀ y, y ≠ (Str.ofString "before") → y ≠ (Str.ofString "there") → y ≠ (Str.ofString "told") → y ≠ (Str.ofString "wanted") → y ≠ (Str.ofString "large") → y ≠ (Str.ofString "cache") → y ≠ (Str.ofString "rest") → y ≠ (Str.ofString "order") → m' y = m y) → oo5.data = .cell y5 → oo6.data = .cell y6 → oo7.data = .cell y7 → ko1'.IsDictOf (strKind prog w) (kset dd (decide (κ ∈ keysOf ps1.reverse)) kk1 κ (.int i ti)) → ko2'.IsDictOf (strKind prog w) (kset dd (decide (κ ∈ keysOf ps2.reverse)) kk2 κ (.int i ti)) → od1'.IsDictOf (strKind prog w) (tM dd cap1 ps1 kvs1 κ (.int i ti)) → od2'.IsDictOf (strKind prog w) (tM dd cap2 ps2 kvs2 κ (.int i ti)) → Fr h₀ L h' m' → News h₀ L h' ((L + 1, o1) :: (L + 1 + 1, o2) :: (L + 1 + 1 + 1, o3) :: (L + 1 + 1 + 1 + 1, o4) :: (L + 1 + 1 + 1 + 1 + 1, oo5) :: (L + 1 + 1 + 1 + 1 + 1 + 1, oo6) :: (L + 1 + 1 + 1 + 1 + 1 + 1 + 1, oo7) :: (cl, listOf vs.toArray ncl) :: (sz, listOf #[.int cap1 u1, .int cap2 u2] nsz) :: (ca, listOf #[.ref c1, .ref c2] nca) :: (kn, listOf #[.ref k1, .ref k2] nkn) :: (k1, ko1') :: (k2, ko2') :: (c1, instObj 169 cd1) :: (cd1, cdObj w dm1 dq1 lk1 cap1 ua1 ta1 tb1 tc1 td1) :: (dm1, od1') :: (dq1, listOf (svs (tQ dd cap1 ps1 kvs1 κ tκ)) nq1') :: (lk1, instObj 45 ld1) :: (ld1, dictOf [] 0) :: (c2, instObj 169 cd2) :: (cd2, cdObj w dm2 dq2 lk2 cap2 ua2 ta2 tb2 tc2 td2) :: (dm2, od2') :: (dq2, listOf (svs (tQ dd cap2 ps2 kvs2 κ tκ)) nq2') :: (lk2, instObj 45 ld2) :: (ld2, dictOf [] 0) :: rest) → Q .next { s with heap := h', toks := tk }) :
    wpAny (model prog w) (callerA.deeper (lawE w L fa cv)) (execs [st2 w, st3 w, st4 w, st5 w, st6 w, st7 w, st8 w] (lawE w L fa cv)) Q E s := by
  obtain ⟨cp1, cp12, cp3⟩ := cp
  have cp2 : 1 ≤ cap2 := by omega
  have hz1 := hI.a.size (by omega)
  have hz2 := hI.b.size cp3
  have hI' := hI.step (κ := κ) (tκ := tκ) (t := ti) (t' := ti) (i := i) cp1 cp12 hdd
  have hz1' := hI'.a.size (by omega)
  have hz2' := hI'.b.size cp3
  have zz1 := kset_len (dd := dd) (b := (decide (κ ∈ keysOf ps1.reverse))) (kk := kk1) (κ := κ) (v := .int i ti)
  have zz2 := kset_len (dd := dd) (b := (decide (κ ∈ keysOf ps2.reverse))) (kk := kk2) (κ := κ) (v := .int i ti)
  refine ex_cons (turn2 B X T F N q0 hroff mcl msz mca hd1 lo1 hz1 hd2 lo2 hz2 fun h2 tk2 Db D1 D2 nb n1 n2 F2 N2 hroff2 => ?_)
  dsimp only
  refine ex_cons (turn3 B X T F2 N2 q0 hroff2 mcl msz mca x4 rfl (.head _) (.tail _ (.tail _ (.head _))) (.tail _ (.head _)) fun h3 tk3 Dt nt F3 N3 hroff3 => ?_)
  dsimp only
  refine ex_cons (turn4 B X T F3 N3 q0 hroff3 mcl msz mca x2 x3 x4 hdd hI.a.hm hI.b.hm cp1 cp2 hd1 lo1 hz1 hd2 lo2 hz2 fun h4 tk4 Do no od1' od2' nq1' nq2' F4 N4 hroff4 hd1' hd2' => ?_)
  dsimp only
  refine ex_cons (turn5 (tn := 0) B X T F4 N4 q0 hroff4 mcl msz mca x1 x2 x3 x4 hdd rfl rfl (.tail _ (.head _)) (.head _) hk1 hk2 lok1 lok2 (by omega) (by omega) x5 (hI.a.told hdd) (hI.b.told hdd) (fun y => hI'.a.ai κ y) (fun y => hI'.b.ai κ y) (by omega) (by omega) fun h5 tk5 m5 oo5 y5' ko1' ko2' hag5 ho5 hka hkb F5 N5 => ?_)
  dsimp only
  have g5 := fun y (hy : y ≠ Str.ofString "wanted") => hag5 y hy
  refine ex_cons (turn6 B X T F5 N5 q0 hroff4 ((g5 _ (by decide)).trans mcl) ((g5 _ (by decide)).trans msz) ((g5 _ (by decide)).trans mca) x7 hd1' lo1 hz1' hd2' lo2 hz2' fun h6 tk6 oo7 Ds De ns6 ne6 F6 d7 N6 hroff6 => ?_)
  dsimp only
  refine ex_cons (turn7 B X T F6 N6 q0 hroff6 ((g5 _ (by decide)).trans mcl) ((g5 _ (by decide)).trans msz) ((g5 _ (by decide)).trans mca) d7 rfl ((g5 _ (by decide)).trans rfl) (.tail _ (.tail _ (.tail _ (.head _)))) (.tail _ (.head _)) (.head _) (by omega) (by omega) hI'.small hI.imp fun h7 tk7 F7 N7 => ?_)
  dsimp only
  refine ex_cons (turn8 B X T F7 N7 q0 hroff6 ((g5 _ (by decide)).trans mcl) ((g5 _ (by decide)).trans msz) ((g5 _ (by decide)).trans mca) ho5 x6 x1 x3 x4 d7 rfl ((g5 _ (by decide)).trans rfl) ((g5 _ (by decide)).trans rfl) (.tail _ (.tail _ (.tail _ (.tail _ (.head _))))) (.tail _ (.tail _ (.tail _ (.tail _ (.tail _ (.tail _ (.head _))))))) (.tail _ (.tail _ (.tail _ (.tail _ (.tail _ (.head _)))))) (.tail _ (.tail _ (.tail _ (.head _)))) (.tail _ (.head _)) (.head _) (by rw [List.length_reverse]; omega) (by rw [List.length_reverse]; omega) hdd (by omega) (by have := hI'.a.le; omega) hI'.a.agree hI'.a.hm hka lok1 hd1' lo1 hz1' (hI.a.order cp1 hdd) (by omega) (by have := hI'.b.le; omega) hI'.b.agree hI'.b.hm hkb lok2 hd2' lo2 hz2' (hI.b.order cp2 hdd) fun h8 tk8 m8 oo5' y5'' oo6 y6' hag8 ho5' ho6 F8 N8 => ?_)
  dsimp only
  refine wpAny_execs_nil (h h8 tk8 m8 oo5' _ oo6 _ oo7 _ ko1' ko2' od1' od2' nq1' nq2' ?_ ho5' ho6 d7 hka hkb hd1' hd2' F8 fun q hq => N8 q (sub_swap (A := ((L + 1, o1) :: (L + 1 + 1, o2) :: (L + 1 + 1 + 1, o3) :: (L + 1 + 1 + 1 + 1, o4) :: (L + 1 + 1 + 1 + 1 + 1, oo5') :: (L + 1 + 1 + 1 + 1 + 1 + 1, oo6) :: (L + 1 + 1 + 1 + 1 + 1 + 1 + 1, oo7) :: (cl, listOf vs.toArray ncl) :: (sz, listOf #[.int cap1 u1, .int cap2 u2] nsz) :: (ca, listOf #[.ref c1, .ref c2] nca) :: (kn, listOf #[.ref k1, .ref k2] nkn) :: (k1, ko1') :: (k2, ko2') :: (c1, instObj 169 cd1) :: (cd1, cdObj w dm1 dq1 lk1 cap1 ua1 ta1 tb1 tc1 td1) :: (dm1, od1') :: (dq1, listOf (svs (tQ dd cap1 ps1 kvs1 κ tκ)) nq1') :: (lk1, instObj 45 ld1) :: (ld1, dictOf [] 0) :: (c2, instObj 169 cd2) :: (cd2, cdObj w dm2 dq2 lk2 cap2 ua2 ta2 tb2 tc2 td2) :: (dm2, od2') :: (dq2, listOf (svs (tQ dd cap2 ps2 kvs2 κ tκ)) nq2') :: (lk2, instObj 45 ld2) :: (ld2, dictOf [] 0) :: [])) (fun p hp => .tail _ (.tail _ (.tail _ (.tail _ (.tail _ (.tail _ (.tail _ hp))))))) q hq))
  intro y w1 w2 w3 w4 w5 w6 w7 w8
  rw [hag8 y w6 w7 w8]
  simp only [w5, if_false]
  rw [hag5 y w4]
  simp only [w1, w2, w3, if_false]
end
end
section
local macro_rules | `(tactic| k_mem) => `(tactic| first | with_reducible exact List.mem_cons_self | with_reducible assumption | (with_reducible refine List.mem_cons_of_mem _ ?_; k_mem))
/-- the law's things between two turns -/
def Jst (prog : Program) (w : World) (L cl sz ca kn c1 cd1 dm1 dq1 lk1 ld1 c2 cd2 dm2 dq2 lk2 ld2 : Nat) (ncl nsz nca u1 u2 ua1 ua2 ta1 ta2 tb1 tb2 tc1 tc2 td1 td2 : Nat) (cap1 cap2 : Int) (vs : List Value) (k : Nat) (m : Str → Option Value) (nw : List (Addr × Obj)) : Prop :=
  m (Str.ofString "cells") = some (.ref cl) ∧ m (Str.ofString "sizes") = some (.ref sz) ∧ m (Str.ofString "caches") = some (.ref ca) ∧
  ∃ (o1 o2 o3 o4 o5 o6 o7 ko1 ko2 od1 od2 : Obj) (y2 y3 y4 y5 y6 y7 : Option Value) (k1 k2 nkn nq1 nq2 : Nat) (ps1 ps2 : List (Str × Nat)) (kvs1 kvs2 kk1 kk2 : List (Str × Value)),
    nw = ((L + 1, o1) :: (L + 1 + 1, o2) :: (L + 1 + 1 + 1, o3) :: (L + 1 + 1 + 1 + 1, o4) :: (L + 1 + 1 + 1 + 1 + 1, o5) :: (L + 1 + 1 + 1 + 1 + 1 + 1, o6) :: (L + 1 + 1 + 1 + 1 + 1 + 1 + 1, o7) :: (cl, listOf vs.toArray ncl) :: (sz, listOf #[.int cap1 u1, .int cap2 u2] nsz) :: (ca, listOf #[.ref c1, .ref c2] nca) :: (kn, listOf #[.ref k1, .ref k2] nkn) :: (k1, ko1) :: (k2, ko2) :: (c1, instObj 169 cd1) :: (cd1, cdObj w dm1 dq1 lk1 cap1 ua1 ta1 tb1 tc1 td1) :: (dm1, od1) :: (dq1, listOf (svs ps1) nq1) :: (lk1, instObj 45 ld1) :: (ld1, dictOf [] 0) :: (c2, instObj 169 cd2) :: (cd2, cdObj w dm2 dq2 lk2 cap2 ua2 ta2 tb2 tc2 td2) :: (dm2, od2) :: (dq2, listOf (svs ps2) nq2) :: (lk2, instObj 45 ld2) :: (ld2, dictOf [] 0) :: []) ∧ o1.data = .cell (some (.ref kn)) ∧ o2.data = .cell y2 ∧ o3.data = .cell y3 ∧ o4.data = .cell y4 ∧ o5.data = .cell y5 ∧ o6.data = .cell y6 ∧ o7.data = .cell y7 ∧
    ((L + 1 + 1 + 1 + 1 + 1 + 1 + 1 < sz ∧ L + 1 ≠ cl ∧ L + 1 + 1 ≠ cl ∧ L + 1 + 1 + 1 ≠ cl ∧ L + 1 + 1 + 1 + 1 ≠ cl ∧ L + 1 + 1 + 1 + 1 + 1 ≠ cl ∧ L + 1 + 1 + 1 + 1 + 1 + 1 ≠ cl ∧ L + 1 + 1 + 1 + 1 + 1 + 1 + 1 ≠ cl) ∧ cl < sz ∧ sz < cd1 ∧ cd1 < c1 ∧ c1 < dm1 ∧ dm1 < dq1 ∧ dq1 < ld1 ∧ ld1 < lk1 ∧ lk1 < cd2 ∧ cd2 < c2 ∧ c2 < dm2 ∧ dm2 < dq2 ∧ dq2 < ld2 ∧ ld2 < lk2 ∧ lk2 < ca ∧ ca < kn ∧ ca < k1 ∧ ca < k2 ∧ k1 ≠ k2 ∧ k1 ≠ kn ∧ k2 ≠ kn) ∧
    od1.IsDictOf (strKind prog w) kvs1 ∧ (dm1 == sysModules) = false ∧ od2.IsDictOf (strKind prog w) kvs2 ∧ (dm2 == sysModules) = false ∧
    ko1.IsDictOf (strKind prog w) kk1 ∧ (k1 == sysModules) = false ∧ ko2.IsDictOf (strKind prog w) kk2 ∧ (k2 == sysModules) = false ∧
    Inv cap1 cap2 ps1 kvs1 kk1 ps2 kvs2 kk2 ∧ kk1.length ≤ k ∧ kk2.length ≤ k
theorem fmod6 {ns : List Int} {j : Nat} (hb : ∀ x ∈ ns, 0 ≤ x ∧ x < 10000) : 0 ≤ (ns.getD j 0).fmod 6 ∧ (ns.getD j 0).fmod 6 < 6 := by
  have h0 : 0 ≤ ns.getD j 0 := by
    rw [List.getD_eq_getElem?_getD]
    cases e : ns[j]? with
    | none => simp
    | some x => exact (hb x (List.mem_of_getElem? e)).1
  rw [Int.fmod_eq_emod_of_nonneg _ (by decide)]
  omega
theorem own_swap2 {I : Nat} {o : Obj} {a1 a2 a3 a4 a5 a6 a7 kn k1 k1' k2 k2' c1 cd1 dm1 dq1 lk1 ld1 c2 cd2 dm2 dq2 lk2 ld2 : Nat} (h : OwnOff ((I, o) :: []) [a1, a2, a3, a4, a5, a6, a7, kn, k1, k2, c1, cd1, dm1, dq1, lk1, ld1, c2, cd2, dm2, dq2, lk2, ld2]) (hn : @Ne Nat I k1') (hn2 : @Ne Nat I k2') :
    OwnOff ((I, o) :: []) [a1, a2, a3, a4, a5, a6, a7, kn, k1', k2', c1, cd1, dm1, dq1, lk1, ld1, c2, cd2, dm2, dq2, lk2, ld2] := fun p hp b hb => by
  rcases List.mem_cons.mp hp with rfl | hp
  · by_cases e : b = k1'
    · exact fun x => hn (x.trans e)
    by_cases e2 : b = k2'
    · exact fun x => hn2 (x.trans e2)
    · refine h (I, o) (.head _) b ?_
      simp only [List.mem_cons, List.mem_nil_iff, or_false] at hb ⊢
      rcases hb with h | h | h | h | h | h | h | h | h | h | h | h | h | h | h | h | h | h | h | h | h | h
      all_goals first
        | exact absurd h e
        | exact absurd h e2
        | simp only [h, true_or, or_true]
  · cases hp
section
variable {prog : Program} {w : World} {h₀ : Heap} {L fa : Nat} {cv : Value} {mean : ExcName → Option Value} {mg mb : Str → Option Value} {s : Shared} {m : Str → Option Value} {Q : Flow → Shared → Prop} {E : Value → Shared → Prop} {rest : List (Addr × Obj)}
  {o1 o2 o3 o4 o5 o6 o7 ko1 ko2 od1 od2 : Obj} {cl sz ca kn k1 k2 c1 cd1 dm1 dq1 lk1 ld1 c2 cd2 dm2 dq2 lk2 ld2 : Nat} {ncl nsz nca nkn nq1 nq2 u1 u2 ua1 ua2 ta1 ta2 tb1 tb2 tc1 tc2 td1 td2 : Nat} {cap1 cap2 : Int}
  {vs : List Value} {ns : List Int} {ps1 ps2 : List (Str × Nat)} {kvs1 kvs2 kk1 kk2 : List (Str × Value)}
set_option maxRecDepth 100000 in
set_option maxHeartbeats 8000000 in
theorem turnAll (B : Below callerA h₀ [] h₀) (X : (Mine.hd.heap_39 w.params).In h₀) (T : TT mean mg mb h₀) {k : Nat} {nw : List (Addr × Obj)} {I0 : Nat} {oI0 : Obj} {i : Int} {t : Tok} (hJ : Jst prog w L cl sz ca kn c1 cd1 dm1 dq1 lk1 ld1 c2 cd2 dm2 dq2 lk2 ld2 ncl nsz nca u1 u2 ua1 ua2 ta1 ta2 tb1 tb2 tc1 tc2 td1 td2 cap1 cap2 vs k m nw)
    (F : Fr h₀ L s.heap m) (N : News h₀ L s.heap ((I0, oI0) :: nw)) (off : LCg.Off1 I0 nw) (hi : IntsAre vs ns) (hr : 0 ≤ i ∧ i < ns.length) (hz : ns.length ≤ 63) (hb : ∀ x ∈ ns, 0 ≤ x ∧ x < 10000) (cp : 1 ≤ cap1 ∧ cap1 ≤ cap2 ∧ cap2 ≤ 900) (hk : k ≤ 800) :
    wpAny (model prog w) (callerA.deeper (lawE w L fa cv)) (storeName (lawE w L fa cv) (Str.ofString "k") (.int i t)) (fun _ s₂ => wpAny (model prog w) (callerA.deeper (lawE w L fa cv)) (execs (turnB w) (lawE w L fa cv)) (TurnEnd h₀ L s I0 oI0 (Jst prog w L cl sz ca kn c1 cd1 dm1 dq1 lk1 ld1 c2 cd2 dm2 dq2 lk2 ld2 ncl nsz nca u1 u2 ua1 ua2 ta1 ta2 tb1 tb2 tc1 tc2 td1 td2 cap1 cap2 vs (k + 1))) E s₂) E s := by
  obtain ⟨mcl, msz, mca, o1, o2, o3, o4, o5, o6, o7, ko1, ko2, od1, od2, y2, y3, y4, y5, y6, y7, k1, k2, nkn, nq1, nq2, ps1, ps2, kvs1, kvs2, kk1, kk2, rfl, x1, x2, x3, x4, x5, x6, x7, q0, hd1, lo1, hd2, lo2, hk1, lok1, hk2, lok2, hI, zk1, zk2⟩ := hJ
  have hroff : OwnOff ((I0, oI0) :: []) [L + 1, L + 1 + 1, L + 1 + 1 + 1, L + 1 + 1 + 1 + 1, L + 1 + 1 + 1 + 1 + 1, L + 1 + 1 + 1 + 1 + 1 + 1, L + 1 + 1 + 1 + 1 + 1 + 1 + 1, kn, k1, k2, c1, cd1, dm1, dq1, lk1, ld1, c2, cd2, dm2, dq2, lk2, ld2] := own_cons (off1_off off (by intro b hb; simp only [List.mem_cons, List.mem_nil_iff, or_false] at hb; rcases hb with rfl | rfl | rfl | rfl | rfl | rfl | rfl | rfl | rfl | rfl | rfl | rfl | rfl | rfl | rfl | rfl | rfl | rfl | rfl | rfl | rfl | rfl <;> exact ⟨_, by k_mem⟩)) (fun _ h => nomatch h)
  have hz1 := hI.a.size (by omega)
  have hz2 := hI.b.size cp.2.2
  have e6 := fmod6 (j := i.toNat) hb
  have off' := off
  simp only [LCg.Off1, and_true] at off'
  have q0c := q0
  obtain ⟨q1, q2, q3, q4, q5, q6, q7, q8, q9, q10, q11, q12, q13, q14, q15, q16, q17, q18, q19, q20, q21⟩ := q0c
  show wpAny _ (callerA.deeper (envOfC "law" (lawS w) L fa cv)) (storeName (envOfC "law" (lawS w) L fa cv) _ (.int i t)) _ _ _
  unfold lawS lawF
  dsimp only
  refine storeX_C (v := .int i t) F N (by rfl) (by k_updF) x2 (fun h3 oo2 F3 N3 d2 => ?_) (by rfl) (by rfl)
  have N4 := news_in ((L + 1, o1) :: (L + 1 + 1, oo2) :: (L + 1 + 1 + 1, o3) :: (L + 1 + 1 + 1 + 1, o4) :: (L + 1 + 1 + 1 + 1 + 1, o5) :: (L + 1 + 1 + 1 + 1 + 1 + 1, o6) :: (L + 1 + 1 + 1 + 1 + 1 + 1 + 1, o7) :: (cl, listOf vs.toArray ncl) :: (sz, listOf #[.int cap1 u1, .int cap2 u2] nsz) :: (ca, listOf #[.ref c1, .ref c2] nca) :: (kn, listOf #[.ref k1, .ref k2] nkn) :: (k1, ko1) :: (k2, ko2) :: (c1, instObj 169 cd1) :: (cd1, cdObj w dm1 dq1 lk1 cap1 ua1 ta1 tb1 tc1 td1) :: (dm1, od1) :: (dq1, listOf (svs ps1) nq1) :: (lk1, instObj 45 ld1) :: (ld1, dictOf [] 0) :: (c2, instObj 169 cd2) :: (cd2, cdObj w dm2 dq2 lk2 cap2 ua2 ta2 tb2 tc2 td2) :: (dm2, od2) :: (dq2, listOf (svs ps2) nq2) :: (lk2, instObj 45 ld2) :: (ld2, dictOf [] 0) :: []) [(I0, oI0)] N3
  clear N3 N F
  show wpAny _ (callerA.deeper (lawE w L fa cv)) (execs [st0 w, st1 w, st2 w, st3 w, st4 w, st5 w, st6 w, st7 w, st8 w] (lawE w L fa cv)) _ _ _
  refine ex_cons (turn0 (rest := (I0, oI0) :: []) B X T F3 N4 q0 hroff mcl msz mca hi hr hz hb d2 x3 x4 fun h4 tk4 oo3 oo4 td κ tκ F4 N5 d3 d4 => ?_)
  dsimp only
  refine ex_cons (turn1 B X T F4 N5 q0 hroff mcl msz mca hi hr hz hb d2 x5 x1 lok1 lok2 hd1 lo1 hz1 hd2 lo2 hz2 ⟨fun h5 tk5 F5 N6 => ?_, fun h5 tk5 oo5 y5' od1' nq1' k1' ko1' nkn' od2' nq2' k2' ko2' hB F5 N6 => ?_⟩)
  · dsimp only
    refine turnTail (rest := (I0, oI0) :: []) B X T F5 N6 q0 hroff mcl msz mca x1 d2 d3 d4 x5 x6 x7 e6 cp hd1 lo1 hd2 lo2 hk1 lok1 (by omega) hk2 lok2 (by omega) hI fun h8 tk8 m8 po5 py5 po6 py6 po7 py7 pko1 pko2 pod1 pod2 pnq1 pnq2 hag e5 e6 e7 hka hkb hda hdb F8 N8 => ?_
    have N9 := news_in [(I0, oI0)] ((L + 1, o1) :: (L + 1 + 1, oo2) :: (L + 1 + 1 + 1, oo3) :: (L + 1 + 1 + 1 + 1, oo4) :: (L + 1 + 1 + 1 + 1 + 1, po5) :: (L + 1 + 1 + 1 + 1 + 1 + 1, po6) :: (L + 1 + 1 + 1 + 1 + 1 + 1 + 1, po7) :: (cl, listOf vs.toArray ncl) :: (sz, listOf #[.int cap1 u1, .int cap2 u2] nsz) :: (ca, listOf #[.ref c1, .ref c2] nca) :: (kn, listOf #[.ref k1, .ref k2] nkn) :: (k1, pko1) :: (k2, pko2) :: (c1, instObj 169 cd1) :: (cd1, cdObj w dm1 dq1 lk1 cap1 ua1 ta1 tb1 tc1 td1) :: (dm1, pod1) :: (dq1, listOf (svs (tQ ((ns.getD i.toNat 0).fmod 6) cap1 ps1 kvs1 κ tκ)) pnq1) :: (lk1, instObj 45 ld1) :: (ld1, dictOf [] 0) :: (c2, instObj 169 cd2) :: (cd2, cdObj w dm2 dq2 lk2 cap2 ua2 ta2 tb2 tc2 td2) :: (dm2, pod2) :: (dq2, listOf (svs (tQ ((ns.getD i.toNat 0).fmod 6) cap2 ps2 kvs2 κ tκ)) pnq2) :: (lk2, instObj 45 ld2) :: (ld2, dictOf [] 0) :: []) N8
    have zz1 := kset_len (dd := (ns.getD i.toNat 0).fmod 6) (b := decide (κ ∈ keysOf ps1.reverse)) (kk := kk1) (κ := κ) (v := .int i t)
    have zz2 := kset_len (dd := (ns.getD i.toNat 0).fmod 6) (b := decide (κ ∈ keysOf ps2.reverse)) (kk := kk2) (κ := κ) (v := .int i t)
    refine ⟨rfl, h8, tk8, m8, _, rfl, F8, N9, off, ⟨((hag _ (by decide) (by decide) (by decide) (by decide) (by decide) (by decide) (by decide) (by decide)).trans mcl), ((hag _ (by decide) (by decide) (by decide) (by decide) (by decide) (by decide) (by decide) (by decide)).trans msz), ((hag _ (by decide) (by decide) (by decide) (by decide) (by decide) (by decide) (by decide) (by decide)).trans mca), o1, oo2, oo3, oo4, po5, po6, po7, pko1, pko2, pod1, pod2, _, _, _, py5, py6, py7, k1, k2, nkn, pnq1, pnq2, _, _, _, _, _, _, rfl, x1, d2, d3, d4, e5, e6, e7, q0, hda, lo1, hdb, lo2, hka, lok1, hkb, lok2, hI.step cp.1 cp.2.1 (fmod6 hb), by omega, by omega⟩⟩
  · dsimp only
    obtain ⟨p1, p2, p3, p4, p5, p6, p7, ⟨p8, p9, p10, p11, p12, p13, p14⟩⟩ := hB
    have q0d : (L + 1 + 1 + 1 + 1 + 1 + 1 + 1 < sz ∧ L + 1 ≠ cl ∧ L + 1 + 1 ≠ cl ∧ L + 1 + 1 + 1 ≠ cl ∧ L + 1 + 1 + 1 + 1 ≠ cl ∧ L + 1 + 1 + 1 + 1 + 1 ≠ cl ∧ L + 1 + 1 + 1 + 1 + 1 + 1 ≠ cl ∧ L + 1 + 1 + 1 + 1 + 1 + 1 + 1 ≠ cl) ∧ cl < sz ∧ sz < cd1 ∧ cd1 < c1 ∧ c1 < dm1 ∧ dm1 < dq1 ∧ dq1 < ld1 ∧ ld1 < lk1 ∧ lk1 < cd2 ∧ cd2 < c2 ∧ c2 < dm2 ∧ dm2 < dq2 ∧ dq2 < ld2 ∧ ld2 < lk2 ∧ lk2 < ca ∧ ca < kn ∧ ca < k1' ∧ ca < k2' ∧ k1' ≠ k2' ∧ k1' ≠ kn ∧ k2' ≠ kn := ⟨q1, q2, q3, q4, q5, q6, q7, q8, q9, q10, q11, q12, q13, q14, q15, q16, p8, p9, p10, p11, p12⟩
    have hI0 : Inv cap1 cap2 [] [] [] [] [] [] := inv_nil (by omega) cp.2.1
    refine turnTail (rest := (I0, oI0) :: []) B X T F5 N6 q0d (own_swap2 hroff p13 p14) mcl msz mca x1 d2 d3 d4 p1 x6 x7 e6 cp p2 lo1 p5 lo2 p3 p4 (by simp) p6 p7 (by simp) hI0 fun h8 tk8 m8 po5 py5 po6 py6 po7 py7 pko1 pko2 pod1 pod2 pnq1 pnq2 hag e5 e6 e7 hka hkb hda hdb F8 N8 => ?_
    have N9 := news_in [(I0, oI0)] ((L + 1, o1) :: (L + 1 + 1, oo2) :: (L + 1 + 1 + 1, oo3) :: (L + 1 + 1 + 1 + 1, oo4) :: (L + 1 + 1 + 1 + 1 + 1, po5) :: (L + 1 + 1 + 1 + 1 + 1 + 1, po6) :: (L + 1 + 1 + 1 + 1 + 1 + 1 + 1, po7) :: (cl, listOf vs.toArray ncl) :: (sz, listOf #[.int cap1 u1, .int cap2 u2] nsz) :: (ca, listOf #[.ref c1, .ref c2] nca) :: (kn, listOf #[.ref k1', .ref k2'] nkn') :: (k1', pko1) :: (k2', pko2) :: (c1, instObj 169 cd1) :: (cd1, cdObj w dm1 dq1 lk1 cap1 ua1 ta1 tb1 tc1 td1) :: (dm1, pod1) :: (dq1, listOf (svs (tQ ((ns.getD i.toNat 0).fmod 6) cap1 [] [] κ tκ)) pnq1) :: (lk1, instObj 45 ld1) :: (ld1, dictOf [] 0) :: (c2, instObj 169 cd2) :: (cd2, cdObj w dm2 dq2 lk2 cap2 ua2 ta2 tb2 tc2 td2) :: (dm2, pod2) :: (dq2, listOf (svs (tQ ((ns.getD i.toNat 0).fmod 6) cap2 [] [] κ tκ)) pnq2) :: (lk2, instObj 45 ld2) :: (ld2, dictOf [] 0) :: []) N8
    have zz1 := kset_len (dd := (ns.getD i.toNat 0).fmod 6) (b := decide (κ ∈ keysOf ([] : List (Str × Nat)).reverse)) (kk := []) (κ := κ) (v := .int i t)
    have zz2 := kset_len (dd := (ns.getD i.toNat 0).fmod 6) (b := decide (κ ∈ keysOf ([] : List (Str × Nat)).reverse)) (kk := []) (κ := κ) (v := .int i t)
    simp only [List.length_nil] at zz1 zz2
    have off9 : LCg.Off1 I0 ((L + 1, o1) :: (L + 1 + 1, oo2) :: (L + 1 + 1 + 1, oo3) :: (L + 1 + 1 + 1 + 1, oo4) :: (L + 1 + 1 + 1 + 1 + 1, po5) :: (L + 1 + 1 + 1 + 1 + 1 + 1, po6) :: (L + 1 + 1 + 1 + 1 + 1 + 1 + 1, po7) :: (cl, listOf vs.toArray ncl) :: (sz, listOf #[.int cap1 u1, .int cap2 u2] nsz) :: (ca, listOf #[.ref c1, .ref c2] nca) :: (kn, listOf #[.ref k1', .ref k2'] nkn') :: (k1', pko1) :: (k2', pko2) :: (c1, instObj 169 cd1) :: (cd1, cdObj w dm1 dq1 lk1 cap1 ua1 ta1 tb1 tc1 td1) :: (dm1, pod1) :: (dq1, listOf (svs (tQ ((ns.getD i.toNat 0).fmod 6) cap1 [] [] κ tκ)) pnq1) :: (lk1, instObj 45 ld1) :: (ld1, dictOf [] 0) :: (c2, instObj 169 cd2) :: (cd2, cdObj w dm2 dq2 lk2 cap2 ua2 ta2 tb2 tc2 td2) :: (dm2, pod2) :: (dq2, listOf (svs (tQ ((ns.getD i.toNat 0).fmod 6) cap2 [] [] κ tκ)) pnq2) :: (lk2, instObj 45 ld2) :: (ld2, dictOf [] 0) :: []) := by
      simp only [LCg.Off1, and_true] at off ⊢
      obtain ⟨a1, a2, a3, a4, a5, a6, a7, a8, a9, a10, a11, a12, a13, a14, a15, a16, a17, a18, a19, a20, a21, a22, a23, a24, a25⟩ := off
      exact ⟨a1, a2, a3, a4, a5, a6, a7, a8, a9, a10, a11, Ne.symm p13, Ne.symm p14, a14, a15, a16, a17, a18, a19, a20, a21, a22, a23, a24, a25⟩
    refine ⟨rfl, h8, tk8, m8, _, rfl, F8, N9, off9, ⟨((hag _ (by decide) (by decide) (by decide) (by decide) (by decide) (by decide) (by decide) (by decide)).trans mcl), ((hag _ (by decide) (by decide) (by decide) (by decide) (by decide) (by decide) (by decide) (by decide)).trans msz), ((hag _ (by decide) (by decide) (by decide) (by decide) (by decide) (by decide) (by decide) (by decide)).trans mca), o1, oo2, oo3, oo4, po5, po6, po7, pko1, pko2, pod1, pod2, _, _, _, py5, py6, py7, k1', k2', nkn', pnq1, pnq2, _, _, _, _, _, _, rfl, x1, d2, d3, d4, e5, e6, e7, q0d, hda, lo1, hdb, lo2, hka, p4, hkb, p7, hI0.step cp.1 cp.2.1 (fmod6 hb), by omega, by omega⟩⟩
end
end
section
local macro_rules | `(tactic| walk_at "call type:list") => `(tactic| (k_here; (with_reducible show wpAny _ _ (call (Value.type "list") [Value.ref _]) _ _ _); k_dflt (refine' list_c (base := ?bb) (A₀ := ?aa) ?C rfl ?u ?o ?d ?lo ?z ?_; (case C => exact ⟨by assumption, by assumption, by assumption, by assumption, by assumption, rfl, rfl, rfl, by (rw [depth_deeper]; dsimp only; omega), by (rw [units_deeper]; dsimp only; omega)⟩); (case u => rw [units_deeper]; dsimp only; omega); (case o => exact ⟨by assumption, by assumption, by assumption, by assumption, by assumption⟩); (case d => assumption); (case lo => assumption); (case z => exact ⟨by assumption, by assumption⟩)); intro h' tk' D' n' F' N' l1; (try k_sweep)))
local macro_rules | `(tactic| walk_at "call ref") => `(tactic| (k_here; (with_reducible show wpAny _ _ (call (Value.ref 140) _) _ _ _); refine wpAny_call ?_; k_dflt (refine' items_c (base := ?bb) (A₀ := ?aa) ?C rfl ?o ?d ?lo ?z ?x ?m ?_; (case C => exact ⟨by assumption, by assumption, by assumption, by assumption, by assumption, rfl, rfl, rfl, by (rw [depth_deeper]; dsimp only; omega), by (rw [units_deeper]; dsimp only; omega)⟩); (case x => rw [depth_deeper, units_deeper]; dsimp only; omega); (case o => exact ⟨by assumption, by assumption, by assumption, by assumption, by assumption⟩); (case d => assumption); (case lo => assumption); (case z => exact ⟨by assumption, by assumption⟩); (case m => assumption)); intro h' tk' D' n' tl' ys' F' N' ht' hT' off'; (try k_sweep)))
local macro_rules | `(tactic| k_mem) => `(tactic| first | with_reducible exact List.mem_cons_self | with_reducible assumption | (with_reducible refine List.mem_cons_of_mem _ ?_; k_mem))
local macro_rules | `(tactic| walk_at "eval Name") => `(tactic| (k_here; k_dflt (refine' nameX_L ?F ?v ?_ ?a ?b; (case a => rfl); (case b => rfl); (case F => k_asm); (case v => assumption))))
section
variable {prog : Program} {w : World} {h₀ : Heap} {L fa : Nat} {cv : Value} {mean : ExcName → Option Value} {mg mb : Str → Option Value} {s : Shared} {m : Str → Option Value} {Q : Flow → Shared → Prop} {E : Value → Shared → Prop}
  {o1 o2 o3 o4 o5 o6 o7 : Obj} {cl sz : Nat} {vs : List Value} {ns : List Int} {ncl nsz : Nat} {cap1 cap2 : Int} {u1 u2 : Nat} {y1 y2 y3 y4 y5 y6 y7 : Option Value}
set_option maxRecDepth 100000 in
set_option maxHeartbeats 8000000 in
theorem pre0 (B : Below callerA h₀ [] h₀) (X : (Mine.hd.heap_39 w.params).In h₀) (T : TT mean mg mb h₀) (F : Fr h₀ L s.heap m) (N : News h₀ L s.heap ((L + 1, o1) :: (L + 1 + 1, o2) :: (L + 1 + 1 + 1, o3) :: (L + 1 + 1 + 1 + 1, o4) :: (L + 1 + 1 + 1 + 1 + 1, o5) :: (L + 1 + 1 + 1 + 1 + 1 + 1, o6) :: (L + 1 + 1 + 1 + 1 + 1 + 1 + 1, o7) :: [])) {sc : Nat} {vs0 : List Value} {ns0 : List Int} (msc : m (Str.ofString "script") = some (.ref sc)) (hL : h₀.IsList sc vs0.toArray) (hi : IntsAre vs0 ns0) (hz : ns0.length ≤ 63)
    (h : ∀ h' tk (cl ncl : Nat) vs ns', IntsAre vs ns' → (∀ x ∈ ns', 0 ≤ x ∧ x < 10000) → ns'.length ≤ 21 → (L + 1 ≠ cl ∧ L + 1 + 1 ≠ cl ∧ L + 1 + 1 + 1 ≠ cl ∧ L + 1 + 1 + 1 + 1 ≠ cl ∧ L + 1 + 1 + 1 + 1 + 1 ≠ cl ∧ L + 1 + 1 + 1 + 1 + 1 + 1 ≠ cl ∧ L + 1 + 1 + 1 + 1 + 1 + 1 + 1 ≠ cl) → Fr h₀ L h' (fun z => if z = Str.ofString "cells" then some (.ref cl) else m z) → News h₀ L h' ((cl, listOf vs.toArray ncl) :: (L + 1, o1) :: (L + 1 + 1, o2) :: (L + 1 + 1 + 1, o3) :: (L + 1 + 1 + 1 + 1, o4) :: (L + 1 + 1 + 1 + 1 + 1, o5) :: (L + 1 + 1 + 1 + 1 + 1 + 1, o6) :: (L + 1 + 1 + 1 + 1 + 1 + 1 + 1, o7) :: []) → Q .next { s with heap := h', toks := tk }) :
    wpAny (model prog w) (callerA.deeper (lawE w L fa cv)) (exec (hdS (lawB w)) (lawE w L fa cv)) Q E s := by
  unfold lawB lawF
  dsimp only [hdS, tlS, bodyS]
  show wpAny _ (callerA.deeper (envOfC "law" (lawS w) L fa cv)) (exec _ (envOfC "law" (lawS w) L fa cv)) _ _ _
  unfold lawS lawF
  dsimp only
  k_steps
  rename_i D1 ws h1 F1 nD hI1 hC1 hL1 l1 hk1 hk2 g1 hI8 hL8 D2 h2 tk2 F2 N2 o1'
  obtain ⟨-, p1, p2, p3, p4, p5, p6, p7⟩ := o1'
  refine h h2 tk2 D2 ys.length ys _ hI8 ?_ ?_ ⟨p1, p2, p3, p4, p5, p6, p7⟩ F2 (fun q hq => N2 q ?_)
  · intro x hx
    obtain ⟨y, _, rfl⟩ := List.mem_map.mp hx
    rw [Int.fmod_eq_emod_of_nonneg _ (by decide)]
    omega
  · rw [List.length_map, hC1]; omega
  · rcases List.mem_cons.mp hq with rfl | hq
    · exact .head _
    · exact .tail _ (.tail _ hq)
end
end
section
local macro_rules | `(tactic| walk_at "call type:list") => `(tactic| (k_here; (with_reducible show wpAny _ _ (call (Value.type "list") [Value.ref _]) _ _ _); k_dflt (refine' list_c (base := ?bb) (A₀ := ?aa) ?C rfl ?u ?o ?d ?lo ?z ?_; (case C => exact ⟨by assumption, by assumption, by assumption, by assumption, by assumption, rfl, rfl, rfl, by (rw [depth_deeper]; dsimp only; omega), by (rw [units_deeper]; dsimp only; omega)⟩); (case u => rw [units_deeper]; dsimp only; omega); (case o => exact ⟨by assumption, by assumption, by assumption, by assumption, by assumption⟩); (case d => assumption); (case lo => assumption); (case z => exact ⟨by assumption, by assumption⟩)); intro h' tk' D' n' F' N' l1; (try k_sweep)))
local macro_rules | `(tactic| walk_at "call ref") => `(tactic| (k_here; (with_reducible show wpAny _ _ (call (Value.ref 140) _) _ _ _); refine wpAny_call ?_; k_dflt (refine' items_c (base := ?bb) (A₀ := ?aa) ?C rfl ?o ?d ?lo ?z ?x ?m ?_; (case C => exact ⟨by assumption, by assumption, by assumption, by assumption, by assumption, rfl, rfl, rfl, by (rw [depth_deeper]; dsimp only; omega), by (rw [units_deeper]; dsimp only; omega)⟩); (case x => rw [depth_deeper, units_deeper]; dsimp only; omega); (case o => exact ⟨by assumption, by assumption, by assumption, by assumption, by assumption⟩); (case d => assumption); (case lo => assumption); (case z => exact ⟨by assumption, by assumption⟩); (case m => assumption)); intro h' tk' D' n' tl' ys' F' N' ht' hT' off'; (try k_sweep)))
local macro_rules | `(tactic| k_mem) => `(tactic| first | with_reducible exact List.mem_cons_self | with_reducible assumption | (with_reducible refine List.mem_cons_of_mem _ ?_; k_mem))
local macro_rules | `(tactic| walk_at "eval Name") => `(tactic| (k_here; k_dflt (refine' nameX_L ?F ?v ?_ ?a ?b; (case a => rfl); (case b => rfl); (case F => k_asm); (case v => assumption))))
local macro_rules | `(tactic| walk_at "subscriptTail Name Slice ref ref") => `(tactic| (k_here; refine halt ?_))
section
variable {prog : Program} {w : World} {h₀ : Heap} {L fa : Nat} {cv : Value} {mean : ExcName → Option Value} {mg mb : Str → Option Value} {s : Shared} {m : Str → Option Value} {Q : Flow → Shared → Prop} {E : Value → Shared → Prop}
  {o1 o2 o3 o4 o5 o6 o7 : Obj} {cl sz : Nat} {vs : List Value} {ns : List Int} {ncl nsz : Nat} {cap1 cap2 : Int} {u1 u2 : Nat} {y1 y2 y3 y4 y5 y6 y7 : Option Value}
theorem ints14 (a b c d e f g h i j k l m n : Tok) : IntsAre [.int 4 a, .int 0 b, .int 6 c, .int 12 d, .int 18 e, .int 2 f, .int 8 g, .int 24 h, .int 30 i, .int 3 j, .int 15 k, .int 5 l, .int 36 m, .int 14 n] [4, 0, 6, 12, 18, 2, 8, 24, 30, 3, 15, 5, 36, 14] := .cons _ _ (.cons _ _ (.cons _ _ (.cons _ _ (.cons _ _ (.cons _ _ (.cons _ _ (.cons _ _ (.cons _ _ (.cons _ _ (.cons _ _ (.cons _ _ (.cons _ _ (.cons _ _ (.nil))))))))))))))
set_option maxRecDepth 100000 in
set_option maxHeartbeats 8000000 in
theorem pre1 (B : Below callerA h₀ [] h₀) (X : (Mine.hd.heap_39 w.params).In h₀) (T : TT mean mg mb h₀) (F : Fr h₀ L s.heap m) (N : News h₀ L s.heap ((cl, listOf vs.toArray ncl) :: (L + 1, o1) :: (L + 1 + 1, o2) :: (L + 1 + 1 + 1, o3) :: (L + 1 + 1 + 1 + 1, o4) :: (L + 1 + 1 + 1 + 1 + 1, o5) :: (L + 1 + 1 + 1 + 1 + 1 + 1, o6) :: (L + 1 + 1 + 1 + 1 + 1 + 1 + 1, o7) :: [])) (mcl : m (Str.ofString "cells") = some (.ref cl)) (hi : IntsAre vs ns) (hb : ∀ x ∈ ns, 0 ≤ x ∧ x < 10000) (hz : ns.length ≤ 21) (hne : Halt (L + 1 ≠ cl ∧ L + 1 + 1 ≠ cl ∧ L + 1 + 1 + 1 ≠ cl ∧ L + 1 + 1 + 1 + 1 ≠ cl ∧ L + 1 + 1 + 1 + 1 + 1 ≠ cl ∧ L + 1 + 1 + 1 + 1 + 1 + 1 ≠ cl ∧ L + 1 + 1 + 1 + 1 + 1 + 1 + 1 ≠ cl))
    (h : ∀ h' tk m' (cl' ncl' : Nat) vs' ns', IntsAre vs' ns' → (∀ x ∈ ns', 0 ≤ x ∧ x < 10000) → 4 ≤ ns'.length → ns'.length ≤ 35 → m' (Str.ofString "cells") = some (.ref cl') → (L + 1 ≠ cl' ∧ L + 1 + 1 ≠ cl' ∧ L + 1 + 1 + 1 ≠ cl' ∧ L + 1 + 1 + 1 + 1 ≠ cl' ∧ L + 1 + 1 + 1 + 1 + 1 ≠ cl' ∧ L + 1 + 1 + 1 + 1 + 1 + 1 ≠ cl' ∧ L + 1 + 1 + 1 + 1 + 1 + 1 + 1 ≠ cl') → Fr h₀ L h' m' → News h₀ L h' ((cl', listOf vs'.toArray ncl') :: (L + 1, o1) :: (L + 1 + 1, o2) :: (L + 1 + 1 + 1, o3) :: (L + 1 + 1 + 1 + 1, o4) :: (L + 1 + 1 + 1 + 1 + 1, o5) :: (L + 1 + 1 + 1 + 1 + 1 + 1, o6) :: (L + 1 + 1 + 1 + 1 + 1 + 1 + 1, o7) :: []) → Q .next { s with heap := h', toks := tk }) :
    wpAny (model prog w) (callerA.deeper (lawE w L fa cv)) (exec (hdS (tlS (lawB w))) (lawE w L fa cv)) Q E s := by
  unfold lawB lawF
  dsimp only [hdS, tlS, bodyS]
  show wpAny _ (callerA.deeper (envOfC "law" (lawS w) L fa cv)) (exec _ (envOfC "law" (lawS w) L fa cv)) _ _ _
  unfold lawS lawF
  dsimp only
  have hkl : vs.length = ns.length := IntsAre.length hi
  k_steps
  · unfold Halt
    refine kmk_slice_ints (ns := [4, 0, 6, 12, 18, 2, 8, 24, 30, 3, 15, 5, 36, 14]) (by k_asm) (by k_asm) (News.isList (by k_asm) (.head _)) (IsPart.int _ _) IsPart.none (ints14 ..) (kmk_from (ints14 ..) (by omega)) (List.length_drop ..) ?_ (by with_unfolding_all rfl) (by kmk_pure) (Nat.le_of_ble_eq_true rfl)
    intro D2 ws2 h2 F2 N2 g2 hI2 hC2 hL2
    (try k_lt g2)
    (try k_sweep)
    k_steps
    rename_i D3 ws3 h3 hI3 g3 h4 F4 N4
    refine h h4 _ _ D3 0 ws3 _ hI3 ?_ ?_ ?_ rfl ?_ F4 (fun q hq => N4 q ?_)
    · intro x hx
      rcases List.mem_append.mp hx with hx | hx
      · exact hb x hx
      · have := List.mem_of_mem_drop hx
        simp only [List.mem_cons, List.mem_nil_iff, or_false] at this
        omega
    · rw [List.length_append, hC2]; simp only [List.length_cons, List.length_nil]; omega
    · rw [List.length_append, hC2]; simp only [List.length_cons, List.length_nil]; omega
    · obtain ⟨-, -, -, r1, r2, r3, r4, r5, r6, r7⟩ := g3
      exact ⟨Nat.ne_of_lt r1, Nat.ne_of_lt r2, Nat.ne_of_lt r3, Nat.ne_of_lt r4, Nat.ne_of_lt r5, Nat.ne_of_lt r6, Nat.ne_of_lt r7⟩
    · rcases List.mem_cons.mp hq with rfl | hq
      · exact .head _
      · exact .tail _ (.tail _ (.tail _ (.tail _ hq)))
  · exact h _ _ m cl ncl vs ns hi hb (by omega) (by omega) mcl hne F N
end
end
section
local macro_rules | `(tactic| walk_at "idle line 0") => `(tactic| fail)
local macro_rules | `(tactic| walk_at "idle line 1") => `(tactic| fail)
local macro_rules | `(tactic| walk_at "call type:list") => `(tactic| (k_here; (with_reducible show wpAny _ _ (call (Value.type "list") [Value.ref _]) _ _ _); k_dflt (refine' list_c (base := ?bb) (A₀ := ?aa) ?C rfl ?u ?o ?d ?lo ?z ?_; (case C => exact ⟨by assumption, by assumption, by assumption, by assumption, by assumption, rfl, rfl, rfl, by (rw [depth_deeper]; dsimp only; omega), by (rw [units_deeper]; dsimp only; omega)⟩); (case u => rw [units_deeper]; dsimp only; omega); (case o => exact ⟨by assumption, by assumption, by assumption, by assumption, by assumption⟩); (case d => assumption); (case lo => assumption); (case z => exact ⟨by assumption, by assumption⟩)); intro h' tk' D' n' F' N' l1; (try k_sweep)))
local macro_rules | `(tactic| walk_at "call ref") => `(tactic| (k_here; (with_reducible show wpAny _ _ (call (Value.ref 140) _) _ _ _); refine wpAny_call ?_; k_dflt (refine' items_c (base := ?bb) (A₀ := ?aa) ?C rfl ?o ?d ?lo ?z ?x ?m ?_; (case C => exact ⟨by assumption, by assumption, by assumption, by assumption, by assumption, rfl, rfl, rfl, by (rw [depth_deeper]; dsimp only; omega), by (rw [units_deeper]; dsimp only; omega)⟩); (case x => rw [depth_deeper, units_deeper]; dsimp only; omega); (case o => exact ⟨by assumption, by assumption, by assumption, by assumption, by assumption⟩); (case d => assumption); (case lo => assumption); (case z => exact ⟨by assumption, by assumption⟩); (case m => assumption)); intro h' tk' D' n' tl' ys' F' N' ht' hT' off'; (try k_sweep)))
local macro_rules | `(tactic| k_mem) => `(tactic| first | with_reducible exact List.mem_cons_self | with_reducible assumption | (with_reducible refine List.mem_cons_of_mem _ ?_; k_mem))
local macro_rules | `(tactic| walk_at "eval Name") => `(tactic| (k_here; k_dflt (refine' nameX_L ?F ?v ?_ ?a ?b; (case a => rfl); (case b => rfl); (case F => k_asm); (case v => assumption))))
section
variable {prog : Program} {w : World} {h₀ : Heap} {L fa : Nat} {cv : Value} {mean : ExcName → Option Value} {mg mb : Str → Option Value} {s : Shared} {m : Str → Option Value} {Q : Flow → Shared → Prop} {E : Value → Shared → Prop}
  {o1 o2 o3 o4 o5 o6 o7 : Obj} {cl sz : Nat} {vs : List Value} {ns : List Int} {ncl nsz : Nat} {cap1 cap2 : Int} {u1 u2 : Nat} {y1 y2 y3 y4 y5 y6 y7 : Option Value}
set_option maxRecDepth 100000 in
set_option maxHeartbeats 8000000 in
theorem pre2 (B : Below callerA h₀ [] h₀) (X : (Mine.hd.heap_39 w.params).In h₀) (T : TT mean mg mb h₀) (F : Fr h₀ L s.heap m) (N : News h₀ L s.heap ((cl, listOf vs.toArray ncl) :: (L + 1, o1) :: (L + 1 + 1, o2) :: (L + 1 + 1 + 1, o3) :: (L + 1 + 1 + 1 + 1, o4) :: (L + 1 + 1 + 1 + 1 + 1, o5) :: (L + 1 + 1 + 1 + 1 + 1 + 1, o6) :: (L + 1 + 1 + 1 + 1 + 1 + 1 + 1, o7) :: [])) (mcl : m (Str.ofString "cells") = some (.ref cl)) (hi : IntsAre vs ns) (hb : ∀ x ∈ ns, 0 ≤ x ∧ x < 10000) (hz : 4 ≤ ns.length ∧ ns.length ≤ 35)
    (h : ∀ h' tk (sz : Nat) (cap1 cap2 : Int) (u1 u2 : Nat), 1 ≤ cap1 → cap1 ≤ cap2 → cap2 ≤ 900 → (L + 1 + 1 + 1 + 1 + 1 + 1 + 1 < sz ∧ cl < sz) → Fr h₀ L h' (fun y => if y = Str.ofString "sizes" then some (.ref sz) else m y) → News h₀ L h' ((sz, listOf #[.int cap1 u1, .int cap2 u2] 0) :: (cl, listOf vs.toArray ncl) :: (L + 1, o1) :: (L + 1 + 1, o2) :: (L + 1 + 1 + 1, o3) :: (L + 1 + 1 + 1 + 1, o4) :: (L + 1 + 1 + 1 + 1 + 1, o5) :: (L + 1 + 1 + 1 + 1 + 1 + 1, o6) :: (L + 1 + 1 + 1 + 1 + 1 + 1 + 1, o7) :: []) → Q .next { s with heap := h', toks := tk }) :
    wpAny (model prog w) (callerA.deeper (lawE w L fa cv)) (exec (hdS (tlS (tlS (lawB w)))) (lawE w L fa cv)) Q E s := by
  unfold lawB lawF
  dsimp only [hdS, tlS, bodyS]
  show wpAny _ (callerA.deeper (envOfC "law" (lawS w) L fa cv)) (exec _ (envOfC "law" (lawS w) L fa cv)) _ _ _
  unfold lawS lawF
  dsimp only
  have hkl : vs.length = ns.length := IntsAre.length hi
  obtain ⟨z1, z2⟩ := hz
  k_steps
  rename_i l1 h1 g1 h2 F2 N2
  have h0 : 0 ≤ ns.getD (Int.toNat 0) 0 := by
    rw [List.getD_eq_getElem?_getD]
    cases e : ns[Int.toNat 0]? with
    | none => simp
    | some x => exact (hb x (List.mem_of_getElem? e)).1
  have f4 := Int.fmod_eq_emod_of_nonneg (ns.getD (Int.toNat 0) 0) (b := 4) (by decide)
  have f3 := Int.fmod_eq_emod_of_nonneg ((ns.getD (Int.toNat 0) 0).fdiv 4) (b := 3) (by decide)
  rw [f4, f3] at N2
  refine h h2 _ l1 _ _ _ _ ?_ ?_ ?_ ⟨?_, ?_⟩ F2 N2 <;> omega
end
end
section
local macro_rules | `(tactic| walk_at "idle line 0") => `(tactic| fail)
local macro_rules | `(tactic| walk_at "idle line 1") => `(tactic| fail)
local macro_rules | `(tactic| walk_at "idle line 2") => `(tactic| fail)
local macro_rules | `(tactic| walk_at "call type:list") => `(tactic| (k_here; (with_reducible show wpAny _ _ (call (Value.type "list") [Value.ref _]) _ _ _); k_dflt (refine' list_c (base := ?bb) (A₀ := ?aa) ?C rfl ?u ?o ?d ?lo ?z ?_; (case C => exact ⟨by assumption, by assumption, by assumption, by assumption, by assumption, rfl, rfl, rfl, by (rw [depth_deeper]; dsimp only; omega), by (rw [units_deeper]; dsimp only; omega)⟩); (case u => rw [units_deeper]; dsimp only; omega); (case o => exact ⟨by assumption, by assumption, by assumption, by assumption, by assumption⟩); (case d => assumption); (case lo => assumption); (case z => exact ⟨by assumption, by assumption⟩)); intro h' tk' D' n' F' N' l1; (try k_sweep)))
local macro_rules | `(tactic| walk_at "call ref") => `(tactic| (k_here; (with_reducible show wpAny _ _ (call (Value.ref 140) _) _ _ _); refine wpAny_call ?_; k_dflt (refine' items_c (base := ?bb) (A₀ := ?aa) ?C rfl ?o ?d ?lo ?z ?x ?m ?_; (case C => exact ⟨by assumption, by assumption, by assumption, by assumption, by assumption, rfl, rfl, rfl, by (rw [depth_deeper]; dsimp only; omega), by (rw [units_deeper]; dsimp only; omega)⟩); (case x => rw [depth_deeper, units_deeper]; dsimp only; omega); (case o => exact ⟨by assumption, by assumption, by assumption, by assumption, by assumption⟩); (case d => assumption); (case lo => assumption); (case z => exact ⟨by assumption, by assumption⟩); (case m => assumption)); intro h' tk' D' n' tl' ys' F' N' ht' hT' off'; (try k_sweep)))
local macro_rules | `(tactic| k_mem) => `(tactic| first | with_reducible exact List.mem_cons_self | with_reducible assumption | (with_reducible refine List.mem_cons_of_mem _ ?_; k_mem))
local macro_rules | `(tactic| walk_at "eval Name") => `(tactic| (k_here; k_dflt (refine' nameX_L ?F ?v ?_ ?a ?b; (case a => rfl); (case b => rfl); (case F => k_asm); (case v => assumption))))
section
variable {prog : Program} {w : World} {h₀ : Heap} {L fa : Nat} {cv : Value} {mean : ExcName → Option Value} {mg mb : Str → Option Value} {s : Shared} {m : Str → Option Value} {Q : Flow → Shared → Prop} {E : Value → Shared → Prop}
  {o1 o2 o3 o4 o5 o6 o7 : Obj} {cl sz : Nat} {vs : List Value} {ns : List Int} {ncl nsz : Nat} {cap1 cap2 : Int} {u1 u2 : Nat} {y1 y2 y3 y4 y5 y6 y7 : Option Value}
set_option maxRecDepth 100000 in
set_option maxHeartbeats 8000000 in
theorem pre3 (B : Below callerA h₀ [] h₀) (X : (Mine.hd.heap_39 w.params).In h₀) (T : TT mean mg mb h₀) (F : Fr h₀ L s.heap m) (N : News h₀ L s.heap ((sz, listOf #[.int cap1 u1, .int cap2 u2] nsz) :: (cl, listOf vs.toArray ncl) :: (L + 1, o1) :: (L + 1 + 1, o2) :: (L + 1 + 1 + 1, o3) :: (L + 1 + 1 + 1 + 1, o4) :: (L + 1 + 1 + 1 + 1 + 1, o5) :: (L + 1 + 1 + 1 + 1 + 1 + 1, o6) :: (L + 1 + 1 + 1 + 1 + 1 + 1 + 1, o7) :: [])) (x1 : o1.data = .cell y1) (x2 : o2.data = .cell y2) (x3 : o3.data = .cell y3) (x4 : o4.data = .cell y4) (x5 : o5.data = .cell y5) (x6 : o6.data = .cell y6) (x7 : o7.data = .cell y7) (mcl : m (Str.ofString "cells") = some (.ref cl)) (msz : m (Str.ofString "sizes") = some (.ref sz)) (hlt : L + 1 + 1 + 1 + 1 + 1 + 1 + 1 < sz ∧ cl < sz) (hne : Halt (L + 1 ≠ cl ∧ L + 1 + 1 ≠ cl ∧ L + 1 + 1 + 1 ≠ cl ∧ L + 1 + 1 + 1 + 1 ≠ cl ∧ L + 1 + 1 + 1 + 1 + 1 ≠ cl ∧ L + 1 + 1 + 1 + 1 + 1 + 1 ≠ cl ∧ L + 1 + 1 + 1 + 1 + 1 + 1 + 1 ≠ cl)) (cp : 1 ≤ cap1 ∧ cap1 ≤ cap2)
    (h : ∀ h' tk m' nw (ca kn c1 cd1 dm1 dq1 lk1 ld1 c2 cd2 dm2 dq2 lk2 ld2 nca ua1 ua2 ta1 ta2 tb1 tb2 tc1 tc2 td1 td2 : Nat), Jst prog w L cl sz ca kn c1 cd1 dm1 dq1 lk1 ld1 c2 cd2 dm2 dq2 lk2 ld2 ncl nsz nca u1 u2 ua1 ua2 ta1 ta2 tb1 tb2 tc1 tc2 td1 td2 cap1 cap2 vs 0 m' nw → Fr h₀ L h' m' → News h₀ L h' nw → Q .next { s with heap := h', toks := tk }) :
    wpAny (model prog w) (callerA.deeper (lawE w L fa cv)) (exec (hdS (tlS (tlS (tlS (lawB w))))) (lawE w L fa cv)) Q E s := by
  unfold lawB lawF
  dsimp only [hdS, tlS, bodyS]
  show wpAny _ (callerA.deeper (envOfC "law" (lawS w) L fa cv)) (exec _ (envOfC "law" (lawS w) L fa cv)) _ _ _
  unfold lawS lawF
  dsimp only
  k_steps
  rename_i _ c1 cd1 _ la lb _ _ _ _ _ _ _ _ _ _ dm1 _ od1 lo1 hd1 _ _ _ lc _ dq1 _ ld _ _ lk1 ld1 _ le lf _ _ _ _ _ _ c2 cd2 _ lg lh _ _ _ _ _ _ _ _ dm2 _ od2 lo2 hd2 _ _ _ li _ dq2 _ lj _ lk2 ld2 _ lk ll _ _ _ _ _ ca _ lm k1 _ ko1 lok1 hk1 _ _ _ ln k2 _ ko2 lok2 hk2 _ _ _ lo kn _ lp DT _ lq _ h9 F9 N9
  unfold Halt at hne
  refine storeX_C (v := .ref kn) F9 N9 (by rfl) (by k_updF) x1 (fun h10 oo1 F10 N10 d1 => ?_) (by rfl) (by rfl)
  obtain ⟨oDT, nkn, nca, ua1, ta1, tb1, tc1, td1, ua2, ta2, tb2, tc2, td2, N11⟩ : ∃ oDT nkn nca ua1 ta1 tb1 tc1 td1 ua2 ta2 tb2 tc2 td2, News h₀ L h10 ((DT, oDT) :: (kn, listOf #[.ref k1, .ref k2] nkn) :: (k2, ko2) :: (k1, ko1) :: (ca, listOf #[.ref c1, .ref c2] nca) :: (lk2, instObj 45 ld2) :: (ld2, dictOf [] 0) :: (dq2, listOf (svs []) 0) :: (dm2, od2) :: (c2, instObj 169 cd2) :: (cd2, cdObj w dm2 dq2 lk2 cap2 ua2 ta2 tb2 tc2 td2) :: (lk1, instObj 45 ld1) :: (ld1, dictOf [] 0) :: (dq1, listOf (svs []) 0) :: (dm1, od1) :: (c1, instObj 169 cd1) :: (cd1, cdObj w dm1 dq1 lk1 cap1 ua1 ta1 tb1 tc1 td1) :: (sz, listOf #[.int cap1 u1, .int cap2 u2] nsz) :: (cl, listOf vs.toArray ncl) :: (L + 1, oo1) :: (L + 1 + 1, o2) :: (L + 1 + 1 + 1, o3) :: (L + 1 + 1 + 1 + 1, o4) :: (L + 1 + 1 + 1 + 1 + 1, o5) :: (L + 1 + 1 + 1 + 1 + 1 + 1, o6) :: (L + 1 + 1 + 1 + 1 + 1 + 1 + 1, o7) :: []) := ⟨_, _, _, _, _, _, _, _, _, _, _, _, _, N10⟩
  clear N10 N9 F9
  have q0 : (L + 1 + 1 + 1 + 1 + 1 + 1 + 1 < sz ∧ L + 1 ≠ cl ∧ L + 1 + 1 ≠ cl ∧ L + 1 + 1 + 1 ≠ cl ∧ L + 1 + 1 + 1 + 1 ≠ cl ∧ L + 1 + 1 + 1 + 1 + 1 ≠ cl ∧ L + 1 + 1 + 1 + 1 + 1 + 1 ≠ cl ∧ L + 1 + 1 + 1 + 1 + 1 + 1 + 1 ≠ cl) ∧ cl < sz ∧ sz < cd1 ∧ cd1 < c1 ∧ c1 < dm1 ∧ dm1 < dq1 ∧ dq1 < ld1 ∧ ld1 < lk1 ∧ lk1 < cd2 ∧ cd2 < c2 ∧ c2 < dm2 ∧ dm2 < dq2 ∧ dq2 < ld2 ∧ ld2 < lk2 ∧ lk2 < ca ∧ ca < kn ∧ ca < k1 ∧ ca < k2 ∧ k1 ≠ k2 ∧ k1 ≠ kn ∧ k2 ≠ kn := ⟨⟨hlt.1, hne⟩, hlt.2, la.1, lb, lc.1, ld.1, le.1, lf, lg.1, lh, li.1, lj.1, lk.1, ll, lm.1, lp.2.2.1, ln.1, lo.2.1, Nat.ne_of_lt lo.1, Nat.ne_of_lt lp.2.1, Nat.ne_of_lt lp.1⟩
  have N12 : News h₀ L h10 ((L + 1, oo1) :: (L + 1 + 1, o2) :: (L + 1 + 1 + 1, o3) :: (L + 1 + 1 + 1 + 1, o4) :: (L + 1 + 1 + 1 + 1 + 1, o5) :: (L + 1 + 1 + 1 + 1 + 1 + 1, o6) :: (L + 1 + 1 + 1 + 1 + 1 + 1 + 1, o7) :: (cl, listOf vs.toArray ncl) :: (sz, listOf #[.int cap1 u1, .int cap2 u2] nsz) :: (ca, listOf #[.ref c1, .ref c2] nca) :: (kn, listOf #[.ref k1, .ref k2] nkn) :: (k1, ko1) :: (k2, ko2) :: (c1, instObj 169 cd1) :: (cd1, cdObj w dm1 dq1 lk1 cap1 ua1 ta1 tb1 tc1 td1) :: (dm1, od1) :: (dq1, listOf (svs []) 0) :: (lk1, instObj 45 ld1) :: (ld1, dictOf [] 0) :: (c2, instObj 169 cd2) :: (cd2, cdObj w dm2 dq2 lk2 cap2 ua2 ta2 tb2 tc2 td2) :: (dm2, od2) :: (dq2, listOf (svs []) 0) :: (lk2, instObj 45 ld2) :: (ld2, dictOf [] 0) :: []) := fun q hq => N11 q (by simp only [List.mem_cons, List.mem_nil_iff, or_false] at hq ⊢; rcases hq with h | h | h | h | h | h | h | h | h | h | h | h | h | h | h | h | h | h | h | h | h | h | h | h | h <;> simp only [h, true_or, or_true])
  clear N11 la lb lc ld le lf lg lh li lj lk ll lm ln lo lp lq
  k_steps
  exact h _ _ (fun y => if y = Str.ofString "caches" then some (.ref ca) else m y) _ ca kn c1 cd1 dm1 dq1 lk1 ld1 c2 cd2 dm2 dq2 lk2 ld2 nca ua1 ua2 ta1 ta2 tb1 tb2 tc1 tc2 td1 td2 ⟨mcl, msz, rfl, oo1, o2, o3, o4, o5, o6, o7, ko1, ko2, od1, od2, y2, y3, y4, y5, y6, y7, k1, k2, nkn, 0, 0, [], [], [], [], [], [], rfl, d1, x2, x3, x4, x5, x6, x7, q0, hd1, lo1, hd2, lo2, hk1, lok1, hk2, lok2, inv_nil (by omega) cp.2, Nat.le_refl _, Nat.le_refl _⟩ F10 N12
end
end
section
local macro_rules | `(tactic| walk_at "idle line 0") => `(tactic| fail)
local macro_rules | `(tactic| walk_at "idle line 1") => `(tactic| fail)
local macro_rules | `(tactic| walk_at "idle line 2") => `(tactic| fail)
local macro_rules | `(tactic| walk_at "idle line 3") => `(tactic| fail)
local macro_rules | `(tactic| walk_at "call type:list") => `(tactic| (k_here; (with_reducible show wpAny _ _ (call (Value.type "list") [Value.ref _]) _ _ _); k_dflt (refine' list_c (base := ?bb) (A₀ := ?aa) ?C rfl ?u ?o ?d ?lo ?z ?_; (case C => exact ⟨by assumption, by assumption, by assumption, by assumption, by assumption, rfl, rfl, rfl, by (rw [depth_deeper]; dsimp only; omega), by (rw [units_deeper]; dsimp only; omega)⟩); (case u => rw [units_deeper]; dsimp only; omega); (case o => exact ⟨by assumption, by assumption, by assumption, by assumption, by assumption⟩); (case d => assumption); (case lo => assumption); (case z => exact ⟨by assumption, by assumption⟩)); intro h' tk' D' n' F' N' l1; (try k_sweep)))
local macro_rules | `(tactic| walk_at "call ref") => `(tactic| (k_here; (with_reducible show wpAny _ _ (call (Value.ref 140) _) _ _ _); refine wpAny_call ?_; k_dflt (refine' items_c (base := ?bb) (A₀ := ?aa) ?C rfl ?o ?d ?lo ?z ?x ?m ?_; (case C => exact ⟨by assumption, by assumption, by assumption, by assumption, by assumption, rfl, rfl, rfl, by (rw [depth_deeper]; dsimp only; omega), by (rw [units_deeper]; dsimp only; omega)⟩); (case x => rw [depth_deeper, units_deeper]; dsimp only; omega); (case o => exact ⟨by assumption, by assumption, by assumption, by assumption, by assumption⟩); (case d => assumption); (case lo => assumption); (case z => exact ⟨by assumption, by assumption⟩); (case m => assumption)); intro h' tk' D' n' tl' ys' F' N' ht' hT' off'; (try k_sweep)))
local macro_rules | `(tactic| k_mem) => `(tactic| first | with_reducible exact List.mem_cons_self | with_reducible assumption | (with_reducible refine List.mem_cons_of_mem _ ?_; k_mem))
local macro_rules | `(tactic| walk_at "eval Name") => `(tactic| (k_here; k_dflt (refine' nameX_L ?F ?v ?_ ?a ?b; (case a => rfl); (case b => rfl); (case F => k_asm); (case v => assumption))))
section
variable {prog : Program} {w : World} {h₀ : Heap} {L fa : Nat} {cv : Value} {mean : ExcName → Option Value} {mg mb : Str → Option Value} {s : Shared} {m : Str → Option Value} {Q : Flow → Shared → Prop} {E : Value → Shared → Prop}
  {o1 o2 o3 o4 o5 o6 o7 : Obj} {cl sz : Nat} {vs : List Value} {ns : List Int} {ncl nsz : Nat} {cap1 cap2 : Int} {u1 u2 : Nat} {y1 y2 y3 y4 y5 y6 y7 : Option Value}
set_option maxRecDepth 100000 in
set_option maxHeartbeats 8000000 in
theorem loop4 (B : Below callerA h₀ [] h₀) (X : (Mine.hd.heap_39 w.params).In h₀) (T : TT mean mg mb h₀) (F : Fr h₀ L s.heap m) {ca kn c1 cd1 dm1 dq1 lk1 ld1 c2 cd2 dm2 dq2 lk2 ld2 nca ua1 ua2 ta1 ta2 tb1 tb2 tc1 tc2 td1 td2 : Nat} {nw : List (Addr × Obj)} (N : News h₀ L s.heap nw) (hJ : Jst prog w L cl sz ca kn c1 cd1 dm1 dq1 lk1 ld1 c2 cd2 dm2 dq2 lk2 ld2 ncl nsz nca u1 u2 ua1 ua2 ta1 ta2 tb1 tb2 tc1 tc2 td1 td2 cap1 cap2 vs 0 m nw) (hi : IntsAre vs ns) (hb : ∀ x ∈ ns, 0 ≤ x ∧ x < 10000) (hz : 4 ≤ ns.length ∧ ns.length ≤ 35) (cp : 1 ≤ cap1 ∧ cap1 ≤ cap2 ∧ cap2 ≤ 900)
    (h : ∀ h' tk m', Fr h₀ L h' m' → Q .next { s with heap := h', toks := tk }) :
    wpAny (model prog w) (callerA.deeper (lawE w L fa cv)) (exec (forS w) (lawE w L fa cv)) Q E s := by
  have hkl : vs.length = ns.length := IntsAre.length hi
  obtain ⟨z1, z2⟩ := hz
  have hJ' := hJ
  obtain ⟨mcl, msz, mca, o1, o2, o3, o4, o5, o6, o7, ko1, ko2, od1, od2, y2, y3, y4, y5, y6, y7, k1, k2, nkn, nq1, nq2, ps1, ps2, kvs1, kvs2, kk1, kk2, rfl, -⟩ := hJ'
  unfold forS lawB lawF
  dsimp only [hdS, tlS, bodyS]
  show wpAny _ (callerA.deeper (envOfC "law" (lawS w) L fa cv)) (exec _ (envOfC "law" (lawS w) L fa cv)) _ _ _
  unfold lawS lawF
  dsimp only
  (try k_fold)
  refine for_range (h₀ := h₀) (L := L) (body := turnB w) ?_
  k_steps
  refine ⟨_, 1, ns.length, _, _, _, ns.length - 1, m, _, fun i m' nw' => Jst prog w L cl sz ca kn c1 cd1 dm1 dq1 lk1 ld1 c2 cd2 dm2 dq2 lk2 ld2 ncl nsz nca u1 u2 ua1 ua2 ta1 ta2 tb1 tb2 tc1 tc2 td1 td2 cap1 cap2 vs i m' nw', rfl, rfl, by assumption, by assumption, by assumption, small_one (by omega) (by omega) (by omega) (by omega), by rw [PySem.rangeSize_one]; split <;> omega, hJ, ?_, ?_⟩
  · intro i m' nw' I oI h2 tk2 t E' hi2 hJ2 F2 N2 off
    exact turnAll B X T hJ2 F2 N2 off hi ⟨by omega, by omega⟩ (by omega) hb cp (by omega)
  · intro m' nw' h2 tk2 hJ2 F2 N2
    (try k_unmd)
    (try k_unfold)
    (try dsimp only)
    exact h h2 _ _ F2
end
end
section
local macro_rules | `(tactic| walk_at "call type:list") => `(tactic| (k_here; (with_reducible show wpAny _ _ (call (Value.type "list") [Value.ref _]) _ _ _); k_dflt (refine' list_c (base := ?bb) (A₀ := ?aa) ?C rfl ?u ?o ?d ?lo ?z ?_; (case C => exact ⟨by assumption, by assumption, by assumption, by assumption, by assumption, rfl, rfl, rfl, by (rw [depth_deeper]; dsimp only; omega), by (rw [units_deeper]; dsimp only; omega)⟩); (case u => rw [units_deeper]; dsimp only; omega); (case o => exact ⟨by assumption, by assumption, by assumption, by assumption, by assumption⟩); (case d => assumption); (case lo => assumption); (case z => exact ⟨by assumption, by assumption⟩)); intro h' tk' D' n' F' N' l1; (try k_sweep)))
local macro_rules | `(tactic| walk_at "call ref") => `(tactic| (k_here; (with_reducible show wpAny _ _ (call (Value.ref 140) _) _ _ _); refine wpAny_call ?_; k_dflt (refine' items_c (base := ?bb) (A₀ := ?aa) ?C rfl ?o ?d ?lo ?z ?x ?m ?_; (case C => exact ⟨by assumption, by assumption, by assumption, by assumption, by assumption, rfl, rfl, rfl, by (rw [depth_deeper]; dsimp only; omega), by (rw [units_deeper]; dsimp only; omega)⟩); (case x => rw [depth_deeper, units_deeper]; dsimp only; omega); (case o => exact ⟨by assumption, by assumption, by assumption, by assumption, by assumption⟩); (case d => assumption); (case lo => assumption); (case z => exact ⟨by assumption, by assumption⟩); (case m => assumption)); intro h' tk' D' n' tl' ys' F' N' ht' hT' off'; (try k_sweep)))
local macro_rules | `(tactic| k_mem) => `(tactic| first | with_reducible exact List.mem_cons_self | with_reducible assumption | (with_reducible refine List.mem_cons_of_mem _ ?_; k_mem))
local macro_rules | `(tactic| walk_at "eval Name") => `(tactic| (k_here; k_dflt (refine' nameX_L ?F ?v ?_ ?a ?b; (case a => rfl); (case b => rfl); (case F => k_asm); (case v => assumption))))
section
variable {prog : Program} {w : World} {h₀ : Heap} {L fa : Nat} {cv : Value} {mean : ExcName → Option Value} {mg mb : Str → Option Value} {s : Shared} {m : Str → Option Value} {Q : Flow → Shared → Prop} {E : Value → Shared → Prop}
  {o1 o2 o3 o4 o5 o6 o7 : Obj} {cl sz : Nat} {vs : List Value} {ns : List Int} {ncl nsz : Nat} {cap1 cap2 : Int} {u1 u2 : Nat} {y1 y2 y3 y4 y5 y6 y7 : Option Value}
set_option maxRecDepth 100000 in
set_option maxHeartbeats 8000000 in
theorem last5 (h : Q (.ret (.bool true)) s) : wpAny (model prog w) (callerA.deeper (lawE w L fa cv)) (exec (hdS (tlS (tlS (tlS (tlS (tlS (lawB w))))))) (lawE w L fa cv)) Q E s := by
  unfold lawB lawF
  dsimp only [hdS, tlS, bodyS]
  show wpAny _ (callerA.deeper (envOfC "law" (lawS w) L fa cv)) (exec _ (envOfC "law" (lawS w) L fa cv)) _ _ _
  unfold lawS lawF
  dsimp only
  k_steps
  all_goals first
    | exact h
theorem lawAll (B : Below callerA h₀ [] h₀) (X : (Mine.hd.heap_39 w.params).In h₀) (T : TT mean mg mb h₀) (F : Fr h₀ L s.heap m) (N : News h₀ L s.heap ((L + 1, o1) :: (L + 1 + 1, o2) :: (L + 1 + 1 + 1, o3) :: (L + 1 + 1 + 1 + 1, o4) :: (L + 1 + 1 + 1 + 1 + 1, o5) :: (L + 1 + 1 + 1 + 1 + 1 + 1, o6) :: (L + 1 + 1 + 1 + 1 + 1 + 1 + 1, o7) :: [])) (x1 : o1.data = .cell y1) (x2 : o2.data = .cell y2) (x3 : o3.data = .cell y3) (x4 : o4.data = .cell y4) (x5 : o5.data = .cell y5) (x6 : o6.data = .cell y6) (x7 : o7.data = .cell y7) {sc : Nat} {vs0 : List Value} {ns0 : List Int} (msc : m (Str.ofString "script") = some (.ref sc)) (hL : h₀.IsList sc vs0.toArray) (hi : IntsAre vs0 ns0) (hz : ns0.length ≤ 63)
    (h : ∀ h' tk m', Fr h₀ L h' m' → Q (.ret (.bool true)) { s with heap := h', toks := tk }) :
    wpAny (model prog w) (callerA.deeper (lawE w L fa cv)) (execs (lawB w) (lawE w L fa cv)) Q E s := by
  show wpAny _ _ (execs [(hdS (lawB w)), (hdS (tlS (lawB w))), (hdS (tlS (tlS (lawB w)))), (hdS (tlS (tlS (tlS (lawB w))))), forS w, (hdS (tlS (tlS (tlS (tlS (tlS (lawB w)))))))] _) _ _ _
  refine ex_cons (pre0 B X T F N msc hL hi hz fun h1 tk1 cl ncl vs ns hi1 hb1 hz1 hne1 F1 N1 => ?_)
  dsimp only
  refine ex_cons (pre1 B X T F1 N1 rfl hi1 hb1 hz1 hne1 fun h2 tk2 m2 cl2 ncl2 vs2 ns2 hi2 hb2 hz2 hz2' mcl2 hne2 F2 N2 => ?_)
  dsimp only
  refine ex_cons (pre2 B X T F2 N2 mcl2 hi2 hb2 ⟨hz2, hz2'⟩ fun h3 tk3 sz cap1 cap2 u1 u2 c1 c2 c3 hlt F3 N3 => ?_)
  dsimp only
  refine ex_cons (pre3 B X T F3 N3 x1 x2 x3 x4 x5 x6 x7 mcl2 rfl hlt hne2 ⟨c1, c2⟩ fun h4 tk4 m4 nw ca kn c1 cd1 dm1 dq1 lk1 ld1 c2 cd2 dm2 dq2 lk2 ld2 nca ua1 ua2 ta1 ta2 tb1 tb2 tc1 tc2 td1 td2 hJ F4 N4 => ?_)
  dsimp only
  refine ex_cons (loop4 B X T F4 N4 hJ hi2 hb2 ⟨hz2, hz2'⟩ ⟨by assumption, by assumption, c3⟩ fun h5 tk5 m5 F5 => ?_)
  dsimp only
  refine ex_cons (last5 ?_)
  exact h h5 tk5 m5 F5
theorem rev7 {α : Type} {q a b c d e f g : α} (h : q ∈ [a, b, c, d, e, f, g]) : q ∈ [g, f, e, d, c, b, a] := by
  have := List.mem_reverse.mpr h
  simpa using this
end
end
section
local macro_rules | `(tactic| walk_at "call type:list") => `(tactic| (k_here; (with_reducible show wpAny _ _ (call (Value.type "list") [Value.ref _]) _ _ _); k_dflt (refine' list_c (base := ?bb) (A₀ := ?aa) ?C rfl ?u ?o ?d ?lo ?z ?_; (case C => exact ⟨by assumption, by assumption, by assumption, by assumption, by assumption, rfl, rfl, rfl, by (rw [depth_deeper]; dsimp only; omega), by (rw [units_deeper]; dsimp only; omega)⟩); (case u => rw [units_deeper]; dsimp only; omega); (case o => exact ⟨by assumption, by assumption, by assumption, by assumption, by assumption⟩); (case d => assumption); (case lo => assumption); (case z => exact ⟨by assumption, by assumption⟩)); intro h' tk' D' n' F' N' l1; (try k_sweep)))
local macro_rules | `(tactic| walk_at "call ref") => `(tactic| (k_here; (with_reducible show wpAny _ _ (call (Value.ref 140) _) _ _ _); refine wpAny_call ?_; k_dflt (refine' items_c (base := ?bb) (A₀ := ?aa) ?C rfl ?o ?d ?lo ?z ?x ?m ?_; (case C => exact ⟨by assumption, by assumption, by assumption, by assumption, by assumption, rfl, rfl, rfl, by (rw [depth_deeper]; dsimp only; omega), by (rw [units_deeper]; dsimp only; omega)⟩); (case x => rw [depth_deeper, units_deeper]; dsimp only; omega); (case o => exact ⟨by assumption, by assumption, by assumption, by assumption, by assumption⟩); (case d => assumption); (case lo => assumption); (case z => exact ⟨by assumption, by assumption⟩); (case m => assumption)); intro h' tk' D' n' tl' ys' F' N' ht' hT' off'; (try k_sweep)))
set_option maxRecDepth 100000 in
set_option maxHeartbeats 8000000 in
theorem FIN : PySem.Challenge.rw_co0006_01.Holds := Mine.hd (by
  k_go0
  rename_i o7 o6 o5 o4 o3 o2 o1 x7 x6 x5 x4 x3 x2 x1 N0 X0
  refine lawAll (by assumption) (by assumption) (by assumption) (by assumption) (fun q hq => N0 q (rev7 hq)) x1 x2 x3 x4 x5 x6 x7 (by rfl) (by assumption) (by assumption) (by omega) (fun h' tk m' F' => ?_)
  clear N0 X0
  k_steps)
end
end
end Mine
open PySem PySem.W PyProof.Rows
set_option maxRecDepth 100000 in
set_option maxHeartbeats 8000000 in
theorem PySem.Challenge.cw_co0006_01_holds : PySem.Challenge.rw_co0006_01.Holds := by
  exact Mine.FIN
