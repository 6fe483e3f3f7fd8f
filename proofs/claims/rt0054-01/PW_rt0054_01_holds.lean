import PyProof.Rows.All
import PyProof.EnumMake
import PyProof.WalksEnum
import KE.BitLaws
import KE.KBytesWalk
import KE.KLam
import KE.KDictIter
import KE.KLcPair
import KE.KMinKey
import KE.KRevIter
import KE.KRevSl
import KE.KSortTup
import Wide.FinOn
import OpenK.AllK
import Wide.All
import Lean
import PySem.Challenge.RW_rt0054_01
set_option Elab.async false
set_option compiler.extract_closed false
section
open PySem PySem.W PyProof.Rows
set_option maxRecDepth 100000
set_option maxHeartbeats 8000000
namespace Mine
local macro_rules | `(tactic| o_head $_) => `(tactic| assumption)
/-- only for the objects that k_head writes out (hd.heap_1) -/
theorem hd : PySem.Challenge.rw_rt0054_01.row.Holds → PySem.Challenge.rw_rt0054_01.row.Holds := by
  intro h
  k_head
end Mine
end
section
open PySem PySem.W PySem.Calls PyProof.Rows
set_option maxRecDepth 100000
set_option maxHeartbeats 4000000
namespace Mine
theorem k_flat {α : Type} {M : Model} {A : Around} {t : Sem α} {Q : α → Shared → Prop} {E : Value → Shared → Prop} {s : Shared} {h : Heap} {tk : Nat} (H : ∀ tk, wpAny M A t Q E { heap := h, gens := s.gens, drawn := s.drawn, toks := tk, os := s.os }) : wpAny M A t Q E { heap := h, gens := s.gens, drawn := s.drawn, toks := tk, os := s.os } := H tk
theorem k_flat1 {α : Type} {M : Model} {A : Around} {t : Sem α} {Q : α → Shared → Prop} {E : Value → Shared → Prop} {s : Shared} {h : Heap} {tk k : Nat} (H : ∀ tk, wpAny M A t Q E { heap := h, gens := s.gens, drawn := s.drawn, toks := tk, os := s.os }) : wpAny M A t Q E { heap := h, gens := s.gens, drawn := s.drawn, toks := tk + k, os := s.os } := H _
theorem hideG {G : Prop} (h : ∀ g : Prop, (G → g) → g) : G := h G id
/-- the order of lists of ints -/
noncomputable def lexI : List Int → List Int → Bool
  | [], [] => false
  | [], _ :: _ => true
  | _ :: _, [] => false
  | x :: xs, y :: ys => if x = y then lexI xs ys else decide (x < y)

theorem ints_at {vs : List Value} {ns : List Int} (h : IntsAre vs ns) (i : Nat) (hi : i < ns.length) : ∃ t, vs[i]? = some (.int ns[i] t) := by
  obtain ⟨t, ht⟩ := h.get i ns[i] (List.getElem?_eq_getElem hi)
  exact ⟨t, ht⟩

theorem lt_loop (l b : Addr) (va vb : List Value) (na nb : List Int) (n n2 : Nat) (ha : IntsAre va na) (hb : IntsAre vb nb) (k : Nat) :
    ∀ i : Nat, na.length - i = k → Meets (Builtin.«list.__eq__.loop» ⟨[.ref l, .ref b, rawInt i, rawInt 0], []⟩)
      (fun _ R s => s.heap.get? l = some (listOf va.toArray n) ∧ s.heap.get? b = some (listOf vb.toArray n2) ∧
        (i ≤ na.length ∧ i ≤ nb.length) ∧ R (.ok (.ret (.bool (lexI (na.drop i) (nb.drop i))))) s) := by
  have la : va.length = na.length := ha.length
  have lb : vb.length = nb.length := hb.length
  have hend : ∀ i, i ≤ na.length → i ≤ nb.length → (i = na.length ∨ i = nb.length) → lexI (na.drop i) (nb.drop i) = decide (na.length < nb.length) := by
    intro i h1 h2 h3
    rcases Nat.lt_or_ge i na.length with q1 | q1
    · have e : nb.drop i = [] := List.drop_eq_nil_of_le (by lia)
      rw [e, List.drop_eq_getElem_cons q1]
      simp [lexI]; lia
    · have e : na.drop i = [] := List.drop_eq_nil_of_le (by lia)
      rw [e]
      rcases Nat.lt_or_ge i nb.length with q2 | q2
      · rw [List.drop_eq_getElem_cons q2]; simp [lexI]; lia
      · rw [List.drop_eq_nil_of_le q2]; simp [lexI]; lia
  induction k with
  | zero =>
    intro i hk prog w A R s h
    obtain ⟨hp, g, d, tk, os⟩ := s; obtain ⟨hl, hb', ⟨hi1, hi2⟩, h⟩ := h
    have hie : i = na.length := Nat.le_antisymm hi1 (Nat.sub_eq_zero_iff_le.mp hk)
    rw [hend i hi1 hi2 (.inl hie)] at h
    wp_walk using wpAny_loadPart' hl, wpAny_loadPart' hb'
    have e1 : va.toArray[((i : Nat) : Int).toNat]? = none := by simp; lia
    rw [e1]
    wp_walk using wpAny_loadPart' hl, wpAny_loadPart' hb'
    show R (.ok (.ret (.bool (decide (va.toArray.size < vb.toArray.size))))) _
    simpa [la, lb] using h
  | succ k ih =>
    intro i hk prog w A R s h
    obtain ⟨hp, g, d, tk, os⟩ := s; obtain ⟨hl, hb', ⟨hi1, hi2⟩, h⟩ := h
    have hlt : i < na.length := Nat.lt_of_sub_ne_zero (by rw [hk]; exact Nat.succ_ne_zero k)
    obtain ⟨t, ht⟩ := ints_at ha i hlt
    have e1 : va.toArray[((i : Nat) : Int).toNat]? = some (.int na[i] t) := by simpa using ht
    wp_walk using wpAny_loadPart' hl, wpAny_loadPart' hb'
    rw [e1]
    rcases Nat.lt_or_ge i nb.length with q2 | q2
    · obtain ⟨u, hu⟩ := ints_at hb i q2
      have e2 : vb.toArray[((i : Nat) : Int).toNat]? = some (.int nb[i] u) := by simpa using hu
      rw [e2]
      rw [List.drop_eq_getElem_cons hlt, List.drop_eq_getElem_cons q2] at h
      refine wpAny_bind (wpAny_eqBool_int ?_)
      by_cases he : na[i] = nb[i]
      · have he' : (na[i] == nb[i]) = true := by simpa using he
        rw [he']
        simp only [lexI, if_pos he] at h
        have hc : ((i : Int) + 1) = ((i + 1 : Nat) : Int) := by push_cast; rfl
        wp_walk
        rw [hc]
        exact ⟨plainId_quiet MeetsSeq3.plain_eq_loop _, codeAny_builtin MeetsSeq3.entry_eq_loop (by
          rw [Around.under_plainId MeetsSeq3.plain_eq_loop _]
          exact ih (i + 1) (by rw [Nat.sub_succ, hk]; rfl) prog w A R _ ⟨hl, hb', ⟨hlt, q2⟩, h⟩)⟩
      · have he' : (na[i] == nb[i]) = false := by simpa using he
        rw [he']
        simp only [lexI, if_neg he] at h
        wp_walk using wpAny_loadPart' hl, wpAny_loadPart' hb'
        rw [e1, e2]
        refine wpAny_bind (lt_int (Q := fun v s' => _) ?_)
        wp_walk
        exact h
    · have e2 : vb.toArray[((i : Nat) : Int).toNat]? = none := by simp; lia
      rw [e2]
      rw [hend i hi1 hi2 (.inr (Nat.le_antisymm hi2 q2))] at h
      wp_walk using wpAny_loadPart' hl, wpAny_loadPart' hb'
      show R (.ok (.ret (.bool (decide (va.toArray.size < vb.toArray.size))))) _
      simpa [la, lb] using h
theorem lt_list {prog : Program} {w : World} {A : Around} {E : Value → Shared → Prop} {s : Shared} {l b : Addr} {va vb : List Value} {na nb : List Int} {n n2 : Nat} {Q : Value → Shared → Prop}
    (ha : IntsAre va na) (hb : IntsAre vb nb) (hl : s.heap.get? l = some (listOf va.toArray n)) (hb' : s.heap.get? b = some (listOf vb.toArray n2)) (hu : A.units < cLine)
    (h : Q (.bool (lexI na nb)) s) : wpAny (model prog w) A (richCompare .Lt (.ref l) (.ref b)) Q E s := by
  have g : Meets (Builtin.«list.__lt__» ⟨[.ref l, .ref b], []⟩) (fun _ R s => s.heap.get? l = some (listOf va.toArray n) ∧ s.heap.get? b = some (listOf vb.toArray n2) ∧ R (.ok (.ret (.bool (lexI na nb)))) s) := by
    intro prog w A R s h
    obtain ⟨hp, g, d, tk, os⟩ := s; obtain ⟨hl, hb', h⟩ := h
    have f3 := AutoSeq1.sub_list_list
    wp_walk using wpAny_loadPart' hl, wpAny_loadPart' hb'
    exact ⟨plainId_quiet MeetsSeq3.plain_eq_loop _, codeAny_builtin MeetsSeq3.entry_eq_loop (by
      rw [Around.under_plainId MeetsSeq3.plain_eq_loop _]
      exact lt_loop l b va vb na nb n n2 ha hb _ 0 rfl prog w A R _ ⟨hl, hb', ⟨Nat.zero_le _, Nat.zero_le _⟩, by simpa using h⟩)⟩
  exact richCompare_meets_room (op := .Lt) ⟨_, hl, rfl⟩ ⟨_, hb', rfl⟩ F.slot_list_lt F.entry_list_lt (F.args_list_lt_2 _ _) g
    ⟨hl, hb', show Value.bool (lexI na nb) ≠ Value.notImplemented ∧ Q (.bool (lexI na nb)) s from ⟨(fun x => nomatch x), h⟩⟩ hu

noncomputable abbrev tupO (vs : List Value) (n : Nat) : Obj := { cls := .type "tuple", data := .seq vs.toArray n }

theorem eqB_ints {va vb : List Value} {na nb : List Int} (ha : IntsAre va na) (hb : IntsAre vb nb) {A : Around} {s : Shared} {l b : Addr} {n n2 : Nat} (hl : s.heap.get? l = some (listOf va.toArray n)) (hb' : s.heap.get? b = some (listOf vb.toArray n2)) (hu : A.units < cLine) :
    SeqAt.EqAt A s (.ref l) (.ref b) (decide (na = nb)) := by
  have la : va.length = na.length := ha.length
  have lb : vb.length = nb.length := hb.length
  by_cases hlb : l = b
  · subst hlb
    rw [hl] at hb'
    have e1 : va.toArray = vb.toArray := by injection hb' with e; injection e with _ _ e _; injection e
    have e2 : va = vb := by simpa using e1
    subst e2
    have e3 : na = nb := by
      apply List.ext_getElem (by lia)
      intro i h1 h2
      obtain ⟨t, ht⟩ := ints_at ha i h1
      obtain ⟨u, hu⟩ := ints_at hb i h2
      rw [ht] at hu; injection hu with hu; injection hu
    rw [decide_eq_true e3]
    exact SeqAt.EqAt.same _
  · have hla : s.heap.IsList l va.toArray := ⟨_, hl, rfl, _, rfl⟩
    have hlb' : s.heap.IsList b vb.toArray := ⟨_, hb', rfl, _, rfl⟩
    refine SeqAt.EqAt.of_refs hlb ?_
    by_cases hsz : na.length = nb.length
    · have e : decide (na = nb) = (List.range va.toArray.size).all (fun i => na.getD i 0 == nb.getD i 0) := by
        rw [Bool.eq_iff_iff]
        simp only [decide_eq_true_eq, List.all_eq_true, List.mem_range, List.size_toArray, beq_iff_eq, la]
        constructor
        · rintro rfl i _; rfl
        · intro h
          apply List.ext_getElem hsz
          intro i h1 h2
          have := h i h1
          simpa [List.getD_eq_getElem?_getD, h1, h2] using this
      rw [e]
      refine SeqAt.RcAt.lists hla hlb' (by simp; lia) hu fun j h1 h2 => ?_
      have h1' : j < na.length := by simpa [la] using h1
      have h2' : j < nb.length := by lia
      obtain ⟨t, ht⟩ := ints_at ha j h1'
      obtain ⟨u, hu⟩ := ints_at hb j h2'
      have q1 : va.toArray[j] = .int na[j] t := by
        have := (List.getElem?_eq_some_iff.mp ht).2; simpa using this
      have q2 : vb.toArray[j] = .int nb[j] u := by
        have := (List.getElem?_eq_some_iff.mp hu).2; simpa using this
      rw [q1, q2]
      have q3 : (na.getD j 0 == nb.getD j 0) = (na[j] == nb[j]) := by simp [List.getD_eq_getElem?_getD, h1', h2']
      rw [q3]
      exact fun prog w E Q hq => wpAny_eqBool_int hq
    · have e : decide (na = nb) = false := by
        simp only [decide_eq_false_iff_not]; rintro rfl; exact hsz rfl
      rw [e]
      exact SeqAt.RcAt.lists_lengths hla hlb' (by simp; lia) hu
noncomputable def LtAt (A : Around) (s : Shared) (x y : Value) (b : Bool) : Prop :=
  ∀ (prog : Program) (w : World) (E Q : Value → Shared → Prop), Q (.bool b) s → wpAny (model prog w) A (richCompare .Lt x y) Q E s
inductive LexOK (A : Around) (s : Shared) (fin : Bool) : List (Value × Value) → Bool → Prop
  | nil : LexOK A s fin [] fin
  | eq {x y : Value} {r : List (Value × Value)} {b : Bool} : SeqAt.EqAt A s x y true → LexOK A s fin r b → LexOK A s fin ((x, y) :: r) b
  | ne {x y : Value} {r : List (Value × Value)} {b : Bool} : SeqAt.EqAt A s x y false → LtAt A s x y b → LexOK A s fin ((x, y) :: r) b
theorem lt_tupG {l b : Addr} {va vb : List Value} {k k2 : Nat} {z : Bool} :
    Meets (Builtin.«tuple.__lt__» ⟨[.ref l, .ref b], []⟩) (fun A R s => s.heap.get? l = some (tupO va k) ∧ s.heap.get? b = some (tupO vb k2) ∧ LexOK A.in1 s (decide (va.length < vb.length)) (va.zip vb) z ∧ R (.ok (.ret (.bool z))) s) := by
  intro prog w A R s h
  obtain ⟨hp, g, d, tk, os⟩ := s; obtain ⟨hl, hb', hz, h⟩ := h
  have f3 := AutoSeq1.sub_tuple_tuple
  wp_walk using wpAny_loadPart' hl, wpAny_loadPart' hb'
  show wpAny _ _ (forIn (va.zip vb) ((none : Option PySem.Fin), ()) _) _ _ _
  clear hl hb'
  generalize hps : va.zip vb = ps at hz ⊢
  clear hps
  induction hz with
  | nil =>
    rw [List.forIn_nil]
    refine wpAny_pure ?_
    dsimp only
    show wpAny _ _ (ret _) _ _ _
    refine wpAny_pure ?_
    simpa [Builtin.Tuple.tupleCompareSizes] using h
  | eq he _ ih =>
    rw [List.forIn_cons]
    refine wpAny_bind ?_
    dsimp only
    refine wpAny_bind (he prog w _ _ ?_)
    simp only [Bool.not_true, Bool.false_eq_true, if_false]
    exact wpAny_pure (ih h)
  | ne he hn =>
    rw [List.forIn_cons]
    refine wpAny_bind ?_
    dsimp only
    refine wpAny_bind (he prog w _ _ ?_)
    simp only [Bool.not_false, if_true]
    refine wpAny_bind (wpAny_rule (wpAny_bind (hn prog w _ _ ?_)))
    refine wpAny_bind (wpAny_pure (wpAny_pure ?_))
    exact wpAny_pure (wpAny_pure h)
theorem lt_tup {prog : Program} {w : World} {A : Around} {E : Value → Shared → Prop} {s : Shared} {l b : Addr} {va vb : List Value} {k k2 : Nat} {Q : Value → Shared → Prop} {z : Bool}
    (hl : s.heap.get? l = some (tupO va k)) (hb' : s.heap.get? b = some (tupO vb k2)) (hu : A.units < cLine) (hz : LexOK A.in1 s (decide (va.length < vb.length)) (va.zip vb) z)
    (h : Q (.bool z) s) : wpAny (model prog w) A (richCompare .Lt (.ref l) (.ref b)) Q E s :=
  richCompare_meets_room (op := .Lt) ⟨_, hl, rfl⟩ ⟨_, hb', rfl⟩ F.slot_tuple_lt F.entry_tuple_lt (F.args_tuple_lt_2 _ _) lt_tupG
    ⟨hl, hb', hz, show Value.bool _ ≠ Value.notImplemented ∧ Q _ s from ⟨(fun x => nomatch x), h⟩⟩ hu
theorem ee {y c d : Int} (hc : 0 < c) : y % (c * d) / c = y / c % d := by
  rw [Int.emod_def, Int.emod_def, Int.ediv_ediv_of_nonneg (Int.le_of_lt hc), Int.mul_assoc, Int.sub_eq_add_neg, ← Int.mul_neg, Int.add_mul_ediv_left _ _ (Int.ne_of_gt hc)]
  rfl
theorem mm {a u c d : Int} (h : 0 ≤ u) (h' : u < c) (hd : 0 < d) : (a * c + u) % (c * d) = a % d * c + u := by
  have r0 := Int.emod_nonneg a (Int.ne_of_gt hd)
  have r1 := Int.emod_lt_of_pos a hd
  have hc : 0 < c := Int.lt_of_le_of_lt h h'
  have e : a * c + u = (a % d * c + u) + (c * d) * (a / d) := by
    conv => lhs; rw [← Int.emod_add_mul_ediv a d]
    rw [Int.add_mul, Int.mul_comm c d, Int.mul_assoc d c, Int.mul_comm c (a / d), ← Int.mul_assoc d, Int.add_right_comm]
  rw [e, Int.add_mul_emod_self_left]
  refine Int.emod_eq_of_lt (Int.add_nonneg (Int.mul_nonneg r0 (Int.le_of_lt hc)) h) ?_
  refine Int.lt_of_lt_of_le (Int.add_lt_add_left h' _) ?_
  rw [show a % d * c + c = (a % d + 1) * c by rw [Int.add_mul, Int.one_mul], Int.mul_comm c d]
  exact Int.mul_le_mul_of_nonneg_right r1 (Int.le_of_lt hc)
theorem mm2 {x c d : Int} (hc : 0 < c) (hd : 0 < d) : x / c % d * c + x % c = x % (c * d) := by
  have h := mm (a := x / c) (Int.emod_nonneg x (Int.ne_of_gt hc)) (Int.emod_lt_of_pos x hc) hd
  rw [Int.ediv_mul_add_emod] at h
  exact h.symm
theorem sub_step {i n : Nat} (h : i < n) : n + 1 - (i + 1) < n + 1 - i := Nat.sub_lt_sub_left (Nat.lt_succ_of_lt h) (Nat.lt_succ_self i)
theorem toNat_lt {k : Int} {n : Nat} (h0 : 0 ≤ k) (h : k < n) : k.toNat < n := (Int.toNat_lt h0).mpr h
theorem ltW {a b c : Nat} (h : a < b) (e : Nat.ble b c = true) : a < c := Nat.lt_of_lt_of_le h (Nat.le_of_ble_eq_true e)
theorem ltI {a b c : Nat} (h : a < b) (e : Nat.ble b c = true) : (a : Int) < (c : Int) := Int.ofNat_lt.mpr (ltW h e)
theorem half_lt {p q : Nat} (h : p < q) : (p - 1) / 2 < q := Nat.lt_of_le_of_lt (Nat.le_trans (Nat.div_le_self ..) (Nat.sub_le ..)) h
theorem half_lt' {p : Nat} (h : 0 < p) : (p - 1) / 2 < p := Nat.lt_of_le_of_lt (Nat.div_le_self ..) (Nat.sub_lt h Nat.one_pos)
end Mine
end
section
open PySem PySem.W PySem.Calls PyProof.Rows
set_option maxRecDepth 100000
set_option maxHeartbeats 8000000
namespace Mine
noncomputable abbrev Led := List (Addr × Obj)
noncomputable abbrev PG : Program := PySem.Challenge.rw_rt0054_01.row.prog
noncomputable def Fn (w : World) (dD uU : Nat) (f : Value) (args : List Value) (news : Led) (P : Value → Led → Prop) : Prop :=
  ∀ (p : Program) (loose : List Str) (mean : ExcName → Option Value) (mg mb : Str → Option Value)
    (dp un : Nat) (gd : Option (List Code)) (cn : Str) (cs : Scope) (a : Addr) (ccd : Value) (cl : List (Str × Addr)) (outer : List Env) (A₀ : Around) (base h₀ : Heap) (L : Addr) (m : Str → Option Value) (s : Shared)
    (Q E : Value → Shared → Prop),
    Below A₀ base outer h₀ → Fr h₀ L s.heap m → (Mine.hd.heap_1 w.params).In h₀ → News h₀ L s.heap news → Top p loose mean mg mb h₀ → cs.kind = .function → dp + dD < recursionLimit → un + uU < cLine →
    (∀ r news' h' tk', Fr h₀ L h' m → News h₀ L h' news' → P r news' → Q r { s with heap := h', toks := tk' }) →
    wpAny (model PG w) (ktrTop dp un gd cn cs L a ccd cl outer) (call f args) Q E s

/-- what holds of two items' comparison -/
noncomputable def CmpOn {α : Type} (val : α → Value) (lt : α → α → Bool) (S : List α) (news : Led) : Prop :=
  ∀ x ∈ S, ∀ y ∈ S, ∀ (A : Around) (s : Shared) (h₀ : Heap) (L : Addr) (news' : Led), (∀ p ∈ news, p ∈ news') → News h₀ L s.heap news' → A.units + 10 < cLine → LtAt A s (val x) (val y) (lt x y)

noncomputable def ovr : List (Str × Value) → (Str → Option Value) → Str → Option Value
  | [], u, y => u y
  | (k, v) :: r, u, y => if y = k then some v else ovr r u y
theorem ovr_of {m : Str → Option Value} : ∀ {l : List (Str × Value)}, (∀ p ∈ l, m p.1 = some p.2) → m = ovr l m
  | [], _ => rfl
  | (k, v) :: r, h => by
    funext y
    show m y = if y = k then some v else ovr r m y
    by_cases e : y = k
    · rw [if_pos e, e]; exact h (k, v) (.head _)
    · rw [if_neg e]; exact congrFun (ovr_of fun p hp => h p (.tail _ hp)) y

section
variable {prog : Program} {w : World} {A : Around} {E : Value → Shared → Prop} {s : Shared} {h₀ : Heap} {L a : Addr} {m : Str → Option Value} {news : Led} {n : Nat} {k : Int} {u : Tok}
theorem it_at {α : Type} [Inhabited α] {val : α → Value} {its : List α} {value slice : Expr} {Q : Value → Shared → Prop} (N : News h₀ L s.heap news) (hm : (a, listOf (its.map val).toArray n) ∈ news) (h0 : 0 ≤ k) (h1 : k < its.length) (hf : its.length < 2 ^ 62)
    (h : Q (val (its.getD k.toNat default)) s)
    (hs : subscripted slice false (.ref a) (.int k u) = operate [.ref a, .int k u] (getItem (.ref a) (.int k u))) (hg : ∀ r, letTemporaryGo value (.ref a) r = pure ()) :
    wpAny (model prog w) A (subscriptTail value slice (.ref a) (.int k u)) Q E s := by
  have hk : k.toNat < its.length := toNat_lt h0 h1
  refine kim_list N hm rfl rfl h0 (by lia) (x := val (its.getD k.toNat default)) ?_ h hs hg
  rw [List.getElem?_map, List.getD_eq_getElem?_getD, List.getElem?_eq_getElem hk]; rfl
theorem set_at {α : Type} {val : α → Value} {its : List α} {x : α} {Q : Unit → Shared → Prop} (F : Fr h₀ L s.heap m) (N : News h₀ L s.heap ((a, listOf (its.map val).toArray n) :: news)) (hoff : ∀ p ∈ news, p.1 ≠ a) (h0 : 0 ≤ k) (h1 : k < its.length) (hf : its.length < 2 ^ 62)
    (h : ∀ h', Fr h₀ L h' m → News h₀ L h' ((a, listOf ((its.set k.toNat x).map val).toArray n) :: news) → Q () { s with heap := h' }) :
    wpAny (model prog w) A (setItem (.ref a) (.int k u) (val x)) Q E s := by
  have z := N _ (.head _)
  refine ki_setAt z.1 h0 (by lia) (by simpa using h1) (h _ (F.change (Heap.SameBut.update ..) z.2.1 z.2.2) (ki_turn (pre := []) _ N (fun _ hp => (nomatch hp)) hoff ?_ ?_))
  · apply Array.toList_inj.mp; simp [List.map_set]
  · simp
end

section
variable {prog : Program} {w : World} {A : Around} {E : Value → Shared → Prop} {s : Shared} {h₀ : Heap} {L a : Addr} {m : Str → Option Value} {news : Led} {n : Nat} {k : Int} {u : Tok}
theorem len_at {α : Type} {val : α → Value} {its : List α} {Q : Value → Shared → Prop} (N : News h₀ L s.heap news) (hm : (a, listOf (its.map val).toArray n) ∈ news) (hf : its.length < 2 ^ 62)
    (h : ∀ t tk, Q (.int its.length t) { s with toks := tk }) : wpAny (model prog w) A (call (.builtin "len") [.ref a]) Q E s := by
  have hl : s.heap.IsList a (its.map val).toArray := ⟨_, (N _ hm).1, rfl, _, rfl⟩
  have e : (its.map val).toArray.size = its.length := by simp
  refine Calls.call_len_list hl (by lia) ?_
  rw [e]
  exact h _ _
theorem app_at {α : Type} {val : α → Value} {its : List α} {x : α} {Q : Value → Shared → Prop} (F : Fr h₀ L s.heap m) (N : News h₀ L s.heap ((a, listOf (its.map val).toArray n) :: news)) (hoff : ∀ p ∈ news, p.1 ≠ a) (hf : its.length ≤ sizeLine)
    (h : ∀ h', Fr h₀ L h' m → News h₀ L h' ((a, listOf ((its ++ [x]).map val).toArray (n + 1)) :: news) → Q .none { s with heap := h' }) : wpAny (model prog w) A (call (.builtin "list.append") [.ref a, val x]) Q E s := by
  refine append_K F N (.head hoff) (fun h' F' N' => ?_) (by simpa using hf)
  have e : (its.map val).toArray.push (val x) = ((its ++ [x]).map val).toArray := by simp
  rw [e] at N'
  exact h h' F' N'
theorem pop_at {α : Type} {val : α → Value} {its : List α} {x : α} {Q : Value → Shared → Prop} (F : Fr h₀ L s.heap m) (N : News h₀ L s.heap ((a, listOf ((its ++ [x]).map val).toArray n) :: news)) (hoff : ∀ p ∈ news, p.1 ≠ a) (hf : (its ++ [x]).length ≤ sizeLine)
    (h : ∀ h', Fr h₀ L h' m → News h₀ L h' ((a, listOf (its.map val).toArray (n + 1)) :: news) → Q (val x) { s with heap := h' }) : wpAny (model prog w) A (call (.builtin "list.pop") [.ref a]) Q E s := by
  refine kl_pop (p := its.map val) (y := val x) F N (by simpa using kpa_last (val x) (its.map val)) (.head hoff) (by simpa using hf) h
theorem truthy_at {α : Type} {val : α → Value} {its : List α} {Q : Bool → Shared → Prop} (N : News h₀ L s.heap news) (hm : (a, listOf (its.map val).toArray n) ∈ news) (hf : its.length < 2 ^ 62)
    (h : ∀ tk, Q (decide (0 < its.length)) { s with toks := tk }) : wpAny (model prog w) A (truthy (.ref a)) Q E s := by
  have hl : s.heap.IsList a (its.map val).toArray := ⟨_, (N _ hm).1, rfl, _, rfl⟩
  refine wpAny_truthy_list hl (by simp; lia) ?_
  have e : (!(its.map val).toArray.isEmpty) = decide (0 < its.length) := by cases its <;> simp
  rw [e]
  exact h _
end
theorem CmpOn.sub {α : Type} {val : α → Value} {lt : α → α → Bool} {S S' : List α} {news news' : Led} (h : CmpOn val lt S news) (hs : ∀ x ∈ S', x ∈ S) (hn : ∀ p ∈ news, p ∈ news') : CmpOn val lt S' news' :=
  fun x hx y hy A s h₀ L nw hw => h x (hs x hx) y (hs y hy) A s h₀ L nw fun p hp => hw p (hn p hp)
noncomputable def AllAre (m : Str → Option Value) : List (Str × Value) → Prop
  | [] => True
  | p :: r => m p.1 = some p.2 ∧ AllAre m r
theorem AllAre.mem {m : Str → Option Value} : ∀ {l : List (Str × Value)}, AllAre m l → ∀ p ∈ l, m p.1 = some p.2
 := by
  intro l
  induction l with
  | nil => intro _ p hp; cases hp
  | cons q r ih => intro h p hp; cases hp with
    | head => exact h.1
    | tail _ hp => exact ih h.2 p hp
theorem ovr_all {m : Str → Option Value} {l : List (Str × Value)} (h : AllAre m l) : m = ovr l m := ovr_of h.mem
theorem frOv {g h : Heap} {L : Addr} {m : Str → Option Value} {l : List (Str × Value)} (F : Fr g L h m) (a : AllAre m l) : Fr g L h (ovr l m) := ovr_all a ▸ F
theorem frG {g h : Heap} {L : Addr} {m : Str → Option Value} {G : Prop} (l : List (Str × Value)) (F : Fr g L h m) (a : AllAre m l) (k : ∀ m', AllAre m' l → Fr g L h (ovr l m') → G) : G := k m a (frOv F a)
theorem lim {d a b c : Nat} (h : d + b < c) (e : Nat.ble a b = true) : d + a < c := Nat.lt_of_le_of_lt (Nat.add_le_add_left (Nat.le_of_ble_eq_true e) d) h
theorem noE {α : Type} {M : Model} {A : Around} {t : Sem α} {Q : α → Shared → Prop} {E : Value → Shared → Prop} {s : Shared} (h : wpAny M A t Q (fun _ _ => False) s) : wpAny M A t Q E s := wpAny_mono h (fun _ _ x => x) fun _ _ x => x.elim
theorem hideQ {α : Type} {M : Model} {A : Around} {t : Sem α} {Q : α → Shared → Prop} {E : Value → Shared → Prop} {s : Shared} (h : ∀ R : α → Shared → Prop, (∀ v s', Q v s' → R v s') → wpAny M A t R E s) : wpAny M A t Q E s := h Q fun _ _ x => x
theorem subE {a b : Led} (h : ∀ p ∈ a, p ∈ b) (p : Addr × Obj) (hp : p ∈ a) : p ∈ b := h p hp
theorem mem_head {x : Addr × Obj} {r : Led} : x ∈ x :: r := .head _
theorem mem_tail {x y : Addr × Obj} {r : Led} (h : x ∈ r) : x ∈ y :: r := .tail _ h
theorem mem_appR {x : Addr × Obj} {a b : Led} (h : x ∈ b) : x ∈ a ++ b := List.mem_append_right a h
theorem mem_appL {x : Addr × Obj} {a b : Led} (h : x ∈ a) : x ∈ a ++ b := List.mem_append_left b h
theorem sub_self {a : Led} : ∀ p ∈ a, p ∈ a := fun _ h => h
theorem sub_nil {a : Led} : ∀ p ∈ ([] : Led), p ∈ a := fun _ h => nomatch h
theorem sub_cons {x : Addr × Obj} {a b : Led} (h : x ∈ b) (t : ∀ p ∈ a, p ∈ b) : ∀ p ∈ x :: a, p ∈ b := List.forall_mem_cons.mpr ⟨h, t⟩
theorem sub_skip {x : Addr × Obj} {a b : Led} (t : ∀ p ∈ a, p ∈ b) : ∀ p ∈ a, p ∈ x :: b := fun p hp => .tail _ (t p hp)
theorem sub_app {a b c : Led} (h : ∀ p ∈ a, p ∈ c) (t : ∀ p ∈ b, p ∈ c) : ∀ p ∈ a ++ b, p ∈ c := fun p hp => (List.mem_append.mp hp).elim (h p) (t p)
theorem sub_appR {a b c : Led} (t : ∀ p ∈ a, p ∈ c) : ∀ p ∈ a, p ∈ b ++ c := fun p hp => List.mem_append_right _ (t p hp)
theorem sub_appL {a b c : Led} (t : ∀ p ∈ a, p ∈ b) : ∀ p ∈ a, p ∈ b ++ c := fun p hp => List.mem_append_left _ (t p hp)
theorem sub_flat {x : Led} {l : List Led} {b : Led} (h : ∀ p ∈ x ++ l.flatten, p ∈ b) : ∀ p ∈ (x :: l).flatten, p ∈ b := h
theorem News.less {h₀ h : Heap} {L : Addr} {nw nw' : Led} (N : News h₀ L h nw) (s : ∀ p ∈ nw', p ∈ nw) : News h₀ L h nw' := fun p hp => N p (s p hp)
end Mine
namespace Mine
noncomputable def Hold (P : Prop) : Prop := P
theorem Hold.mk {P : Prop} (h : P) : Hold P := h
noncomputable def Stop (P : Prop) : Prop := P
theorem Stop.mk {P : Prop} (h : P) : Stop P := h
theorem Stop.out {P : Prop} (h : Stop P) : P := h
def stopAt (ks : List String) (s : Lean.TSyntax `str) : Lean.MacroM (Lean.TSyntax `tactic) :=
  if ks.contains s.getString then `(tactic| (k_here; refine Mine.Stop.out ?_))
  else if s.getString == "execs cons" then `(tactic| (k_here; with_reducible refine Mine.k_flat1 (s := $(Lean.mkIdent `s)) ?_; intro $(Lean.mkIdent `tkf):ident))
  else if s.getString == "exec Try" then `(tactic| (k_here; refine wpAny_Try_except ?_))
  else Lean.Macro.throwUnsupported
inductive WStepNI (h₀ : Heap) (L : Addr) (gn : Array GenState) (dr : Drawn) (os : OsState) (J : Nat → (Str → Option Value) → Led → Prop) (n : Nat) (s₃ : Shared) : Prop
  | mk0 (h' : Heap) (tk : Nat) (m₂ : Str → Option Value) (news₂ : Led) (n' : Nat) : s₃ = { heap := h', gens := gn, drawn := dr, toks := tk, os := os } → Fr h₀ L h' m₂ → News h₀ L h' news₂ → n' < n → J n' m₂ news₂ → WStepNI h₀ L gn dr os J n s₃
noncomputable def WStepN (h₀ : Heap) (L : Addr) (s : Shared) (J : Nat → (Str → Option Value) → Led → Prop) (n : Nat) (s₃ : Shared) : Prop := WStepNI h₀ L s.gens s.drawn s.os J n s₃
noncomputable def WStep (h₀ : Heap) (L : Addr) (s : Shared) (J : Nat → (Str → Option Value) → Led → Prop) (n : Nat) (Q : Flow → Shared → Prop) (f : Flow) (s₃ : Shared) : Prop :=
  match f with
  | .brk => Q .next s₃
  | .ret v => Q (.ret v) s₃
  | _ => WStepN h₀ L s J n s₃
inductive WInv (h₀ : Heap) (L : Addr) (s : Shared) (J : Nat → (Str → Option Value) → Led → Prop) (n : Nat) (s' : Shared) : Prop
  | mk0 (h₁ : Heap) (tk₁ : Nat) (m₁ : Str → Option Value) (news₁ : Led) : s' = { s with heap := h₁, toks := tk₁ } → Fr h₀ L h₁ m₁ → News h₀ L h₁ news₁ → J n m₁ news₁ → WInv h₀ L s J n s'
theorem While_J {prog : Program} {w : World} {A : Around} {E : Value → Shared → Prop} {Q : Flow → Shared → Prop} {s : Shared} {env : Env} {h₀ : Heap} {L : Addr} {test : Expr} {body : List Stmt} {pos : Pos} {m : Str → Option Value} {news : Led} (J : Nat → (Str → Option Value) → Led → Prop) (n₀ : Nat)
    (F : Fr h₀ L s.heap m) (N : News h₀ L s.heap news) (hJ : J n₀ m news)
    (turn : ∀ n m₁ news₁ h₁ tk₁, Fr h₀ L h₁ m₁ → News h₀ L h₁ news₁ → J n m₁ news₁ → ∀ (R : Flow → Shared → Prop) (R0 : Shared → Prop), (∀ f s₃, WStep h₀ L s J n Q f s₃ → R f s₃) → (∀ s₃, Q .next s₃ → R0 s₃) →
      wpAny (model prog w) A (isTrue test env (eval test env)) (fun b s₂ =>
        if b = true then wpAny (model prog w) A (execs body env) R E s₂ else R0 s₂) E { s with heap := h₁, toks := tk₁ })
    (hE : PassesOwn (model prog w) A env E) :
    wpAny (model prog w) A (exec (.While test body [] pos) env) Q E s := by
  refine wpAny_While (codeAny_whileLoop (WInv h₀ L s J) ?_ n₀ ⟨s.heap, s.toks, m, news, rfl, F, N, hJ⟩)
  rintro n s' qG1
  refine hideG fun gG hG => ?_
  obtain ⟨h₁, tk₁, m₁, news₁, rfl, F₁, N₁, J₁⟩ := qG1
  refine hG ?_
  try clear hG gG
  refine wpAny_mono (turn n m₁ news₁ h₁ tk₁ F₁ N₁ J₁ (WStep h₀ L s J n Q) (Q .next) (fun _ _ x => x) fun _ x => x) (fun b s₂ h₂ => ?_) hE
  cases b with
  | false =>
    simp only [Bool.false_eq_true, if_false] at h₂ ⊢
    exact wpAny_execs_nil h₂
  | true =>
    simp only [if_true] at h₂ ⊢
    refine wpAny_mono h₂ (fun f s₃ h₃ => ?_) hE
    cases f with
    | brk => exact h₃
    | ret v => exact h₃
    | next => obtain ⟨h', tk, m₂, news₂, n', rfl, F₂, N₂, hn, J₂⟩ := h₃; exact ⟨n', hn, h', tk, m₂, news₂, rfl, F₂, N₂, J₂⟩
    | cont => obtain ⟨h', tk, m₂, news₂, n', rfl, F₂, N₂, hn, J₂⟩ := h₃; exact ⟨n', hn, h', tk, m₂, news₂, rfl, F₂, N₂, J₂⟩

theorem cmp_at {α : Type} {val : α → Value} {lt : α → α → Bool} {S : List α} {news news' : Led} {prog : Program} {w : World} {A : Around} {E Q : Value → Shared → Prop} {s : Shared} {h₀ : Heap} {L : Addr} {x y : α}
    (hc : CmpOn val lt S news) (hx : x ∈ S) (hy : y ∈ S) (N : News h₀ L s.heap news') (hs : ∀ p ∈ news, p ∈ news') (hu : A.units + 10 < cLine) (h : Q (.bool (lt x y)) s) : wpAny (model prog w) A (compareOp .Lt (val x) (val y)) Q E s :=
  hc x hx y hy A s h₀ L news' hs N hu prog w E Q h
theorem getD_mem' {α : Type} {l : List α} {d : α} {i : Nat} (h : i < l.length) : l.getD i d ∈ l := by
  rw [List.getD_eq_getElem?_getD, List.getElem?_eq_getElem h]; exact List.getElem_mem h
theorem mem_tail' {p : Addr × Obj} {news : Led} : ∀ q ∈ news, q ∈ p :: news := fun _ h => .tail _ h
theorem Fn.use {w : World} {dD uU : Nat} {f : Value} {args : List Value} {news : Led} {P : Value → Led → Prop} (h : Fn w dD uU f args news P)
    {p : Program} {loose : List Str} {mean : ExcName → Option Value} {mg mb : Str → Option Value}
    {dp un : Nat} {gd : Option (List Code)} {cn : Str} {cs : Scope} {a : Addr} {ccd : Value} {cl : List (Str × Addr)} {outer : List Env} {A₀ : Around} {base h₀ : Heap} {L : Addr} {m : Str → Option Value} {s : Shared}
    {Q E : Value → Shared → Prop} (B : Below A₀ base outer h₀) (F : Fr h₀ L s.heap m) (X : (Mine.hd.heap_1 w.params).In h₀) (N : News h₀ L s.heap news) (T : Top p loose mean mg mb h₀) (hk : cs.kind = .function) (hd : dp + dD < recursionLimit) (hu : un + uU < cLine)
    (ret : ∀ r news' h' tk', Fr h₀ L h' m → News h₀ L h' news' → P r news' → Q r { s with heap := h', toks := tk' }) :
    wpAny (model PG w) (ktrTop dp un gd cn cs L a ccd cl outer) (call f args) Q E s := h _ _ _ _ _ _ _ _ _ _ _ _ _ _ _ _ _ _ _ _ _ _ B F X N T hk hd hu ret
theorem Fn.use2 {w : World} {dD uU : Nat} {f v : Value} {args : List Value} {news nw : Led} (h : Fn w dD uU f args news (fun r n => r = v ∧ n = nw))
    {p : Program} {loose : List Str} {mean : ExcName → Option Value} {mg mb : Str → Option Value}
    {dp un : Nat} {gd : Option (List Code)} {cn : Str} {cs : Scope} {a : Addr} {ccd : Value} {cl : List (Str × Addr)} {outer : List Env} {A₀ : Around} {base h₀ : Heap} {L : Addr} {m : Str → Option Value} {s : Shared}
    {Q E : Value → Shared → Prop} (B : Below A₀ base outer h₀) (F : Fr h₀ L s.heap m) (X : (Mine.hd.heap_1 w.params).In h₀) (N : News h₀ L s.heap news) (T : Top p loose mean mg mb h₀) (hk : cs.kind = .function) (hd : dp + dD < recursionLimit) (hu : un + uU < cLine)
    (ret : ∀ h' tk', Fr h₀ L h' m → News h₀ L h' nw → Q v { s with heap := h', toks := tk' }) :
    wpAny (model PG w) (ktrTop dp un gd cn cs L a ccd cl outer) (call f args) Q E s :=
  h.use B F X N T hk hd hu fun r n h' tk' F' N' e => by obtain ⟨rfl, rfl⟩ := e; exact ret h' tk' F' N'
end Mine
theorem Mine.off_cons {r : List (PySem.Addr × PySem.Obj)} {d : PySem.Addr} {q : PySem.Addr × PySem.Obj} (h : q.1 ≠ d) (t : ∀ p ∈ r, p.1 ≠ d) : ∀ p ∈ q :: r, p.1 ≠ d := List.forall_mem_cons.mpr ⟨h, t⟩
theorem Mine.off_lt {r : List (PySem.Addr × PySem.Obj)} {d e : PySem.Addr} (h : ∀ p ∈ r, p.1 < e) (he : e ≤ d) : ∀ p ∈ r, p.1 ≠ d := fun p hp => Nat.ne_of_lt (Nat.lt_of_lt_of_le (h p hp) he)
end
open Lean in
local macro_rules | `(tactic| walk_at "sub") => do
  let a ← [``Mine.sub_self, ``Mine.sub_nil, ``Mine.mem_head].toArray.mapM fun n => `(Lean.Parser.Tactic.tacticSeq| exact $(mkIdent n))
  let b ← [``Mine.sub_cons, ``Mine.sub_app].toArray.mapM fun n => `(Lean.Parser.Tactic.tacticSeq| refine $(mkIdent n) ?_ ?_ <;> walk_at "sub")
  let c ← [``Mine.sub_skip, ``Mine.mem_tail, ``Mine.sub_appR, ``Mine.sub_appL, ``Mine.mem_appR, ``Mine.mem_appL].toArray.mapM fun n => `(Lean.Parser.Tactic.tacticSeq| refine $(mkIdent n) ?_; walk_at "sub")
  `(tactic| first $[| $(a ++ b ++ c)]*)
local macro_rules | `(tactic| k_all) => `(tactic| first | assumption | (refine Mine.off_lt (by assumption) ?_; first | apply Nat.le_refl | apply Nat.le_add_right | omega) | (refine Mine.off_cons ?_ ?_; (· k_ne); k_all))
section
open PySem PySem.W PySem.Calls PyProof.Rows PyProof.Rows.LCg
set_option maxRecDepth 100000
set_option maxHeartbeats 4000000
namespace Mine

noncomputable def putAll : List Str → List Value → (Str → Option Value) → Str → Option Value
  | x :: xs, v :: vs, m => putAll xs vs fun y => if y = x then some v else m y
  | _, _, m => m

noncomputable abbrev Kept (bad : List Addr) (h h' : Heap) : Prop := ∀ b o, b ∉ bad → h.get? b = some o → h'.get? b = some o

noncomputable def DStep (prog : Program) (w : World) (A : Around) (env' : Addr → Env) (target : Expr) (xs : List Str) (I : Addr) (fp wr : List Addr) (n : Nat) (Pt : Nat → List Value → Prop) (St : Nat → Heap → Prop) : Prop :=
  ∀ (i : Nat) (C : Addr) (m₀ : Str → Option Value) (s : Shared) (R : Option Value → Shared → Prop) (Q : Unit → Shared → Prop) (E : Value → Shared → Prop), i < n → St i s.heap → s.heap.Ns C m₀ → C ∉ fp →
    (∀ v s₁, wpAny (model prog w) A (letOwnedTupleGo target (.ref I) v) (fun _ s₂ => wpAny (model prog w) A (assign target (env' C) v) Q E s₂) E s₁ → R (some v) s₁) →
    (∀ (vals : List Value) (h' : Heap) (tk : Nat), Pt i vals → St (i + 1) h' → h'.Ns C (putAll xs vals m₀) → Kept (C :: wr) s.heap h' → Q () { s with heap := h', toks := tk }) →
    wpAny (model prog w) A (pyNext (.ref I)) R E s
noncomputable def DDone (prog : Program) (w : World) (A : Around) (I : Addr) (wr : List Addr) (n : Nat) (St : Nat → Heap → Prop) (Fin : Heap → Prop) : Prop :=
  ∀ (s : Shared) (Q : Option Value → Shared → Prop) (E : Value → Shared → Prop), St n s.heap →
    (∀ (h' : Heap) (tk : Nat), Kept wr s.heap h' → Fin h' → Q none { s with heap := h', toks := tk }) → wpAny (model prog w) A (pyNext (.ref I)) Q E s
noncomputable def DSelf (prog : Program) (w : World) (A : Around) (I : Addr) (St : Nat → Heap → Prop) : Prop :=
  ∀ (i : Nat) (s : Shared) (Q : Value → Shared → Prop) (E : Value → Shared → Prop), St i s.heap → Q (.ref I) s → wpAny (model prog w) A (pyIter (.ref I)) Q E s

/-- a source of draws, with the names' binding -/
structure Draw (prog : Program) (w : World) (A : Around) (env' : Addr → Env) (target : Expr) (xs : List Str) (I : Addr) (fp wr : List Addr) (n : Nat) (Pt : Nat → List Value → Prop) (St : Nat → Heap → Prop) (Fin : Heap → Prop) : Prop where
  sub : ∀ b ∈ wr, b ∈ fp
  frame : ∀ (i : Nat) (h h' : Heap), St i h → (∀ b ∈ fp, ∀ o, h.get? b = some o → h'.get? b = some o) → St i h'
  has : ∀ (i : Nat) (h : Heap), St i h → ∀ b ∈ fp, ∃ o, h.get? b = some o
  finFrame : ∀ (h h' : Heap), Fin h → (∀ b ∈ fp, ∀ o, h.get? b = some o → h'.get? b = some o) → Fin h'
  step : DStep prog w A env' target xs I fp wr n Pt St
  done : DDone prog w A I wr n St Fin
  self : DSelf prog w A I St

/-- the heap's entries at some places -/
noncomputable def entries (h : Heap) : List Addr → Led
  | [] => []
  | b :: r => match h.get? b with
    | some o => (b, o) :: entries h r
    | none => entries h r
theorem entries_get {h : Heap} : ∀ {l : List Addr} {p : Addr × Obj}, p ∈ entries h l → p.1 ∈ l ∧ h.get? p.1 = some p.2
  | [], p, hp => by unfold entries at hp; cases hp
  | b :: r, p, hp => by
    unfold entries at hp
    split at hp
    · rename_i o ho
      rcases List.mem_cons.mp hp with rfl | hp
      · exact ⟨.head _, ho⟩
      · have := entries_get hp; exact ⟨.tail _ this.1, this.2⟩
    · have := entries_get hp; exact ⟨.tail _ this.1, this.2⟩
theorem entries_mem {h : Heap} : ∀ {l : List Addr} {b : Addr} {o : Obj}, b ∈ l → h.get? b = some o → (b, o) ∈ entries h l
  | [], b, o, hb, ho => by cases hb
  | c :: r, b, o, hb, ho => by
    unfold entries
    rcases List.mem_cons.mp hb with rfl | hb
    · rw [ho]; exact .head _
    · split
      · exact .tail _ (entries_mem hb ho)
      · exact entries_mem hb ho

noncomputable def Above (old tl : Led) : Prop := ∀ q ∈ old, ∀ p ∈ tl, q.1 < p.1
/-- each of the new ledger's objects stood in the old one, or is younger than all -/
noncomputable def Fresh (whole nw nw' : Led) : Prop := ∀ p ∈ nw', (∃ q ∈ nw, q.1 = p.1) ∨ ∀ q ∈ whole, q.1 < p.1
theorem Fresh.app {whole nw tl : Led} (h : Above whole tl) : Fresh whole nw (tl ++ nw) := fun p hp => by
  rcases List.mem_append.mp hp with q | q
  · exact .inr fun x hx => h x hx p q
  · exact .inl ⟨p, q, rfl⟩

/-- an element's end -/
inductive CEndI (h₀ : Heap) (L : Addr) (m : Str → Option Value) (gn : Array GenState) (dr : Drawn) (os : OsState) (front nw : Led) (J : Value → Led → Prop) (y : Value) (s' : Shared) : Prop
  | mk0 (h' : Heap) (tk : Nat) (nw' : Led) : (s' = { heap := h', gens := gn, drawn := dr, toks := tk, os := os }) → (Fr h₀ L h' m) → (News h₀ L h' (front ++ nw')) → (Fresh (front ++ nw) nw nw') → (J y nw') → CEndI h₀ L m gn dr os front nw J y s'
noncomputable def CEnd (h₀ : Heap) (L : Addr) (m : Str → Option Value) (s : Shared) (front nw : Led) (J : Value → Led → Prop) (y : Value) (s' : Shared) : Prop := CEndI h₀ L m s.gens s.drawn s.os front nw J y s'
theorem codeAny_compLoop_any {prog : Program} {w : World} {A : Around} {R : Result → Shared → Prop} {s : Shared} {elt target iter : Expr} {ifs : List Expr} {scope : Scope} {pos : Pos} {it acc : Value} {env : Env} (I : Nat → Shared → Prop)
    (turn : ∀ n s, I n s → ∀ (Y : Shared → Prop) (E : Value → Shared → Prop), (∀ s', (∃ m, m < n ∧ I m s') → Y s') → wpAny (model prog w) A (pyNext it) (fun r s₁ => match r with
      | none => R (.ok .next) s₁
      | some v => wpAny (model prog w) A (letOwnedTupleGo target it v) (fun _ s₁' => wpAny (model prog w) A (assign target env v) (fun _ s₂ =>
          wpAny (model prog w) A (forIn ifs true fun c r => if r = true then do let ok ← isTrue c env (eval c env); pure (ForInStep.yield ok) else pure (ForInStep.yield r)) (fun ok s₃ =>
            if ok = true then wpAny (model prog w) A (eval elt env) (fun x s₄ =>
              wpAny (model prog w) A (call (.builtin "list.append") [acc, x]) (fun _ s₅ => Y s₅) E s₄) E s₃
            else Y s₃) E s₂) E s₁') E s₁) E s)
    (n : Nat) (h : I n s) :
    codeAny (model prog w) A (.compLoop (.ListComp elt [⟨target, iter, ifs, 0⟩] scope pos) 0 it acc env) R s := by
  refine codeAny_loop rfl I (fun n s hI => ?_) n h
  show wpAny _ A ((compTurn (.ListComp elt [⟨target, iter, ifs, 0⟩] scope pos) 0 it acc env).onRaise (fun x => do noteFrame x env; theTreesLotGoes x)) _ _ s
  refine wpAny_noted ?_
  rw [compTurn_list]
  refine wpAny_bind (wpAny_standAt (wpAny_bind (wpAny_mono (turn n s hI (fun s' => ∃ m, m < n ∧ I m s') _ fun _ x => x) (fun r s₁ h₁ => ?_) fun _ _ h' => h')))
  cases r with
  | none => exact wpAny_pure h₁
  | some v =>
    refine wpAny_bind (wpAny_mono h₁ (fun _ s₁' h₁' => ?_) fun _ _ h' => h')
    refine wpAny_bind (wpAny_mono h₁' (fun _ s₂ h₂ => wpAny_bind (wpAny_mono h₂ (fun ok s₃ h₃ => ?_) fun _ _ h' => h')) fun _ _ h' => h')
    cases ok with
    | false => exact wpAny_pure ⟨rfl, h₃⟩
    | true =>
      exact wpAny_bind (wpAny_bind (wpAny_mono h₃ (fun x s₄ h₄ => wpAny_bind (wpAny_mono h₄ (fun _ s₅ h₅ => wpAny_pure (wpAny_pure ⟨rfl, h₅⟩)) fun _ _ h' => h')) fun _ _ h' => h'))

theorem hideT {M : Model} {A : Around} {t : Sem Bool} {u : Sem Value} {C1 : Value → Shared → Prop} {C2 : Shared → Prop} {E : Value → Shared → Prop} {s : Shared} (h : ∀ (Y : Value → Shared → Prop) (Z : Shared → Prop), (∀ y s', C1 y s' → Y y s') → (∀ s', C2 s' → Z s') → wpAny M A t (fun ok s' => if ok = true then wpAny M A u Y E s' else Z s') E s) : wpAny M A t (fun ok s' => if ok = true then wpAny M A u C1 E s' else C2 s') E s := h C1 C2 (fun _ _ x => x) fun _ x => x
inductive CompInv (h₀ : Heap) (L : Addr) (m : Str → Option Value) (s₂ : Shared) (n : Nat) (D C : Addr) (wr : List Addr) (St : Nat → Heap → Prop) (J : Nat → List Value → Led → Prop) (k : Nat) (s' : Shared) : Prop
  | mk0 (h' : Heap) (tk i : Nat) (ys : List Value) (m' : Str → Option Value) (nw : Led) : s' = { s₂ with heap := h', toks := tk } → i ≤ n → k = n + 1 - i → ys.length ≤ i → St i h' → Fr h₀ L h' m → h'.Ns C m' → News h₀ L h' ((D, lst ys) :: nw) → (∀ p ∈ nw, p.1 ≠ D ∧ p.1 ≠ C ∧ p.1 ∉ wr) → J i ys nw → CompInv h₀ L m s₂ n D C wr St J k s'
inductive CompBack (h₀ : Heap) (L : Addr) (m : Str → Option Value) (s₂ : Shared) (D C : Addr) (wr : List Addr) (St : Nat → Heap → Prop) (oC : Obj) (ys : List Value) (i : Nat) (J : Led → Prop) (s₅ : Shared) : Prop
  | mk0 (h₅ : Heap) (tk₅ : Nat) (nw' : Led) : s₅ = { s₂ with heap := h₅, toks := tk₅ } → Fr h₀ L h₅ m → News h₀ L h₅ ((D, lst ys) :: nw') → h₅.get? C = some oC → St (i + 1) h₅ → (∀ p ∈ nw', p.1 ≠ D ∧ p.1 ≠ C ∧ p.1 ∉ wr) → J nw' → CompBack h₀ L m s₂ D C wr St oC ys i J s₅
theorem comp_main {prog : Program} {w : World} {A : Around} {E : Value → Shared → Prop} {h₀ : Heap} {L : Addr} {m : Str → Option Value} {env : Env}
    {elt target iter : Expr} {ifs : List Expr} {xs : List Str} {scope : Scope} {cl : List (Str × Addr)} {pos : Pos} {s₂ : Shared} {I : Addr} {fp wr : List Addr} {n : Nat} {Pt : Nat → List Value → Prop} {St : Nat → Heap → Prop} {Fin : Heap → Prop} {news : Led}
    (J : Nat → List Value → Led → Prop) {RR : Value → Addr → Result → Shared → Prop}
    (D : Draw prog w A (fun C => compEnvC scope cl C env) target xs I fp wr n Pt St Fin) (hsz : n ≤ sizeLine) {bad : List Addr} (hbad : ∀ b ∈ fp, b ∈ wr ∨ b ∈ bad)
    (hcell : ∀ y ∈ scope.names, y.2 ≠ .cell) (hkind : scope.kind = .function) (hst : St 0 s₂.heap) (hfp : ∀ b ∈ fp, h₀.get? b = none ∧ b ≠ L)
    (F : Fr h₀ L s₂.heap m) (N : News h₀ L s₂.heap news) (off : ∀ p ∈ news, p.1 ∉ wr) (hJ : J 0 [] news)
    (turn : ∀ i vals ys nw h tk own C oC D' m₂ (E' : Value → Shared → Prop), (∀ q ∈ nw, q.1 ∉ bad → ∀ p ∈ own ++ [(C, oC), (D', lst ys)], p.1 ≠ q.1) → i < n → Pt i vals → ys.length ≤ i → J i ys nw → NsObj oC (putAll xs vals m₂) → Fr h₀ L h m → News h₀ L h (own ++ ((C, oC) :: (D', lst ys) :: nw)) →
      wpAny (model prog w) A (forIn ifs true fun c r => if r = true then do let ok ← isTrue c (compEnvC scope cl C env) (eval c (compEnvC scope cl C env)); pure (ForInStep.yield ok) else pure (ForInStep.yield r)) (fun ok s' =>
        if ok = true then wpAny (model prog w) A (eval elt (compEnvC scope cl C env)) (CEnd h₀ L m { s₂ with heap := h, toks := tk } (own ++ [(C, oC), (D', lst ys)]) nw (fun y nw' => J (i + 1) (ys ++ [y]) nw')) E' s'
        else CEnd h₀ L m { s₂ with heap := h, toks := tk } (own ++ [(C, oC), (D', lst ys)]) nw (fun _ nw' => J (i + 1) ys nw') Value.none s') E' { s₂ with heap := h, toks := tk })
    (hRR : ∀ D' C h tk m' ys nw, Fr h₀ L h m → News h₀ L h ((D', lst ys) :: nw) → (∀ p ∈ nw, p.1 ≠ D') → Fin h → (∀ p ∈ news, p.1 < D') → D' ∉ fp → h.Ns C m' → h₀.get? C = none → C ≠ L → C ≠ D' → C ∉ fp → (∀ p ∈ nw, p.1 ≠ C) → J n ys nw → RR (.ref D') C (.ok .next) { s₂ with heap := h, toks := tk }) :
    wpAny (model prog w) A (newList []) (fun acc s₃ => wpAny (model prog w) A (newFunctionEnv scope env.globals cl [] env.qual none .none (some env)) (fun cenv s₄ =>
      codeAny (model prog w) A (.compStart (.ListComp elt [⟨target, iter, ifs, 0⟩] scope pos) 0 (.ref I) acc { cenv with scope := relabel scope env }) (RR acc cenv.locals) s₄) E s₃) E s₂ := by
  refine wpAny_newObj_type (wpAny_newFunctionEnv hcell (by intro y hy; simp at hy) (fun h₁ hns₁ hsb₁ => ?_) hkind)
  dsimp only at hns₁ hsb₁ ⊢
  generalize hH2 : s₂.heap.push { cls := .type "list", dict := none, data := .seq ([] : List Value).toArray } = H2 at hns₁ hsb₁ ⊢
  have hC : H2.objs.size = s₂.heap.objs.size + 1 := by rw [← hH2, Heap.size_push]
  have hDC : s₂.heap.objs.size ≠ H2.objs.size := by rw [hC]; exact Nat.ne_of_lt (Nat.lt_succ_self _)
  have below : ∀ b, b < s₂.heap.objs.size → b ≠ H2.objs.size ∧ b ≠ s₂.heap.objs.size := fun b hb => ⟨by rw [hC]; exact Nat.ne_of_lt (Nat.lt_succ_of_lt hb), Nat.ne_of_lt hb⟩
  have hfplt : ∀ b ∈ fp, b < s₂.heap.objs.size := fun b hb => by obtain ⟨o, ho⟩ := D.has _ _ hst b hb; exact Heap.lt_size ho
  have hDf : s₂.heap.objs.size ∉ fp := fun hm => Nat.lt_irrefl _ (hfplt _ hm)
  have hCf : H2.objs.size ∉ fp := fun hm => by have := hfplt _ hm; rw [hC] at this; exact Nat.lt_irrefl _ (Nat.lt_of_succ_lt this)
  have old : ∀ b o, s₂.heap.get? b = some o → h₁.get? b = some o := fun b o e => hsb₁.extBut b o (below b (Heap.lt_size e)).1 (Heap.get?_push_of_some _ (hH2 ▸ Heap.get?_push_of_some _ e))
  have hacc : h₁.get? s₂.heap.objs.size = some (lst []) := hsb₁.extBut _ _ hDC (Heap.get?_push_of_some _ (hH2 ▸ Heap.get?_push_size _ rfl))
  have hst₁ : St 0 h₁ := D.frame _ _ _ hst fun b _ o e => old b o e
  have fresh₀ : ∀ a, s₂.heap.objs.size ≤ a → h₀.get? a = none := fun a ha => by
    cases e : h₀.get? a with
    | none => rfl
    | some o' => exact absurd (Heap.lt_size (F.keep a o' e)) (Nat.not_lt.mpr ha)
  have hD₀ : h₀.get? s₂.heap.objs.size = none := fresh₀ _ (Nat.le_refl _)
  have hC₀ : h₀.get? H2.objs.size = none := fresh₀ _ (by rw [hC]; exact Nat.le_succ _)
  have hLlt : L < s₂.heap.objs.size := F.ns.lt
  have hDL : s₂.heap.objs.size ≠ L := Ne.symm (below L hLlt).2
  have hCL : H2.objs.size ≠ L := Ne.symm (below L hLlt).1
  have hLwr : L ∉ wr := fun q => (hfp _ (D.sub _ q)).2 rfl
  have frK : ∀ {ha hb : Heap} {bad : List Addr}, Fr h₀ L ha m → Kept bad ha hb → L ∉ bad → (∀ b ∈ bad, h₀.get? b = none) → Fr h₀ L hb m := fun F' k hl h0 =>
    ⟨F'.ns.at' fun o e => k L o hl e, fun b o e => k b o (fun q => by rw [h0 b q] at e; cases e) (F'.keep b o e), F'.above⟩
  have hwr0 : ∀ b ∈ wr, h₀.get? b = none := fun b hb => (hfp b (D.sub b hb)).1
  have loop : ∀ s₃ : Shared, s₃ = { s₂ with heap := h₁, toks := s₂.toks + ([] : List (Str × Value)).length } →
      codeAny (model prog w) A (.compLoop (.ListComp elt [⟨target, iter, ifs, 0⟩] scope pos) 0 (.ref I) (.ref s₂.heap.objs.size) (compEnvC scope cl H2.objs.size env))
        (RR (.ref s₂.heap.objs.size) H2.objs.size) s₃ := by
    rintro s₃ rfl
    refine codeAny_compLoop_any
      (CompInv h₀ L m s₂ n s₂.heap.objs.size H2.objs.size wr St J) ?_ (n + 1)
      ⟨h₁, _, 0, [], _, news, rfl, Nat.zero_le _, rfl, Nat.le_refl _, hst₁, F.keeps old, hns₁, fun p hp => ?_, fun p hp => ⟨(below _ (Heap.lt_size (N p hp).1)).2, (below _ (Heap.lt_size (N p hp).1)).1, off p hp⟩, hJ⟩
    · rintro k s' qG1 Y E0 hY
      refine hideG fun gG hG => ?_
      obtain ⟨h', tk, i, ys, m', nw, rfl, hi, rfl, hyl, hst', F', hn', N', off', hJ'⟩ := qG1
      refine hG ?_
      try clear hG gG
      by_cases hlt : i < n
      · refine D.step i H2.objs.size m' _ _ _ _ hlt hst' hn' hCf (fun v s₁ hr => hr) fun vals h₃ tk₃ hP hst₃ hn₃ hk₃ => ?_
        refine hideG fun gG hG => ?_
        obtain ⟨oC, heC, hoC⟩ := ns_obj hn₃
        refine hG ?_
        try clear hG gG
        have hLbad : L ∉ H2.objs.size :: wr := fun q => by
          rcases List.mem_cons.mp q with e | q
          · exact hCL e.symm
          · exact hLwr q
        have F₃ : Fr h₀ L h₃ m := frK F' hk₃ hLbad fun b hb => by
          rcases List.mem_cons.mp hb with rfl | hb
          · exact hC₀
          · exact hwr0 b hb
        have N₃ : News h₀ L h₃ (entries h₃ fp ++ ((H2.objs.size, oC) :: (s₂.heap.objs.size, lst ys) :: nw)) := fun p hp => by
          rcases List.mem_append.mp hp with hp | hp
          · have := entries_get hp; exact ⟨this.2, (hfp _ this.1).2, (hfp _ this.1).1⟩
          · rcases List.mem_cons.mp hp with rfl | hp
            · exact ⟨heC, hCL, hC₀⟩
            · have z := N' p hp
              refine ⟨hk₃ _ _ (fun q => ?_) z.1, z.2⟩
              rcases List.mem_cons.mp hp with rfl | hp
              · rcases List.mem_cons.mp q with e | q
                · exact hDC e
                · exact hDf (D.sub _ q)
              · rcases List.mem_cons.mp q with e | q
                · exact (off' p hp).2.1 e
                · exact (off' p hp).2.2 q
        have hoC' : NsObj oC (putAll xs vals m') := hoC
        have offT : ∀ q ∈ nw, q.1 ∉ bad → ∀ p ∈ entries h₃ fp ++ [(H2.objs.size, oC), (s₂.heap.objs.size, lst ys)], p.1 ≠ q.1 := fun q hq hqb p hp e => by
          rcases List.mem_append.mp hp with hp | hp
          · have hf := (entries_get hp).1
            rw [e] at hf
            rcases hbad _ hf with r | r
            · exact (off' q hq).2.2 r
            · exact hqb r
          · rcases List.mem_cons.mp hp with rfl | hp
            · exact (off' q hq).2.1 e.symm
            · rw [List.mem_singleton.mp hp] at e; exact (off' q hq).1 e.symm
        refine wpAny_mono (turn i vals ys nw h₃ tk₃ (entries h₃ fp) H2.objs.size oC s₂.heap.objs.size m' _ offT hlt hP hyl hJ' hoC' F₃ N₃) (fun ok s₄ h₄ => ?_) fun _ _ e => e
        have back : ∀ (y : Value) (s₅ : Shared) (ys' : List Value) (JJ : Value → Led → Prop), CEnd h₀ L m { s₂ with heap := h₃, toks := tk₃ } (entries h₃ fp ++ [(H2.objs.size, oC), (s₂.heap.objs.size, lst ys)]) nw JJ y s₅ →
            CompBack h₀ L m s₂ s₂.heap.objs.size H2.objs.size wr St oC ys i (JJ y) s₅ := by
          rintro y s₅ ys' JJ qG2
          refine hideG fun gG hG => ?_
          obtain ⟨h₅, tk₅, nw', rfl, F₅, N₅, ab, hj⟩ := qG2
          refine hG ?_
          try clear hG gG
          have inC : (H2.objs.size, oC) ∈ entries h₃ fp ++ [(H2.objs.size, oC), (s₂.heap.objs.size, lst ys)] := List.mem_append_right _ (.head _)
          have inD : (s₂.heap.objs.size, lst ys) ∈ entries h₃ fp ++ [(H2.objs.size, oC), (s₂.heap.objs.size, lst ys)] := List.mem_append_right _ (.tail _ (.head _))
          refine ⟨h₅, tk₅, nw', rfl, F₅, fun p hp => ?_, (N₅ _ (List.mem_append_left _ inC)).1, D.frame _ _ _ hst₃ fun b hb o e => (N₅ (b, o) (List.mem_append_left _ (List.mem_append_left _ (entries_mem hb e)))).1, fun p hp => ?_, hj⟩
          · rcases List.mem_cons.mp hp with rfl | hp
            · exact N₅ _ (List.mem_append_left _ inD)
            · exact N₅ p (List.mem_append_right _ hp)
          · rcases ab p hp with ⟨q, hq, e⟩ | ab
            · rw [← e]; exact off' q hq
            · refine ⟨Nat.ne_of_gt (ab _ (List.mem_append_left _ inD)), Nat.ne_of_gt (ab _ (List.mem_append_left _ inC)), fun q => ?_⟩
              obtain ⟨o, ho⟩ := D.has _ _ hst₃ _ (D.sub _ q)
              exact Nat.lt_irrefl _ (ab (p.1, o) (List.mem_append_left _ (List.mem_append_left _ (entries_mem (D.sub _ q) ho))))
        cases ok with
        | true =>
          simp only [if_true] at h₄ ⊢
          refine wpAny_mono h₄ (fun y s₅ h₅ => ?_) fun _ _ e => e
          refine hideG fun gG hG => ?_
          obtain ⟨h₅, tk₅, nw', rfl, F₅, N₅, hC₅, hst₅, off₅, hJ₅⟩ := back y s₅ ys _ h₅
          refine hG ?_
          try clear hG gG
          refine append_at (hsz := by show ys.toArray.size ≤ sizeLine; rw [List.size_toArray]; exact Nat.le_trans (Nat.le_trans hyl hi) hsz) (N₅ _ (.head _)).1 fun h₆ hs₆ hD₆ => ?_
          refine hY _ ?_
          refine ⟨n + 1 - (i + 1), sub_step hlt, h₆, tk₅, i + 1, ys ++ [y], _, nw', rfl, hlt, rfl, by rw [List.length_append, List.length_singleton]; exact Nat.succ_le_succ hyl, D.frame _ _ _ hst₅ fun b hb o e => hs₆.extBut b o (fun q => hDf (q ▸ hb)) e, F₅.change hs₆ hDL hD₀,
            (hoC.ns hC₅).sameBut hs₆ (Ne.symm hDC), fun p hp => ?_, off₅, hJ₅⟩
          rcases List.mem_cons.mp hp with rfl | hp
          · exact ⟨hD₆.trans (congrArg some (lst_snoc ys y)), hDL, hD₀⟩
          · exact ⟨hs₆.extBut _ _ (off₅ p hp).1 (N₅ p (.tail _ hp)).1, (N₅ p (.tail _ hp)).2⟩
        | false =>
          simp only [Bool.false_eq_true, if_false] at h₄ ⊢
          refine hideG fun gG hG => ?_
          obtain ⟨h₅, tk₅, nw', rfl, F₅, N₅, hC₅, hst₅, off₅, hJ₅⟩ := back _ s₄ ys _ h₄
          refine hG ?_
          try clear hG gG
          refine hY _ ?_
          exact ⟨n + 1 - (i + 1), sub_step hlt, h₅, tk₅, i + 1, ys, _, nw', rfl, hlt, rfl, Nat.le_succ_of_le hyl, hst₅, F₅, hoC.ns hC₅, N₅, off₅, hJ₅⟩
      · obtain rfl : i = n := Nat.le_antisymm hi (Nat.not_lt.mp hlt)
        refine D.done _ _ _ hst' fun h₂ tk₂ hk₂ hf₂ => ?_
        have hCwr : H2.objs.size ∉ wr := fun q => hCf (D.sub _ q)
        refine hRR _ _ h₂ tk₂ _ ys nw (frK F' hk₂ hLwr hwr0) (fun p hp => ?_) (fun p hp => (off' p hp).1) hf₂ (fun p hp => Heap.lt_size (N p hp).1) hDf (hn'.at' fun o e => hk₂ _ o hCwr e) hC₀ hCL (Ne.symm hDC) hCf (fun p hp => (off' p hp).2.1) hJ'
        refine ⟨hk₂ _ _ (fun q => ?_) (N' p hp).1, (N' p hp).2⟩
        rcases List.mem_cons.mp hp with rfl | hp
        · exact hDf (D.sub _ q)
        · exact (off' p hp).2.2 q
    · rcases List.mem_cons.mp hp with rfl | hp
      · exact ⟨hacc, hDL, hD₀⟩
      · exact ⟨old _ _ (N p hp).1, (N p hp).2⟩
  exact codeAny_compStart_list (loop _ rfl) (D.self 0 _ _ _ hst₁ (loop _ rfl))

noncomputable def Turn (prog : Program) (w : World) (A : Around) (h₀ : Heap) (L : Addr) (m : Str → Option Value) (elt : Expr) (ifs : List Expr) (scope : Scope) (cl : List (Str × Addr)) (env : Env) (xs : List Str) (s : Shared) (bad : List Addr) (n : Nat) (Pt : Nat → List Value → Prop) (J : Nat → List Value → Led → Prop) : Prop :=
  ∀ (i : Nat) (vals ys : List Value) (nw : Led) (h : Heap) (tk : Nat) (own : Led) (C : Addr) (oC : Obj) (D' : Addr) (m₂ : Str → Option Value) (E' : Value → Shared → Prop), (∀ q ∈ nw, q.1 ∉ bad → ∀ p ∈ own ++ [(C, oC), (D', lst ys)], p.1 ≠ q.1) → i < n → Pt i vals → ys.length ≤ i → J i ys nw → NsObj oC (putAll xs vals m₂) → Fr h₀ L h m → News h₀ L h (own ++ ((C, oC) :: (D', lst ys) :: nw)) →
      wpAny (model prog w) A (forIn ifs true fun c r => if r = true then do let ok ← isTrue c (compEnvC scope cl C env) (eval c (compEnvC scope cl C env)); pure (ForInStep.yield ok) else pure (ForInStep.yield r)) (fun ok s' =>
        if ok = true then wpAny (model prog w) A (eval elt (compEnvC scope cl C env)) (CEnd h₀ L m { s with heap := h, toks := tk } (own ++ [(C, oC), (D', lst ys)]) nw (fun y nw' => J (i + 1) (ys ++ [y]) nw')) E' s'
        else CEnd h₀ L m { s with heap := h, toks := tk } (own ++ [(C, oC), (D', lst ys)]) nw (fun _ nw' => J (i + 1) ys nw') Value.none s') E' { s with heap := h, toks := tk }

inductive SrcOf (prog : Program) (w : World) (A : Around) (h₀ : Heap) (L : Addr) (m : Str → Option Value) (elt target : Expr) (ifs : List Expr) (scope : Scope) (cl : List (Str × Addr)) (env : Env) (s : Shared) (mD : Addr → Str → Option Value) (Q : Addr → Shared → Prop) (iv : Value) (s₂ : Shared) : Prop
  | mk0 (I : Addr) (fp wr : List Addr) (n : Nat) (Pt : Nat → List Value → Prop) (St : Nat → Heap → Prop) (Fin : Heap → Prop) (news : Led) (J : Nat → List Value → Led → Prop) (xs : List Str) (h₂ : Heap) (tk₂ : Nat) (bad : List Addr) : (∀ b ∈ fp, b ∈ wr ∨ b ∈ bad) → (iv = .ref I) → (s₂ = { s with heap := h₂, toks := tk₂ }) → (Draw prog w A (fun C => compEnvC scope cl C env) target xs I fp wr n Pt St Fin) → (n ≤ sizeLine) → (St 0 h₂) → (∀ b ∈ fp, h₀.get? b = none ∧ b ≠ L) → (Fr h₀ L h₂ m) → (News h₀ L h₂ news) → (∀ p ∈ news, p.1 ∉ wr) → (J 0 [] news) → (Turn prog w A h₀ L m elt ifs scope cl env xs s bad n Pt J) → (∀ D h tk ys nw, Fr h₀ L h (mD D) → News h₀ L h ((D, lst ys) :: nw) → (∀ p ∈ nw, p.1 ≠ D) → (∀ p ∈ news, p.1 < D) → Fin h → J n ys nw → Q D { s with heap := h, toks := tk }) → SrcOf prog w A h₀ L m elt target ifs scope cl env s mD Q iv s₂
section
variable {prog : Program} {w : World} {A : Around} {E : Value → Shared → Prop} {s : Shared} {h₀ : Heap} {L : Addr} {m : Str → Option Value} {env : Env} {elt target iter : Expr} {ifs : List Expr} {scope : Scope} {cl : List (Str × Addr)} {pos : Pos}
theorem ListComp_G {Q : Value → Shared → Prop} (_F₀ : Fr h₀ L s.heap m)
    (hclos : closureFor scope env = pure cl) (hcell : ∀ y ∈ scope.names, y.2 ≠ .cell) (hkind : scope.kind = .function)
    (hnames : ∀ y ∈ scope.names, y.2 = .local → scope.names.lookup y.1 = some .local)
    (h : wpAny (model prog w) A (eval iter env) (fun xv s₁ => wpAny (model prog w) A (pyIter xv) (SrcOf prog w A h₀ L m elt target ifs scope cl env s (fun _ => m) (fun D s' => Q (.ref D) s')) E s₁) E s)
    (hs : ∀ x, foldedSetIterable iter env x = pure x) :
    wpAny (model prog w) A (eval (.ListComp elt [⟨target, iter, ifs, 0⟩] scope pos) env) Q E s := by
  rw [eval_ListComp]
  refine wpAny_comprehension_free (use := none) rfl hs hclos hkind hnames (wpAny_mono h (fun xv s₁ h₁ => wpAny_mono h₁ (fun iv s₂ h₂ => ?_) fun _ _ e => e) fun _ _ e => e)
  refine hideG fun gG hG => ?_
  obtain ⟨I, fp, wr, n, Pt, St, Fin, news, J, xs, g₂, tk₂, bad, hbad, rfl, rfl, D, hsz, hst, hfp, F, N, off, hJ, turn, fin⟩ := h₂
  refine hG ?_
  try clear hG gG
  refine comp_main J D hsz hbad hcell hkind hst hfp F N off hJ (fun i vals ys nw h tk own C oC D' m₂ E' ho hi hP hy hj hC F' N' => turn i vals ys nw h tk own C oC D' m₂ E' ho hi hP hy hj hC F' N') ?_
  intro D' C h tk m' ys nw F' N' o1 hf hlt hDf hn hC₀ hCL hCD hCf hoC hj
  refine ⟨m', hn, fun h'' hs'' => fin D' h'' tk ys nw (F'.change hs'' hCL hC₀) (fun p hp => ?_) o1 hlt (D.finFrame _ _ hf fun b hb o e => hs''.extBut b o (fun q => hCf (q ▸ hb)) e) hj⟩
  refine ⟨hs''.extBut _ _ ?_ (N' p hp).1, (N' p hp).2⟩
  rcases List.mem_cons.mp hp with rfl | hp
  · exact Ne.symm hCD
  · exact hoC p hp

theorem Assign_ListComp_G {y : Str} {py spos : Pos} {Q : Flow → Shared → Prop} (_F₀ : Fr h₀ L s.heap m) (hLe : env.locals = L)
    (hsw : swapsWith (.ListComp elt [⟨target, iter, ifs, 0⟩] scope pos) (some (.Name y py)) spos.line env = pure true)
    (hclos : closureFor scope env = pure cl) (hcell : ∀ z ∈ scope.names, z.2 ≠ .cell) (hkind : scope.kind = .function)
    (hnames : ∀ z ∈ scope.names, z.2 = .local → scope.names.lookup z.1 = some .local)
    (hy : env.kindOf y = some .local) (hp : (env.scope.kind == .class || (env.scope.kind == .module && env.locals != env.globals)) = false)
    (h : wpAny (model prog w) A (eval iter env) (fun xv s₁ => wpAny (model prog w) A (pyIter xv) (SrcOf prog w A h₀ L m elt target ifs scope cl env s (fun D z => if z = y then some (.ref D) else m z) (fun _ s' => Q .next s')) E s₁) E s)
    (hs : ∀ x, foldedSetIterable iter env x = pure x) :
    wpAny (model prog w) A (exec (.Assign [.Name y py] (.ListComp elt [⟨target, iter, ifs, 0⟩] scope pos) spos) env) Q E s := by
  subst hLe
  rw [exec_Assign_Name_used _ _ _ _ hsw]
  refine wpAny_bind (wpAny_standAt (wpAny_bind ?_))
  show wpAny _ A (do let _ ← comprehension (.ListComp elt [⟨target, iter, ifs, 0⟩] scope pos) scope env _ (newList []) false (eval iter env) (some (assign (.Name y py) env))) _ _ s
  refine wpAny_bind (wpAny_mono (wpAny_comprehension_free (use := some (assign (.Name y py) env)) (Q := fun _ s' => Q .next s') rfl hs hclos hkind hnames
    (wpAny_mono h (fun xv s₁ h₁ => wpAny_mono h₁ (fun iv s₂ h₂ => ?_) fun _ _ e => e) fun _ _ e => e)) (fun _ s' hq => wpAny_pure (wpAny_pure hq)) fun _ _ e => e)
  refine hideG fun gG hG => ?_
  obtain ⟨I, fp, wr, n, Pt, St, Fin, news, J, xs, g₂, tk₂, bad, hbad, rfl, rfl, D, hsz, hst, hfp, F, N, off, hJ, turn, fin⟩ := h₂
  refine hG ?_
  try clear hG gG
  refine comp_main J D hsz hbad hcell hkind hst hfp F N off hJ (fun i vals ys nw h tk own C oC D' m₂ E' ho hi hP hy hj hC F' N' => turn i vals ys nw h tk own C oC D' m₂ E' ho hi hP hy hj hC F' N') ?_
  intro D' C h tk m' ys nw F' N' o1 hf hlt hDf hn hC₀ hCL hCD hCf hoC hj
  show wpAny _ A (assign (.Name y py) env (.ref D')) _ _ _
  refine wpAny_assign_Name (wpAny_storeName_local hy F'.ns (fun h₂ hn₂ hs₂ => ?_) hp)
  have hL₀ : h₀.get? env.locals = none := Heap.get?_none_of_le F'.above
  have F₂ : Fr h₀ env.locals h₂ (fun z => if z = y then some (.ref D') else m z) := ⟨hn₂, fun b o e => hs₂.extBut b o (fun q => by rw [q, hL₀] at e; cases e) (F'.keep b o e), F'.above⟩
  refine ⟨m', hn.sameBut hs₂ hCL, fun h'' hs'' => fin D' h'' _ ys nw (F₂.change hs'' hCL hC₀) (fun p hp => ?_) o1 hlt (D.finFrame _ _ hf fun b hb o e => hs''.extBut b o (fun q => hCf (q ▸ hb)) (hs₂.extBut b o (fun q => (hfp b hb).2 q) e)) hj⟩
  have z : h₂.get? p.1 = some p.2 := hs₂.extBut _ _ (N' p hp).2.1 (N' p hp).1
  refine ⟨hs''.extBut _ _ ?_ z, (N' p hp).2⟩
  rcases List.mem_cons.mp hp with rfl | hp
  · exact Ne.symm hCD
  · exact hoC p hp
end
end Mine
end
section
open PySem PySem.W PySem.Calls PyProof.Rows PyProof.Rows.LCg
set_option maxRecDepth 100000
set_option maxHeartbeats 4000000
namespace Mine

section
variable {prog : Program} {w : World} {A : Around} {E : Value → Shared → Prop} {s : Shared}
theorem nextOf_range_item {it : Addr} {x left step : Int} {Q : Value → Shared → Prop} (hit : IsRangeIter s.heap it x left step) (hleft : 0 < left)
    (hQ : ∀ h', IsRangeIter h' it (x + step) (left - 1) step → Heap.SameBut it s.heap h' → Q (.int x s.toks) { s with heap := h', toks := s.toks + 1 }) :
    wpAny (model prog w) A (Builtin.SmallTypes.nextOf (.ref it)) Q E s := by
  have hT : s.TypeIs (.ref it) "range_iterator" := ⟨_, hit, rfl⟩
  unfold Builtin.SmallTypes.nextOf
  refine wpAny_bind (wpAny_callSpecial?_slot (name := Str.ofString "__next__") hT F.slot_range_iterator_next
    (call_meets F.slot_range_iterator_next hT F.entry_range_iterator_next (F.args_range_iterator_next_1 _) (AutoRange.range_iterator___next___range_iterator_1 it x left step (by omega)) ⟨hit, ?_⟩))
  exact wpAny_pure (hQ _ (Heap.get?_update_self _ (Heap.get?_update_self _ hit rfl) rfl) ((Heap.SameBut.update ..).trans (Heap.SameBut.update ..)))

theorem nextOf_range_end {it : Addr} {x left step : Int} {Q : Value → Shared → Prop} (hh : A.handled = none) (hit : IsRangeIter s.heap it x left step) (hleft : left ≤ 0)
    (hE : ∀ h' e, Heap.ExtBut it s.heap h' → (∃ o, h'.get? e = some o ∧ o.cls = .type "StopIteration") → E (.ref e) { s with heap := h' }) :
    wpAny (model prog w) A (Builtin.SmallTypes.nextOf (.ref it)) Q E s := by
  have hT : s.TypeIs (.ref it) "range_iterator" := ⟨_, hit, rfl⟩
  unfold Builtin.SmallTypes.nextOf
  refine wpAny_bind (wpAny_callSpecial?_slot (name := Str.ofString "__next__") hT F.slot_range_iterator_next
    (wpAny_call_entry F.slot_range_iterator_next hT F.entry_range_iterator_next ?_ (F.args_range_iterator_next_1 _)))
  show wpAny _ _ (field (.ref it) 0 >>= _) _ _ s
  refine wpAny_bind (wpAny_field hit rfl (x := rawInt x) rfl ?_)
  show wpAny _ _ (field (.ref it) 1 >>= _) _ _ s
  refine wpAny_bind (wpAny_field hit rfl (x := rawInt left) rfl ?_)
  show wpAny _ _ (field (.ref it) 2 >>= _) _ _ s
  refine wpAny_bind (wpAny_field hit rfl (x := rawInt step) rfl ?_)
  show wpAny _ _ (if left ≤ 0 then _ else _) _ _ s
  rw [if_pos hleft]
  refine wpAny_bind (wpAny_rule ?_)
  refine wpAny_bind ?_
  show wpAny _ _ (newExc (.type "StopIteration") [] >>= _) _ _ _
  refine wpAny_bind ?_
  simp only [newExc, newTuple]
  refine wpAny_bind (wpAny_newObj_type ?_ (by size_fits))
  refine wpAny_bind (m := firstArgMember _ _) (wpAny_of_eq (a := Value.none) (by first | rfl | (simp only [firstArgMember]; rfl)) ?_)
  refine wpAny_newObj_type ?_ (by size_fits)
  simp only [raiseNew]
  refine wpAny_bind (wpAny_handled ?_)
  first | rw [show A.in1.handled = none from hh] | rw [hh]
  refine wpAny_bind (wpAny_pure (wpAny_throw ?_))
  exact hE _ _ (((Heap.ExtBut.refl it s.heap).push _).push _) ⟨_, Heap.get?_push_size _ rfl, rfl⟩

/-- the places of a zip of a range and of a list's iterator -/
structure ZRApart (z TI TO i1 i2 l2 : Addr) : Prop where
  TIz : TI ≠ z
  TOz : TO ≠ z
  i1z : i1 ≠ z
  i2z : i2 ≠ z
  TITO : TI ≠ TO
  TIi1 : TI ≠ i1
  TIi2 : TI ≠ i2
  TOi1 : TO ≠ i1
  TOi2 : TO ≠ i2
  i12 : i1 ≠ i2
  l2z : l2 ≠ z
  l2TO : l2 ≠ TO
  l2i1 : l2 ≠ i1
  l2i2 : l2 ≠ i2

theorem zr_next_item {z TI TO i1 i2 l2 : Addr} {k2 : Nat} {ys : Array Value} {y a b : Value} {c1 left step : Int} {Q : Value → Shared → Prop} (D : ZRApart z TI TO i1 i2 l2)
    (hz : IsZip s.heap z TI TO .none) (hTI : IsPair s.heap TI (.ref i1) (.ref i2)) (hTO : IsPair s.heap TO a b)
    (h1 : IsRangeIter s.heap i1 c1 left step) (hleft : 0 < left) (h2 : s.heap.IsListIter i2 l2 k2) (hl2 : s.heap.IsList l2 ys) (hy : ys[k2]? = some y)
    (hQ : ∀ h' t tk, IsZip h' z TI TO (rawInt s.heap.objs.size) → IsPair h' TO (.int c1 t) y → IsRangeIter h' i1 (c1 + step) (left - 1) step → h'.IsListIter i2 l2 (k2 + 1) → IsPair h' s.heap.objs.size (.int c1 t) y → h'.objs.size = s.heap.objs.size + 1 →
      (∀ c o, c ≠ z → c ≠ TO → c ≠ i1 → c ≠ i2 → s.heap.get? c = some o → h'.get? c = some o) → Q (.ref s.heap.objs.size) { s with heap := h', toks := tk }) :
    wpAny (model prog w) A (Builtin.«zip.__next__» ⟨[.ref z], []⟩) (fun fin s' => ∃ v, fin = .done (.ret v) ∧ Q v s') E s := by
  show wpAny _ _ (field (.ref z) 2 >>= _) _ _ _
  refine wpAny_bind (wpAny_field hz rfl (x := .bool false) rfl ?_)
  show wpAny _ _ (field (.ref z) 3 >>= _) _ _ _
  refine wpAny_bind (wpAny_field hz rfl (x := .ref TI) rfl ?_)
  refine wpAny_bind (wpAny_seqItems hTI rfl ?_)
  show wpAny _ _ (Builtin.SmallTypes.ownedTupleIsFree (.ref z) >>= _) _ _ _
  refine wpAny_bind ?_
  unfold Builtin.SmallTypes.ownedTupleIsFree
  refine wpAny_bind (wpAny_field hz rfl (x := .none) rfl (wpAny_pure ?_))
  simp only [if_true]
  refine wpAny_bind (wpAny_rule ?_)
  refine wpAny_bind (wpAny_field hz rfl (x := .ref TO) rfl ?_)
  refine wpAny_bind (wpAny_setField_rec hz (by simp) fun h₁ hz₁ hs₁ => ?_)
  replace hz₁ : IsZip h₁ z TI TO .ellipsis := hz₁
  refine wpAny_bind ?_
  simp only [List.zipIdx_cons, List.zipIdx_nil, List.forIn_cons, List.forIn_nil]
  refine wpAny_bind (wpAny_bind (wpAny_onRaise ?_))
  show wpAny _ _ (Builtin.SmallTypes.nextOf (.ref i1) >>= _) _ _ _
  refine wpAny_bind (nextOf_range_item (show IsRangeIter h₁ i1 c1 left step from hs₁.extBut _ _ D.i1z h1) hleft fun h₂ h1₂ hs₂ => wpAny_pure ?_)
  have hTO₂ : IsPair h₂ TO a b := hs₂.extBut _ _ D.TOi1 (hs₁.extBut _ _ D.TOz hTO)
  refine wpAny_bind (wpAny_seqItems hTO₂ rfl ?_)
  refine wpAny_bind (wpAny_updateSeq_pair hTO₂ fun h₃ hTO₃ hs₃ => ?_)
  replace hTO₃ : IsPair h₃ TO (.int c1 s.toks) b := hTO₃
  refine wpAny_bind (wpAny_letGo (wpAny_pure ?_))
  refine wpAny_bind (wpAny_bind (wpAny_onRaise ?_))
  show wpAny _ _ (Builtin.SmallTypes.nextOf (.ref i2) >>= _) _ _ _
  refine wpAny_bind (wpAny_nextOf_list_item (((h2.extBut hs₁.extBut D.i2z).extBut hs₂.extBut D.i12.symm).extBut hs₃.extBut D.TOi2.symm)
    (((hl2.extBut hs₁.extBut D.l2z).extBut hs₂.extBut D.l2i1).extBut hs₃.extBut D.l2TO) hy fun h₄ h2₄ hs₄ => wpAny_pure ?_)
  have hTO₄ : IsPair h₄ TO (.int c1 s.toks) b := hs₄.extBut _ _ D.TOi2 hTO₃
  refine wpAny_bind (wpAny_seqItems hTO₄ rfl ?_)
  refine wpAny_bind (wpAny_updateSeq_pair hTO₄ fun h₅ hTO₅ hs₅ => ?_)
  replace hTO₅ : IsPair h₅ TO (.int c1 s.toks) y := hTO₅
  refine wpAny_bind (wpAny_letGo (wpAny_pure (wpAny_pure ?_)))
  refine wpAny_bind (wpAny_seqItems hTO₅ rfl ?_)
  refine wpAny_bind (wpAny_newTuple ?_)
  have hsz : h₅.objs.size = s.heap.objs.size := by rw [hs₅.1, hs₄.1, hs₃.1, hs₂.1, hs₁.1]
  have hz₅ : IsZip h₅ z TI TO .ellipsis := hs₅.extBut _ _ D.TOz.symm (hs₄.extBut _ _ D.i2z.symm (hs₃.extBut _ _ D.TOz.symm (hs₂.extBut _ _ D.i1z.symm hz₁)))
  have hk₅ : ∀ c o, c ≠ z → c ≠ TO → c ≠ i1 → c ≠ i2 → s.heap.get? c = some o → h₅.get? c = some o := fun c o c1 c2 c3 c4 e =>
    hs₅.extBut _ _ c2 (hs₄.extBut _ _ c4 (hs₃.extBut _ _ c2 (hs₂.extBut _ _ c3 (hs₁.extBut _ _ c1 e))))
  have h1₅ : IsRangeIter h₅ i1 (c1 + step) (left - 1) step := hs₅.extBut _ _ D.TOi1.symm (hs₄.extBut _ _ D.i12 (hs₃.extBut _ _ D.TOi1.symm h1₂))
  have h2₅ : h₅.IsListIter i2 l2 (k2 + 1) := h2₄.extBut hs₅.extBut D.TOi2.symm
  have hzlt : z < h₅.objs.size := Heap.lt_size hz₅
  show wpAny _ _ (Builtin.SmallTypes.ownedTupleHandOut (.ref z) (.ref h₅.objs.size) >>= _) _ _ _
  refine wpAny_bind ?_
  unfold Builtin.SmallTypes.ownedTupleHandOut
  have hz₆ : IsZip (h₅.push { cls := .type "tuple", data := .seq #[.int c1 s.toks, y] }) z TI TO .ellipsis := Heap.get?_push_of_some _ hz₅
  refine wpAny_bind (wpAny_setField_rec hz₆ (by simp) fun h₇ hz₇ hs₇ => ?_)
  replace hz₇ : IsZip h₇ z TI TO (rawInt h₅.objs.size) := hz₇
  refine wpAny_setField_rec hz₇ (by simp) fun h₈ hz₈ hs₈ => ?_
  replace hz₈ : IsZip h₈ z TI TO (rawInt h₅.objs.size) := hz₈
  have up : ∀ c o, c ≠ z → h₅.get? c = some o → h₈.get? c = some o := fun c o c1 e => hs₈.extBut _ _ c1 (hs₇.extBut _ _ c1 (Heap.get?_push_of_some _ e))
  have hT₈ : IsPair h₈ h₅.objs.size (.int c1 s.toks) y := hs₈.extBut _ _ (Nat.ne_of_gt hzlt) (hs₇.extBut _ _ (Nat.ne_of_gt hzlt) (Heap.get?_push_size _ rfl))
  have hz8 : h₈.objs.size = h₅.objs.size + 1 := by rw [hs₈.1, hs₇.1, Heap.size_push]
  rw [hsz] at hz₈ hT₈ hz8
  refine wpAny_pure ⟨_, rfl, ?_⟩
  show Q (.ref h₅.objs.size) _
  rw [hsz]
  exact hQ h₈ s.toks _ hz₈ (up _ _ D.TOz hTO₅) (up _ _ D.i1z h1₅) (h2₅.at fun o e => up _ o D.i2z e) hT₈ hz8 fun c o c1 c2 c3 c4 e => up c o c1 (hk₅ c o c1 c2 c3 c4 e)

theorem zr_next_end {z TI TO i1 i2 l2 : Addr} {a b : Value} {c1 left step : Int} {Q : PySem.Fin → Shared → Prop} (hh : A.handled = none) (D : ZRApart z TI TO i1 i2 l2)
    (hz : IsZip s.heap z TI TO .none) (hTI : IsPair s.heap TI (.ref i1) (.ref i2)) (hTO : IsPair s.heap TO a b)
    (h1 : IsRangeIter s.heap i1 c1 left step) (hleft : left ≤ 0)
    (hE : ∀ h' e, (∀ c o, c ≠ z → c ≠ i1 → s.heap.get? c = some o → h'.get? c = some o) → (∃ o, h'.get? e = some o ∧ o.cls = .type "StopIteration") → E (.ref e) { s with heap := h' }) :
    wpAny (model prog w) A (Builtin.«zip.__next__» ⟨[.ref z], []⟩) Q E s := by
  show wpAny _ _ (field (.ref z) 2 >>= _) _ _ _
  refine wpAny_bind (wpAny_field hz rfl (x := .bool false) rfl ?_)
  show wpAny _ _ (field (.ref z) 3 >>= _) _ _ _
  refine wpAny_bind (wpAny_field hz rfl (x := .ref TI) rfl ?_)
  refine wpAny_bind (wpAny_seqItems hTI rfl ?_)
  show wpAny _ _ (Builtin.SmallTypes.ownedTupleIsFree (.ref z) >>= _) _ _ _
  refine wpAny_bind ?_
  unfold Builtin.SmallTypes.ownedTupleIsFree
  refine wpAny_bind (wpAny_field hz rfl (x := .none) rfl (wpAny_pure ?_))
  simp only [if_true]
  refine wpAny_bind (wpAny_rule ?_)
  refine wpAny_bind (wpAny_field hz rfl (x := .ref TO) rfl ?_)
  refine wpAny_bind (wpAny_setField_rec hz (by simp) fun h₁ hz₁ hs₁ => ?_)
  replace hz₁ : IsZip h₁ z TI TO .ellipsis := hz₁
  refine wpAny_bind ?_
  simp only [List.zipIdx_cons, List.zipIdx_nil, List.forIn_cons, List.forIn_nil]
  refine wpAny_bind (wpAny_bind (wpAny_onRaise ?_))
  show wpAny _ _ (Builtin.SmallTypes.nextOf (.ref i1) >>= _) _ _ _
  refine wpAny_bind (nextOf_range_end hh (show IsRangeIter h₁ i1 c1 left step from hs₁.extBut _ _ D.i1z h1) hleft fun h₂ e hs₂ he => ?_)
  refine hideG fun gG hG => ?_
  obtain ⟨oe, hoe, hce⟩ := he
  refine hG ?_
  try clear hG gG
  have hz₂ : IsZip h₂ z TI TO .ellipsis := hs₂ _ _ D.i1z.symm hz₁
  have hez : e ≠ z := fun x => by subst x; rw [hz₂] at hoe; cases hoe; simp at hce
  exact wpAny_setField_rec hz₂ (by simp) fun h₃ _ hs₃ => hE h₃ e (fun c o c1 c3 x => hs₃.extBut _ _ c1 (hs₂ _ _ c3 (hs₁.extBut _ _ c1 x))) ⟨oe, hs₃.extBut _ _ hez hoe, hce⟩
end
end Mine
end
section
open PySem PySem.W PySem.Calls PyProof.Rows PyProof.Rows.LCg
set_option maxRecDepth 100000
set_option maxHeartbeats 4000000
namespace Mine
section
variable {prog : Program} {w : World} {A : Around} {E : Value → Shared → Prop} {s : Shared}
theorem pyNext_zr_item {z TI TO i1 i2 l2 : Addr} {k2 : Nat} {ys : Array Value} {y a b : Value} {c1 left step : Int} {Q : Option Value → Shared → Prop} (D : ZRApart z TI TO i1 i2 l2)
    (hz : IsZip s.heap z TI TO .none) (hTI : IsPair s.heap TI (.ref i1) (.ref i2)) (hTO : IsPair s.heap TO a b)
    (h1 : IsRangeIter s.heap i1 c1 left step) (hleft : 0 < left) (h2 : s.heap.IsListIter i2 l2 k2) (hl2 : s.heap.IsList l2 ys) (hy : ys[k2]? = some y)
    (hQ : ∀ h' t tk, IsZip h' z TI TO (rawInt s.heap.objs.size) → IsPair h' TO (.int c1 t) y → IsRangeIter h' i1 (c1 + step) (left - 1) step → h'.IsListIter i2 l2 (k2 + 1) → IsPair h' s.heap.objs.size (.int c1 t) y → h'.objs.size = s.heap.objs.size + 1 →
      (∀ c o, c ≠ z → c ≠ TO → c ≠ i1 → c ≠ i2 → s.heap.get? c = some o → h'.get? c = some o) → Q (some (.ref s.heap.objs.size)) { s with heap := h', toks := tk }) :
    wpAny (model prog w) A (pyNext (.ref z)) Q E s := by
  have hT : s.TypeIs (.ref z) "zip" := ⟨_, hz, rfl⟩
  unfold pyNext
  exact wpAny_bind (wpAny_attempt (wpAny_callSpecial?_slot (name := Str.ofString "__next__") hT F.slot_zip_next
    (wpAny_call_entry F.slot_zip_next hT F.entry_zip_next
      (zr_next_item D hz hTI hTO h1 hleft h2 hl2 hy fun h' t tk a1 a2 a3 a4 a5 a6 a7 => wpAny_pure (hQ h' t tk a1 a2 a3 a4 a5 a6 a7)) (F.args_zip_next_1 _))))
theorem pyNext_zr_end {z TI TO i1 i2 l2 : Addr} {a b : Value} {c1 left step : Int} {Q : Option Value → Shared → Prop} (hh : A.handled = none) (D : ZRApart z TI TO i1 i2 l2)
    (hz : IsZip s.heap z TI TO .none) (hTI : IsPair s.heap TI (.ref i1) (.ref i2)) (hTO : IsPair s.heap TO a b)
    (h1 : IsRangeIter s.heap i1 c1 left step) (hleft : left ≤ 0)
    (hQ : ∀ h', (∀ c o, c ≠ z → c ≠ i1 → s.heap.get? c = some o → h'.get? c = some o) → Q none { s with heap := h' }) : wpAny (model prog w) A (pyNext (.ref z)) Q E s := by
  have hT : s.TypeIs (.ref z) "zip" := ⟨_, hz, rfl⟩
  unfold pyNext
  refine wpAny_bind (wpAny_attempt (wpAny_callSpecial?_slot (name := Str.ofString "__next__") hT F.slot_zip_next
    (wpAny_call_entry F.slot_zip_next hT F.entry_zip_next (zr_next_end hh D hz hTI hTO h1 hleft fun h' e hk he => ?_) (F.args_zip_next_1 _))))
  refine hideG fun gG hG => ?_
  obtain ⟨o, ho, hc⟩ := he
  refine hG ?_
  try clear hG gG
  refine wpAny_bind (wpAny_isInstance (T := "StopIteration") (b := true) ⟨o, ho, hc⟩ isSubtype_stop ?_)
  exact wpAny_pure (hQ _ hk)
end

noncomputable def nmE (p : Str × Pos) : Expr := .Name p.1 p.2

theorem assign_names {prog : Program} {w : World} {A : Around} {E : Value → Shared → Prop} {scope : Scope} {cl : List (Str × Addr)} {env : Env} {C : Addr} (hkind : scope.kind = .function) :
    ∀ (ps : List (Str × Pos)) (vals : List Value) (m₀ : Str → Option Value) (s : Shared) (Q : Unit → Shared → Prop), (∀ p ∈ ps, scope.names.lookup p.1 = some .local) → s.heap.Ns C m₀ → ps.length = vals.length →
      (∀ h' tk, h'.Ns C (putAll (ps.map (·.1)) vals m₀) → Kept [C] s.heap h' → Q () { s with heap := h', toks := tk }) →
      wpAny (model prog w) A (assignInOrder ((assignEach (ps.map nmE) (compEnvC scope cl C env)).map (·.2)) vals) Q E s
  | [], vals, m₀, s, Q, _, hn, _, h => assignInOrder_nil (h s.heap s.toks hn fun _ _ _ e => e)
  | p :: ps, [], m₀, s, Q, _, _, hl, _ => nomatch hl
  | p :: ps, v :: vals, m₀, s, Q, hx, hn, hl, h => by
    refine assignInOrder_cons (wpAny_assign_Name (wpAny_storeName_local (lookup_relabel_local (hx p (.head _))) hn (fun h₆ hn₆ hs₆ => ?_) (by simp [compEnvC, relabel, hkind])))
    replace hs₆ : Heap.SameBut C s.heap h₆ := hs₆
    refine assign_names hkind ps vals _ _ Q (fun q hq => hx q (.tail _ hq)) hn₆ (Nat.succ.inj hl) fun h' tk hn' hk' => h h' tk hn' fun b o hb e => hk' b o hb (hs₆.extBut b o (fun q => hb (q ▸ .head _)) e)

section
variable {prog : Program} {w : World} {A : Around} {scope : Scope} {cl : List (Str × Addr)} {env : Env}
theorem draw_one {I : Addr} {fp wr : List Addr} {n : Nat} {P : Nat → Value → Prop} {St : Nat → Heap → Prop} {x : Str} {px : Pos} (hkind : scope.kind = .function) (hx : scope.names.lookup x = some .local)
    (W : Walks prog w A I fp wr n P St) (has : ∀ (i : Nat) (h : Heap), St i h → ∀ b ∈ fp, ∃ o, h.get? b = some o) :
    Draw prog w A (fun C => compEnvC scope cl C env) (.Name x px) [x] I fp wr n (fun i vals => ∃ v, vals = [v] ∧ P i v) St (fun _ => True) where
  sub := W.sub
  frame := W.frame
  has := has
  finFrame := fun _ _ _ _ => trivial
  step := fun i C m₀ s R Q E hi hst hn hC hR hQ => by
    refine W.item i _ _ _ hi hst fun v h₂ tk₂ hP hst₂ hk₂ => hR v _ ?_
    have hCw : C ∉ wr := fun q => hC (W.sub _ q)
    refine wpAny_pure ?_
    refine wpAny_assign_Name (wpAny_storeName_local (lookup_relabel_local hx) (hn.at' fun o e => hk₂ _ o hCw e) (fun h₃ hn₃ hs₃ => ?_) (by simp [compEnvC, relabel, hkind]))
    replace hs₃ : Heap.SameBut C h₂ h₃ := hs₃
    exact hQ [v] h₃ _ ⟨v, rfl, hP⟩ (W.frame _ _ _ hst₂ fun b hb o e => hs₃.extBut b o (fun q => hC (q ▸ hb)) e) hn₃ fun b o hb e =>
      hs₃.extBut b o (fun q => hb (q ▸ .head _)) (hk₂ b o (fun q => hb (.tail _ q)) e)
  done := fun s Q E hst hQ => W.done s Q E hst fun h' tk hk => hQ h' tk hk trivial
  self := W.self

theorem draw_U {I : Addr} {fp wr : List Addr} {n : Nat} {Pt : Nat → Array Value → Prop} {St : Nat → Heap → Prop} {Mid : Nat → Addr → Heap → Prop} {ps : List (Str × Pos)} {k : Nat} {tp : Pos} {Fin : Heap → Prop} (hh : A.handled = none) (hkind : scope.kind = .function) (hx : ∀ p ∈ ps, scope.names.lookup p.1 = some .local)
    (hstar : ∀ e, (assignEach (ps.map nmE) e).findIdx? (·.1) = none) (hlen : ∀ e, (assignEach (ps.map nmE) e).length = ps.length)
    (W : WalksU prog w A I fp wr n Pt St Mid) (hP : ∀ i vals, Pt i vals → vals.size = ps.length) (has : ∀ (i : Nat) (h : Heap), St i h → ∀ b ∈ fp, ∃ o, h.get? b = some o)
    (finFrame : ∀ (h h' : Heap), Fin h → (∀ b ∈ fp, ∀ o, h.get? b = some o → h'.get? b = some o) → Fin h') (done : DDone prog w A I wr n St Fin) :
    Draw prog w A (fun C => compEnvC scope cl C env) (.Tuple (ps.map nmE) k tp) (ps.map (·.1)) I fp wr n (fun i vals => Pt i vals.toArray) St Fin where
  sub := W.sub
  frame := W.frame
  has := has
  finFrame := finFrame
  step := fun i C m₀ s R Q E hi hst hn hC hR hQ => by
    refine W.item i _ _ _ hi hst fun T vals h₂ tk₂ hPt hT hM hk₂ => hR _ _ ?_
    have hCw : C ∉ wr := fun q => hC (W.sub _ q)
    have hTw : T ∉ wr := W.apart _ _ _ hM
    refine W.go _ _ _ i T _ _ _ hM fun h₃ hst₃ hk₃ => ?_
    refine hideG fun gG hG => ?_
    obtain ⟨oT, eT, cT, nT, dT⟩ := hT
    refine hG ?_
    try clear hG gG
    have hT₃ : IsTup h₃ T vals := ⟨oT, hk₃ _ _ hTw eT, cT, nT, dT⟩
    refine assign_Tuple_tuple hh hT₃ ((hlen _).trans (hP _ _ hPt).symm) (hstar _) fun h₅ he => ?_
    have he' : ∀ b o, h₃.get? b = some o → h₅.get? b = some o := fun b o e => he b o (Nat.ne_of_lt (Heap.lt_size e)) e
    refine assign_names hkind ps vals.toList m₀ _ _ hx ((hn.at' fun o e => hk₃ _ o hCw (hk₂ _ o hCw e)).at' fun o e => he' _ o e) (by rw [Array.length_toList]; exact (hP _ _ hPt).symm) fun h₆ tk₆ hn₆ hk₆ => ?_
    refine hQ vals.toList h₆ tk₆ (by simpa using hPt) (W.frame _ _ _ hst₃ fun b hb o e => hk₆ b o (fun q => hC (List.mem_singleton.mp q ▸ hb)) (he' b o e)) hn₆ fun b o hb e => ?_
    exact hk₆ b o (fun q => hb (List.mem_singleton.mp q ▸ .head _)) (he' b o (hk₃ b o (fun q => hb (.tail _ q)) (hk₂ b o (fun q => hb (.tail _ q)) e)))
  done := done
  self := W.self

theorem walks_zr {z TI TO i1 i2 l2 : Addr} (hh : A.handled = none) (D : ZRApart z TI TO i1 i2 l2) (a c : Int) (n : Nat) (ys : Array Value) (hn : n ≤ ys.size) :
    WalksU prog w A z [z, TI, TO, i1, i2, l2] [z, TO, i1, i2] n (fun i vals => ∃ t y, ys[i]? = some y ∧ vals = #[.int (a + i * c) t, y])
      (fun i h => IsZip h z TI TO .none ∧ IsPair h TI (.ref i1) (.ref i2) ∧ (∃ a b, IsPair h TO a b) ∧ IsRangeIter h i1 (a + (i : Nat) * c) ((n : Int) - (i : Nat)) c ∧ h.IsListIter i2 l2 i ∧ h.IsList l2 ys)
      (fun i T h => IsZip h z TI TO (rawInt T) ∧ IsPair h TI (.ref i1) (.ref i2) ∧ (∃ a b, IsPair h TO a b) ∧ IsRangeIter h i1 (a + ((i + 1 : Nat) : Int) * c) ((n : Int) - ((i + 1 : Nat) : Int)) c ∧ h.IsListIter i2 l2 (i + 1) ∧ h.IsList l2 ys ∧ T ≠ z ∧ T ≠ TO ∧ T ≠ i1 ∧ T ≠ i2) where
  sub := fun c hc => by simp at hc ⊢; rcases hc with rfl | rfl | rfl | rfl <;> simp
  frame := fun i h h' hst hk => by
    refine hideG fun gG hG => ?_
    obtain ⟨hz, hTI, ⟨a, b, hTO⟩, h1, h2, hl2⟩ := hst
    refine hG ?_
    try clear hG gG
    exact ⟨hk z (by simp) _ hz, hk TI (by simp) _ hTI, ⟨a, b, hk TO (by simp) _ hTO⟩, hk i1 (by simp) _ h1, h2.at fun o e => hk i2 (by simp) o e, hl2.at fun o e => hk l2 (by simp) o e⟩
  item := fun i s Q E hi hst hQ => by
    refine hideG fun gG hG => ?_
    obtain ⟨hz, hTI, ⟨u, v, hTO⟩, h1, h2, hl2⟩ := hst
    refine hG ?_
    try clear hG gG
    have hiy : i < ys.size := Nat.lt_of_lt_of_le hi hn
    refine pyNext_zr_item D hz hTI hTO h1 (by lia) h2 hl2 (Array.getElem?_eq_getElem hiy) fun h' t tk a1 a2 a3 a4 a5 a6 hk => ?_
    have lt : ∀ {c o}, s.heap.get? c = some o → s.heap.objs.size ≠ c := fun e => Nat.ne_of_gt (Heap.lt_size e)
    have e1 : a + ((i + 1 : Nat) : Int) * c = a + (i : Int) * c + c := by push_cast; rw [Int.add_mul, Int.one_mul, Int.add_assoc]
    have e2 : (n : Int) - ((i + 1 : Nat) : Int) = (n : Int) - (i : Int) - 1 := by push_cast; lia
    exact hQ s.heap.objs.size #[.int (a + i * c) t, ys[i]] h' tk ⟨_, _, Array.getElem?_eq_getElem hiy, rfl⟩ ⟨_, a5, rfl, _, rfl⟩
      ⟨a1, hk _ _ D.TIz D.TITO D.TIi1 D.TIi2 hTI, ⟨_, _, a2⟩, by rw [e1, e2]; exact a3, a4, hl2.at fun o e => hk _ o D.l2z D.l2TO D.l2i1 D.l2i2 e,
        lt hz, lt hTO, lt h1, (by obtain ⟨_, e, _⟩ := h2; exact lt e)⟩
      fun c o hc e => hk c o (fun x => hc (by simp [x])) (fun x => hc (by simp [x])) (fun x => hc (by simp [x])) (fun x => hc (by simp [x])) e
  go := fun elts k pos i T s Q E hm hQ => by
    refine hideG fun gG hG => ?_
    obtain ⟨hz, hTI, ⟨a, b, hTO⟩, h1, h2, hl2, _⟩ := hm
    refine hG ?_
    try clear hG gG
    refine wpAny_letOwnedTupleGo_zip hz fun h' hz' hs' => hQ h' ⟨hz', hs'.extBut _ _ D.TIz hTI, ⟨a, b, hs'.extBut _ _ D.TOz hTO⟩, hs'.extBut _ _ D.i1z h1, h2.extBut hs'.extBut D.i2z,
      hl2.extBut hs'.extBut D.l2z⟩ fun c o hc e => hs'.extBut _ _ (fun x => hc (by simp [x])) e
  apart := fun i T h hm hT => by
    refine hideG fun gG hG => ?_
    obtain ⟨_, _, _, _, _, _, t1, t2, t3, t4⟩ := hm
    refine hG ?_
    try clear hG gG
    simp at hT
    rcases hT with rfl | rfl | rfl | rfl
    · exact t1 rfl
    · exact t2 rfl
    · exact t3 rfl
    · exact t4 rfl
  done := fun s Q E hst hQ => by
    refine hideG fun gG hG => ?_
    obtain ⟨hz, hTI, ⟨a, b, hTO⟩, h1, h2, hl2⟩ := hst
    refine hG ?_
    try clear hG gG
    exact pyNext_zr_end hh D hz hTI hTO h1 (by lia) fun h' hk => hQ h' s.toks fun c o hc e => hk c o (fun x => hc (by simp [x])) (fun x => hc (by simp [x])) e
  self := fun i s Q E hst hQ => wpAny_pyIter_zip hst.1 hQ

theorem done_zr {z TI TO i1 i2 l2 : Addr} (hh : A.handled = none) (D : ZRApart z TI TO i1 i2 l2) (a c : Int) (n : Nat) (ys : Array Value) :
    DDone prog w A z [z, TO, i1, i2] n (fun i h => IsZip h z TI TO .none ∧ IsPair h TI (.ref i1) (.ref i2) ∧ (∃ a b, IsPair h TO a b) ∧ IsRangeIter h i1 (a + (i : Nat) * c) ((n : Int) - (i : Nat)) c ∧ h.IsListIter i2 l2 i ∧ h.IsList l2 ys)
      (fun h => h.IsListIter i2 l2 n) := fun s Q E hst hQ => by
  refine hideG fun gG hG => ?_
  obtain ⟨hz, hTI, ⟨a, b, hTO⟩, h1, h2, hl2⟩ := hst
  refine hG ?_
  try clear hG gG
  exact pyNext_zr_end hh D hz hTI hTO h1 (by lia) fun h' hk => hQ h' s.toks (fun c o hc e => hk c o (fun x => hc (by simp [x])) (fun x => hc (by simp [x])) e) (h2.at fun o e => hk _ o D.i2z D.i12.symm e)
end
end Mine
end
section
open PySem PySem.W PySem.Calls PyProof.Rows PyProof.Rows.LCg
set_option maxRecDepth 100000
set_option maxHeartbeats 4000000
namespace Mine
section
variable {prog : Program} {w : World} {A : Around} {E : Value → Shared → Prop} {s s₁ : Shared} {h₀ : Heap} {L : Addr} {m : Str → Option Value} {env : Env} {elt : Expr} {ifs : List Expr} {scope : Scope} {cl : List (Str × Addr)} {mD : Addr → Str → Option Value} {Q : Addr → Shared → Prop} {news : Led}


/-- a walk that one fresh iterator makes -/
theorem src_walks {I : Addr} {fp : List Addr} {n : Nat} {P : Nat → Value → Prop} {St : Nat → Heap → Prop} {x : Str} {px : Pos} {g : Heap} {t : Nat} {bad : List Addr} (hkind : scope.kind = .function) (hx : scope.names.lookup x = some .local)
    (W : Walks prog w A I fp [I] n P St) (has : ∀ (i : Nat) (h : Heap), St i h → ∀ b ∈ fp, ∃ o, h.get? b = some o) (hst : St 0 g) (hfp : ∀ b ∈ fp, h₀.get? b = none ∧ b ≠ L) (F : Fr h₀ L g m) (N : News h₀ L g news) (off : ∀ p ∈ news, p.1 ≠ I)
    (hsz : n ≤ sizeLine) (J : Nat → List Value → Led → Prop) (hJ : J 0 [] news)
    (turn : Turn prog w A h₀ L m elt ifs scope cl env [x] s bad n (fun i vals => ∃ v, vals = [v] ∧ P i v) J) (hbad : ∀ b ∈ fp, b = I ∨ b ∈ bad)
    (fin : ∀ D h tk ys nw, Fr h₀ L h (mD D) → News h₀ L h ((D, lst ys) :: nw) → (∀ p ∈ nw, p.1 ≠ D) → (∀ p ∈ news, p.1 < D) → J n ys nw → Q D { s with heap := h, toks := tk }) :
    SrcOf prog w A h₀ L m elt (.Name x px) ifs scope cl env s mD Q (.ref I) { s with heap := g, toks := t } :=
  ⟨I, fp, [I], n, _, St, fun _ => True, news, J, [x], g, t, bad, fun b hb => (hbad b hb).imp (fun e => List.mem_singleton.mpr e) id, rfl, rfl, draw_one hkind hx W has, hsz, hst, hfp, F, N, fun p hp q => off p hp (List.mem_singleton.mp q), hJ, turn,
    fun D h tk ys nw F N o1 lt _ hj => fin D h tk ys nw F N o1 lt hj⟩

theorem src_list {x : Str} {px : Pos} {its : List Value} {ax : Addr} {k : Nat} {g : Heap} {t : Nat} (J : Nat → List Value → Led → Prop) (F : Fr h₀ L g m) (N : News h₀ L g news) (hm : (ax, listOf its.toArray k) ∈ news) (hsz : its.length ≤ sizeLine) (hJ : J 0 [] news)
    (turn : Turn prog w A h₀ L m elt ifs scope cl env [x] s [ax] its.length (fun i vals => ∃ v, vals = [v] ∧ its[i]? = some v) J)
    (fin : ∀ D h tk ys nw, Fr h₀ L h (mD D) → News h₀ L h ((D, lst ys) :: nw) → (∀ p ∈ nw, p.1 ≠ D) → (∀ p ∈ news, p.1 < D) → J its.length ys nw → Q D { s with heap := h, toks := tk })
    (hh : A.handled = none) (hkind : scope.kind = .function) (hx : scope.names.lookup x = some .local) :
    wpAny (model prog w) A (pyIter (.ref ax)) (SrcOf prog w A h₀ L m elt (.Name x px) ifs scope cl env s mD Q) E { s with heap := g, toks := t } := by
  have z := N _ hm
  have hl : g.IsList ax its.toArray := ⟨_, z.1, rfl, _, rfl⟩
  refine wpAny_pyIter_list hl ?_
  have up : ∀ b o, g.get? b = some o → (g.push { cls := .type "list_iterator", data := .fields #[.ref ax, .int 0 0] }).get? b = some o := fun b o e => Heap.get?_push_of_some _ e
  have hax : ax ≠ g.objs.size := Nat.ne_of_lt (Heap.lt_size z.1)
  refine src_walks hkind hx (Walks.list hh g.objs.size ax hax its.toArray) (fun i h st b hb => ?_) ⟨⟨_, Heap.get?_push_size _ rfl, rfl, rfl⟩, hl.push _⟩ (fun b hb => ?_) (F.keeps up) (N.grown up) (fun p hp => Nat.ne_of_lt (Heap.lt_size (N p hp).1)) (by simpa using hsz) J hJ (by simpa using turn) (fun b hb => by simpa using hb) (by simpa using fin)
  · rcases List.mem_cons.mp hb with rfl | hb
    · obtain ⟨o, e, _⟩ := st.1; exact ⟨o, e⟩
    · rw [List.mem_singleton.mp hb]; obtain ⟨o, e, _⟩ := st.2; exact ⟨o, e⟩
  · rcases List.mem_cons.mp hb with rfl | hb
    · exact ⟨next_is_new F, Nat.ne_of_gt F.ns.lt⟩
    · rw [List.mem_singleton.mp hb]; exact ⟨z.2.2, z.2.1⟩

theorem src_tuple {x : Str} {px : Pos} {its : List Value} {ax : Addr} {k : Nat} {g : Heap} {t : Nat} (J : Nat → List Value → Led → Prop) (F : Fr h₀ L g m) (N : News h₀ L g news) (hm : (ax, tupO its k) ∈ news) (hsz : its.length ≤ sizeLine) (hJ : J 0 [] news)
    (turn : Turn prog w A h₀ L m elt ifs scope cl env [x] s [ax] its.length (fun i vals => ∃ v, vals = [v] ∧ its[i]? = some v) J)
    (fin : ∀ D h tk ys nw, Fr h₀ L h (mD D) → News h₀ L h ((D, lst ys) :: nw) → (∀ p ∈ nw, p.1 ≠ D) → (∀ p ∈ news, p.1 < D) → J its.length ys nw → Q D { s with heap := h, toks := tk })
    (hh : A.handled = none) (hkind : scope.kind = .function) (hx : scope.names.lookup x = some .local) :
    wpAny (model prog w) A (pyIter (.ref ax)) (SrcOf prog w A h₀ L m elt (.Name x px) ifs scope cl env s mD Q) E { s with heap := g, toks := t } := by
  have z := N _ hm
  have hl : g.IsTuple ax its.toArray := ⟨_, z.1, rfl, _, rfl⟩
  refine wpAny_pyIter_tuple hl ?_
  have up : ∀ b o, g.get? b = some o → (g.push { cls := .type "tuple_iterator", data := .fields #[.ref ax, .int 0 0] }).get? b = some o := fun b o e => Heap.get?_push_of_some _ e
  have hax : ax ≠ g.objs.size := Nat.ne_of_lt (Heap.lt_size z.1)
  refine src_walks hkind hx (Walks.tuple hh g.objs.size ax hax its.toArray) (fun i h st b hb => ?_) ⟨⟨_, Heap.get?_push_size _ rfl, rfl, rfl⟩, hl.at (up ax)⟩ (fun b hb => ?_) (F.keeps up) (N.grown up) (fun p hp => Nat.ne_of_lt (Heap.lt_size (N p hp).1)) (by simpa using hsz) J hJ (by simpa using turn) (fun b hb => by simpa using hb) (by simpa using fin)
  · rcases List.mem_cons.mp hb with rfl | hb
    · obtain ⟨o, e, _⟩ := st.1; exact ⟨o, e⟩
    · rw [List.mem_singleton.mp hb]; obtain ⟨o, e, _⟩ := st.2; exact ⟨o, e⟩
  · rcases List.mem_cons.mp hb with rfl | hb
    · exact ⟨next_is_new F, Nat.ne_of_gt F.ns.lt⟩
    · rw [List.mem_singleton.mp hb]; exact ⟨z.2.2, z.2.1⟩

theorem src_bytes {x : Str} {px : Pos} {b : Array UInt8} {tb : Tok} {g : Heap} {t : Nat} (J : Nat → List Value → Led → Prop) (F : Fr h₀ L g m) (N : News h₀ L g news) (hsz : b.size ≤ sizeLine) (hJ : J 0 [] news)
    (turn : Turn prog w A h₀ L m elt ifs scope cl env [x] s [] b.size (fun i vals => ∃ v, vals = [v] ∧ ∃ c u, b[i]? = some c ∧ v = .int (c.toNat : Int) u) J)
    (fin : ∀ D h tk ys nw, Fr h₀ L h (mD D) → News h₀ L h ((D, lst ys) :: nw) → (∀ p ∈ nw, p.1 ≠ D) → (∀ p ∈ news, p.1 < D) → J b.size ys nw → Q D { s with heap := h, toks := tk })
    (hh : A.handled = none) (hkind : scope.kind = .function) (hx : scope.names.lookup x = some .local) :
    wpAny (model prog w) A (pyIter (.bytes b tb)) (SrcOf prog w A h₀ L m elt (.Name x px) ifs scope cl env s mD Q) E { s with heap := g, toks := t } := by
  refine KBw.pyIter_bytes ?_
  have up : ∀ c o, g.get? c = some o → (g.push { cls := .type "bytes_iterator", data := .fields #[.bytes b tb, .int 0 0] }).get? c = some o := fun b o e => Heap.get?_push_of_some _ e
  refine src_walks hkind hx (KBw.walks hh g.objs.size b tb) (fun i h st b hb => ?_) ⟨_, Heap.get?_push_size _ rfl, rfl, rfl⟩ (fun b hb => ?_) (F.keeps up) (N.grown up) (fun p hp => Nat.ne_of_lt (Heap.lt_size (N p hp).1)) hsz J hJ turn (fun b hb => .inl (List.mem_singleton.mp hb)) fin
  · rw [List.mem_singleton.mp hb]; obtain ⟨o, e, _⟩ := st; exact ⟨o, e⟩
  · rw [List.mem_singleton.mp hb]; exact ⟨next_is_new F, Nat.ne_of_gt F.ns.lt⟩

theorem src_range {x : Str} {px : Pos} {r : Addr} {a b c : Int} {t₁ t₂ t₃ : Tok} {n : Nat} {g : Heap} {t : Nat} (J : Nat → List Value → Led → Prop) (F : Fr h₀ L g m) (N : News h₀ L g news) (hr : IsRange g r a b c t₁ t₂ t₃) (hsm : Builtin.Range.small a b c = true) (hn : Builtin.Range.rangeSize a b c = ((n : Nat) : Int)) (hsz : n ≤ sizeLine) (hJ : J 0 [] news)
    (turn : Turn prog w A h₀ L m elt ifs scope cl env [x] s [] n (fun i vals => ∃ v, vals = [v] ∧ ∃ u, v = .int (a + i * c) u) J)
    (fin : ∀ D h tk ys nw, Fr h₀ L h (mD D) → News h₀ L h ((D, lst ys) :: nw) → (∀ p ∈ nw, p.1 ≠ D) → (∀ p ∈ news, p.1 < D) → J n ys nw → Q D { s with heap := h, toks := tk })
    (hh : A.handled = none) (hkind : scope.kind = .function) (hx : scope.names.lookup x = some .local) :
    wpAny (model prog w) A (pyIter (.ref r)) (SrcOf prog w A h₀ L m elt (.Name x px) ifs scope cl env s mD Q) E { s with heap := g, toks := t } := by
  refine wpAny_pyIter_range hr hsm ?_
  have up : ∀ d o, g.get? d = some o → (g.push { cls := .type "range_iterator", data := .fields #[rawInt a, rawInt (Builtin.Range.rangeSize a b c), rawInt c] }).get? d = some o := fun b o e => Heap.get?_push_of_some _ e
  refine src_walks hkind hx (Walks.range hh g.objs.size a c n) (fun i h st b hb => ?_) (by show IsRangeIter _ _ _ _ _; rw [hn]; simpa using Heap.get?_push_size _ rfl) (fun b hb => ?_) (F.keeps up) (N.grown up) (fun p hp => Nat.ne_of_lt (Heap.lt_size (N p hp).1)) hsz J hJ turn (fun b hb => .inl (List.mem_singleton.mp hb)) fin
  · rw [List.mem_singleton.mp hb]; exact ⟨_, st⟩
  · rw [List.mem_singleton.mp hb]; exact ⟨next_is_new F, Nat.ne_of_gt F.ns.lt⟩
end
end Mine
end
section
open PySem PySem.W PySem.Calls PyProof.Rows PyProof.Rows.LCg
set_option maxRecDepth 100000
set_option maxHeartbeats 4000000
namespace Mine

inductive Two {α β : Type} (R : α → β → Prop) : List α → List β → Prop
  | nil : Two R [] []
  | cons {a : α} {b : β} {as : List α} {bs : List β} : R a b → Two R as bs → Two R (a :: as) (b :: bs)
namespace Two
variable {α β : Type} {R S : α → β → Prop}
theorem len : ∀ {as : List α} {bs : List β}, Two R as bs → as.length = bs.length := by
  intro as bs h
  induction h with
  | nil => rfl
  | cons _ _ ih => exact congrArg Nat.succ ih
theorem imp (hi : ∀ a b, R a b → S a b) : ∀ {as : List α} {bs : List β}, Two R as bs → Two S as bs := by
  intro as bs h
  induction h with
  | nil => exact .nil
  | cons h _ ih => exact .cons (hi _ _ h) ih
theorem app : ∀ {as cs : List α} {bs ds : List β}, Two R as bs → Two R cs ds → Two R (as ++ cs) (bs ++ ds) := by
  intro as cs bs ds h h'
  induction h with
  | nil => exact h'
  | cons h _ ih => exact .cons h ih
theorem snoc {a : α} {b : β} (h : R a b) {as : List α} {bs : List β} (h' : Two R as bs) : Two R (as ++ [a]) (bs ++ [b]) := h'.app (.cons h .nil)
theorem get : ∀ {as : List α} {bs : List β} {i : Nat} {a : α}, Two R as bs → as[i]? = some a → ∃ b, bs[i]? = some b ∧ R a b := by
  intro as bs i a h
  induction h generalizing i with
  | nil => intro e; rw [List.getElem?_nil] at e; cases e
  | cons h _ ih =>
    intro e
    cases i with
    | zero => rw [List.getElem?_cons_zero] at e; cases e; exact ⟨_, rfl, h⟩
    | succ i => rw [List.getElem?_cons_succ] at e; rw [List.getElem?_cons_succ]; exact ih e
theorem flip : ∀ {as : List α} {bs : List β}, Two R as bs → Two (fun b a => R a b) bs as := by
  intro as bs h
  induction h with
  | nil => exact .nil
  | cons h _ ih => exact .cons h ih
theorem get' {as : List α} {bs : List β} {i : Nat} {b : β} (h : Two R as bs) (e : bs[i]? = some b) : ∃ a, as[i]? = some a ∧ R a b := h.flip.get e
theorem take : ∀ {as : List α} {bs : List β} (k : Nat), Two R as bs → Two R (as.take k) (bs.take k) := by
  intro as bs k h
  induction h generalizing k with
  | nil => rw [List.take_nil, List.take_nil]; exact .nil
  | cons h _ ih => cases k with
    | zero => exact .nil
    | succ k => exact .cons h (ih k)
theorem drop : ∀ {as : List α} {bs : List β} (k : Nat), Two R as bs → Two R (as.drop k) (bs.drop k) := by
  intro as bs k h
  induction h generalizing k with
  | nil => rw [List.drop_nil, List.drop_nil]; exact .nil
  | cons h t ih => cases k with
    | zero => exact .cons h t
    | succ k => exact ih k
end Two
noncomputable def IsI (v : Value) (n : Int) : Prop := ∃ t, v = .int n t

inductive EEndI (h₀ : Heap) (L : Addr) (m : Str → Option Value) (gn : Array GenState) (dr : Drawn) (os : OsState) (front nw : Led) (P : Led → Value → Prop) (y : Value) (s' : Shared) : Prop
  | mk0 (h' : Heap) (tk : Nat) (tl : Led) : (s' = { heap := h', gens := gn, drawn := dr, toks := tk, os := os }) → (Fr h₀ L h' m) → (News h₀ L h' (tl ++ (front ++ nw))) → (Above (front ++ nw) tl) → (P (tl ++ nw) y) → EEndI h₀ L m gn dr os front nw P y s'
noncomputable def EEnd (h₀ : Heap) (L : Addr) (m : Str → Option Value) (s : Shared) (front nw : Led) (P : Led → Value → Prop) (y : Value) (s' : Shared) : Prop := EEndI h₀ L m s.gens s.drawn s.os front nw P y s'
inductive TEndI (h₀ : Heap) (L : Addr) (m : Str → Option Value) (gn : Array GenState) (dr : Drawn) (os : OsState) (whole : Led) (b ok : Bool) (s' : Shared) : Prop
  | mk0 (h' : Heap) (tk : Nat) : (s' = { heap := h', gens := gn, drawn := dr, toks := tk, os := os }) → (Fr h₀ L h' m) → (News h₀ L h' whole) → (ok = b) → TEndI h₀ L m gn dr os whole b ok s'
noncomputable def TEnd (h₀ : Heap) (L : Addr) (m : Str → Option Value) (s : Shared) (whole : Led) (b ok : Bool) (s' : Shared) : Prop := TEndI h₀ L m s.gens s.drawn s.os whole b ok s'
inductive JC {β : Type} (P : Led → Value → β → Prop) (news : Led) (out : Nat → List β) (i₀ : Nat) (i : Nat) (ys : List Value) (nw : Led) : Prop
  | mk0 (tl : Led) : (nw = tl ++ news) → (Above news tl) → (Two (P nw) ys (out i)) → JC P news out i₀ i ys nw
theorem Above.app {old a b : Led} (h1 : Above old a) (h2 : Above old b) : Above old (a ++ b) := fun q hq p hp => (List.mem_append.mp hp).elim (h1 q hq p) (h2 q hq p)
theorem Above.sub {old old' tl : Led} (h : Above old tl) (s : ∀ p ∈ old', p ∈ old) : Above old' tl := fun q hq p hp => h q (s q hq) p hp
theorem Above.nil {old : Led} : Above old [] := fun _ _ _ hp => nomatch hp

section
variable {α β : Type} {prog : Program} {w : World} {A : Around} {s : Shared} {h₀ : Heap} {L : Addr} {m : Str → Option Value} {env : Env} {elt c : Expr} {scope : Scope} {cl : List (Str × Addr)} {news : Led} {names : List Str} {n : Nat} {Pt : Nat → List Value → Prop} {bad : List Addr}
theorem take_snoc {xs : List α} {i : Nat} {a : α} (h : xs[i]? = some a) : xs.take (i + 1) = xs.take i ++ [a] := by
  rw [List.take_add_one, h]; rfl
theorem turn_map (xs : List α) (R : List Value → α → Prop) (f : α → β) (P : Led → Value → β → Prop) (hmono : ∀ nw nw' v b, (∀ p ∈ nw, p ∈ nw') → P nw v b → P nw' v b)
    (hPt : ∀ i vals, i < n → Pt i vals → ∃ a, xs[i]? = some a ∧ R vals a)
    (elem : ∀ a vals, a ∈ xs → R vals a → ∀ (h : Heap) (tk : Nat) (tl own : Led) (C : Addr) (oC : Obj) (D' : Addr) (ys : List Value) (m₂ : Str → Option Value) (E' : Value → Shared → Prop), Above news tl → NsObj oC (putAll names vals m₂) → Fr h₀ L h m →
      News h₀ L h (own ++ ((C, oC) :: (D', lst ys) :: (tl ++ news))) →
      wpAny (model prog w) A (eval elt (compEnvC scope cl C env)) (EEnd h₀ L m { s with heap := h, toks := tk } (own ++ [(C, oC), (D', lst ys)]) (tl ++ news) (fun nw' y => P nw' y (f a))) E' { s with heap := h, toks := tk }) :
    Turn prog w A h₀ L m elt [] scope cl env names s bad n Pt (JC P news (fun i => (xs.take i).map f) 0) := by
  rintro i vals ys nw h tk own C oC D' m₂ E' - hi hP hy qG1 hC F N
  refine hideG fun gG hG => ?_
  obtain ⟨tl, rfl, ab, hj⟩ := qG1
  obtain ⟨a, ha, hR⟩ := hPt i vals hi hP
  refine hG ?_
  try clear hG gG
  refine wpAny_tests_nil ?_
  simp only [if_true]
  refine wpAny_mono (elem a vals (List.mem_of_getElem? ha) hR h tk tl own C oC D' ys m₂ E' ab hC F N) (fun y s' he => ?_) fun _ _ e => e
  refine hideG fun gG hG => ?_
  obtain ⟨h', tk', tl', rfl, F', N', ab', hp⟩ := he
  refine hG ?_
  try clear hG gG
  refine ⟨h', tk', tl' ++ (tl ++ news), rfl, F', fun p hp' => ?_, Fresh.app ab', tl' ++ tl, (List.append_assoc ..).symm, (ab'.sub fun p hp' => List.mem_append_right _ (List.mem_append_right _ hp')).app ab, ?_⟩
  · refine N' p ?_
    rcases List.mem_append.mp hp' with q | q
    · exact List.mem_append_right _ (List.mem_append_left _ q)
    · rcases List.mem_append.mp q with q | q
      · exact List.mem_append_left _ q
      · exact List.mem_append_right _ (List.mem_append_right _ q)
  · show Two _ _ ((xs.take (i + 1)).map f)
    rw [take_snoc ha, List.map_append]
    exact (hj.imp fun v b => hmono _ _ v b fun p hp' => List.mem_append_right _ hp').snoc hp
theorem turn_filter (xs : List α) (R : List Value → α → Prop) (t : α → Bool) (f : α → β) (P : Led → Value → β → Prop) (hmono : ∀ nw nw' v b, (∀ p ∈ nw, p ∈ nw') → P nw v b → P nw' v b)
    (hPt : ∀ i vals, i < n → Pt i vals → ∃ a, xs[i]? = some a ∧ R vals a)
    (test : ∀ a vals, a ∈ xs → R vals a → ∀ (h : Heap) (tk : Nat) (tl own : Led) (C : Addr) (oC : Obj) (D' : Addr) (ys : List Value) (m₂ : Str → Option Value) (E' : Value → Shared → Prop), Above news tl → NsObj oC (putAll names vals m₂) → Fr h₀ L h m →
      News h₀ L h (own ++ ((C, oC) :: (D', lst ys) :: (tl ++ news))) →
      wpAny (model prog w) A (isTrue c (compEnvC scope cl C env) (eval c (compEnvC scope cl C env))) (TEnd h₀ L m { s with heap := h, toks := tk } (own ++ ((C, oC) :: (D', lst ys) :: (tl ++ news))) (t a)) E' { s with heap := h, toks := tk })
    (elem : ∀ a vals, a ∈ xs → t a = true → R vals a → ∀ (h : Heap) (tk : Nat) (tl own : Led) (C : Addr) (oC : Obj) (D' : Addr) (ys : List Value) (m₂ : Str → Option Value) (E' : Value → Shared → Prop), Above news tl → NsObj oC (putAll names vals m₂) → Fr h₀ L h m →
      News h₀ L h (own ++ ((C, oC) :: (D', lst ys) :: (tl ++ news))) →
      wpAny (model prog w) A (eval elt (compEnvC scope cl C env)) (EEnd h₀ L m { s with heap := h, toks := tk } (own ++ [(C, oC), (D', lst ys)]) (tl ++ news) (fun nw' y => P nw' y (f a))) E' { s with heap := h, toks := tk }) :
    Turn prog w A h₀ L m elt [c] scope cl env names s bad n Pt (JC P news (fun i => ((xs.take i).filter t).map f) 0) := by
  rintro i vals ys nw h tk own C oC D' m₂ E' - hi hP hy qG2 hC F N
  refine hideG fun gG hG => ?_
  obtain ⟨tl, rfl, ab, hj⟩ := qG2
  obtain ⟨a, ha, hR⟩ := hPt i vals hi hP
  refine hG ?_
  try clear hG gG
  refine wpAny_tests_one (wpAny_mono (test a vals (List.mem_of_getElem? ha) hR h tk tl own C oC D' ys m₂ E' ab hC F N) (fun ok s₁ h₁ => ?_) fun _ _ e => e)
  refine hideG fun gG hG => ?_
  obtain ⟨g₁, tk₁, rfl, F₁, N₁, rfl⟩ := h₁
  refine hG ?_
  try clear hG gG
  cases ht : t a with
  | false =>
    simp only [Bool.false_eq_true, if_false]
    refine ⟨g₁, tk₁, tl ++ news, rfl, F₁, fun p hp' => N₁ p ?_, fun p hp => .inl ⟨p, hp, rfl⟩, tl, rfl, ab, ?_⟩
    · rw [List.append_assoc] at hp'; exact hp'
    · show Two _ _ (((xs.take (i + 1)).filter t).map f)
      rw [take_snoc ha, List.filter_append, List.map_append]
      simpa [ht] using hj
  | true =>
    simp only [if_true]
    refine wpAny_mono (elem a vals (List.mem_of_getElem? ha) ht hR g₁ tk₁ tl own C oC D' ys m₂ E' ab hC F₁ N₁) (fun y s' he => ?_) fun _ _ e => e
    refine hideG fun gG hG => ?_
    obtain ⟨h', tk', tl', rfl, F', N', ab', hp⟩ := he
    refine hG ?_
    try clear hG gG
    refine ⟨h', tk', tl' ++ (tl ++ news), rfl, F', fun p hp' => ?_, Fresh.app ab', tl' ++ tl, (List.append_assoc ..).symm, (ab'.sub fun p hp' => List.mem_append_right _ (List.mem_append_right _ hp')).app ab, ?_⟩
    · refine N' p ?_
      rcases List.mem_append.mp hp' with q | q
      · exact List.mem_append_right _ (List.mem_append_left _ q)
      · rcases List.mem_append.mp q with q | q
        · exact List.mem_append_left _ q
        · exact List.mem_append_right _ (List.mem_append_right _ q)
    · show Two _ _ (((xs.take (i + 1)).filter t).map f)
      rw [take_snoc ha, List.filter_append, List.map_append]
      simpa [ht] using (hj.imp fun v b => hmono _ _ v b fun p hp' => List.mem_append_right _ hp').snoc hp
end
end Mine
end
section
open PySem PySem.W PySem.Spec PySem.Calls PyProof.Rows
set_option maxRecDepth 100000
set_option maxHeartbeats 4000000
namespace Mine
section
variable {prog : Program} {w : World} {A₀ A : Around} {s : Shared} {base h₀ : Heap} {L : Addr} {m : Str → Option Value} {K : Frag} {p : Program} {loose : List Str} {mean : ExcName → Option Value} {mg mb : Str → Option Value}
theorem callH_plain {outer : List Env} {env : Env} {news : Led} {R : Result → Shared → Prop} {name qual : Str} {params : Arguments} {body : List Stmt} {scope : Scope} {cl : List (Str × Addr)} {dV kV doc pm cdv ct : Value} {an : Option Addr} {fo : Obj} {f : Addr} {args : Args} {binds : List (Str × Value)}
    (B : Below A₀ base outer h₀) (F : Fr h₀ L s.heap m) (N : News h₀ L s.heap news) (hlim : h₀.NoLimit) (hA : A.frames = some (env :: outer)) (hf : env.frame = some L) (hke : env.scope.kind = .function)
    (ho : s.heap.get? f = some fo) (hd : fo.data = .func (fnX name qual params body scope cl dV kV doc pm an cdv ct)) (hcd : s.heap.CodeRec cdv qual) (hroom : A.depth < recursionLimit)
    (hbind : BindsTo s (fnX name qual params body scope cl dV kV doc pm an cdv ct) args binds) (hloc : ∀ y ∈ binds, scope.names.lookup y.1 = some .local)
    (h : ∀ g L' h₁, Fr h₀ L g m → Fr g L' h₁ (fun y => binds.reverse.lookup y) → News g L' h₁ news → Below A base (env :: outer) g → h₀.StaysIn g → (∀ b o, b ∉ news.map (·.1) → s.heap.get? b = some o → g.get? b = some o) →
      wpAny (model prog w) (A.deeper (envX qual scope L' f cdv cl)) (execs body (envX qual scope L' f cdv cl))
        (fun fl s' => LeaveK h₀ L m g R (match fl with | .ret v => v | _ => .none) s')
        (fun e s' => wpAny (model prog w) (A.deeper (envX qual scope L' f cdv cl)) (leaving (envX qual scope L' f cdv cl) e) (fun _ s'' => R (.error e) s'') (fun e' s'' => R (.error e') s'') s')
        { s with heap := h₁, toks := s.toks + binds.length })
    (hcell : ∀ x ∈ scope.names, x.2 ≠ .cell) (hco : scope.isCoroutine = false) (hgen : scope.isGenerator = false) (hk : scope.kind = .function) : codeAny (model prog w) A (.call (.ref f) args) R s := by
  refine hideG fun gG hG => ?_
  obtain ⟨FG, BG, st, lv⟩ := groundX (R := R) B F N hA hf hke
  refine hG ?_
  try clear hG gG
  refine codeAny_call_def (fd := fnX name qual params body scope cl dV kV doc pm an cdv ct) (body := body) (binds := binds) hroom ho hd (hlim.keeps F.keep) hcd rfl hbind hcell hloc (fun h₁ hns hk₁ => ?_) hco hgen hk
  exact wpAny_mono (h _ s.heap.objs.size h₁ FG ⟨hns, fun b o e => hk₁ b o (of_hideAll _ e), Nat.le_of_eq (hideAll_size _ _)⟩
    (fun p hp => ⟨hk₁ _ _ (N p hp).1, Nat.ne_of_lt (Heap.lt_size (N p hp).1), hideAll_none _ (List.mem_map_of_mem hp)⟩) BG st (fun b o hb e => hideAll_get _ e hb)) (fun fl s' hl => lv _ _ hl) fun _ _ y => y

theorem callH_cells {outer : List Env} {env : Env} {news : Led} {R : Result → Shared → Prop} {name qual : Str} {params : Arguments} {body : List Stmt} {scope : Scope} {dV kV doc pm cdv ct : Value} {an : Option Addr} {fo : Obj} {f : Addr} {args : Args} {binds : List (Str × Value)}
    (B : Below A₀ base outer h₀) (F : Fr h₀ L s.heap m) (N : News h₀ L s.heap news) (hlim : h₀.NoLimit) (hA : A.frames = some (env :: outer)) (hf : env.frame = some L) (hke : env.scope.kind = .function)
    (ho : s.heap.get? f = some fo) (hd : fo.data = .func (fnX name qual params body scope [] dV kV doc pm an cdv ct)) (hcd : s.heap.CodeRec cdv qual) (hroom : A.depth < recursionLimit)
    (hbind : BindsTo s (fnX name qual params body scope [] dV kV doc pm an cdv ct) args binds)
    (hkind : ∀ n, ∀ x ∈ binds, scope.names.lookup x.1 = some .local ∨ (scope.names.lookup x.1 = some .cell ∧ ((cellsFrom n scope.names []).lookup x.1).isSome = true))
    (hnd : ((cellsFrom 0 scope.names []).map (·.1)).Nodup)
    (h : ∀ g L' h₁ tk cells, Fr h₀ L g m → Fr g L' h₁ (bindL (envOfC qual scope L' f cdv).kindOf binds fun _ => none) → News g L' h₁ (cells ++ news) →
      CellsAre (bindC (envOfC qual scope L' f cdv).kindOf binds fun _ => none) (cellsFrom (L' + 1) scope.names []) cells → Below A base (env :: outer) g → h₀.StaysIn g → (∀ p ∈ news, p.1 < L') → (∀ b o, b ∉ news.map (·.1) → s.heap.get? b = some o → g.get? b = some o) →
      wpAny (model prog w) (A.deeper (envOfC qual scope L' f cdv)) (execs body (envOfC qual scope L' f cdv))
        (fun fl s' => LeaveK h₀ L m g R (match fl with | .ret v => v | _ => .none) s')
        (fun e s' => wpAny (model prog w) (A.deeper (envOfC qual scope L' f cdv)) (leaving (envOfC qual scope L' f cdv) e) (fun _ s'' => R (.error e) s'') (fun e' s'' => R (.error e') s'') s')
        { s with heap := h₁, toks := tk })
    (hco : scope.isCoroutine = false) (hgen : scope.isGenerator = false) (hk : scope.kind = .function) : codeAny (model prog w) A (.call (.ref f) args) R s := by
  refine hideG fun gG hG => ?_
  obtain ⟨FG, BG, st, lv⟩ := groundX (R := R) B F N hA hf hke
  refine hG ?_
  try clear hG gG
  refine codeAny_call_function hroom ho hd hco hgen rfl hcd (hbind _ _ _ _ ?_)
  refine wpAny_newFunctionEnv_cells hk (hkind _) fun env' he s' x => ?_
  subst he
  refine ⟨(hlim.keeps F.keep).keeps x.toInCall.keep, codeAny_func ?_⟩
  refine hideG fun gG hG => ?_
  obtain ⟨h₁, tk, rfl, _⟩ := x.done
  refine hG ?_
  try clear hG gG
  have hk₁ := x.toInCall.keep
  refine hideG fun gG hG => ?_
  obtain ⟨cells, NC, Y⟩ := Cl.news (h₀ := s.heap) (Nat.le_refl _) fun n c hm => ⟨x.cell n c (lookup_of_mem_nodup (cellsFrom_names scope.names 0 (s.heap.objs.size + 1) [] [] rfl ▸ hnd) hm), x.above n c hm⟩
  refine hG ?_
  try clear hG gG
  refine wpAny_mono (h _ s.heap.objs.size h₁ tk cells FG ⟨x.toInCall.ns, fun b o e => hk₁ b o (of_hideAll _ e), Nat.le_of_eq (hideAll_size _ _)⟩ (fun p hp => ?_) Y BG st (fun p hp => Heap.lt_size (N p hp).1) (fun b o hb e => hideAll_get _ e hb)) (fun fl s' hl => lv _ _ hl) fun _ _ y => y
  rcases List.mem_append.mp hp with hp | hp
  · refine ⟨(NC p hp).1, (NC p hp).2.1, ?_⟩
    cases q : (hideAll s.heap (news.map (·.1))).get? p.1 with
    | none => rfl
    | some o => have := of_hideAll _ q; rw [(NC p hp).2.2] at this; cases this
  · exact ⟨hk₁ _ _ (N p hp).1, Nat.ne_of_lt (Heap.lt_size (N p hp).1), hideAll_none _ (List.mem_map_of_mem hp)⟩

theorem codeH_def {env : Env} {outer : List Env} {R : Result → Shared → Prop} {name qual : Str} {params : Arguments} {body : List Stmt} {scope : Scope} {dV kV doc pm cdv ct oc : Value} {an od : Option Addr} {osl : Array (Option Value)} {f : Addr} {args : Args} {binds : List (Str × Value)}
    (B : Below A₀ base outer h₀) (F : Fr h₀ L s.heap m) (X₀ : K.In h₀) (T : Top p loose mean mg mb h₀) (hA : A.frames = some (env :: outer)) (hf : env.frame = some L) (hke : env.scope.kind = .function)
    (ho : K.lookup f = some ⟨oc, od, .func (fnOf name qual params body scope dV kV doc pm an cdv ct), osl⟩) (hcd : codeIn K cdv qual = true) (hroom : A.depth < recursionLimit)
    (hbind : BindsTo s (fnOf name qual params body scope dV kV doc pm an cdv ct) args binds) (hloc : ∀ y ∈ binds, scope.names.lookup y.1 = some .local)
    (h : ∀ g L' h₁, Fr h₀ L g m → Fr g L' h₁ (fun y => binds.reverse.lookup y) → News g L' h₁ [] → Below A base (env :: outer) g → K.In g → Top p loose mean mg mb g → (∀ b o, s.heap.get? b = some o → g.get? b = some o) →
      wpAny (model prog w) (A.deeper (envOf qual scope L' f cdv)) (execs body (envOf qual scope L' f cdv))
        (fun fl s' => LeaveK h₀ L m g R (match fl with | .ret v => v | _ => .none) s')
        (fun e s' => wpAny (model prog w) (A.deeper (envOf qual scope L' f cdv)) (leaving (envOf qual scope L' f cdv) e) (fun _ s'' => R (.error e) s'') (fun e' s'' => R (.error e') s'') s')
        { s with heap := h₁, toks := s.toks + binds.length })
    (hco : scope.isCoroutine = false) (hgen : scope.isGenerator = false) (hk : scope.kind = .function)
    (hcell : ∀ x ∈ scope.names, x.2 ≠ .cell) : codeAny (model prog w) A (.call (.ref f) args) R s :=
  callH_plain (cl := []) (news := []) B F (fun _ h => nomatch h) T.nolimit hA hf hke ((X₀.keeps F.keep) _ _ ho) rfl (codeRec_of (X₀.keeps F.keep) hcd) hroom hbind hloc (fun g L' h₁ FG F' N' B' st l => h g L' h₁ FG F' N' B' (X₀.keeps st) (T.keeps st) fun b o e => l b o (fun q => nomatch q) e) hcell hco hgen hk
theorem codeH_defC {env : Env} {outer : List Env} {R : Result → Shared → Prop} {name qual : Str} {params : Arguments} {body : List Stmt} {scope : Scope} {dV kV doc pm cdv ct oc : Value} {an od : Option Addr} {osl : Array (Option Value)} {f : Addr} {args : Args} {binds : List (Str × Value)}
    (B : Below A₀ base outer h₀) (F : Fr h₀ L s.heap m) (X₀ : K.In h₀) (T : Top p loose mean mg mb h₀) (hA : A.frames = some (env :: outer)) (hf : env.frame = some L) (hke : env.scope.kind = .function)
    (ho : K.lookup f = some ⟨oc, od, .func (fnOf name qual params body scope dV kV doc pm an cdv ct), osl⟩) (hcd : codeIn K cdv qual = true) (hroom : A.depth < recursionLimit)
    (hbind : BindsTo s (fnOf name qual params body scope dV kV doc pm an cdv ct) args binds) (hkind : (binds.all fun y => scope.names.lookup y.1 == some .local || scope.names.lookup y.1 == some .cell) = true)
    (hnd : ((cellsFrom 0 scope.names []).map (·.1)).Nodup)
    (h : ∀ g L' h₁ tk cells, Fr h₀ L g m → Fr g L' h₁ (bindL (envOfC qual scope L' f cdv).kindOf binds fun _ => none) → News g L' h₁ (cells ++ []) →
      CellsAre (bindC (envOfC qual scope L' f cdv).kindOf binds fun _ => none) (cellsFrom (L' + 1) scope.names []) cells → Below A base (env :: outer) g → K.In g → Top p loose mean mg mb g → (∀ b o, s.heap.get? b = some o → g.get? b = some o) →
      wpAny (model prog w) (A.deeper (envOfC qual scope L' f cdv)) (execs body (envOfC qual scope L' f cdv))
        (fun fl s' => LeaveK h₀ L m g R (match fl with | .ret v => v | _ => .none) s')
        (fun e s' => wpAny (model prog w) (A.deeper (envOfC qual scope L' f cdv)) (leaving (envOfC qual scope L' f cdv) e) (fun _ s'' => R (.error e) s'') (fun e' s'' => R (.error e') s'') s')
        { s with heap := h₁, toks := tk })
    (hco : scope.isCoroutine = false) (hgen : scope.isGenerator = false) (hk : scope.kind = .function) : codeAny (model prog w) A (.call (.ref f) args) R s :=
  callH_cells (news := []) B F (fun _ h => nomatch h) T.nolimit hA hf hke ((X₀.keeps F.keep) _ _ ho) rfl (codeRec_of (X₀.keeps F.keep) hcd) hroom hbind (kindsX hkind) hnd (fun g L' h₁ tk cells FG F' N' Y B' st _ l => h g L' h₁ tk cells FG F' N' Y B' (X₀.keeps st) (T.keeps st) fun b o e => l b o (fun q => nomatch q) e) hco hgen hk
end
theorem News.stay {g h₀ h h' : Heap} {L L1 : Addr} {m1 : Str → Option Value} {news : Led} (N : News h₀ L h news) (hg : ∀ b o, h.get? b = some o → g.get? b = some o) (F : Fr g L1 h' m1) : News h₀ L h' news := fun p hp => ⟨F.keep _ _ (hg _ _ (N p hp).1), (N p hp).2⟩
end Mine
end
section
open PySem PySem.W PySem.Calls PyProof.Rows
set_option maxRecDepth 100000
set_option maxHeartbeats 4000000
namespace Mine
/-- Fn with keywords -/
noncomputable def FnK (w : World) (dD uU : Nat) (f : Value) (args : List Value) (kw : List (Str × Value)) (news : Led) (P : Value → Led → Prop) : Prop :=
  ∀ (p : Program) (loose : List Str) (mean : ExcName → Option Value) (mg mb : Str → Option Value)
    (dp un : Nat) (gd : Option (List Code)) (cn : Str) (cs : Scope) (a : Addr) (ccd : Value) (cl : List (Str × Addr)) (outer : List Env) (A₀ : Around) (base h₀ : Heap) (L : Addr) (m : Str → Option Value) (s : Shared)
    (Q E : Value → Shared → Prop),
    Below A₀ base outer h₀ → Fr h₀ L s.heap m → (Mine.hd.heap_1 w.params).In h₀ → News h₀ L s.heap news → Top p loose mean mg mb h₀ → cs.kind = .function → dp + dD < recursionLimit → un + uU < cLine →
    (∀ r news' h' tk', Fr h₀ L h' m → News h₀ L h' news' → P r news' → Q r { s with heap := h', toks := tk' }) →
    wpAny (model PG w) (ktrTop dp un gd cn cs L a ccd cl outer) (call f args kw) Q E s
theorem FnK.use {w : World} {dD uU : Nat} {f : Value} {args : List Value} {kw : List (Str × Value)} {news : Led} {P : Value → Led → Prop} (h : FnK w dD uU f args kw news P)
    {p : Program} {loose : List Str} {mean : ExcName → Option Value} {mg mb : Str → Option Value}
    {dp un : Nat} {gd : Option (List Code)} {cn : Str} {cs : Scope} {a : Addr} {ccd : Value} {cl : List (Str × Addr)} {outer : List Env} {A₀ : Around} {base h₀ : Heap} {L : Addr} {m : Str → Option Value} {s : Shared}
    {Q E : Value → Shared → Prop} (B : Below A₀ base outer h₀) (F : Fr h₀ L s.heap m) (X : (Mine.hd.heap_1 w.params).In h₀) (N : News h₀ L s.heap news) (T : Top p loose mean mg mb h₀) (hk : cs.kind = .function) (hd : dp + dD < recursionLimit) (hu : un + uU < cLine)
    (ret : ∀ r news' h' tk', Fr h₀ L h' m → News h₀ L h' news' → P r news' → Q r { s with heap := h', toks := tk' }) :
    wpAny (model PG w) (ktrTop dp un gd cn cs L a ccd cl outer) (call f args kw) Q E s := h _ _ _ _ _ _ _ _ _ _ _ _ _ _ _ _ _ _ _ _ _ _ B F X N T hk hd hu ret
end Mine
end
section
open PySem PySem.W PySem.Calls PyProof.Rows PyProof.Rows.LCg
set_option maxRecDepth 100000
set_option maxHeartbeats 8000000
namespace Mine
local macro_rules | `(tactic| walk_at $s:str) => Mine.stopAt ["call ref", "exec While Compare", "exec For Name Name cons nil", "subscriptTail", "binaryOp BitAnd int int", "binaryOp LShift int int", "binaryOp RShift int int", "pyIter bytes", "call type:type", "call builtin:list.append"] s
noncomputable def b64ks : List Int := "ABCDEFGHIJKLMNOPQRSTUVWXYZabcdefghijklmnopqrstuvwxyz0123456789+/".toList.map fun c => (c.toNat : Int)
theorem b64ks_len : (b64ks.length : Int) = 64 := by decide +kernel
theorem ix_b64 {x X : Int} (e : Builtin.bitAnd x 63 = X) : 0 ≤ X ∧ X < (b64ks.length : Int) := by rw [b64ks_len]; have := (bitAnd_range x (y := 63) (by decide)); omega
theorem band_lt {x y X : Int} (hy : 0 ≤ y) (h : y < 1000000) (e : Builtin.bitAnd x y = X) : 0 ≤ X ∧ X < 1000000 := by have := bitAnd_range x hy; omega
theorem lt_64 {X : Int} (h : 0 ≤ X ∧ X < 1000000) : X.natAbs < 2 ^ 64 := by omega
theorem and_shift {x c : Int} (hx : 0 ≤ x) (h0 : 0 ≤ c) (h1 : c < 256) : Builtin.bitAnd (x * 256) c = 0 := by
  refine hideG fun gG hG => ?_
  obtain ⟨a, rfl⟩ := Int.eq_ofNat_of_zero_le hx
  obtain ⟨b, rfl⟩ := Int.eq_ofNat_of_zero_le h0
  refine hG ?_
  try clear hG gG
  have hb : b < 2 ^ 8 := by omega
  rw [bitAnd_pp (by omega) (by omega)]
  have e : ((a : Int) * 256).toNat = a * 2 ^ 8 := by omega
  rw [e, Int.toNat_natCast]
  have : a * 2 ^ 8 &&& b = 0 := by
    apply Nat.eq_of_testBit_eq
    intro i
    rw [Nat.testBit_and, Nat.zero_testBit, Nat.testBit_mul_two_pow]
    by_cases hi : 8 ≤ i
    · rw [Nat.testBit_lt_two_pow (Nat.lt_of_lt_of_le hb (Nat.pow_le_pow_right (by decide) hi)), Bool.and_false]
    · simp [hi]
  rw [this]; rfl
theorem or_shift {x c : Int} (hx : 0 ≤ x) (h0 : 0 ≤ c) (h1 : c < 256) : Builtin.bitOr (x * 256) c = x * 256 + c := by rw [bitOr_and, and_shift hx h0 h1]; lia
noncomputable def b64 (d : Int) : Int := b64ks.getD d.toNat 0
/-- the four signs of three octets -/
noncomputable def B64 (c0 c1 c2 k0 k1 k2 k3 : Int) : Prop := k0 = b64 (c0 / 4) ∧ k1 = b64 (c0 % 4 * 16 + c1 / 16) ∧ k2 = b64 (c1 % 16 * 4 + c2 / 64) ∧ k3 = b64 (c2 % 64)
theorem mm16 (a : Int) : a * 256 = a * 16 * 16 := by rw [Int.mul_assoc]; rfl
theorem mm64 (a : Int) : a * 256 = a * 4 * 64 := by rw [Int.mul_assoc]; rfl
theorem bf2 (z : Int) : z % 65536 / 64 % 64 = z / 64 % 64 := by rw [show z % 65536 / 64 = z / 64 % 1024 from ee (c := 64) (d := 1024) (by decide)]; exact Int.emod_emod_of_dvd _ (by decide)
theorem bf3 {c0 c1 v : Int} (h : 0 ≤ v) (h' : v < 4) : ((c0 * 256 + c1) * 4 + v) % 64 = c1 % 16 * 4 + v := by
  rw [show ((c0 * 256 + c1) * 4 + v) % 64 = (c0 * 256 + c1) % 16 * 4 + v from mm (c := 4) (d := 16) h h' (by decide), mm16, Int.add_comm (c0 * 16 * 16), Int.add_mul_emod_self_right]
theorem b64_fin {c0 c1 c2 : Int} (h0 : 0 ≤ c0) (h0' : c0 < 256) (h1 : 0 ≤ c1) (h1' : c1 < 256) (h2 : 0 ≤ c2) (h2' : c2 < 256) {X0 X1 X2 X3 X4 X5 X6 : Int}
    (e6 : Builtin.bitAnd (Builtin.bitOr (0 * 256) c0) 65535 = X6) (e5 : Builtin.bitAnd (X6.fdiv 4) 63 = X5)
    (e4 : Builtin.bitAnd (Builtin.bitOr (X6 * 256) c1) 65535 = X4) (e3 : Builtin.bitAnd (X4.fdiv 16) 63 = X3)
    (e2 : Builtin.bitAnd (Builtin.bitOr (X4 * 256) c2) 65535 = X2) (e1 : Builtin.bitAnd (X2.fdiv 64) 63 = X1) (e0 : Builtin.bitAnd (X2.fdiv 1) 63 = X0) :
    B64 c0 c1 c2 (b64 X5) (b64 X3) (b64 X1) (b64 X0) := by
  have w : ∀ {z : Int}, 0 ≤ z → z < 65536 → z % 65536 = z := fun a b => Int.emod_eq_of_lt a b
  rw [or_shift (by decide) h0 h0', bitAnd_m16, Int.zero_mul, Int.zero_add, w h0 (Int.lt_trans h0' (by decide))] at e6
  subst e6
  rw [bitAnd_m6, Int.fdiv_eq_ediv_of_nonneg _ (by decide)] at e5 e3 e1 e0
  have n4 : 0 ≤ c0 * 256 + c1 := Int.add_nonneg (Int.mul_nonneg h0 (by decide)) h1
  have l4 : c0 * 256 + c1 < 65536 := by omega
  rw [or_shift h0 h1 h1', bitAnd_m16, w n4 l4] at e4
  subst e4
  rw [or_shift n4 h2 h2', bitAnd_m16] at e2
  subst e2
  have f : ∀ {a b : Int}, a = b → b64 a = b64 b := fun h => congrArg b64 h
  refine ⟨f ?_, f ?_, f ?_, f ?_⟩
  · rw [← e5]; exact Int.emod_eq_of_lt (Int.ediv_nonneg h0 (by decide)) (Int.ediv_lt_of_lt_mul (by decide) h0')
  · rw [← e3, mm16 c0, Int.add_comm (c0 * 16 * 16), Int.add_mul_ediv_right _ _ (by decide), Int.add_comm (c1 / 16)]
    exact mm (c := 16) (d := 4) (Int.ediv_nonneg h1 (by decide)) (Int.ediv_lt_of_lt_mul (by decide) h1') (by decide)
  · rw [← e1, bf2, mm64 (c0 * 256 + c1), Int.add_comm _ c2, Int.add_mul_ediv_right _ _ (by decide), Int.add_comm (c2 / 64)]
    exact bf3 (Int.ediv_nonneg h2 (by decide)) (Int.ediv_lt_of_lt_mul (by decide) h2')
  · rw [← e0, Int.ediv_one, Int.emod_emod_of_dvd _ (by decide : (64 : Int) ∣ 65536), Int.add_comm, mm64 (c0 * 256 + c1), Int.add_mul_emod_self_right]
noncomputable def em : Nat → Int → Int → List Int × Int
  | 0, _, k => ([], k)
  | n + 1, X, k => if 6 ≤ k then (b64 (Builtin.bitAnd (X.fdiv (2 ^ (k - 6).toNat)) 63) :: (em n X (k - 6)).1, (em n X (k - 6)).2) else ([], k)
theorem em_lt {n : Nat} {X k : Int} (h : ¬ 6 ≤ k) : em n X k = ([], k) := by
  cases n with
  | zero => rfl
  | succ n => rw [em, if_neg h]
theorem em_ge {n : Nat} {X k : Int} (h : 6 ≤ k) : em (n + 1) X k = (b64 (Builtin.bitAnd (X.fdiv (2 ^ (k - 6).toNat)) 63) :: (em n X (k - 6)).1, (em n X (k - 6)).2) := by rw [em, if_pos h]
noncomputable def pv (p : Int × Tok) : Value := .int p.1 p.2
noncomputable def b64Led (D I : Addr) (it : Obj) (its : List (Int × Tok)) (n : Nat) : Led := [(D, listOf (its.map pv).toArray n), (I, it)]
inductive B64J (D I : Addr) (it : Obj) (X : Int) (ub : Tok) (all : List Int) (kend : Int) (n : Nat) (m : Str → Option Value) (nw : Led) : Prop
  | mk0 (k : Int) (its : List (Int × Tok)) (e : Nat) (ul : Tok) : AllAre m [(Str.ofString "out", .ref D), (Str.ofString "newline", .bool false), (Str.ofString "leftchar", .int X ub), (Str.ofString "leftbits", .int k ul)] → nw = b64Led D I it its e → its.map Prod.fst ++ (em n X k).1 = all → (em n X k).2 = kend → 0 ≤ k → k < 6 * n + 6 → k < 100 → its.length + n ≤ 13 → (∀ p ∈ its, 0 ≤ p.1 ∧ p.1 < 256) → B64J D I it X ub all kend n m nw
inductive B64R (g1 : Heap) (L1 D I : Addr) (it : Obj) (gn : Array GenState) (dr : Drawn) (os : OsState) (X c lb : Int) (ks : List Int) (f : Flow) (s' : Shared) : Prop
  | mk0 (X' : Int) (h' : Heap) (tk' : Nat) (m' : Str → Option Value) (its : List (Int × Tok)) (e : Nat) (ub ul : Tok) : f = .next → s' = { heap := h', gens := gn, drawn := dr, toks := tk', os := os } → Builtin.bitAnd (Builtin.bitOr (X * 2 ^ (Int.toNat 8)) c) 65535 = X' → 0 ≤ X' ∧ X' < 1000000 → Fr g1 L1 h' m' → News g1 L1 h' (b64Led D I it its e) → AllAre m' [(Str.ofString "out", .ref D), (Str.ofString "newline", .bool false), (Str.ofString "leftchar", .int X' ub), (Str.ofString "leftbits", .int (em 3 X' (lb + 8)).2 ul)] → its.map Prod.fst = ks ++ (em 3 X' (lb + 8)).1 → (∀ p ∈ its, 0 ≤ p.1 ∧ p.1 < 256) → B64R g1 L1 D I it gn dr os X c lb ks f s'
theorem b64_turn {w : World} {p : Program} {loose : List Str} {mean : ExcName → Option Value} {mg mb : Str → Option Value} {dp un : Nat} {gd : Option (List Code)} {cn : Str} {cs : Scope} {a : Addr} {ccd : Value} {cl : List (Str × Addr)} {outer : List Env} {base g1 : Heap} {L L1 D I : Addr} {it : Obj} {gn : Array GenState} {dr : Drawn} {os : OsState}
    {c X lb : Int} {its : List (Int × Tok)} {n tk : Nat} {u ub ul : Tok} {h : Heap} {m : Str → Option Value} {ks : List Int} {R : Flow → Shared → Prop}
    (B1 : Below (ktrTop dp un gd cn cs L a ccd cl outer) base (envX cn cs L a ccd cl :: outer) g1) (X1 : (Mine.hd.heap_1 w.params).In g1) (T1 : Top p loose mean mg mb g1) (hDI : D ≠ I) (F : Fr g1 L1 h m) (N : News g1 L1 h (b64Led D I it its n))
    (hA : AllAre m [(Str.ofString "out", .ref D), (Str.ofString "newline", .bool false), (Str.ofString "b", .int c u), (Str.ofString "leftchar", .int X ub), (Str.ofString "leftbits", .int lb ul)]) (hX : 0 ≤ X ∧ X < 1000000) (hl : 0 ≤ lb ∧ lb < 6) (hn : its.length < 10) (hks : its.map Prod.fst = ks) (hr : ∀ p ∈ its, 0 ≤ p.1 ∧ p.1 < 256)
    (ret : ∀ f s', B64R g1 L1 D I it gn dr os X c lb ks f s' → R f s') :
    wpAny (model PySem.Challenge.rw_rt0054_01.row.prog w) ((ktrTop dp un gd cn cs L a ccd cl outer).deeper (envOf (Str.ofString "b2a_base64") { kind := ScopeKind.function, names := [(Str.ofString "data", NameKind.local), (Str.ofString "newline", NameKind.local), (Str.ofString "bin_data", NameKind.local), (Str.ofString "out", NameKind.local), (Str.ofString "leftbits", NameKind.local), (Str.ofString "leftchar", NameKind.local), (Str.ofString "b", NameKind.local), (Str.ofString "_buffer", NameKind.globalImplicit), (Str.ofString "_truth", NameKind.globalImplicit), (Str.ofString "_B64", NameKind.globalImplicit), (Str.ofString "bytes", NameKind.globalImplicit)], isGenerator := false, isCoroutine := false } L1 125 (Value.ref 124))) (execs [PySem.Stmt.Assign [PySem.Expr.Name (Str.ofString "leftchar") { line := 195, col := 8, endLine := 195, endCol := 16 }] ((((PySem.Expr.Name (Str.ofString "leftchar") { line := 195, col := 20, endLine := 195, endCol := 28 }).BinOp PySem.Operator.LShift (PySem.Expr.Constant (PySem.Const.int 8) 0 { line := 195, col := 32, endLine := 195, endCol := 33 }) { line := 195, col := 20, endLine := 195, endCol := 33 }).BinOp PySem.Operator.BitOr (PySem.Expr.Name (Str.ofString "b") { line := 195, col := 36, endLine := 195, endCol := 37 }) { line := 195, col := 20, endLine := 195, endCol := 37 }).BinOp PySem.Operator.BitAnd (PySem.Expr.Constant (PySem.Const.int 65535) 0 { line := 195, col := 41, endLine := 195, endCol := 46 }) { line := 195, col := 19, endLine := 195, endCol := 46 }) { line := 195, col := 8, endLine := 195, endCol := 46 }, PySem.Stmt.Assign [PySem.Expr.Name (Str.ofString "leftbits") { line := 196, col := 8, endLine := 196, endCol := 16 }] ((PySem.Expr.Name (Str.ofString "leftbits") { line := 196, col := 19, endLine := 196, endCol := 27 }).BinOp PySem.Operator.Add (PySem.Expr.Constant (PySem.Const.int 8) 0 { line := 196, col := 30, endLine := 196, endCol := 31 }) { line := 196, col := 19, endLine := 196, endCol := 31 }) { line := 196, col := 8, endLine := 196, endCol := 31 }, PySem.Stmt.While ((PySem.Expr.Name (Str.ofString "leftbits") { line := 197, col := 14, endLine := 197, endCol := 22 }).Compare [PySem.CmpOp.GtE] [PySem.Expr.Constant (PySem.Const.int 6) 0 { line := 197, col := 26, endLine := 197, endCol := 27 }] { line := 197, col := 14, endLine := 197, endCol := 27 }) [PySem.Stmt.Expr (((PySem.Expr.Name (Str.ofString "out") { line := 198, col := 12, endLine := 198, endCol := 15 }).Attribute (Str.ofString "append") { line := 198, col := 12, endLine := 198, endCol := 22 }).Call [(PySem.Expr.Name (Str.ofString "_B64") { line := 198, col := 23, endLine := 198, endCol := 27 }).Subscript (((PySem.Expr.Name (Str.ofString "leftchar") { line := 198, col := 28, endLine := 198, endCol := 36 }).BinOp PySem.Operator.RShift ((PySem.Expr.Name (Str.ofString "leftbits") { line := 198, col := 40, endLine := 198, endCol := 48 }).BinOp PySem.Operator.Sub (PySem.Expr.Constant (PySem.Const.int 6) 0 { line := 198, col := 51, endLine := 198, endCol := 52 }) { line := 198, col := 40, endLine := 198, endCol := 52 }) { line := 198, col := 28, endLine := 198, endCol := 52 }).BinOp PySem.Operator.BitAnd (PySem.Expr.Constant (PySem.Const.int 63) 0 { line := 198, col := 55, endLine := 198, endCol := 57 }) { line := 198, col := 28, endLine := 198, endCol := 57 }) { line := 198, col := 23, endLine := 198, endCol := 58 }] [] { line := 198, col := 12, endLine := 198, endCol := 59 }) { line := 198, col := 12, endLine := 198, endCol := 59 }, PySem.Stmt.Assign [PySem.Expr.Name (Str.ofString "leftbits") { line := 199, col := 12, endLine := 199, endCol := 20 }] ((PySem.Expr.Name (Str.ofString "leftbits") { line := 199, col := 23, endLine := 199, endCol := 31 }).BinOp PySem.Operator.Sub (PySem.Expr.Constant (PySem.Const.int 6) 0 { line := 199, col := 34, endLine := 199, endCol := 35 }) { line := 199, col := 23, endLine := 199, endCol := 35 }) { line := 199, col := 12, endLine := 199, endCol := 35 }] [] { line := 197, col := 8, endLine := 199, endCol := 35 }] (envOf (Str.ofString "b2a_base64") { kind := ScopeKind.function, names := [(Str.ofString "data", NameKind.local), (Str.ofString "newline", NameKind.local), (Str.ofString "bin_data", NameKind.local), (Str.ofString "out", NameKind.local), (Str.ofString "leftbits", NameKind.local), (Str.ofString "leftchar", NameKind.local), (Str.ofString "b", NameKind.local), (Str.ofString "_buffer", NameKind.globalImplicit), (Str.ofString "_truth", NameKind.globalImplicit), (Str.ofString "_B64", NameKind.globalImplicit), (Str.ofString "bytes", NameKind.globalImplicit)], isGenerator := false, isCoroutine := false } L1 125 (Value.ref 124))) R (fun _ _ => False) { heap := h, gens := gn, drawn := dr, toks := tk, os := os } := by
  revert X1
  w_top off
  k_fill
  intro X1
  replace F := frOv F hA
  unfold b64Led at N
  k_steps
  refine Stop.mk ?_
  refine lshift_int_small (by decide) (by decide) (lt_64 hX) ?_
  k_steps
  refine Stop.mk ?_
  (refine and_int ?_; (generalize hX' : Builtin.bitAnd _ _ = X'); (have hB' := band_lt (by decide) (by decide) hX'); dsimp only)
  k_steps
  refine Stop.mk ?_
  rename Fr g1 L1 _ _ => F3
  rename News g1 L1 _ _ => N3
  refine While_J (hE := by passes_own) (B64J D I it X' _ (ks ++ (em 3 X' (lb + 8)).1) (em 3 X' (lb + 8)).2) 3 F3 N3 ⟨lb + 8, its, n, _, ⟨rfl, rfl, rfl, rfl, trivial⟩, rfl, by rw [hks], rfl, by omega, by omega, by omega, by omega, hr⟩ ?_
  rintro i m4 nw4 h4 tk4 F4 N4 qG R' R0 hR hR0
  refine hideG fun gG hG => ?_
  obtain ⟨k, its4, e4, ul4, hA4, rfl, hE4, hk4, h0, h6, h100, hln, hr4⟩ := qG
  refine hG ?_
  clear hG gG F3 N3
  replace F4 := frOv F4 hA4
  unfold b64Led at N4
  k_steps
  · rename _ ≤ _ => hge
    obtain ⟨j, rfl⟩ : ∃ j, i = j + 1 := ⟨i - 1, by omega⟩
    rw [em_ge hge] at hE4 hk4
    refine Stop.mk ?_
    refine rshift_int (by omega) ?_
    k_steps
    refine Stop.mk ?_
    (refine and_int ?_; (generalize hXb : Builtin.bitAnd _ _ = Xb at hE4 ⊢); dsimp only)
    k_steps
    refine Stop.mk ?_
    refine KBw.item_K (ks := b64ks) (by kernel_rfl) (by decide +kernel) (ix_b64 hXb).1 (ix_b64 hXb).2 ?_
    intro t5 k5 r5 r5'
    k_steps
    refine Stop.mk ?_
    refine app_at (val := pv) (x := (b64 Xb, t5)) F4 N4 (fun p hp => by rw [List.mem_singleton.mp hp]; exact hDI.symm) (by rw [sizeLine_eq]; omega) ?_
    intro h6 F6 N6
    k_steps
    refine hR _ _ ?_
    dsimp only [WStep]
    refine ⟨_, _, _, _, j, rfl, by assumption, by assumption, Nat.lt_succ_self j, ⟨k - 6, its4 ++ [(b64 Xb, t5)], _, _, ⟨rfl, rfl, rfl, rfl, trivial⟩, rfl, ?_, hk4, by omega, by omega, by omega, by rw [List.length_append, List.length_singleton]; omega, fun p hp => ?_⟩⟩
    · rw [← hE4, List.map_append, List.append_assoc]; rfl
    · rcases List.mem_append.mp hp with q | q
      · exact hr4 p q
      · rw [List.mem_singleton.mp q]; exact ⟨r5, r5'⟩
  · rename ¬ _ => hlt
    rw [em_lt hlt] at hE4 hk4
    refine hR0 _ ?_
    dsimp only
    refine wpAny_execs_nil ?_
    refine ret _ _ ⟨X', _, _, _, its4, e4, _, ul4, rfl, rfl, hX', hB', F4, N4, (by rw [← hk4]; exact ⟨rfl, rfl, rfl, rfl, trivial⟩), ?_, hr4⟩
    · rw [← hE4, List.append_nil]
theorem em8 (X : Int) : em 3 X (0 + 8) = ([b64 (Builtin.bitAnd (X.fdiv 4) 63)], 2) := by rw [em_ge (by decide), em_lt (by decide)]; rfl
theorem em10 (X : Int) : em 3 X (2 + 8) = ([b64 (Builtin.bitAnd (X.fdiv 16) 63)], 4) := by rw [em_ge (by decide), em_lt (by decide)]; rfl
theorem em12 (X : Int) : em 3 X (4 + 8) = ([b64 (Builtin.bitAnd (X.fdiv 64) 63), b64 (Builtin.bitAnd (X.fdiv 1) 63)], 0) := by rw [em_ge (by decide), em_ge (by decide), em_lt (by decide)]; rfl
theorem cons_its {its : List (Int × Tok)} {k : Int} {ks : List Int} (e : its.map Prod.fst = k :: ks) : ∃ t l, its = (k, t) :: l ∧ l.map Prod.fst = ks := by
  cases its with
  | nil => cases e
  | cons a l => injection e with e1 e2; exact ⟨a.2, l, by rw [← e1], e2⟩
theorem len_its {its : List (Int × Tok)} {ks : List Int} {n : Nat} (e : its.map Prod.fst = ks) (h : ks.length < n) : its.length < n := by rw [← e, List.length_map] at h; exact h
theorem perm2 {p q : Addr × Obj} {P : Addr × Obj → Prop} (h : ∀ x ∈ [p, q], P x) : ∀ x ∈ [q, p], P x := fun x hx => h x (by
  rcases List.mem_cons.mp hx with rfl | hx
  · exact .tail _ (.head _)
  · rw [List.mem_singleton.mp hx]; exact .head _)
theorem b64_end {g1 h : Heap} {L1 D I : Addr} {it : Obj} {gn : Array GenState} {dr : Drawn} {os : OsState} {s₁ : Shared} {tk : Nat} {m' : Str → Option Value} {its : List (Int × Tok)} {e : Nat} {rest : (Str → Option Value) → Led → Prop} {Q : Flow → Shared → Prop} (hDI : D ≠ I) (F : Fr g1 L1 h m') (N : News g1 L1 h (b64Led D I it its e)) (h1 : s₁.gens = gn) (h2 : s₁.drawn = dr) (h3 : s₁.os = os)
    (r : rest m' [(D, listOf (its.map pv).toArray e)]) : UnrPost g1 L1 s₁ I it rest Q .next { heap := h, gens := gn, drawn := dr, toks := tk, os := os } := by
  subst h1 h2 h3
  exact UnrEnd.intro (s₁ := s₁) F N [(D, listOf (its.map pv).toArray e)] (perm2 fun _ x => x) (fun p hp => by rw [List.mem_singleton.mp hp]; exact hDI) r
theorem bInts_four {k0 k1 k2 k3 : Int} (r0 : 0 ≤ k0 ∧ k0 < 256) (r1 : 0 ≤ k1 ∧ k1 < 256) (r2 : 0 ≤ k2 ∧ k2 < 256) (r3 : 0 ≤ k3 ∧ k3 < 256) :
    KBw.bInts #[k0.toNat.toUInt8, k1.toNat.toUInt8, k2.toNat.toUInt8, k3.toNat.toUInt8] = [k0, k1, k2, k3] :=
  KBa.ints_make (ns := [k0, k1, k2, k3]) fun n hn => by
    rcases List.mem_cons.mp hn with rfl | hn
    · exact r0
    · rcases List.mem_cons.mp hn with rfl | hn
      · exact r1
      · rcases List.mem_cons.mp hn with rfl | hn
        · exact r2
        · rw [List.mem_singleton.mp hn]; exact r3
theorem normF {g h : Heap} {L : Addr} {m : Str → Option Value} {P : (Str → Option Value) → Prop} (F : Fr g L h m) (hP : P m) : ∃ m', Fr g L h m' ∧ P m' := ⟨m, F, hP⟩
inductive B64Mid (g1 : Heap) (L1 : Addr) (gn : Array GenState) (dr : Drawn) (os : OsState) (c0 c1 c2 : Int) (f : Flow) (s' : Shared) : Prop
  | mk0 (h : Heap) (tk : Nat) (m' : Str → Option Value) (k0 k1 k2 k3 : Int) (D : Addr) (n : Nat) (t0 t1 t2 t3 t4 : Tok) : f = .next → s' = { heap := h, gens := gn, drawn := dr, toks := tk, os := os } → Fr g1 L1 h m' →
      News g1 L1 h [(D, listOf #[.int k0 t0, .int k1 t1, .int k2 t2, .int k3 t3] n)] → AllAre m' [(Str.ofString "out", .ref D), (Str.ofString "newline", .bool false), (Str.ofString "leftbits", .int 0 t4)] → B64 c0 c1 c2 k0 k1 k2 k3 → (0 ≤ k0 ∧ k0 < 256) → (0 ≤ k1 ∧ k1 < 256) → (0 ≤ k2 ∧ k2 < 256) → (0 ≤ k3 ∧ k3 < 256) → B64Mid g1 L1 gn dr os c0 c1 c2 f s'
theorem b2a_spec (w : World) (b : Array UInt8) (c0 c1 c2 : Int) (t : Tok) (news : Led) (hb : KBw.bInts b = [c0, c1, c2]) :
   FnK w 25 250 (.ref 125) [.bytes b t] [(Str.ofString "newline", .bool false)] news (fun r news' => ∃ b' t', r = .bytes b' t' ∧ ∃ k0 k1 k2 k3, KBw.bInts b' = [k0, k1, k2, k3] ∧ B64 c0 c1 c2 k0 k1 k2 k3 ∧ news' = news) := by
  unfold FnK PG
  w_top off
  k_fill
  intro p loose mean mg mb dp un gd cn cs a ccd cl outer A₀ base h₀ L m s Q E B F X N T hk hd hu hret
  refine wpAny_call ?_
  k_dflt ((refine' Mine.codeH_def ?k1 ?k2 ?k3 ?k5 ?kA ?kF ?kK ?k6 ?k7 ?k8 ?k9 ?kB ?_ ?c2 ?c3 ?c4 ?c5; (case kA => exact rfl); (case kF => exact rfl); (case kK => first | assumption | exact rfl); (case k1 => k_asm); (case k2 => k_asm); (case k3 => k_asm); (case k5 => k_asm); (case k6 => k_is); (case k7 => k_is); (case k8 => ktr_room); (case k9 => first | exact BindsTo.of_eq rfl | exact binds_K (by k_in) rfl (by k_is) rfl rfl rfl); (case c5 => decide); (case kB => exact locs rfl); (case c2 => exact rfl); (case c3 => exact rfl); (case c4 => exact rfl); k_whole; intro g1 L1 h1 FG1 F1 N1 B1 X1 T1 hg1; (try dsimp only); (try k_fold)))
  refine noE ?_
  refine frG [(Str.ofString "data", .bytes b t), (Str.ofString "newline", .bool false)] F1 ⟨rfl, rfl, trivial⟩ fun mE hAE FE => ?_
  clear F1 hAE
  rename Fr g1 L1 _ _ => F1
  k_steps
  refine Stop.mk ?_
  k_dflt (refine wpAny_call ?_; (refine' code_def ?k1 ?k2 ?k3 ?k4 ?k5 ?kA ?kF ?kK ?k6 ?k7 ?k8 ?k9 ?kB ?_ ?c2 ?c3 ?c4 ?c5; (case kA => exact rfl); (case kF => exact rfl); (case kK => first | assumption | exact rfl); (case k1 => k_asm); (case k2 => k_asm); (case k3 => k_asm); (case k4 => k_asm); (case k5 => k_asm); (case k6 => k_is); (case k7 => k_is); (case k8 => ktr_room); (case k9 => first | exact BindsTo.of_eq rfl | exact binds_K (by k_in) rfl (by k_is) rfl rfl rfl); (case c5 => decide); (case kB => exact locs rfl); (case c2 => exact rfl); (case c3 => exact rfl); (case c4 => exact rfl); k_whole; intro g' L' h' FG' F' N' B' X' T'; (try dsimp only); (try k_fold)))
  k_steps
  refine Stop.mk ?_
  ((with_reducible show wpAny _ _ (call _ [Value.bytes _ _]) _ _ _); refine call_type_of (Tx := "bytes") rfl (by decide +kernel) ?_)
  k_steps
  refine Stop.mk ?_
  k_dflt (refine wpAny_call ?_; (refine' code_def ?k1 ?k2 ?k3 ?k4 ?k5 ?kA ?kF ?kK ?k6 ?k7 ?k8 ?k9 ?kB ?_ ?c2 ?c3 ?c4 ?c5; (case kA => exact rfl); (case kF => exact rfl); (case kK => first | assumption | exact rfl); (case k1 => k_asm); (case k2 => k_asm); (case k3 => k_asm); (case k4 => k_asm); (case k5 => k_asm); (case k6 => k_is); (case k7 => k_is); (case k8 => ktr_room); (case k9 => first | exact BindsTo.of_eq rfl | exact binds_K (by k_in) rfl (by k_is) rfl rfl rfl); (case c5 => decide); (case kB => exact locs rfl); (case c2 => exact rfl); (case c3 => exact rfl); (case c4 => exact rfl); k_whole; intro g' L' h' FG' F' N' B' X' T'; (try dsimp only); (try k_fold)))
  k_steps
  refine Stop.mk ?_
  refine call_type_of (Tx := "bool") rfl (by decide +kernel) ?_
  k_steps
  rename Fr g1 L1 _ _ => F2
  rename News g1 L1 _ _ => N2
  refine Stop.mk ?_
  with_reducible refine k_flat (s := s) ?_
  intro tkF
  refine wpAny_mono (Q := B64Mid g1 L1 s.gens s.drawn s.os c0 c1 c2) ?_ (fun f s' hf => ?_) fun _ _ e => e
  · refine hideQ fun QR hRq => ?_
    rename_i z31 z30 z29 z28 z27 z26 z25 z24 z23 z22 z21 z20 z19 z18 z17 z16 z15 z14 z13 z12 z11 z10 z9 z8 z7 z6 z5 z4 z3 _ z2 z1 _ _ _ _ _
    clear news A₀ h₀ m Q E B F X N T hk hd hu hret h1 FG1 hg1 z31 z30 z29 z28 z27 z26 z25 z24 z23 z22 z21 z20 z19 z18 z17 z16 z15 z14 z13 z12 g' L' h' B' X' T' qk ek z11 z10 z9 z8 z7 z6 z5 z4 z3 z2 z1 tkf
    rename_i D _ _ _ _
    refine' For_invVF F2 ?k1 ?k2 ?_
    · exact rfl
    · exact rfl
    k_steps
    refine Stop.mk ?_
    ((rename Fr _ _ _ _ => lF'); (rename News _ _ _ _ => lN'); (with_unfolding_all refine iter_bytesUnr (by rfl) lF' lN' (by assumption) ?_); clear lF' lN'; intro i' l1)
    have hDI : D ≠ i' := Nat.ne_of_lt (l1 _ (.head _))
    refine BytesRest.succ fun p0 p0' u0 it0 h0 tk0 F0 N0 => ?_
    refine b64_turn (its := []) (ks := []) (lb := 0) (X := 0) (n := 0) B1 X1 T1 hDI F0 (perm2 N0) ⟨rfl, rfl, rfl, rfl, rfl, trivial⟩ (by decide) (by decide) (by decide) rfl (fun _ h => nomatch h) fun f s' hf => ?_
    refine hideG fun gG hG => ?_
    obtain ⟨X6, h6, tk6, m6, its6, n6, t6, t6', rfl, rfl, e6, b6, F6, N6, A6, K6, r6⟩ := hf
    refine hG ?_
    clear hG gG F0 N0
    rw [em8] at A6 K6
    refine b64_end hDI (frOv F6 A6) N6 rfl rfl rfl ?_
    refine BytesRest.succ fun p1 p1' u1 it1 h1 tk1 F1 N1 => ?_
    refine b64_turn (its := its6) (lb := 2) (X := X6) B1 X1 T1 hDI F1 (perm2 N1) ⟨rfl, rfl, rfl, rfl, rfl, trivial⟩ b6 (by decide) (len_its K6 (Nat.le_of_ble_eq_true rfl)) K6 r6 fun f s' hf => ?_
    refine hideG fun gG hG => ?_
    obtain ⟨X4, h4, tk4, m4, its4, n4, t4, t4', rfl, rfl, e4, b4, F4, N4, A4, K4, r4⟩ := hf
    refine hG ?_
    clear hG gG F1 N1
    rw [em10] at A4 K4
    refine b64_end hDI (frOv F4 A4) N4 rfl rfl rfl ?_
    refine BytesRest.succ fun p2 p2' u2 it2 h2 tk2 F2 N2 => ?_
    refine b64_turn (its := its4) (lb := 4) (X := X4) B1 X1 T1 hDI F2 (perm2 N2) ⟨rfl, rfl, rfl, rfl, rfl, trivial⟩ b4 (by decide) (len_its K4 (Nat.le_of_ble_eq_true rfl)) K4 r4 fun f s' hf => ?_
    refine hideG fun gG hG => ?_
    obtain ⟨X2, h2, tk2, m2, its2, n2, t2, t2', rfl, rfl, e2, b2, F2, N2, A2, K2, r2⟩ := hf
    refine hG ?_
    clear hG gG
    rw [em12] at A2 K2
    refine b64_end hDI (frOv F2 A2) N2 rfl rfl rfl ?_
    refine BytesRest.zero fun h3 tk3 F3 N3 => ?_
    refine hRq _ _ ?_
    refine hideG fun gG hG => ?_
    obtain ⟨t0, l0, rfl, Ka⟩ := cons_its (ks := [_, _, _]) K2
    obtain ⟨t1, l1, rfl, Kb⟩ := cons_its Ka
    obtain ⟨t2, l2, rfl, Kc⟩ := cons_its Kb
    obtain ⟨t3, l3, rfl, Kd⟩ := cons_its Kc
    refine hG ?_
    clear hG gG
    obtain rfl := List.map_eq_nil_iff.mp Kd
    exact ⟨_, _, _, _, _, _, _, _, _, _, _, _, _, _, rfl, rfl, F3, N3, ⟨rfl, rfl, rfl, trivial⟩, b64_fin p0 p0' p1 p1' p2 p2' e6 rfl e4 rfl e2 rfl rfl, r2 _ (.head _), r2 _ (.tail _ (.head _)), r2 _ (.tail _ (.tail _ (.head _))), r2 _ (.tail _ (.tail _ (.tail _ (.head _))))⟩
  · refine hideG fun gG hG => ?_
    obtain ⟨h5, tk5, m5, k0, k1, k2, k3, D, n5, t0, t1, t2, t3, t4, rfl, rfl, F5, N5, ha, hb5, r0, r1, r2, r3⟩ := hf
    refine hG ?_
    try clear hG gG
    replace F5 := frOv F5 ha
    rename_i z36 z35 z34 z33 z32 z31 z30 z29 z28 z27 z26 z25 z24 z23 z22 z21 z20 z19 z18 z17 z16 z15 z14 z13 z12 z11 z10 z9 z8 z7 z6 z5 z4 z3 z2 z1
    clear b t hb hd hu h1 z36 mE z35 z34 z33 z32 z31 z30 z29 z28 z27 z26 z25 z24 z23 z22 z21 z20 z19 z18 g' L' h' B' X' T' qk ek z17 z16 z15 z14 z13 z12 z11 z10 z9 z8 z7 z6 z5 z4 z3 z2 z1 F2 N2 tkf tkF
    k_steps
    refine hret _ news _ _ (by assumption) (News.stay N hg1 (by assumption)) ⟨_, _, rfl, _, _, _, _, bInts_four r0 r1 r2 r3, hb5, rfl⟩
end Mine
end
section
open PySem PySem.W PySem.Calls PyProof.Rows
set_option maxRecDepth 1000000
set_option maxHeartbeats 0
namespace Mine2
abbrev pw : Program := PySem.Challenge.pw_rt0054_01
noncomputable def keepIx : List Nat := [0,2,3,4,5,6,7,8,9,10,11,15,16,17,21,23,24,25,26,27,29,31,32,33,34,35,36,37]
noncomputable def view : Program := { pw with main := { pw.main with body := keepIx.filterMap fun i => pw.main.body[i]? } }
noncomputable def loose : List Str := [Str.ofString "nsmallest", Str.ofString "nlargest", Str.ofString "b2a_base64", Str.ofString "b64encode"]
def lawD : DefRec := match pw.main.body.getD 37 (.Pass default) with
  | .FunctionDef n a b _ _ _ s _ _ p => { name := n, params := a, body := b, scope := s, pos := p }
  | _ => { name := Str.empty, params := ⟨[], [], none, [], [], none, []⟩, body := [], scope := default, pos := default }
noncomputable def as : List Addr := (Mine.hd.heap_1 { strHash := fun _ => 7, shareClass := fun _ => 0, mergeTok := fun t => t, idOf := fun a => a, idOfShared := fun _ _ => 0, followText := fun _ => true, idOfImm := fun _ => 0 }).map (·.1)
theorem as_eq : ∀ P, as = (Mine.hd.heap_1 P).map (·.1) := fun P => by kernel_rfl
noncomputable def H : Hook := kmHook Mine.hd.heap_1 as as_eq [222, 229]
theorem said0 : PySem.Challenge.rw_rt0054_01.wellSaid = true := by
  unfold OpenLaw.wellSaid
  iterate 18 (refine look_both ?_ ?_)
  case refine_1 =>
    unfold OpenRow.wellSaid OpenRow.partSaid
    repeat refine look_both ?_ ?_
    all_goals decide +kernel
  all_goals decide +kernel
/-- an object of the head, by its address -/
noncomputable def pick : List (Addr × Obj) → Nat → Obj
  | [], _ => default
  | x :: r, i => match Nat.beq x.1 i with
    | true => x.2
    | false => pick r i
noncomputable def e (P : Params) (i : Nat) : Obj := pick (Mine.hd.heap_1 P) i
/-- a function's object before it is made a function -/
noncomputable def bare (o : Obj) : Obj := match o.data with
  | .func f => { cls := .none, data := .func { name := f.name, qualname := f.qualname, params := f.params, body := f.body, scope := f.scope, globals := 0, closure := f.closure, defaults := .none, kwdefaults := .none } }
  | _ => o
noncomputable def s (P : Params) (i : Nat) : Obj := bare (e P i)
noncomputable def z : Obj := { cls := .none, data := .fields #[] }
/-- the module's table of names, its first n entries, while the class stands -/
noncomputable def gl (P : Params) (n : Nat) : Obj := match (e P 3).data with
  | .dict es _ => match es.toList.take n with
    | x :: r => { e P 3 with data := .dict ⟨{ x with val := .str (Str.ofString "cpy313.trace") 414 } :: r⟩ n }
    | [] => e P 3
  | _ => e P 3
noncomputable def cl : List (Int × Addr) := [(1, 20), (5, 27), (8, 34), (16, 41), (21, 48), (25, 55), (30, 62), (34, 69), (45, 76), (59, 83), (70, 90), (84, 96), (129, 102), (175, 109), (182, 116), (188, 124), (211, 132), (219, 139), (240, 146), (251, 153), (260, 160), (279, 167), (282, 174), (309, 199), (313, 204), (315, 209), (322, 214), (328, 219), (336, 226), (348, 231)]
noncomputable def cn (l : List (Int × Addr)) : Obj := { cls := .none, data := .fields ⟨l.flatMap fun x => [.int x.1 0, .int 0 0, .ref x.2]⟩ }
noncomputable def fld (l : List Value) : Data := .fields ⟨l⟩
noncomputable def st (x : String) (n : Nat) : Value := .str (Str.ofString x) n
noncomputable def o11 : Obj := { cls := .type "tuple", data := .seq #[] }
noncomputable def o13 : Obj := { cls := .type "code", data := fld [st "<module>" 182, st "<module>" 183, st "/claim/cut.py" 184, .int 1 0, .int 0 0, .int 0 0, .int 0 0, .int 0 0, .ref 11, .bool false, .int 181 0, .ref 12, .none, .none, .none, .none, .int 185 0, .int 1 0, st "/claim/cut.py" 186] }
noncomputable def o14 : Obj := { cls := .type "frame", slots := #[some (.ref 13), some (.ref 3), some (.ref 3), none, some (st "__main__" 164), none, some (.ref 0)] }
noncomputable def o169 : Obj := o11
noncomputable def o170 : Obj := { cls := .type "builtin_function_or_method", data := fld [.builtin "type.__prepare__", .type "type"] }
noncomputable def en (P : Params) (x : String) (n : Nat) (v : Value) : DictEntry := { hash := PyData.keyHash P (Str.ofString x), key := st x n, val := v }
noncomputable def o171 (P : Params) : Obj := { cls := .type "dict", data := .dict ⟨[en P "__module__" 423 (st "cpy313.trace" 414), en P "__qualname__" 425 (st "_Ignore" 424), en P "__firstlineno__" 427 (.int 282 426), en P "__init__" 433 (.ref 181), en P "names" 444 (.ref 188), en P "__static_attributes__" 448 (.ref 189)]⟩ 6 }
noncomputable def o172 : Obj := o11
noncomputable def o173 : Obj := { cls := .none, data := fld [.int 284 0, .int 4 0, .ref 180, .int 289 0, .int 4 0, .ref 187] }
noncomputable def o174 : Obj := { cls := .type "code", data := fld [st "_Ignore" 418, st "_Ignore" 419, st "/claim/cut.py" 420, .int 282 0, .int 0 0, .int 0 0, .int 0 0, .int 0 0, .ref 172, .bool false, .int 181 0, .ref 173, .none, .none, .none, .none, .int 421 0, .int 282 0, st "/claim/cut.py" 422] }
noncomputable def o175 : Obj := { cls := .type "frame", slots := #[some (.ref 174), some (.ref 3), some (.ref 171), none, some (st "cpy313.trace" 414), none, some (.ref 0)] }
noncomputable def o194 : Obj := { cls := .type "super", data := fld [.ref 191, .ref 191, .ref 191] }
noncomputable def o195 : Obj := { cls := .type "builtin_function_or_method", data := fld [.builtin "object.__init_subclass__", .ref 191] }
noncomputable def l0 (P : Params) (g c : Obj) : List Obj := [boot_o_0 P, boot_o_1 P, boot_o_2 P, g, boot_o_4 P, boot_o_5 P, boot_o_6 P, boot_o_7 P, boot_o_8 P, boot_o_9 P, boot_o_10 P, o11, c, o13, o14]
noncomputable def l1 (P : Params) : List Obj := [e P 15, z, e P 17, e P 18, s P 21, e P 20, e P 21, e P 22, z, e P 24, e P 25, s P 28, e P 27, e P 28, e P 29, z, e P 31, e P 32, s P 35, e P 34, e P 35, e P 36, z, e P 38, e P 39, s P 42, e P 41, e P 42, e P 43, z, e P 45, e P 46, s P 49, e P 48, e P 49, e P 50, z, e P 52, e P 53, s P 56, e P 55, e P 56, e P 57, z, e P 59, e P 60, s P 63, e P 62, e P 63, e P 64, z, e P 66, e P 67, s P 70, e P 69, e P 70, e P 71, z, e P 73, e P 74, s P 77, e P 76, e P 77, e P 78, z, e P 80, e P 81, s P 84, e P 83, e P 84, e P 85, z, e P 87, e P 88, s P 91, e P 90, e P 91, e P 92, e P 93, z, s P 97, e P 96, e P 97, e P 98, e P 99, z, s P 103, e P 102, e P 103, e P 104, z, e P 106, e P 107, s P 110, e P 109, e P 110, e P 111, z, e P 113, e P 114, s P 117, e P 116, e P 117, e P 118, e P 119, z, e P 121, e P 122, s P 125, e P 124, e P 125, e P 126, e P 127, z, e P 129, e P 130, s P 133, e P 132, e P 133, e P 134, z, e P 136, e P 137, s P 140, e P 139, e P 140, e P 141, z, e P 143, e P 144, s P 147, e P 146, e P 147, e P 148, z, e P 150, e P 151, s P 154, e P 153, e P 154, e P 155, z, e P 157, e P 158, s P 161, e P 160, e P 161, e P 162, z, e P 164, e P 165, s P 168, e P 167, e P 168]
noncomputable def l2 (P : Params) : List Obj := [o169, o170, o171 P, o172, o173, o174, o175, e P 176, e P 177, z, s P 181, e P 180, e P 181, e P 182, z, e P 184, e P 185, s P 188, e P 187, e P 188, e P 189, e P 190, e P 191, e P 192, e P 193, o194, o195]
noncomputable def l3 (P : Params) : List Obj := [e P 196, z, s P 200, e P 199, e P 200, e P 201, z, s P 205, e P 204, e P 205, e P 206, z, s P 210, e P 209, e P 210, e P 211, z, s P 215, e P 214, e P 215, e P 216, z, s P 220, e P 219, e P 220, e P 221, z, e P 223, e P 224, s P 227, e P 226, e P 227, e P 228, z, s P 232, e P 231, e P 232]
noncomputable def alt : Bool → List Obj → List Obj
  | _, [] => []
  | true, x :: r => x :: alt false r
  | false, _ :: r => alt true r
noncomputable def bt : Nat → List Obj → BT
  | 0, _ => .nil
  | _ + 1, [] => .nil
  | n + 1, o :: r => .node o (bt n (alt true r)) (bt n (alt false r))
noncomputable def at0 (P : Params) : List Obj := l0 P (boot_o_3 P) z
noncomputable def atA (P : Params) : List Obj := l0 P (gl P 33) (cn (cl.take 22)) ++ l1 P
noncomputable def atB (P : Params) : List Obj := l0 P (gl P 34) (cn (cl.take 23)) ++ (l1 P ++ l2 P)
noncomputable def atF (P : Params) : List Obj := l0 P (e P 3) (cn cl) ++ (l1 P ++ (l2 P ++ l3 P))
noncomputable def sT (l : Params → List Obj) (n k : Nat) (w : World) (os : OsState) : SharedT := ⟨bt 9 (l w.params), n, {}, ⟨[]⟩, {}, k, os⟩
noncomputable def hF (P : Params) : Heap := ⟨⟨atF P⟩, {}⟩
noncomputable abbrev p : Program := PySem.Challenge.rw_rt0054_01.row.toRowW.prog
noncomputable def env : Env := { scope := p.main.scope, locals := mainNs, globals := mainNs, cells := [], code := .ref 13, frame := some 14 }
noncomputable def bE : List Stmt := behindTheImports p
noncomputable def bA : List Stmt := bE.take 29
noncomputable def bB : List Stmt := (bE.drop 29).take 1
noncomputable def bC : List Stmt := bE.drop 30
theorem bE_eq : bE = bA ++ (bB ++ (bC ++ [])) := by kernel_rfl
noncomputable def cE : Code := .body bE env
noncomputable def q0 : Pos := ⟨0, 0, 0, 0⟩
noncomputable def qA : Pos := ⟨281, 0, 281, 8⟩
noncomputable def qB : Pos := ⟨282, 0, 307, 16⟩
noncomputable def qF : Pos := ⟨348, 0, 365, 108⟩
noncomputable abbrev an : Option Value := some (.ref 6)
theorem opens : ∀ w : World, (fencedOpening treeTable p w 2576).map (fun s => (s.heap, s.gens, s.drawn, s.toks)) = some (boot_heap w.params, Array.mk [], boot_drawn, boot_toks) :=
  boot_open (by kernel_rfl) (by kernel_rfl) fun s => by kernel_rfl
theorem size : ∀ w : World, ((boot_heap w.params).isNs mainGlobals && (Array.mk [] : Array GenState).size == 0, (boot_heap w.params).objs.size, (boot_heap w.params).nsMap mainGlobals "__annotations__") = (true, 11, an) := fun w => by kernel_rfl
theorem pre (w : World) (os : OsState) : topGo treeTable p w 11 an 12 ⟨boot_heap w.params, ⟨[]⟩, boot_drawn, boot_toks, os⟩ (topStub p) = some ((sT at0 15 187 w os).abs, ⟨denote treeTable cE, cE, q0, [topFrame q0]⟩) := by kernel_rfl
theorem block (w : World) (os : OsState) : segRunT treeTable p w 11 an 1 1 (sT at0 15 187 w os) (blockOf bE env cE q0 [topFrame q0]) = some (.next, sT at0 15 187 w os, cE, q0) := by kernel_rfl
theorem runA (w : World) (os : OsState) : segRunT treeTable p w 11 an 1 766 (sT at0 15 187 w os) (piecesOf bA env cE q0 [topFrame q0]) = some (.next, sT atA 169 416 w os, cE, qA) := by kernel_rfl
theorem runB (w : World) (os : OsState) : segRunT treeTable p w 11 an 1 257 (sT atA 169 416 w os) (piecesOf bB env cE qA [topFrame q0]) = some (.next, sT atB 196 456 w os, cE, qB) := by kernel_rfl
theorem runC (w : World) (os : OsState) : segRunT treeTable p w 11 an 1 205 (sT atB 196 456 w os) (piecesOf bC env cE qB [topFrame q0]) = some (.next, sT atF 233 511 w os, cE, qF) := by kernel_rfl
theorem fin (w : World) (os : OsState) : topRun treeTable p w 11 an 2 (sT atF 233 511 w os).abs ⟨doneF .next, cE, qF, [topFrame q0]⟩ = some ⟨hF w.params, ⟨[]⟩, {}, 511, os⟩ := by kernel_rfl
theorem ran (w : World) (os : OsState) : topRun treeTable p w 11 an (12 + (1 + (766 + (257 + (205 + 2))))) ⟨boot_heap w.params, ⟨[]⟩, boot_drawn, boot_toks, os⟩ (topStub p) = some ⟨hF w.params, ⟨[]⟩, {}, 511, os⟩ := by
  refine go_top (pre w os) (piece_block (env := env) (segRun_of (block w os)) ?_)
  rw [show restOf bE env cE q0 [topFrame q0] = restOf (bA ++ (bB ++ (bC ++ []))) env cE q0 [topFrame q0] from congrArg (fun b => restOf b env cE q0 [topFrame q0]) bE_eq]
  exact piece_app (segRun_of (runA w os)) (piece_app (segRun_of (runB w os)) (piece_app (segRun_of (runC w os)) (piece_nil (fin w os))))
noncomputable abbrev sF (w : World) (os : OsState) : Shared := ⟨hF w.params, ⟨[]⟩, {}, 511, os⟩
noncomputable abbrev rn : List Str := (recsOf view).map (·.name)
noncomputable abbrev lw : List Str := looseW view loose
theorem lk0 (w : World) (os : OsState) : (staticsOk (importedModules p.main.body) (boot_heap w.params) (hF w.params) && namesBound p (hF w.params) && gensDone (sF w os) && laidKept (boot_heap w.params) (hF w.params)) = true := by kernel_rfl
theorem lk1 (w : World) (os : OsState) : seen rn (ownsOf view) [] { (sF w os) with gens := #[] } = expectedOf view := by kernel_rfl
theorem lk2 (w : World) (os : OsState) : (sF w os).heap.bltView = bltViewBooted := by kernel_rfl
theorem lk3 (w : World) (os : OsState) : ((sF w os).heap.keysOk lw rn ((litsOf view).map (·.1)) ((clssOf view lw).map (·.name)) && (sF w os).heap.accountedOkI (importedModules p.main.body) && (sF w os).heap.isNs mainGlobals && (sF w os).heap.isNs builtinsNs && tablesOk view (sF w os).heap && (xlAt view [] (sF w os) && recOk (RowW.records PySem.Challenge.rw_rt0054_01.row.toRowW) (sF w os)) && (if true then (sF w os).gens.size == 0 else !leftWithCleanup (sF w os).gens)) = true := by kernel_rfl
theorem lk4 (w : World) (os : OsState) : tabsOk view (sF w os) = true := by kernel_rfl
theorem lk5 (w : World) (os : OsState) : pinSeenD view (drecsOf view) (sF w os) = pinGoodD (drecsOf view) := by kernel_rfl
theorem lk6 (w : World) (os : OsState) : plainSeenE view lw (sF w os) = plainGoodE view lw := by kernel_rfl
theorem lk7 (w : World) (os : OsState) : plainSeenD view loose (sF w os) = plainGoodD view loose := by kernel_rfl
theorem lk8 (w : World) (os : OsState) : wideSeen view (sF w os) = wideGood view := by kernel_rfl
theorem lk9 (w : World) (os : OsState) : clsSeenW view loose (sF w os) = clsGoodW view loose := by kernel_rfl
theorem lkH (w : World) (os : OsState) : Hook.obs H (sF w os) = Hook.val H w := by kernel_rfl
theorem lk (w : World) (os : OsState) : openSeen view loose (importedModules p.main.body) (fun s => xlAt view [] s && recOk (RowW.records PySem.Challenge.rw_rt0054_01.row.toRowW) s) true (sF w os) = openGood view loose := looks_pair (lk1 w os) (looks_pair (lk2 w os) (looks_pair (lk3 w os) (looks_pair (lk4 w os) (looks_pair (lk5 w os) (looks_pair (lk6 w os) (looks_pair (lk7 w os) (looks_pair (lk8 w os) (lk9 w os))))))))
theorem left : LeftO PySem.Challenge.rw_rt0054_01.row.toRowW.prog view loose (fun s => xlAt view [] s && recOk (RowW.records PySem.Challenge.rw_rt0054_01.row.toRowW) s) (Hook.obs H) (Hook.val H) 2576 :=
  LeftO.of_pieces (H₀ := boot_heap) (H₁ := hF) (gs₀ := ⟨[]⟩) (gs₁ := ⟨[]⟩) (d₀ := boot_drawn) (d₁ := {}) (k₀ := boot_toks) (k₁ := 511) (m₀ := 11) (ann := an) opens size ran (by rfl)
    fun w => funext fun os => looks_pair (lk0 w os) (looks_pair (lk w os) (lkH w os))
theorem hdef : defOf view PySem.Challenge.rw_rt0054_01.row.name = some (lawD, []) := by kernel_rfl
theorem hp : PySem.Challenge.rw_rt0054_01.row.prog.theDef PySem.Challenge.rw_rt0054_01.row.name = some (lawD.params, lawD.body, lawD.scope) := by kernel_rfl
theorem hk : kwWritten? lawD.params.kwonlyargs lawD.params.kw_defaults = some [] := by kernel_rfl
theorem ok1 : (chainsOk view && opensWell PySem.Challenge.rw_rt0054_01.row.prog && (frees PySem.Challenge.rw_rt0054_01.row.toRowW && PySem.Challenge.rw_rt0054_01.row.within.isEmpty)) = true := by kernel_rfl
theorem hwit : PySem.Challenge.rw_rt0054_01.row.toRowW.promised := by
  w_on
  w_witness2
theorem hd (walk : WalkO view loose (XL view []) (Hook.says H) PySem.Challenge.rw_rt0054_01.row.toRowW lawD [] fun f vs => PySem.call f vs) : PySem.Challenge.rw_rt0054_01.Holds :=
  holds_law said0 fun said =>
    PySem.W.holds_open (q := view) (loose := loose) (Xt := fun s => xlAt view [] s && recOk (RowW.records PySem.Challenge.rw_rt0054_01.row.toRowW) s) (XP := XL view []) (Yf := Hook.obs H) (Ya := Hook.val H) (YP := Hook.says H) (N := 2576)
      left (Hook.of H) (Hook.keeps H) (fun s e => xl_of s (Bool.and_eq_true_iff.mp e).1) XL.keeps hdef hp hk (fun s e => recFacts_of (Bool.and_eq_true_iff.mp e).2) (by rfl) said ok1 ⟨rfl, rfl, rfl, rfl, rfl, by decide +kernel⟩ hwit walk
end Mine2
end
section
open PySem PySem.W PySem.Calls PyProof.Rows
namespace Mine
/-- what a tree of questions ends with, when lt answers -/
noncomputable def kasRun {α : Type} (lt : Nat → Nat → Bool) : KasT α → α
  | .ret a => a
  | .ask i j k => kasRun lt (k (lt i j))
noncomputable def Asks {α : Type} (n : Nat) : KasT α → Prop
  | .ret _ => True
  | .ask i j k => i < n ∧ j < n ∧ ∀ b, Asks n (k b)
theorem kasRun_bind {α β : Type} (lt : Nat → Nat → Bool) (f : α → KasT β) : ∀ t : KasT α, kasRun lt (t.bind f) = kasRun lt (f (kasRun lt t))
  | .ret _ => rfl
  | .ask i j k => kasRun_bind lt f (k (lt i j))
theorem Asks.bind {α β : Type} {n : Nat} {f : α → KasT β} (hf : ∀ a, Asks n (f a)) : ∀ {t : KasT α}, Asks n t → Asks n (t.bind f)
  | .ret a, _ => hf a
  | .ask _ _ k, h => ⟨h.1, h.2.1, fun b => Asks.bind hf (h.2.2 b)⟩
theorem kas_run {α : Type} {n : Nat} {lt : Nat → Nat → Bool} {cmp : Nat → Nat → (Bool → Shared → Prop) → Shared → Prop} {Q : α → Shared → Prop} {s : Shared}
    (hc : ∀ i j, i < n → j < n → ∀ C, C (lt i j) s → cmp i j C s) : ∀ {t : KasT α}, Asks n t → Q (kasRun lt t) s → t.kasWp cmp Q s
  | .ret _, _, h => h
  | .ask i j k, ha, h => hc i j ha.1 ha.2.1 _ (kas_run hc (ha.2.2 _) h)
/-- all places are among the first n -/
noncomputable def PL (n : Nat) (p : Array Nat) : Prop := ∀ i, p.getD i 0 < n
theorem PL.swap {n i j : Nat} {p : Array Nat} (h : PL n p) : PL n (p.swapIfInBounds i j) := fun k => by
  by_cases hi : i < p.size
  · by_cases hj : j < p.size
    · have e := getElem?_swapIB (xs := p) hi hj (k := k)
      rw [Array.getD_eq_getD_getElem?, e]
      split
      · have := h i; rw [Array.getD_eq_getD_getElem?] at this; exact this
      · split
        · have := h j; rw [Array.getD_eq_getD_getElem?] at this; exact this
        · have := h k; rw [Array.getD_eq_getD_getElem?] at this; exact this
    · rw [Array.swapIfInBounds_def]; simp [hi, hj]; have := h k; simpa [Array.getD_eq_getD_getElem?] using this
  · rw [Array.swapIfInBounds_def]; simp [hi]; have := h k; simpa [Array.getD_eq_getD_getElem?] using this
theorem PL.fold {n : Nat} (u v : Nat → Nat) : ∀ (l : List Nat) {p : Array Nat}, PL n p → PL n (l.foldl (fun a k => a.swapIfInBounds (u k) (v k)) p)
  | [], _, h => h
  | _ :: l, _, h => PL.fold u v l h.swap
theorem PL.rev {n i j : Nat} {p : Array Nat} (h : PL n p) : PL n (kas_rev p i j) := PL.fold _ _ _ h
theorem PL.bub {n k d : Nat} {p : Array Nat} (h : PL n p) : PL n (bubble p k d) := PL.fold _ _ _ h
theorem asks_asc {n : Nat} {p : Array Nat} (h : PL n p) : ∀ f m, Asks n (kas_asc p f m)
  | 0, _ => trivial
  | f + 1, m => ⟨h _, h _, fun b => by cases b <;> simp <;> first | trivial | exact asks_asc h f (m + 1)⟩
theorem asks_desc {n : Nat} : ∀ f (p : Array Nat) m q, PL n p → Asks n (kas_desc f p m q)
  | 0, _, _, _, _ => trivial
  | f + 1, p, m, q, h => ⟨h _, h _, fun b => by
    cases b with
    | true =>
      simp only [if_true]
      split
      · exact asks_desc f _ _ _ h.rev
      · exact asks_desc f _ _ _ h
    | false =>
      simp only [Bool.false_eq_true, if_false]
      exact ⟨h _, h _, fun d => by cases d <;> simp <;> first | trivial | exact asks_desc f _ _ _ h⟩⟩
theorem asks_place {n : Nat} {p : Array Nat} (h : PL n p) (k : Nat) : ∀ f l r, Asks n (kas_place p k f l r)
  | 0, _, _ => trivial
  | f + 1, l, r => by
    unfold kas_place
    split
    · trivial
    · exact ⟨h _, h _, fun c => by cases c <;> simp <;> exact asks_place h k f _ _⟩
theorem asks_bin {n : Nat} : ∀ f (p : Array Nat) k, PL n p → Asks n (kas_bin f p k)
  | 0, _, _, _ => trivial
  | f + 1, p, k, h => Asks.bind (fun l => asks_bin f _ _ h.bub) (asks_place h k k 0 k)
/-- what holds of each end -/
noncomputable def Ends {α : Type} (P : α → Prop) : KasT α → Prop
  | .ret a => P a
  | .ask _ _ k => ∀ b, Ends P (k b)
theorem Asks.bind' {α β : Type} {n : Nat} {f : α → KasT β} {P : α → Prop} (hf : ∀ a, P a → Asks n (f a)) : ∀ {t : KasT α}, Asks n t → Ends P t → Asks n (t.bind f)
  | .ret a, _, e => hf a e
  | .ask _ _ k, h, e => ⟨h.1, h.2.1, fun b => Asks.bind' hf (h.2.2 b) (e b)⟩
theorem Ends.bind {α β : Type} {f : α → KasT β} {P : α → Prop} {R : β → Prop} (hf : ∀ a, P a → Ends R (f a)) : ∀ {t : KasT α}, Ends P t → Ends R (t.bind f)
  | .ret a, e => hf a e
  | .ask _ _ k, e => fun b => Ends.bind hf (e b)
theorem Ends.any {α : Type} {P : α → Prop} (h : ∀ a, P a) : ∀ (t : KasT α), Ends P t
  | .ret a => h a
  | .ask _ _ k => fun b => Ends.any h (k b)
theorem Ends.run {α : Type} {P : α → Prop} (lt : Nat → Nat → Bool) : ∀ {t : KasT α}, Ends P t → P (kasRun lt t)
  | .ret _, e => e
  | .ask i j k, e => Ends.run lt (t := k (lt i j)) (e (lt i j))
theorem ends_desc {n : Nat} : ∀ f (p : Array Nat) m q, PL n p → Ends (fun r => PL n r.1) (kas_desc f p m q)
  | 0, _, _, _, h => h
  | f + 1, p, m, q, h => fun b => by
    cases b with
    | true =>
      simp only [if_true]
      split
      · exact ends_desc f _ _ _ h.rev
      · exact ends_desc f _ _ _ h
    | false =>
      simp only [Bool.false_eq_true, if_false]
      exact fun d => by cases d <;> simp <;> first | exact h | exact ends_desc f _ _ _ h
theorem asks_tail3 {n m k : Nat} {p : Array Nat} (h : PL n p) : Asks n (kas_tail3 m k p) := by
  unfold kas_tail3
  refine Asks.bind (fun _ => ?_) (asks_asc h.rev _ _)
  trivial
theorem ends_tail3 {n m k : Nat} {p : Array Nat} (h : PL n p) : Ends (fun r => PL n r.2) (kas_tail3 m k p) := by
  unfold kas_tail3
  refine Ends.bind (P := fun _ => True) (fun _ _ => ?_) (Ends.any (fun _ => trivial) _)
  exact h.rev
theorem asks_dpart {n m k : Nat} {p : Array Nat} (h : PL n p) : Asks n (kas_descPart m k p) := by
  unfold kas_descPart; exact Asks.bind' (P := fun r => PL n r.1) (fun r hr => by
  split
  · exact asks_tail3 hr.rev
  · exact asks_tail3 hr) (asks_desc _ _ _ _ h) (ends_desc _ _ _ _ h)
theorem ends_dpart {n m k : Nat} {p : Array Nat} (h : PL n p) : Ends (fun r => PL n r.2) (kas_descPart m k p) := by
  unfold kas_descPart; exact Ends.bind (P := fun r => PL n r.1) (fun r hr => by
  split
  · exact ends_tail3 hr.rev
  · exact ends_tail3 hr) (ends_desc _ _ _ _ h)
theorem asks_count {n k : Nat} {p : Array Nat} (h : PL n p) : Asks n (kas_count k p) := by
  unfold kas_count; exact Asks.bind (fun m => by
  split
  · trivial
  · split
    · exact ⟨h _, h _, fun b => by cases b <;> simp <;> first | trivial | exact asks_dpart h.rev⟩
    · exact asks_dpart h) (asks_asc h _ _)
theorem ends_count {n k : Nat} {p : Array Nat} (h : PL n p) : Ends (fun r => PL n r.2) (kas_count k p) := by
  unfold kas_count; exact Ends.bind (P := fun _ => True) (fun m _ => by
  split
  · exact h
  · split
    · exact fun b => by cases b <;> simp <;> first | exact h | exact ends_dpart h.rev
    · exact ends_dpart h) (Ends.any (fun _ => trivial) _)
theorem asks_sort {n : Nat} (hn : 0 < n) : Asks n (kas_sort n) := by
  have h : PL n (List.toArray (List.range n)) := fun i => by
    by_cases c : i < n <;> simp [Array.getD_eq_getD_getElem?, c, hn]
  unfold kas_sort
  refine Asks.bind' (P := fun r => PL n r.2) (fun r hr => ?_) (asks_count h) (ends_count h)
  split
  · exact asks_bin _ _ _ hr
  · trivial
end Mine
end
section
open PySem PySem.W PySem.Calls PyProof.Rows
namespace Mine
section
variable {P : Array Nat → Prop} (hc : ∀ p i j, P p → P (p.swapIfInBounds i j))
include hc
theorem cl_fold (u v : Nat → Nat) : ∀ (l : List Nat) {p : Array Nat}, P p → P (l.foldl (fun a k => a.swapIfInBounds (u k) (v k)) p)
  | [], _, h => h
  | _ :: l, _, h => cl_fold u v l (hc _ _ _ h)
theorem cl_rev {i j : Nat} {p : Array Nat} (h : P p) : P (kas_rev p i j) := cl_fold hc _ _ _ h
theorem cl_bub {k d : Nat} {p : Array Nat} (h : P p) : P (bubble p k d) := cl_fold hc _ _ _ h
theorem cl_desc : ∀ f (p : Array Nat) m q, P p → Ends (fun r => P r.1) (kas_desc f p m q)
  | 0, _, _, _, h => h
  | f + 1, p, m, q, h => fun b => by
    cases b with
    | true =>
      simp only [if_true]
      split
      · exact cl_desc f _ _ _ (cl_rev hc h)
      · exact cl_desc f _ _ _ h
    | false =>
      simp only [Bool.false_eq_true, if_false]
      exact fun d => by cases d <;> simp <;> first | exact h | exact cl_desc f _ _ _ h
theorem cl_tail3 {m k : Nat} {p : Array Nat} (h : P p) : Ends (fun r => P r.2) (kas_tail3 m k p) := by
  unfold kas_tail3
  refine Ends.bind (P := fun _ => True) (fun _ _ => ?_) (Ends.any (fun _ => trivial) _)
  exact cl_rev hc h
theorem cl_dpart {m k : Nat} {p : Array Nat} (h : P p) : Ends (fun r => P r.2) (kas_descPart m k p) := by
  unfold kas_descPart
  refine Ends.bind (P := fun r => P r.1) (fun r hr => ?_) (cl_desc hc _ _ _ _ h)
  split
  · exact cl_tail3 hc (cl_rev hc hr)
  · exact cl_tail3 hc hr
theorem cl_count {k : Nat} {p : Array Nat} (h : P p) : Ends (fun r => P r.2) (kas_count k p) := by
  unfold kas_count
  refine Ends.bind (P := fun _ => True) (fun m _ => ?_) (Ends.any (fun _ => trivial) _)
  split
  · exact h
  · split
    · exact fun b => by cases b <;> simp <;> first | exact h | exact cl_dpart hc (cl_rev hc h)
    · exact cl_dpart hc h
theorem cl_bin : ∀ f (p : Array Nat) k, P p → Ends P (kas_bin f p k)
  | 0, _, _, h => h
  | f + 1, p, k, h => by
    unfold kas_bin
    refine Ends.bind (P := fun _ => True) (fun m _ => ?_) (Ends.any (fun _ => trivial) _)
    exact cl_bin f _ _ (cl_bub hc h)
theorem cl_sort {n : Nat} (h : P (List.toArray (List.range n))) : Ends P (kas_sort n) := by
  unfold kas_sort
  refine Ends.bind (P := fun r => P r.2) (fun r hr => ?_) (cl_count hc h)
  split
  · exact cl_bin hc _ _ _ hr
  · exact hr
end
theorem sort_perm (n : Nat) : Ends (fun p => p.Perm (List.range n).toArray) (kas_sort n) :=
  cl_sort (P := fun p => p.Perm (List.range n).toArray) (fun p i j h => (swapIB_perm p i j).trans h) (.refl _)
end Mine
end
section
open PySem PySem.W PySem.Calls PyProof.Rows
namespace Mine
section
variable (lt : Nat → Nat → Bool)
/-- the first m places hold no later smaller one -/
noncomputable def Srt (p : Array Nat) (m : Nat) : Prop := ∀ i j, i < j → j < m → lt (p.getD j 0) (p.getD i 0) = false
/-- the first m places fall strictly -/
noncomputable def Fall (p : Array Nat) (m : Nat) : Prop := ∀ i j, i < j → j < m → lt (p.getD j 0) (p.getD i 0) = true
variable {lt} (htr : ∀ a b c, lt a b = true → lt b c = true → lt a c = true) (hle : ∀ a b c, lt b a = false → lt c b = false → lt c a = false)
theorem srt_one (p : Array Nat) : Srt lt p 1 := fun _ _ h1 h2 => absurd (Nat.lt_of_lt_of_le h1 (Nat.le_of_lt_succ h2)) (Nat.not_lt_zero _)
include hle in
theorem srt_next {p : Array Nat} {m : Nat} (h1 : 1 ≤ m) (h : Srt lt p m) (hn : lt (p.getD m 0) (p.getD (m - 1) 0) = false) : Srt lt p (m + 1) := fun i j hij hj => by
  rcases Nat.lt_or_ge j m with c | c
  · exact h i j hij c
  · obtain rfl : j = m := Nat.le_antisymm (Nat.le_of_lt_succ hj) c
    rcases Nat.lt_or_ge i (j - 1) with c2 | c2
    · exact hle _ _ _ (h i (j - 1) c2 (Nat.sub_lt h1 Nat.one_pos)) hn
    · obtain rfl : i = j - 1 := Nat.le_antisymm (Nat.le_sub_one_of_lt hij) c2
      exact hn
include hle in
theorem run_asc {p : Array Nat} : ∀ f m, 1 ≤ m → Srt lt p m → m ≤ kasRun lt (kas_asc p f m) ∧ kasRun lt (kas_asc p f m) ≤ m + f ∧ Srt lt p (kasRun lt (kas_asc p f m))
  | 0, m, _, h => ⟨Nat.le_refl _, Nat.le_refl _, h⟩
  | f + 1, m, h1, h => by
    simp only [kas_asc, kasRun]
    cases hb : lt (p.getD m 0) (p.getD (m - 1) 0) with
    | true => exact ⟨Nat.le_refl _, Nat.le_add_right m (f + 1), h⟩
    | false =>
      have ih := run_asc f (m + 1) (Nat.le_add_left 1 m) (srt_next hle h1 h hb)
      simp only [Bool.false_eq_true, if_false]
      exact ⟨Nat.le_of_succ_le ih.1, Nat.le_trans ih.2.1 (Nat.le_of_eq (Nat.succ_add_eq_add_succ m f)), ih.2.2⟩
theorem run_place_end {p : Array Nat} {k l r : Nat} (hrl : r ≤ l) : ∀ f, kasRun lt (kas_place p k f l r) = l
  | 0 => rfl
  | f + 1 => by unfold kas_place; rw [if_pos hrl]; rfl
theorem mid_lo {l r : Nat} (h : l ≤ r) : l ≤ (l + r) / 2 := (Nat.le_div_iff_mul_le (by decide)).mpr (by rw [Nat.mul_two]; exact Nat.add_le_add_left h l)
theorem mid_hi {l r : Nat} (h : l < r) : (l + r) / 2 < r := (Nat.div_lt_iff_lt_mul (by decide)).mpr (by rw [Nat.mul_two]; exact Nat.add_lt_add_right h r)
include htr hle in
theorem run_place {p : Array Nat} {k : Nat} (hs : Srt lt p k) (hmix : ∀ a b c, lt a b = true → lt c b = false → lt a c = true) : ∀ f l r, r - l ≤ f → l ≤ r → r ≤ k → (∀ i, i < l → lt (p.getD k 0) (p.getD i 0) = false) → (∀ i, r ≤ i → i < k → lt (p.getD k 0) (p.getD i 0) = true) →
    kasRun lt (kas_place p k f l r) ≤ k ∧ (∀ i, i < kasRun lt (kas_place p k f l r) → lt (p.getD k 0) (p.getD i 0) = false) ∧ (∀ i, kasRun lt (kas_place p k f l r) ≤ i → i < k → lt (p.getD k 0) (p.getD i 0) = true)
  | 0, l, r, hf, hlr, hrk, h1, h2 => by
    obtain rfl : l = r := Nat.le_antisymm hlr (Nat.le_of_sub_eq_zero (Nat.le_zero.mp hf))
    exact ⟨hrk, h1, h2⟩
  | f + 1, l, r, hf, hlr, hrk, h1, h2 => by
    by_cases c : r ≤ l
    · rw [run_place_end c]
      exact ⟨Nat.le_trans hlr hrk, h1, fun i hi hk => h2 i (Nat.le_trans c hi) hk⟩
    · unfold kas_place
      rw [if_neg c]
      simp only [kasRun]
      have lo := mid_lo hlr
      have up := mid_hi (Nat.lt_of_not_le c)
      generalize (l + r) / 2 = t at lo up ⊢
      cases hb : lt (p.getD k 0) (p.getD t 0) with
      | true =>
        simp only [if_true]
        refine run_place hs hmix f l t (Nat.le_of_lt_succ (Nat.lt_of_lt_of_le (Nat.sub_lt_sub_right lo up) hf)) lo (Nat.le_trans (Nat.le_of_lt up) hrk) h1 fun i hi hk => ?_
        rcases Nat.lt_or_ge t i with d | d
        · exact hmix _ _ _ hb (hs _ _ d hk)
        · obtain rfl : i = t := Nat.le_antisymm d hi
          exact hb
      | false =>
        simp only [Bool.false_eq_true, if_false]
        refine run_place hs hmix f (t + 1) r (Nat.le_trans (Nat.sub_le_sub_left (Nat.succ_le_succ lo) r) (by rw [Nat.sub_succ]; exact Nat.pred_le_pred hf)) up hrk (fun i hi => ?_) h2
        rcases Nat.lt_or_ge i t with d | d
        · exact hle _ _ _ (hs _ _ d (Nat.lt_of_lt_of_le up hrk)) hb
        · obtain rfl : i = t := Nat.le_antisymm (Nat.le_of_lt_succ hi) d
          exact hb
theorem getD_bubble {p : Array Nat} {k l : Nat} (hk : k < p.size) (hl : l ≤ k) (j : Nat) : (bubble p k (k - l)).getD j 0 = if j = l then p.getD k 0 else if l < j ∧ j ≤ k then p.getD (j - 1) 0 else p.getD j 0 := by
  have e := getElem?_bubble hk (k - l) (Nat.sub_le k l) j
  rw [Nat.sub_sub_self hl] at e
  simp only [Array.getD_eq_getD_getElem?, e]
  split
  · rfl
  · split <;> rfl
include hle in
theorem srt_bubble {p : Array Nat} {k l : Nat} (hk : k < p.size) (hl : l ≤ k) (has : ∀ a b, lt a b = true → lt b a = false) (hs : Srt lt p k) (h1 : ∀ i, i < l → lt (p.getD k 0) (p.getD i 0) = false) (h2 : ∀ i, l ≤ i → i < k → lt (p.getD k 0) (p.getD i 0) = true) :
    Srt lt (bubble p k (k - l)) (k + 1) := fun i j hij hj => by
  rw [getD_bubble hk hl, getD_bubble hk hl]
  by_cases e1 : j = l
  · subst e1
    rw [if_pos rfl, if_neg (Nat.ne_of_lt hij), if_neg (fun h => Nat.lt_asymm hij h.1)]
    exact h1 i hij
  · rw [if_neg e1]
    by_cases e2 : l < j ∧ j ≤ k
    · rw [if_pos e2]
      have jk : j - 1 < k := Nat.lt_of_lt_of_le (Nat.sub_lt (Nat.lt_of_le_of_lt (Nat.zero_le _) hij) Nat.one_pos) e2.2
      by_cases e3 : i = l
      · rw [if_pos e3]; exact has _ _ (h2 _ (Nat.le_sub_one_of_lt e2.1) jk)
      · rw [if_neg e3]
        by_cases e4 : l < i ∧ i ≤ k
        · rw [if_pos e4]; exact hs _ _ (Nat.sub_lt_sub_right (Nat.lt_of_le_of_lt (Nat.zero_le _) e4.1) hij) jk
        · rw [if_neg e4]; exact hs _ _ (Nat.lt_of_lt_of_le (Nat.lt_of_le_of_ne (Nat.not_lt.mp fun q => e4 ⟨q, Nat.le_trans (Nat.le_of_lt hij) e2.2⟩) e3) (Nat.le_sub_one_of_lt e2.1)) jk
    · have jl : j < l := Nat.lt_of_le_of_ne (Nat.not_lt.mp fun q => e2 ⟨q, Nat.le_of_lt_succ hj⟩) e1
      rw [if_neg e2, if_neg (Nat.ne_of_lt (Nat.lt_trans hij jl)), if_neg (fun q => Nat.lt_asymm (Nat.lt_trans hij jl) q.1)]; exact hs _ _ hij (Nat.lt_of_lt_of_le jl hl)
include htr hle in
theorem run_bin (has : ∀ a b, lt a b = true → lt b a = false) (hmix : ∀ a b c, lt a b = true → lt c b = false → lt a c = true) : ∀ f (p : Array Nat) k, k + f ≤ p.size → Srt lt p k → Srt lt (kasRun lt (kas_bin f p k)) (k + f)
  | 0, p, k, _, h => h
  | f + 1, p, k, hz, h => by
    unfold kas_bin
    rw [kasRun_bind]
    have q := run_place htr hle h hmix k 0 k (Nat.sub_le ..) (Nat.zero_le _) (Nat.le_refl _) (fun i hi => absurd hi (Nat.not_lt_zero _)) (fun i hi hk => absurd hk (Nat.not_lt.mpr hi))
    have hb := srt_bubble hle (Nat.lt_of_lt_of_le (Nat.lt_add_of_pos_right (Nat.succ_pos f)) hz) q.1 has h q.2.1 q.2.2
    have := run_bin has hmix f (bubble p k (k - kasRun lt (kas_place p k k 0 k))) (k + 1) (by rw [bubble_size]; exact Nat.le_trans (Nat.le_of_eq (Nat.succ_add_eq_add_succ k f)) hz) hb
    rwa [show k + 1 + f = k + (f + 1) from Nat.succ_add_eq_add_succ k f] at this
end
end Mine
end
section
open PySem PySem.W PySem.Calls PyProof.Rows
namespace Mine
section
variable {lt : Nat → Nat → Bool} (htr : ∀ a b c, lt a b = true → lt b c = true → lt a c = true)
include htr in
theorem fall_next {p : Array Nat} {m : Nat} (h1 : 1 ≤ m) (h : Fall lt p m) (hn : lt (p.getD m 0) (p.getD (m - 1) 0) = true) : Fall lt p (m + 1) := fun i j hij hj => by
  rcases Nat.lt_or_ge j m with c | c
  · exact h i j hij c
  · obtain rfl : j = m := Nat.le_antisymm (Nat.le_of_lt_succ hj) c
    rcases Nat.lt_or_ge i (j - 1) with c2 | c2
    · exact htr _ _ _ hn (h i (j - 1) c2 (Nat.sub_lt h1 Nat.one_pos))
    · obtain rfl : i = j - 1 := Nat.le_antisymm (Nat.le_sub_one_of_lt hij) c2
      exact hn
include htr in
theorem run_desc {p : Array Nat} {N : Nat} (hd : ∀ i, 1 ≤ i → i < N → lt (p.getD i 0) (p.getD (i - 1) 0) = false → lt (p.getD (i - 1) 0) (p.getD i 0) = true) : ∀ f m, 1 ≤ m → m + f ≤ N → Fall lt p m → ∃ m', kasRun lt (kas_desc f p m 0) = (p, m', 0) ∧ m ≤ m' ∧ m' ≤ m + f ∧ Fall lt p m'
  | 0, m, _, _, h => ⟨m, rfl, Nat.le_refl _, Nat.le_refl _, h⟩
  | f + 1, m, h1, hN, h => by
    simp only [kas_desc, kasRun]
    cases hb : lt (p.getD m 0) (p.getD (m - 1) 0) with
    | true =>
      simp only [if_true, Nat.lt_irrefl, if_false, gt_iff_lt]
      obtain ⟨m', e, h2, h3, h4⟩ := run_desc hd f (m + 1) (Nat.le_add_left 1 m) (Nat.le_trans (Nat.le_of_eq (Nat.succ_add_eq_add_succ m f)) hN) (fall_next htr h1 h hb)
      exact ⟨m', e, Nat.le_of_succ_le h2, Nat.le_trans h3 (Nat.le_of_eq (Nat.succ_add_eq_add_succ m f)), h4⟩
    | false =>
      simp only [Bool.false_eq_true, if_false, kasRun, hd m h1 (Nat.lt_of_lt_of_le (Nat.lt_add_of_pos_right (Nat.succ_pos f)) hN) hb, if_true]
      exact ⟨m, rfl, Nat.le_refl _, Nat.le_add_right m (f + 1), h⟩
theorem getD_rev {p : Array Nat} {m : Nat} (hm : m ≤ p.size) (k : Nat) : (kas_rev p 0 m).getD k 0 = if k < m then p.getD (m - 1 - k) 0 else p.getD k 0 := by
  have e := getElem?_mirror_all (xs := p) (i := 0) hm k
  unfold kas_rev
  simp only [Array.getD_eq_getD_getElem?, e]
  by_cases c : k < m
  · rw [if_pos ⟨Nat.zero_le _, c⟩, if_pos c]; congr 2; lia
  · rw [if_neg (fun h => c h.2), if_neg c]
theorem srt_rev {p : Array Nat} {m : Nat} (hm : m ≤ p.size) (has : ∀ a b, lt a b = true → lt b a = false) (h : Fall lt p m) : Srt lt (kas_rev p 0 m) m := fun i j hij hj => by
  rw [getD_rev hm, getD_rev hm, if_pos hj, if_pos (Nat.lt_trans hij hj)]
  exact has _ _ (h _ _ (Nat.sub_lt_sub_left (Nat.lt_of_lt_of_le hij (Nat.le_sub_one_of_lt hj)) hij) (Nat.lt_of_le_of_lt (Nat.sub_le ..) (Nat.sub_lt (Nat.lt_of_le_of_lt (Nat.zero_le _) hj) Nat.one_pos)))
end
end Mine
end
section
open PySem PySem.W PySem.Calls PyProof.Rows
namespace Mine
/-- a strict order whose 'not smaller' is transitive -/
structure SWO {α : Type} (lt : α → α → Bool) : Prop where
  has : ∀ a b, lt a b = true → lt b a = false
  tr : ∀ a b c, lt a b = true → lt b c = true → lt a c = true
  hle : ∀ a b c, lt b a = false → lt c b = false → lt c a = false
theorem SWO.mix {α : Type} {lt : α → α → Bool} (h : SWO lt) (a b c : α) (h1 : lt a b = true) (h2 : lt c b = false) : lt a c = true := by
  cases q : lt a c with
  | true => rfl
  | false => exact absurd (h.hle b c a h2 q) (by rw [h1]; decide)
section
variable {lt : Nat → Nat → Bool} (S : SWO lt)
theorem run_asc_stop {p : Array Nat} : ∀ f m, kasRun lt (kas_asc p f m) < m + f → lt (p.getD (kasRun lt (kas_asc p f m)) 0) (p.getD (kasRun lt (kas_asc p f m) - 1) 0) = true
  | 0, m, h => by simp [kas_asc, kasRun] at h
  | f + 1, m, h => by
    simp only [kas_asc, kasRun] at h ⊢
    cases hb : lt (p.getD m 0) (p.getD (m - 1) 0) with
    | true => simp only [if_true, kasRun]; exact hb
    | false =>
      rw [hb] at h
      simp only [Bool.false_eq_true, if_false] at h ⊢
      exact run_asc_stop f (m + 1) (Nat.lt_of_lt_of_le h (Nat.le_of_eq (Nat.succ_add_eq_add_succ m f).symm))
noncomputable def Dist (lt : Nat → Nat → Bool) (p : Array Nat) (N : Nat) : Prop := ∀ i j, i < N → j < N → i ≠ j → lt (p.getD i 0) (p.getD j 0) = false → lt (p.getD j 0) (p.getD i 0) = true
include S in
theorem run_tail3 {p : Array Nat} {m N : Nat} (hz : p.size = N) (hm : 1 ≤ m) (hmN : m ≤ N) (h : Fall lt p m) :
    ∃ r p', kasRun lt (kas_tail3 m N p) = (r, p') ∧ 1 ≤ r ∧ r ≤ N ∧ p'.size = N ∧ Srt lt p' r := by
  unfold kas_tail3
  rw [kasRun_bind]
  have hs := srt_rev (hz ▸ hmN) S.has h
  have q := run_asc S.hle (N - m) m hm hs
  exact ⟨_, _, rfl, Nat.le_trans hm q.1, Nat.le_trans q.2.1 (Nat.le_of_eq (Nat.add_sub_cancel' hmN)), by rw [kas_rev_size]; exact hz, q.2.2⟩
include S in
theorem run_count {p : Array Nat} {N : Nat} (hN : 1 ≤ N) (hz : p.size = N) (hd : Dist lt p N) :
    ∃ r p', kasRun lt (kas_count N p) = (r, p') ∧ 1 ≤ r ∧ r ≤ N ∧ p'.size = N ∧ Srt lt p' r := by
  unfold kas_count
  rw [kasRun_bind]
  have q := run_asc (lt := lt) (p := p) S.hle (N - 1) 1 (Nat.le_refl _) (srt_one p)
  have qs := run_asc_stop (lt := lt) (p := p) (N - 1) 1
  generalize kasRun lt (kas_asc p (N - 1) 1) = r at q qs
  have q2 : r ≤ N := Nat.le_trans q.2.1 (Nat.le_of_eq (Nat.add_sub_cancel' hN))
  by_cases c : r = N
  · subst c
    rw [if_pos (by simp)]
    exact ⟨_, _, rfl, q.1, Nat.le_refl _, hz, q.2.2⟩
  · rw [if_neg (by simpa using c)]
    by_cases c1 : r > 1
    · rw [if_pos c1]
      simp only [kasRun]
      have : lt (p.getD 0 0) (p.getD (r - 1) 0) = true := hd (r - 1) 0 (Nat.lt_of_lt_of_le (Nat.sub_lt q.1 Nat.one_pos) q2) hN (Nat.sub_ne_zero_of_lt c1) (q.2.2 0 (r - 1) (Nat.sub_pos_of_lt c1) (Nat.sub_lt q.1 Nat.one_pos))
      rw [this]
      exact ⟨_, _, rfl, q.1, q2, hz, q.2.2⟩
    · rw [if_neg c1]
      obtain rfl : r = 1 := Nat.le_antisymm (Nat.not_lt.mp c1) q.1
      have N2 : 2 ≤ N := Nat.lt_of_le_of_ne hN c
      have hs := qs (Nat.lt_of_lt_of_le N2 (Nat.le_of_eq (Nat.add_sub_cancel' hN).symm))
      unfold kas_descPart
      rw [kasRun_bind]
      have hf : Fall lt p 2 := fun i j h1 h2 => by
        obtain rfl : j = 1 := Nat.le_antisymm (Nat.le_of_lt_succ h2) (Nat.lt_of_le_of_lt (Nat.zero_le _) h1)
        obtain rfl : i = 0 := Nat.lt_one_iff.mp h1
        exact hs
      obtain ⟨m', e, h1, h2, h3⟩ := run_desc (lt := lt) S.tr (p := p) (N := N) (fun i h1 h2 h3 => hd i (i - 1) h2 (Nat.lt_of_le_of_lt (Nat.sub_le ..) h2) (fun e => by have := Nat.sub_lt (Nat.lt_of_lt_of_le Nat.one_pos h1) Nat.one_pos; rw [← e] at this; exact Nat.lt_irrefl _ this) h3) (N - (1 + 1)) (1 + 1) (by lia) (by lia) hf
      rw [e]
      simp only [gt_iff_lt, Nat.lt_irrefl, if_false]
      exact run_tail3 S hz (Nat.le_trans (by decide) h1) (by lia) h3
include S in
theorem run_sort {N : Nat} (hN : 1 ≤ N) (hd : ∀ i j, i < N → j < N → i ≠ j → lt i j = false → lt j i = true) : Srt lt (kasRun lt (kas_sort N)) N := by
  unfold kas_sort
  rw [kasRun_bind]
  have e : ∀ i, i < N → (List.toArray (List.range N)).getD i 0 = i := fun i hi => by simp [Array.getD_eq_getD_getElem?, hi]
  obtain ⟨r, p', he, h1, h2, h3, h4⟩ := run_count (lt := lt) S hN (p := List.toArray (List.range N)) (by simp) (fun i j hi hj hij h => by rw [e i hi, e j hj] at *; exact hd i j hi hj hij h)
  rw [he]
  by_cases c : r < N
  · rw [if_pos c, Nat.max_eq_left h1]
    have := run_bin (lt := lt) S.tr S.hle S.has S.mix (N - r) p' r (by rw [Nat.add_sub_cancel' h2]; exact Nat.le_of_eq h3.symm) h4
    rwa [Nat.add_sub_cancel' h2] at this
  · rw [if_neg c]
    obtain rfl : r = N := Nat.le_antisymm h2 (Nat.not_lt.mp c)
    exact h4
end

theorem SWO.irr' {α : Type} {lt : α → α → Bool} (h : SWO lt) (a : α) : lt a a = false := by
  cases q : lt a a with
  | false => rfl
  | true => rw [h.has _ _ q] at q; cases q
end Mine
end
section
open PySem PySem.W PySem.Calls PyProof.Rows
set_option maxRecDepth 100000
set_option maxHeartbeats 8000000
namespace Mine
section
variable {α : Type} [Inhabited α] (lt : α → α → Bool)
noncomputable def sdLoop (x : α) (st : Nat) : Nat → List α → Nat → List α × Nat
  | 0, l, p => (l, p)
  | f + 1, l, p => if st < p then (if lt x (l.getD ((p - 1) / 2) default) then sdLoop x st f (l.set p (l.getD ((p - 1) / 2) default)) ((p - 1) / 2) else (l, p)) else (l, p)
theorem sd_fuel {x : α} {st : Nat} : ∀ (f g : Nat) (l : List α) (p : Nat), p < f → p < g → sdLoop lt x st f l p = sdLoop lt x st g l p
  | f + 1, g + 1, l, p, h1, h2 => by
    simp only [sdLoop]
    by_cases c : st < p
    · rw [if_pos c, if_pos c]
      by_cases c2 : lt x (l.getD ((p - 1) / 2) default) = true
      · rw [if_pos c2, if_pos c2]; exact sd_fuel f g _ _ (Nat.lt_of_lt_of_le (half_lt' (Nat.lt_of_le_of_lt (Nat.zero_le _) c)) (Nat.le_of_lt_succ h1)) (Nat.lt_of_lt_of_le (half_lt' (Nat.lt_of_le_of_lt (Nat.zero_le _) c)) (Nat.le_of_lt_succ h2))
      · rw [if_neg c2, if_neg c2]
    · rw [if_neg c, if_neg c]
  | 0, _, _, _, h, _ => absurd h (Nat.not_lt_zero _)
  | _ + 1, 0, _, _, _, h => absurd h (Nat.not_lt_zero _)
noncomputable def siftdownL (l : List α) (st p : Nat) : List α :=
  let r := sdLoop lt (l.getD p default) st (p + 1) l p
  r.1.set r.2 (l.getD p default)
end
/-- the parent's place -/
structure Half (k j : Nat) : Prop where
  lt : j < k
  nn : (0 : Int) ≤ (j : Int)
  tn : ((j : Nat) : Int).toNat = j
  ev : ((k : Int) - 1).fdiv (2 ^ Int.toNat 1) = (j : Int)
theorem half_of {st k : Nat} (h : (st : Int) < (k : Int)) : Half k ((k - 1) / 2) where
  lt := half_lt' (Nat.lt_of_le_of_lt (Nat.zero_le _) (Int.ofNat_lt.mp h))
  nn := Int.natCast_nonneg _
  tn := rfl
  ev := by
    have : (2 : Int) ^ Int.toNat 1 = 2 := by decide
    rw [this, Int.fdiv_eq_ediv_of_nonneg _ (by decide)]; lia
theorem posLt {a b c : Nat} (h : a < b) (e : c = b) : (a : Int) < (c : Int) := Int.ofNat_lt.mpr (e ▸ h)
theorem lenLt {b c : Nat} (h : b < 2 ^ 62) (e : c = b) : c < 2 ^ 62 := e ▸ h
theorem rest4 {m : Str → Option Value} {a b c d : Str × Value} (h1 : m a.1 = some a.2) (h2 : m b.1 = some b.2) (h3 : m c.1 = some c.2) (h4 : m d.1 = some d.2) : m = ovr [a, b, c, d] m :=
  ovr_of fun q hq => by
    simp only [List.mem_cons, List.not_mem_nil, or_false] at hq
    rcases hq with rfl | rfl | rfl | rfl <;> assumption
theorem unitsOk {un k : Nat} (h : un + 50 < cLine) (hk : k ≤ 40) : un + k + 10 < cLine := by lia
inductive SdJ {α : Type} [Inhabited α] (val : α → Value) (lt : α → α → Bool) (hp : Addr) (st ps : Nat) (t1 : Tok) (n : Nat) (its : List α) (news : Led) (k : Nat) (m : Str → Option Value) (news' : Led) : Prop
  | mk0 (u : Str → Option Value) (l : List α) (p : Nat) (tp : Tok) : k = p → p < its.length → l.length = its.length → (∀ y ∈ l, y ∈ its) → news' = (hp, listOf (l.map val).toArray n) :: news →
      m = ovr [(Str.ofString "heap", .ref hp), (Str.ofString "startpos", .int st t1), (Str.ofString "pos", .int p tp), (Str.ofString "newitem", val (its.getD ps default))] u →
      sdLoop lt (its.getD ps default) st (p + 1) l p = sdLoop lt (its.getD ps default) st (ps + 1) its ps → SdJ val lt hp st ps t1 n its news k m news'
local macro_rules | `(tactic| walk_at "mine") => `(tactic| skip)
local macro_rules | `(tactic| walk_at $s:str) => Mine.stopAt ["exec While Compare cons nil", "call ref"] s
theorem siftdown_spec {α : Type} [Inhabited α] (val : α → Value) (lt : α → α → Bool) (w : World) (hp : Addr) (st ps : Nat) (t1 t2 : Tok) (its : List α) (n : Nat) (news : Led)
   (hc : CmpOn val lt its news) (hoff : ∀ p ∈ news, p.1 ≠ hp) (hps : ps < its.length) (hf : its.length < 2 ^ 62) :
   Fn w 5 50 (.ref 70) [.ref hp, .int st t1, .int ps t2] ((hp, listOf (its.map val).toArray n) :: news)
     (fun r news' => r = .none ∧ news' = (hp, listOf ((siftdownL lt its st ps).map val).toArray n) :: news) := by
  unfold Fn PG
  w_top off
  k_fill
  intro p loose mean mg mb dp un gd cn cs a ccd cl outer A₀ base h₀ L m s Q E B F X N T hk hd hu hret
  refine wpAny_call ?_
  k_dflt ktr_enter
  refine noE ?_
  rename Fr _ _ _ _ => FE0
  refine frG [(Str.ofString "heap", .ref hp), (Str.ofString "startpos", .int st t1), (Str.ofString "pos", .int ps t2)] FE0 ⟨rfl, rfl, rfl, trivial⟩ fun mE hAE FE => ?_
  clear FE0 hAE
  k_steps
  refine it_at (hs := by with_unfolding_all rfl) (hg := by intro _; with_unfolding_all rfl) (its := its) (val := val) (by assumption) (by k_mem) (Int.natCast_nonneg _) (posLt hps rfl) hf ?_
  k_steps
  rename Fr _ _ _ _ => F1
  rename News _ _ _ _ => N1
  refine Stop.mk ?_
  with_reducible refine k_flat (s := s) ?_
  intro tkF
  let x := its.getD ps default
  refine While_J (hE := by passes_own) (SdJ val lt hp st ps t1 n its news) ps F1 N1 ⟨_, its, ps, t2, rfl, hps, rfl, fun _ h => h, rfl, rest4 rfl rfl rfl rfl, rfl⟩ ?_
  clear N1 F1
  rintro k m₁ news₁ h₁ tk₁ F₁ N₁ qG1 R R0 hR hR0
  refine hideG fun gG hG => ?_
  obtain ⟨u, l, p, tp, rfl, hp1, hl, hmem, rfl, rfl, heq⟩ := qG1
  refine hG ?_
  try clear hG gG
  have hkl := posLt hp1 hl
  have hfl := lenLt hf hl
  k_steps
  · rename _ < _ => hlt
    have hH := half_of hlt
    have hjl : (k - 1) / 2 < l.length := by rw [hl]; exact Nat.lt_trans hH.lt hp1
    rename Fr _ _ _ _ => F2
    rw [hH.ev] at F2 ⊢
    replace F2 := F2
    refine it_at (hs := by with_unfolding_all rfl) (hg := by intro _; with_unfolding_all rfl) (its := l) (val := val) (by assumption) (by k_mem) hH.nn (posLt hjl rfl) hfl ?_
    k_steps
    rename Fr _ _ _ _ => F3
    rename News _ _ _ _ => N3
    rw [hH.tn] at F3 ⊢
    replace F3 := F3
    refine cmp_at (val := val) hc (getD_mem' hps) (hmem _ (getD_mem' hjl)) N3 mem_tail' (unitsOk hu (by decide)) ?_
    rw [sdLoop, if_pos (Int.ofNat_lt.mp hlt)] at heq
    cases hlx : lt x (l.getD ((k - 1) / 2) default)
    · rw [hlx] at heq
      simp only [Bool.false_eq_true, if_false] at heq
      have hx : sdLoop lt x st (ps + 1) its ps = (l, k) := heq.symm
      k_steps
      refine hR _ _ ?_
      dsimp only [WStep]
      k_steps
      refine set_at (val := val) (by assumption) (by assumption) hoff (Int.natCast_nonneg _) hkl hfl ?_
      intro h₂ F₂ N₂
      k_steps
      refine hret _ _ _ _ (by assumption) (by assumption) ⟨rfl, ?_⟩
      simp only [siftdownL]
      rw [hx]
      rfl
    · rw [hlx] at heq
      simp only [if_true] at heq
      k_steps
      refine set_at (val := val) F3 N3 hoff (Int.natCast_nonneg _) hkl hfl ?_
      intro h₂ F₂ N₂
      k_steps
      refine hR _ _ ?_
      dsimp only [WStep]
      refine ⟨_, _, _, _, (k - 1) / 2, rfl, by assumption, by assumption, hH.lt, ?_⟩
      refine ⟨_, l.set k (l.getD ((k - 1) / 2) default), (k - 1) / 2, _, rfl, Nat.lt_trans hH.lt hp1, by rw [List.length_set, hl], ?_, rfl, rest4 rfl rfl rfl rfl, ?_⟩
      · intro y hy
        rcases List.mem_or_eq_of_mem_set hy with q | rfl
        · exact hmem _ q
        · exact hmem _ (getD_mem' hjl)
      · rw [← heq]
        exact sd_fuel lt _ _ _ _ (Nat.lt_succ_self _) hH.lt
  · rename ¬ _ < _ => hge
    refine hR0 _ ?_
    k_steps
    have hx : sdLoop lt x st (ps + 1) its ps = (l, k) := by
      rw [← heq, sdLoop, if_neg (fun q => hge (Int.ofNat_lt.mpr q))]
    refine set_at (val := val) F₁ N₁ hoff (Int.natCast_nonneg _) hkl hfl ?_
    intro h₂ F₂ N₂
    k_steps
    refine hret _ _ _ _ (by assumption) (by assumption) ⟨rfl, ?_⟩
    simp only [siftdownL]
    rw [hx]
    rfl
theorem siftdown_max_spec {α : Type} [Inhabited α] (val : α → Value) (lt : α → α → Bool) (w : World) (hp : Addr) (st ps : Nat) (t1 t2 : Tok) (its : List α) (n : Nat) (news : Led)
   (hc : CmpOn val lt its news) (hoff : ∀ p ∈ news, p.1 ≠ hp) (hps : ps < its.length) (hf : its.length < 2 ^ 62) :
   Fn w 5 50 (.ref 84) [.ref hp, .int st t1, .int ps t2] ((hp, listOf (its.map val).toArray n) :: news)
     (fun r news' => r = .none ∧ news' = (hp, listOf ((siftdownL (fun a b => lt b a) its st ps).map val).toArray n) :: news) := by
  unfold Fn PG
  w_top off
  k_fill
  intro p loose mean mg mb dp un gd cn cs a ccd cl outer A₀ base h₀ L m s Q E B F X N T hk hd hu hret
  refine wpAny_call ?_
  k_dflt ktr_enter
  refine noE ?_
  rename Fr _ _ _ _ => FE0
  refine frG [(Str.ofString "heap", .ref hp), (Str.ofString "startpos", .int st t1), (Str.ofString "pos", .int ps t2)] FE0 ⟨rfl, rfl, rfl, trivial⟩ fun mE hAE FE => ?_
  clear FE0 hAE
  k_steps
  refine it_at (hs := by with_unfolding_all rfl) (hg := by intro _; with_unfolding_all rfl) (its := its) (val := val) (by assumption) (by k_mem) (Int.natCast_nonneg _) (posLt hps rfl) hf ?_
  k_steps
  rename Fr _ _ _ _ => F1
  rename News _ _ _ _ => N1
  refine Stop.mk ?_
  with_reducible refine k_flat (s := s) ?_
  intro tkF
  let x := its.getD ps default
  refine While_J (hE := by passes_own) (SdJ val (fun a b => lt b a) hp st ps t1 n its news) ps F1 N1 ⟨_, its, ps, t2, rfl, hps, rfl, fun _ h => h, rfl, rest4 rfl rfl rfl rfl, rfl⟩ ?_
  clear N1 F1
  rintro k m₁ news₁ h₁ tk₁ F₁ N₁ qG2 R R0 hR hR0
  refine hideG fun gG hG => ?_
  obtain ⟨u, l, p, tp, rfl, hp1, hl, hmem, rfl, rfl, heq⟩ := qG2
  refine hG ?_
  try clear hG gG
  have hkl := posLt hp1 hl
  have hfl := lenLt hf hl
  k_steps
  · rename _ < _ => hlt
    have hH := half_of hlt
    have hjl : (k - 1) / 2 < l.length := by rw [hl]; exact Nat.lt_trans hH.lt hp1
    rename Fr _ _ _ _ => F2
    rw [hH.ev] at F2 ⊢
    replace F2 := F2
    refine it_at (hs := by with_unfolding_all rfl) (hg := by intro _; with_unfolding_all rfl) (its := l) (val := val) (by assumption) (by k_mem) hH.nn (posLt hjl rfl) hfl ?_
    k_steps
    rename Fr _ _ _ _ => F3
    rename News _ _ _ _ => N3
    rw [hH.tn] at F3 ⊢
    replace F3 := F3
    refine cmp_at (val := val) hc (hmem _ (getD_mem' hjl)) (getD_mem' hps) N3 mem_tail' (unitsOk hu (by decide)) ?_
    rw [sdLoop, if_pos (Int.ofNat_lt.mp hlt)] at heq
    cases hlx : lt (l.getD ((k - 1) / 2) default) x
    · rw [hlx] at heq
      simp only [Bool.false_eq_true, if_false] at heq
      have hx : sdLoop (fun a b => lt b a) x st (ps + 1) its ps = (l, k) := heq.symm
      k_steps
      refine hR _ _ ?_
      dsimp only [WStep]
      k_steps
      refine set_at (val := val) (by assumption) (by assumption) hoff (Int.natCast_nonneg _) hkl hfl ?_
      intro h₂ F₂ N₂
      k_steps
      refine hret _ _ _ _ (by assumption) (by assumption) ⟨rfl, ?_⟩
      simp only [siftdownL]
      rw [hx]
      rfl
    · rw [hlx] at heq
      simp only [if_true] at heq
      k_steps
      refine set_at (val := val) F3 N3 hoff (Int.natCast_nonneg _) hkl hfl ?_
      intro h₂ F₂ N₂
      k_steps
      refine hR _ _ ?_
      dsimp only [WStep]
      refine ⟨_, _, _, _, (k - 1) / 2, rfl, by assumption, by assumption, hH.lt, ?_⟩
      refine ⟨_, l.set k (l.getD ((k - 1) / 2) default), (k - 1) / 2, _, rfl, Nat.lt_trans hH.lt hp1, by rw [List.length_set, hl], ?_, rfl, rest4 rfl rfl rfl rfl, ?_⟩
      · intro y hy
        rcases List.mem_or_eq_of_mem_set hy with q | rfl
        · exact hmem _ q
        · exact hmem _ (getD_mem' hjl)
      · rw [← heq]
        exact sd_fuel (fun a b => lt b a) _ _ _ _ (Nat.lt_succ_self _) hH.lt
  · rename ¬ _ < _ => hge
    refine hR0 _ ?_
    k_steps
    have hx : sdLoop (fun a b => lt b a) x st (ps + 1) its ps = (l, k) := by
      rw [← heq, sdLoop, if_neg (fun q => hge (Int.ofNat_lt.mpr q))]
    refine set_at (val := val) F₁ N₁ hoff (Int.natCast_nonneg _) hkl hfl ?_
    intro h₂ F₂ N₂
    k_steps
    refine hret _ _ _ _ (by assumption) (by assumption) ⟨rfl, ?_⟩
    simp only [siftdownL]
    rw [hx]
    rfl
end Mine
end
section
open PySem PySem.W PySem.Calls PyProof.Rows
set_option maxRecDepth 100000
set_option maxHeartbeats 8000000
namespace Mine
section
variable {α : Type} [Inhabited α] (lt : α → α → Bool)
noncomputable def kid (l : List α) (p : Nat) : Nat :=
  if 2 * p + 2 < l.length then (if lt (l.getD (2 * p + 1) default) (l.getD (2 * p + 2) default) then 2 * p + 1 else 2 * p + 2) else 2 * p + 1
theorem pk0 {p k : Nat} (h : 2 * p + 1 ≤ k) : p < k := Nat.lt_of_lt_of_le (Nat.lt_succ_of_le (Nat.le_mul_of_pos_left p (by decide))) h
theorem kid_step {n k p : Nat} (h1 : 2 * p + 1 ≤ k) (h2 : k < n) : n - k < n - p := Nat.sub_lt_sub_left (Nat.lt_trans (pk0 h1) h2) (pk0 h1)
theorem no_kid {n p : Nat} (h : n ≤ p + 0) : ¬ 2 * p + 1 < n := fun c => Nat.lt_irrefl p (Nat.lt_of_lt_of_le (pk0 (Nat.le_of_lt c)) h)
theorem step_le {n p k f : Nat} (pk : p < k) (h : n ≤ p + (f + 1)) : n ≤ k + f := Nat.le_trans h (Nat.le_trans (Nat.le_of_eq (Nat.succ_add_eq_add_succ p f).symm) (Nat.add_le_add_right pk f))
theorem kid_le (l : List α) (p : Nat) : 2 * p + 1 ≤ kid lt l p := by unfold kid; split <;> (try split) <;> first | exact Nat.le_refl _ | exact Nat.le_succ _
theorem kid_lt {l : List α} {p : Nat} (h : 2 * p + 1 < l.length) : kid lt l p < l.length := by unfold kid; split <;> (try split) <;> first | exact h | assumption
noncomputable def suLoop : Nat → List α → Nat → List α × Nat
  | 0, l, p => (l, p)
  | f + 1, l, p => if 2 * p + 1 < l.length then suLoop f (l.set p (l.getD (kid lt l p) default)) (kid lt l p) else (l, p)
theorem su_fuel : ∀ (f g : Nat) (l : List α) (p : Nat), l.length ≤ p + f → l.length ≤ p + g → suLoop lt f l p = suLoop lt g l p
  | f + 1, g + 1, l, p, h1, h2 => by
    simp only [suLoop]
    by_cases c : 2 * p + 1 < l.length
    · have := kid_le lt l p
      rw [if_pos c, if_pos c]; exact su_fuel f g _ _ (by rw [List.length_set]; exact step_le (pk0 this) h1) (by rw [List.length_set]; exact step_le (pk0 this) h2)
    · rw [if_neg c, if_neg c]
  | 0, g + 1, l, p, h, _ => by simp only [suLoop]; rw [if_neg (no_kid h)]
  | f + 1, 0, l, p, _, h => by simp only [suLoop]; rw [if_neg (no_kid h)]
  | 0, 0, _, _, _, _ => rfl
noncomputable def siftupL (l : List α) (p : Nat) : List α :=
  let r := suLoop lt l.length l p
  siftdownL lt (r.1.set r.2 (l.getD p default)) p r.2
end
structure Dbl (p : Nat) : Prop where
  e1 : 2 * (p : Int) + 1 = ((2 * p + 1 : Nat) : Int)
  e2 : ((2 * p + 1 : Nat) : Int) + 1 = ((2 * p + 2 : Nat) : Int)
  t1 : (((2 * p + 1 : Nat) : Int)).toNat = 2 * p + 1
  t2 : (((2 * p + 2 : Nat) : Int)).toNat = 2 * p + 2
theorem dbl (p : Nat) : Dbl p := ⟨rfl, rfl, rfl, rfl⟩
theorem unitsOk100 {un k : Nat} (h : un + 100 < cLine) (hk : k ≤ 40) : un + k + 10 < cLine := by lia
theorem posFit {p q : Nat} (h : p < q) (hf : q < 2 ^ 62) : (p : Int) < 2 ^ 62 := by lia
inductive SuJ {α : Type} [Inhabited α] (val : α → Value) (lt : α → α → Bool) (hp : Addr) (ps : Nat) (t2 te : Tok) (n : Nat) (its : List α) (news : Led) (k : Nat) (m : Str → Option Value) (news' : Led) : Prop
  | mk0 (u : Str → Option Value) (l : List α) (p : Nat) (tp tc : Tok) : k = its.length - p → p < its.length → l.length = its.length → (∀ y ∈ l, y ∈ its) → news' = (hp, listOf (l.map val).toArray n) :: news →
      m = ovr [(Str.ofString "heap", .ref hp), (Str.ofString "startpos", .int ps t2), (Str.ofString "endpos", .int its.length te), (Str.ofString "pos", .int p tp), (Str.ofString "newitem", val (its.getD ps default)), (Str.ofString "childpos", .int ((2 * p + 1 : Nat) : Int) tc)] u →
      suLoop lt its.length l p = suLoop lt its.length its ps → SuJ val lt hp ps t2 te n its news k m news'
inductive SuMid {α : Type} [Inhabited α] (val : α → Value) (hp : Addr) (ps : Nat) (t2 te : Tok) (n : Nat) (g1 : Heap) (L1 : Addr) (gn : Array GenState) (dr : Drawn) (os : OsState) (its l : List α) (news : Led) (p : Nat) (tp : Tok) (kd : Nat) (f : Flow) (s' : Shared) : Prop
  | mk0 (tcc : Tok) (u' : Str → Option Value) (h' : Heap) (tk' : Nat) : f = .next → s' = { heap := h', gens := gn, drawn := dr, toks := tk', os := os } → News g1 L1 h' ((hp, listOf (l.map val).toArray n) :: news) →
      Fr g1 L1 h' (ovr [(Str.ofString "heap", .ref hp), (Str.ofString "startpos", .int ps t2), (Str.ofString "endpos", .int its.length te), (Str.ofString "pos", .int p tp), (Str.ofString "newitem", val (its.getD ps default)), (Str.ofString "childpos", .int (kd : Int) tcc)] u') → SuMid val hp ps t2 te n g1 L1 gn dr os its l news p tp kd f s'
local macro_rules | `(tactic| walk_at $s:str) => Mine.stopAt ["exec While Compare cons nil", "call ref", "exec If BoolOp cons nil"] s
theorem siftup_spec {α : Type} [Inhabited α] (val : α → Value) (lt : α → α → Bool) (w : World) (hp : Addr) (ps : Nat) (t2 : Tok) (its : List α) (n : Nat) (news : Led)
   (hc : CmpOn val lt its news) (hoff : ∀ p ∈ news, p.1 ≠ hp) (hps : ps < its.length) (hf : its.length < 2 ^ 62) :
   Fn w 10 100 (.ref 77) [.ref hp, .int ps t2] ((hp, listOf (its.map val).toArray n) :: news)
     (fun r news' => r = .none ∧ news' = (hp, listOf ((siftupL lt its ps).map val).toArray n) :: news) := by
  unfold Fn PG
  w_top off
  k_fill
  intro p loose mean mg mb dp un gd cn cs a ccd cl outer A₀ base h₀ L m s Q E B F X N T hk hd hu hret
  refine wpAny_call ?_
  k_dflt ktr_enter
  refine noE ?_
  rename_i g1 L1 h1 FG1 F1 N1 B1 X1 T1
  refine frG [(Str.ofString "heap", .ref hp), (Str.ofString "pos", .int ps t2)] F1 ⟨rfl, rfl, trivial⟩ fun mE hAE FE => ?_
  clear F1 hAE
  rename Fr g1 L1 _ _ => F1
  k_steps
  refine len_at (its := its) (val := val) (by assumption) (by k_mem) hf ?_
  intro te tke
  k_steps
  refine it_at (hs := by with_unfolding_all rfl) (hg := by intro _; with_unfolding_all rfl) (its := its) (val := val) (by assumption) (by k_mem) (Int.natCast_nonneg _) (posLt hps rfl) hf ?_
  have hps' := posFit hps hf
  have hps0 : (0 : Int) ≤ ps := Int.natCast_nonneg _
  k_steps
  rename Fr _ _ _ _ => F1
  rename News _ _ _ _ => N1
  refine Stop.mk ?_
  rw [(dbl ps).e1] at F1
  replace F1 := F1
  clear hps' hps0
  with_reducible refine k_flat (s := s) ?_
  intro tkF
  let x := its.getD ps default
  refine While_J (hE := by passes_own) (SuJ val lt hp ps t2 te n its news) (its.length - ps) F1 N1 ⟨_, its, ps, t2, _, rfl, hps, rfl, fun _ h => h, rfl, ovr_all ⟨rfl, rfl, rfl, rfl, rfl, rfl, trivial⟩, rfl⟩ ?_
  clear N1 F1
  rintro k m₁ news₁ h₁ tk₁ F₁ N₁ qG1 R R0 hR hR0
  refine hideG fun gG hG => ?_
  obtain ⟨u, l, p, tp, tc, rfl, hp1, hl, hmem, rfl, rfl, heq⟩ := qG1
  refine hG ?_
  try clear hG gG
  have hkl := posLt hp1 hl
  have hfl := lenLt hf hl
  have D := dbl p
  refine hideG fun gG hG => ?_
  obtain ⟨fu, hfu⟩ : ∃ fu, its.length = fu + 1 := ⟨its.length - 1, (Nat.sub_add_cancel (Nat.lt_of_le_of_lt (Nat.zero_le _) hps)).symm⟩
  refine hG ?_
  try clear hG gG
  rw [hfu, suLoop, ← hfu, hl] at heq
  k_steps
  · rename _ < _ => hlt
    have hlt' : 2 * p + 1 < its.length := Int.ofNat_lt.mp hlt
    rw [if_pos hlt'] at heq
    have hkid := kid_lt lt (l := l) (p := p) (by rw [hl]; exact hlt')
    have hkid1 := kid_le lt l p
    rename Fr _ _ _ _ => F2
    rename News _ _ _ _ => N2
    rw [D.e2] at F2
    replace F2 := F2
    refine Stop.mk ?_
    refine wpAny_mono (Q := SuMid val hp ps t2 te n g1 L1 s.gens s.drawn s.os its l news p tp (kid lt l p)) (E := fun _ _ => False) ?_ ?_ (fun _ _ e => e)
    · refine hideQ fun QR hRq => ?_
      refine wpAny_If ?_
      k_steps
      · rename _ < _ => h2
        have h2l := Int.ofNat_lt.mp h2
        rw [← hl] at h2l
        have hll : 2 * p + 1 < l.length := by rw [hl]; exact hlt'
        refine it_at (hs := by with_unfolding_all rfl) (hg := by intro _; with_unfolding_all rfl) (its := l) (val := val) N2 (by k_mem) (Int.natCast_nonneg _) (posLt hll rfl) hfl ?_
        k_steps
        refine it_at (hs := by with_unfolding_all rfl) (hg := by intro _; with_unfolding_all rfl) (its := l) (val := val) N2 (by k_mem) (Int.natCast_nonneg _) (posLt h2l rfl) hfl ?_
        rw [D.t1, D.t2]
        refine cmp_at (val := val) hc (hmem _ (getD_mem' hll)) (hmem _ (getD_mem' h2l)) N2 mem_tail' (unitsOk100 hu (by decide)) ?_
        cases hlx : lt (l.getD (2 * p + 1) default) (l.getD (2 * p + 2) default)
        · have e : kid lt l p = 2 * p + 2 := by
            unfold kid; rw [if_pos h2l, if_neg (by simpa using hlx)]
          k_steps
          refine hRq _ _ ?_
          rw [e]
          exact ⟨_, _, _, _, rfl, rfl, by assumption, frOv (by assumption) ⟨rfl, rfl, rfl, rfl, rfl, rfl, trivial⟩⟩
        · have e : kid lt l p = 2 * p + 1 := by
            unfold kid; rw [if_pos h2l, if_pos (by simpa using hlx)]
          k_steps
          refine hRq _ _ ?_
          rw [e]
          exact ⟨_, _, _, _, rfl, rfl, by assumption, frOv (by assumption) ⟨rfl, rfl, rfl, rfl, rfl, rfl, trivial⟩⟩
      · rename ¬ _ < _ => h2
        have h2l : ¬ 2 * p + 2 < l.length := fun q => h2 (Int.ofNat_lt.mpr (by rw [← hl]; exact q))
        have e : kid lt l p = 2 * p + 1 := by
          unfold kid; rw [if_neg h2l]
        refine hRq _ _ ?_
        rw [e]
        exact ⟨_, _, _, _, rfl, rfl, by assumption, frOv (by assumption) ⟨rfl, rfl, rfl, rfl, rfl, rfl, trivial⟩⟩
    · rintro f s' qG2
      refine hideG fun gG hG => ?_
      obtain ⟨tcc, u', h', tk', rfl, rfl, N3, F3⟩ := qG2
      refine hG ?_
      try clear hG gG
      clear N2 F2
      have hc1 : kid lt l p < its.length := by rw [← hl]; exact hkid
      have hc2 : (kid lt l p : Int) < 2 ^ 62 := posFit hc1 hf
      have hc0 : (0 : Int) ≤ (kid lt l p : Int) := Int.natCast_nonneg _
      k_steps
      refine it_at (hs := by with_unfolding_all rfl) (hg := by intro _; with_unfolding_all rfl) (its := l) (val := val) N3 (by k_mem) hc0 (posLt hkid rfl) hfl ?_
      k_steps
      refine set_at (val := val) F3 N3 hoff (Int.natCast_nonneg _) hkl hfl ?_
      intro h₂ F₂ N₂
      k_steps
      refine hR _ _ ?_
      dsimp only [WStep]
      rename Fr _ _ _ _ => F4
      rw [(dbl _).e1] at F4
      replace F4 := F4
      refine ⟨_, _, _, _, its.length - kid lt l p, rfl, F4, by assumption, kid_step (kid_le _ _ _) hc1, ?_⟩
      refine ⟨_, l.set p (l.getD (kid lt l p) default), kid lt l p, _, _, rfl, hc1, by rw [List.length_set, hl], ?_, rfl, ovr_all ⟨rfl, rfl, rfl, rfl, rfl, rfl, trivial⟩, ?_⟩
      · intro y hy
        rcases List.mem_or_eq_of_mem_set hy with q | rfl
        · exact hmem _ q
        · exact hmem _ (getD_mem' hkid)
      · rw [← heq]
        exact su_fuel lt _ _ _ _ (by rw [List.length_set]; lia) (by rw [List.length_set]; lia)
  · rename ¬ _ < _ => hge
    refine hR0 _ ?_
    k_steps
    have hx : suLoop lt its.length its ps = (l, p) := by
      rw [← heq, if_neg (fun q => hge (Int.ofNat_lt.mpr q))]
    refine set_at (val := val) F₁ N₁ hoff (Int.natCast_nonneg _) hkl hfl ?_
    intro h₂ F₂ N₂
    k_steps
    refine Stop.mk ?_
    refine Fn.use2 (siftdown_spec val lt w hp ps p t2 tp (l.set p x) n news (hc.sub ?_ fun _ h => h) hoff (by rw [List.length_set, hl]; exact hp1) (by rw [List.length_set]; exact hfl)) B1 F₂ X1 N₂ T1 rfl (by show dp + 1 + 5 < _; exact lim (d := dp) (a := 1 + 5) hd rfl) (by show un + 3 + 50 < _; exact lim (d := un) (a := 3 + 50) hu rfl) ?_
    · intro y hy
      rcases List.mem_or_eq_of_mem_set hy with q | rfl
      · exact hmem _ q
      · exact getD_mem' hps
    · intro h' tk' F5 N5
      k_steps
      refine hret _ _ _ _ (by assumption) (by assumption) ⟨rfl, ?_⟩
      simp only [siftupL]
      rw [hx]
theorem siftup_max_spec {α : Type} [Inhabited α] (val : α → Value) (lt : α → α → Bool) (w : World) (hp : Addr) (ps : Nat) (t2 : Tok) (its : List α) (n : Nat) (news : Led)
   (hc : CmpOn val lt its news) (hoff : ∀ p ∈ news, p.1 ≠ hp) (hps : ps < its.length) (hf : its.length < 2 ^ 62) :
   Fn w 10 100 (.ref 91) [.ref hp, .int ps t2] ((hp, listOf (its.map val).toArray n) :: news)
     (fun r news' => r = .none ∧ news' = (hp, listOf ((siftupL (fun a b => lt b a) its ps).map val).toArray n) :: news) := by
  unfold Fn PG
  w_top off
  k_fill
  intro p loose mean mg mb dp un gd cn cs a ccd cl outer A₀ base h₀ L m s Q E B F X N T hk hd hu hret
  refine wpAny_call ?_
  k_dflt ktr_enter
  refine noE ?_
  rename_i g1 L1 h1 FG1 F1 N1 B1 X1 T1
  refine frG [(Str.ofString "heap", .ref hp), (Str.ofString "pos", .int ps t2)] F1 ⟨rfl, rfl, trivial⟩ fun mE hAE FE => ?_
  clear F1 hAE
  rename Fr g1 L1 _ _ => F1
  k_steps
  refine len_at (its := its) (val := val) (by assumption) (by k_mem) hf ?_
  intro te tke
  k_steps
  refine it_at (hs := by with_unfolding_all rfl) (hg := by intro _; with_unfolding_all rfl) (its := its) (val := val) (by assumption) (by k_mem) (Int.natCast_nonneg _) (posLt hps rfl) hf ?_
  have hps' := posFit hps hf
  have hps0 : (0 : Int) ≤ ps := Int.natCast_nonneg _
  k_steps
  rename Fr _ _ _ _ => F1
  rename News _ _ _ _ => N1
  refine Stop.mk ?_
  rw [(dbl ps).e1] at F1
  replace F1 := F1
  clear hps' hps0
  with_reducible refine k_flat (s := s) ?_
  intro tkF
  let x := its.getD ps default
  refine While_J (hE := by passes_own) (SuJ val (fun a b => lt b a) hp ps t2 te n its news) (its.length - ps) F1 N1 ⟨_, its, ps, t2, _, rfl, hps, rfl, fun _ h => h, rfl, ovr_all ⟨rfl, rfl, rfl, rfl, rfl, rfl, trivial⟩, rfl⟩ ?_
  clear N1 F1
  rintro k m₁ news₁ h₁ tk₁ F₁ N₁ qG3 R R0 hR hR0
  refine hideG fun gG hG => ?_
  obtain ⟨u, l, p, tp, tc, rfl, hp1, hl, hmem, rfl, rfl, heq⟩ := qG3
  refine hG ?_
  try clear hG gG
  have hkl := posLt hp1 hl
  have hfl := lenLt hf hl
  have D := dbl p
  refine hideG fun gG hG => ?_
  obtain ⟨fu, hfu⟩ : ∃ fu, its.length = fu + 1 := ⟨its.length - 1, (Nat.sub_add_cancel (Nat.lt_of_le_of_lt (Nat.zero_le _) hps)).symm⟩
  refine hG ?_
  try clear hG gG
  rw [hfu, suLoop, ← hfu, hl] at heq
  k_steps
  · rename _ < _ => hlt
    have hlt' : 2 * p + 1 < its.length := Int.ofNat_lt.mp hlt
    rw [if_pos hlt'] at heq
    have hkid := kid_lt (fun a b => lt b a) (l := l) (p := p) (by rw [hl]; exact hlt')
    have hkid1 := kid_le (fun a b => lt b a) l p
    rename Fr _ _ _ _ => F2
    rename News _ _ _ _ => N2
    rw [D.e2] at F2
    replace F2 := F2
    refine Stop.mk ?_
    refine wpAny_mono (Q := SuMid val hp ps t2 te n g1 L1 s.gens s.drawn s.os its l news p tp (kid (fun a b => lt b a) l p)) (E := fun _ _ => False) ?_ ?_ (fun _ _ e => e)
    · refine hideQ fun QR hRq => ?_
      refine wpAny_If ?_
      k_steps
      · rename _ < _ => h2
        have h2l := Int.ofNat_lt.mp h2
        rw [← hl] at h2l
        have hll : 2 * p + 1 < l.length := by rw [hl]; exact hlt'
        refine it_at (hs := by with_unfolding_all rfl) (hg := by intro _; with_unfolding_all rfl) (its := l) (val := val) N2 (by k_mem) (Int.natCast_nonneg _) (posLt h2l rfl) hfl ?_
        k_steps
        refine it_at (hs := by with_unfolding_all rfl) (hg := by intro _; with_unfolding_all rfl) (its := l) (val := val) N2 (by k_mem) (Int.natCast_nonneg _) (posLt hll rfl) hfl ?_
        rw [D.t1, D.t2]
        refine cmp_at (val := val) hc (hmem _ (getD_mem' h2l)) (hmem _ (getD_mem' hll)) N2 mem_tail' (unitsOk100 hu (by decide)) ?_
        cases hlx : lt (l.getD (2 * p + 2) default) (l.getD (2 * p + 1) default)
        · have e : kid (fun a b => lt b a) l p = 2 * p + 2 := by
            unfold kid; rw [if_pos h2l, if_neg (by simpa using hlx)]
          k_steps
          refine hRq _ _ ?_
          rw [e]
          exact ⟨_, _, _, _, rfl, rfl, by assumption, frOv (by assumption) ⟨rfl, rfl, rfl, rfl, rfl, rfl, trivial⟩⟩
        · have e : kid (fun a b => lt b a) l p = 2 * p + 1 := by
            unfold kid; rw [if_pos h2l, if_pos (by simpa using hlx)]
          k_steps
          refine hRq _ _ ?_
          rw [e]
          exact ⟨_, _, _, _, rfl, rfl, by assumption, frOv (by assumption) ⟨rfl, rfl, rfl, rfl, rfl, rfl, trivial⟩⟩
      · rename ¬ _ < _ => h2
        have h2l : ¬ 2 * p + 2 < l.length := fun q => h2 (Int.ofNat_lt.mpr (by rw [← hl]; exact q))
        have e : kid (fun a b => lt b a) l p = 2 * p + 1 := by
          unfold kid; rw [if_neg h2l]
        refine hRq _ _ ?_
        rw [e]
        exact ⟨_, _, _, _, rfl, rfl, by assumption, frOv (by assumption) ⟨rfl, rfl, rfl, rfl, rfl, rfl, trivial⟩⟩
    · rintro f s' qG4
      refine hideG fun gG hG => ?_
      obtain ⟨tcc, u', h', tk', rfl, rfl, N3, F3⟩ := qG4
      refine hG ?_
      try clear hG gG
      clear N2 F2
      have hc1 : kid (fun a b => lt b a) l p < its.length := by rw [← hl]; exact hkid
      have hc2 : (kid (fun a b => lt b a) l p : Int) < 2 ^ 62 := posFit hc1 hf
      have hc0 : (0 : Int) ≤ (kid (fun a b => lt b a) l p : Int) := Int.natCast_nonneg _
      k_steps
      refine it_at (hs := by with_unfolding_all rfl) (hg := by intro _; with_unfolding_all rfl) (its := l) (val := val) N3 (by k_mem) hc0 (posLt hkid rfl) hfl ?_
      k_steps
      refine set_at (val := val) F3 N3 hoff (Int.natCast_nonneg _) hkl hfl ?_
      intro h₂ F₂ N₂
      k_steps
      refine hR _ _ ?_
      dsimp only [WStep]
      rename Fr _ _ _ _ => F4
      rw [(dbl _).e1] at F4
      replace F4 := F4
      refine ⟨_, _, _, _, its.length - kid (fun a b => lt b a) l p, rfl, F4, by assumption, kid_step (kid_le _ _ _) hc1, ?_⟩
      refine ⟨_, l.set p (l.getD (kid (fun a b => lt b a) l p) default), kid (fun a b => lt b a) l p, _, _, rfl, hc1, by rw [List.length_set, hl], ?_, rfl, ovr_all ⟨rfl, rfl, rfl, rfl, rfl, rfl, trivial⟩, ?_⟩
      · intro y hy
        rcases List.mem_or_eq_of_mem_set hy with q | rfl
        · exact hmem _ q
        · exact hmem _ (getD_mem' hkid)
      · rw [← heq]
        exact su_fuel (fun a b => lt b a) _ _ _ _ (by rw [List.length_set]; lia) (by rw [List.length_set]; lia)
  · rename ¬ _ < _ => hge
    refine hR0 _ ?_
    k_steps
    have hx : suLoop (fun a b => lt b a) its.length its ps = (l, p) := by
      rw [← heq, if_neg (fun q => hge (Int.ofNat_lt.mpr q))]
    refine set_at (val := val) F₁ N₁ hoff (Int.natCast_nonneg _) hkl hfl ?_
    intro h₂ F₂ N₂
    k_steps
    refine Stop.mk ?_
    refine Fn.use2 (siftdown_max_spec val lt w hp ps p t2 tp (l.set p x) n news (hc.sub ?_ fun _ h => h) hoff (by rw [List.length_set, hl]; exact hp1) (by rw [List.length_set]; exact hfl)) B1 F₂ X1 N₂ T1 rfl (by show dp + 1 + 5 < _; exact lim (d := dp) (a := 1 + 5) hd rfl) (by show un + 3 + 50 < _; exact lim (d := un) (a := 3 + 50) hu rfl) ?_
    · intro y hy
      rcases List.mem_or_eq_of_mem_set hy with q | rfl
      · exact hmem _ q
      · exact getD_mem' hps
    · intro h' tk' F5 N5
      k_steps
      refine hret _ _ _ _ (by assumption) (by assumption) ⟨rfl, ?_⟩
      simp only [siftupL]
      rw [hx]
end Mine
end
section
open PySem PySem.W PySem.Calls PyProof.Rows
set_option maxRecDepth 100000
set_option maxHeartbeats 8000000
namespace Mine
local macro_rules | `(tactic| walk_at "mine") => `(tactic| skip)
local macro_rules | `(tactic| walk_at $s:str) => Mine.stopAt ["call ref", "call builtin:list.append"] s
theorem fit62 {k : Nat} (h : k < 1000) : k < 2 ^ 62 := by lia
theorem fitLine {k : Nat} (h : k < 1000) : k ≤ sizeLine := by rw [sizeLine_eq]; lia
noncomputable def heappushL {α : Type} [Inhabited α] (lt : α → α → Bool) (its : List α) (x : α) : List α := siftdownL lt (its ++ [x]) 0 its.length
theorem heappush_spec {α : Type} [Inhabited α] (val : α → Value) (lt : α → α → Bool) (w : World) (hp : Addr) (x : α) (its : List α) (n : Nat) (news : Led)
   (hc : CmpOn val lt (its ++ [x]) news) (hoff : ∀ p ∈ news, p.1 ≠ hp) (hf : its.length < 900) :
   Fn w 20 200 (.ref 28) [.ref hp, val x] ((hp, listOf (its.map val).toArray n) :: news)
     (fun r news' => r = .none ∧ news' = (hp, listOf ((heappushL lt its x).map val).toArray (n + 1)) :: news) := by
  unfold Fn PG
  w_top off
  k_fill
  intro p loose mean mg mb dp un gd cn cs a ccd cl outer A₀ base h₀ L m s Q E B F X N T hk hd hu hret
  refine wpAny_call ?_
  k_dflt ktr_enter
  refine noE ?_
  rename_i g1 L1 h1 FG1 F1 N1 B1 X1 T1
  refine frG [(Str.ofString "heap", .ref hp), (Str.ofString "item", val x)] F1 ⟨rfl, rfl, trivial⟩ fun mE hAE FE => ?_
  clear F1 hAE
  rename Fr g1 L1 _ _ => F1
  k_steps
  refine app_at F1 N1 hoff (fitLine (by lia)) ?_
  intro h2 F2 N2
  have hl : (its ++ [x]).length = its.length + 1 := by simp
  k_steps
  refine len_at (its := its ++ [x]) (val := val) N2 (by k_mem) (fit62 (by lia)) ?_
  intro t3 tk3
  k_steps
  refine Stop.mk ?_
  have e0 : (((its ++ [x]).length : Nat) : Int) - 1 = ((its.length : Nat) : Int) := by rw [hl]; lia
  rw [e0]
  refine Fn.use2 (siftdown_spec val lt w hp 0 its.length _ _ (its ++ [x]) _ news hc hoff (by lia) (fit62 (by lia))) B1 F2 X1 N2 T1 rfl (by show dp + 1 + 5 < _; exact lim (d := dp) (a := 1 + 5) hd rfl) (by show un + 3 + 50 < _; exact lim (d := un) (a := 3 + 50) hu rfl) ?_
  intro h' tk' F5 N5
  k_steps
  exact hret _ _ _ _ (by assumption) (by assumption) ⟨rfl, rfl⟩
theorem heappop_spec {α : Type} [Inhabited α] (val : α → Value) (lt : α → α → Bool) (w : World) (hp : Addr) (z : α) (its : List α) (n : Nat) (news : Led)
   (hc : CmpOn val lt (its ++ [z]) news) (hoff : ∀ p ∈ news, p.1 ≠ hp) (hf : its.length < 900) :
   Fn w 20 200 (.ref 35) [.ref hp] ((hp, listOf ((its ++ [z]).map val).toArray n) :: news)
     (fun r news' => ∃ n', r = val (if its = [] then z else its.getD 0 default) ∧ news' = (hp, listOf ((if its = [] then [] else siftupL lt (its.set 0 z) 0).map val).toArray n') :: news) := by
  unfold Fn PG
  w_top off
  k_fill
  intro p loose mean mg mb dp un gd cn cs a ccd cl outer A₀ base h₀ L m s Q E B F X N T hk hd hu hret
  refine wpAny_call ?_
  k_dflt ktr_enter
  refine noE ?_
  rename_i g1 L1 h1 FG1 F1 N1 B1 X1 T1
  refine frG [(Str.ofString "heap", .ref hp)] F1 ⟨rfl, trivial⟩ fun mE hAE FE => ?_
  clear F1 hAE
  rename Fr g1 L1 _ _ => F1
  have hl : (its ++ [z]).length = its.length + 1 := by simp
  k_steps
  refine pop_at F1 N1 hoff (fitLine (by lia)) ?_
  intro h2 F2 N2
  k_steps
  · rename _ = true => he
    have hz : its = [] := by simpa using he
    subst hz
    exact hret _ _ _ _ (by assumption) (by assumption) ⟨_, rfl, rfl⟩
  · rename _ = false => he
    have hz : its ≠ [] := by rintro rfl; simp at he
    have hpos : 0 < its.length := List.length_pos_iff.mpr hz
    refine it_at (hs := by with_unfolding_all rfl) (hg := by intro _; with_unfolding_all rfl) (its := its) (val := val) (by assumption) (by k_mem) (Int.le_refl _) (by lia) (fit62 (by lia)) ?_
    k_steps
    refine set_at (val := val) (by assumption) (by assumption) hoff (Int.le_refl _) (by lia) (fit62 (by lia)) ?_
    intro h3 F3 N3
    k_steps
    refine Stop.mk ?_
    refine Fn.use2 (siftup_spec val lt w hp 0 _ (its.set 0 z) _ news (hc.sub ?_ fun _ h => h) hoff (by rw [List.length_set]; exact hpos) (by rw [List.length_set]; exact fit62 (by lia))) B1 (by assumption) X1 (by assumption) T1 rfl (by show dp + 1 + 10 < _; exact lim (d := dp) (a := 1 + 10) hd rfl) (by show un + 3 + 100 < _; exact lim (d := un) (a := 3 + 100) hu rfl) ?_
    · intro y hy
      rcases List.mem_or_eq_of_mem_set hy with q | rfl
      · exact List.mem_append_left _ q
      · exact List.mem_append_right _ (.head _)
    · intro h' tk' F5 N5
      k_steps
      refine hret _ _ _ _ (by assumption) (by assumption) ⟨n + 1, ?_, ?_⟩
      · rw [if_neg hz]; rfl
      · rw [if_neg hz]
theorem heapreplace_spec {α : Type} [Inhabited α] (val : α → Value) (lt : α → α → Bool) (w : World) (hp : Addr) (z : α) (its : List α) (n : Nat) (news : Led)
   (hc : CmpOn val lt (its ++ [z]) news) (hoff : ∀ p ∈ news, p.1 ≠ hp) (hpos : 0 < its.length) (hf : its.length < 900) :
   Fn w 20 200 (.ref 42) [.ref hp, val z] ((hp, listOf (its.map val).toArray n) :: news)
     (fun r news' => r = val (its.getD 0 default) ∧ news' = (hp, listOf ((siftupL lt (its.set 0 z) 0).map val).toArray n) :: news) := by
  unfold Fn PG
  w_top off
  k_fill
  intro p loose mean mg mb dp un gd cn cs a ccd cl outer A₀ base h₀ L m s Q E B F X N T hk hd hu hret
  refine wpAny_call ?_
  k_dflt ktr_enter
  refine noE ?_
  rename_i g1 L1 h1 FG1 F1 N1 B1 X1 T1
  refine frG [(Str.ofString "heap", .ref hp), (Str.ofString "item", val z)] F1 ⟨rfl, rfl, trivial⟩ fun mE hAE FE => ?_
  clear F1 hAE
  rename Fr g1 L1 _ _ => F1
  k_steps
  refine it_at (hs := by with_unfolding_all rfl) (hg := by intro _; with_unfolding_all rfl) (its := its) (val := val) (by assumption) (by k_mem) (Int.le_refl _) (by lia) (fit62 (by lia)) ?_
  k_steps
  refine set_at (val := val) (by assumption) (by assumption) hoff (Int.le_refl _) (by lia) (fit62 (by lia)) ?_
  intro h3 F3 N3
  k_steps
  refine Stop.mk ?_
  refine Fn.use2 (siftup_spec val lt w hp 0 _ (its.set 0 z) _ news (hc.sub ?_ fun _ h => h) hoff (by rw [List.length_set]; exact hpos) (by rw [List.length_set]; exact fit62 (by lia))) B1 (by assumption) X1 (by assumption) T1 rfl (by show dp + 1 + 10 < _; exact lim (d := dp) (a := 1 + 10) hd rfl) (by show un + 3 + 100 < _; exact lim (d := un) (a := 3 + 100) hu rfl) ?_
  · intro y hy
    rcases List.mem_or_eq_of_mem_set hy with q | rfl
    · exact List.mem_append_left _ q
    · exact List.mem_append_right _ (.head _)
  · intro h' tk' F5 N5
    k_steps
    exact hret _ _ _ _ (by assumption) (by assumption) ⟨rfl, rfl⟩
theorem heapreplace_max_spec {α : Type} [Inhabited α] (val : α → Value) (lt : α → α → Bool) (w : World) (hp : Addr) (z : α) (its : List α) (n : Nat) (news : Led)
   (hc : CmpOn val lt (its ++ [z]) news) (hoff : ∀ p ∈ news, p.1 ≠ hp) (hpos : 0 < its.length) (hf : its.length < 900) :
   Fn w 20 200 (.ref 56) [.ref hp, val z] ((hp, listOf (its.map val).toArray n) :: news)
     (fun r news' => r = val (its.getD 0 default) ∧ news' = (hp, listOf ((siftupL (fun a b => lt b a) (its.set 0 z) 0).map val).toArray n) :: news) := by
  unfold Fn PG
  w_top off
  k_fill
  intro p loose mean mg mb dp un gd cn cs a ccd cl outer A₀ base h₀ L m s Q E B F X N T hk hd hu hret
  refine wpAny_call ?_
  k_dflt ktr_enter
  refine noE ?_
  rename_i g1 L1 h1 FG1 F1 N1 B1 X1 T1
  refine frG [(Str.ofString "heap", .ref hp), (Str.ofString "item", val z)] F1 ⟨rfl, rfl, trivial⟩ fun mE hAE FE => ?_
  clear F1 hAE
  rename Fr g1 L1 _ _ => F1
  k_steps
  refine it_at (hs := by with_unfolding_all rfl) (hg := by intro _; with_unfolding_all rfl) (its := its) (val := val) (by assumption) (by k_mem) (Int.le_refl _) (by lia) (fit62 (by lia)) ?_
  k_steps
  refine set_at (val := val) (by assumption) (by assumption) hoff (Int.le_refl _) (by lia) (fit62 (by lia)) ?_
  intro h3 F3 N3
  k_steps
  refine Stop.mk ?_
  refine Fn.use2 (siftup_max_spec val lt w hp 0 _ (its.set 0 z) _ news (hc.sub ?_ fun _ h => h) hoff (by rw [List.length_set]; exact hpos) (by rw [List.length_set]; exact fit62 (by lia))) B1 (by assumption) X1 (by assumption) T1 rfl (by show dp + 1 + 10 < _; exact lim (d := dp) (a := 1 + 10) hd rfl) (by show un + 3 + 100 < _; exact lim (d := un) (a := 3 + 100) hu rfl) ?_
  · intro y hy
    rcases List.mem_or_eq_of_mem_set hy with q | rfl
    · exact List.mem_append_left _ q
    · exact List.mem_append_right _ (.head _)
  · intro h' tk' F5 N5
    k_steps
    exact hret _ _ _ _ (by assumption) (by assumption) ⟨rfl, rfl⟩
end Mine
end
section
namespace Mine
section
variable {α β : Type} [Inhabited α] [Inhabited β]
theorem swap_perm {l : List α} {p q : Nat} {x : α} (hp : p < l.length) (hq : q < l.length) : ((l.set p (l.getD q default)).set q x).Perm (l.set p x) := by
  by_cases e : p = q
  · subst e; rw [List.set_set]
  · have h := Array.swap_perm (xs := (l.set p x).toArray) (i := p) (j := q) (by simpa using hp) (by simpa using hq)
    have e1 : ((l.set p x).toArray.swap p q (by simpa using hp) (by simpa using hq)).toList = (l.set p (l.getD q default)).set q x := by
      rw [Array.swap]
      simp [e, List.getD_eq_getElem?_getD, hq, List.set_set]
    have h2 := Array.perm_iff_toList_perm.mp h
    rw [e1] at h2
    simpa using h2
theorem set_self (l : List α) {p : Nat} (hp : p < l.length) : l.set p (l.getD p default) = l := by
  rw [List.getD_eq_getElem?_getD, List.getElem?_eq_getElem hp]; simp
variable (lt : α → α → Bool)
theorem sdLoop_perm {x : α} {st : Nat} : ∀ (f : Nat) (l : List α) (p : Nat), p < l.length →
    (sdLoop lt x st f l p).1.length = l.length ∧ (sdLoop lt x st f l p).2 < l.length ∧ ((sdLoop lt x st f l p).1.set (sdLoop lt x st f l p).2 x).Perm (l.set p x)
  | 0, l, p, h => ⟨rfl, h, .refl _⟩
  | f + 1, l, p, h => by
    simp only [sdLoop]
    split
    · split
      · have ih := sdLoop_perm (x := x) (st := st) f (l.set p (l.getD ((p - 1) / 2) default)) ((p - 1) / 2) (by rw [List.length_set]; lia)
        rw [List.length_set] at ih
        exact ⟨ih.1, ih.2.1, ih.2.2.trans (swap_perm h (by lia))⟩
      · exact ⟨rfl, h, .refl _⟩
    · exact ⟨rfl, h, .refl _⟩
theorem siftdownL_perm {l : List α} {st p : Nat} (h : p < l.length) : (siftdownL lt l st p).Perm l := by
  have := (sdLoop_perm lt (x := l.getD p default) (st := st) (p + 1) l p h).2.2
  rw [set_self l h] at this
  exact this
theorem suLoop_perm (x : α) : ∀ (f : Nat) (l : List α) (p : Nat), p < l.length →
    (suLoop lt f l p).1.length = l.length ∧ (suLoop lt f l p).2 < l.length ∧ ((suLoop lt f l p).1.set (suLoop lt f l p).2 x).Perm (l.set p x)
  | 0, l, p, h => ⟨rfl, h, .refl _⟩
  | f + 1, l, p, h => by
    simp only [suLoop]
    split
    · rename_i c
      have hk := kid_lt (lt := lt) c
      have ih := suLoop_perm x f (l.set p (l.getD (kid lt l p) default)) (kid lt l p) (by rw [List.length_set]; exact hk)
      rw [List.length_set] at ih
      exact ⟨ih.1, ih.2.1, ih.2.2.trans (swap_perm h hk)⟩
    · exact ⟨rfl, h, .refl _⟩
theorem siftupL_perm {l : List α} {p : Nat} (h : p < l.length) : (siftupL lt l p).Perm l := by
  have q := suLoop_perm lt (l.getD p default) l.length l p h
  rw [set_self l h] at q
  exact (siftdownL_perm lt (by rw [List.length_set, q.1]; exact q.2.1)).trans q.2.2
variable (f : α → β) (hf : f default = default) (lt' : β → β → Bool) (hlt : ∀ a b, lt' (f a) (f b) = lt a b)
include hf
theorem getD_map (l : List α) (i : Nat) : (l.map f).getD i default = f (l.getD i default) := by
  rw [List.getD_eq_getElem?_getD, List.getD_eq_getElem?_getD, List.getElem?_map]
  cases l[i]? <;> simp [hf]
include hlt
theorem sdLoop_map {x : α} {st : Nat} : ∀ (k : Nat) (l : List α) (p : Nat), sdLoop lt' (f x) st k (l.map f) p = ((sdLoop lt x st k l p).1.map f, (sdLoop lt x st k l p).2)
  | 0, l, p => rfl
  | k + 1, l, p => by
    simp only [sdLoop]
    rw [getD_map f hf, hlt]
    split
    · split
      · rw [← sdLoop_map k, List.map_set]
      · rfl
    · rfl
theorem siftdownL_map (l : List α) (st p : Nat) : siftdownL lt' (l.map f) st p = (siftdownL lt l st p).map f := by
  unfold siftdownL
  simp only
  rw [getD_map f hf, sdLoop_map lt f hf lt' hlt, List.map_set]
theorem kid_map (l : List α) (p : Nat) : kid lt' (l.map f) p = kid lt l p := by
  unfold kid; rw [getD_map f hf, getD_map f hf, hlt, List.length_map]
theorem suLoop_map : ∀ (k : Nat) (l : List α) (p : Nat), suLoop lt' k (l.map f) p = ((suLoop lt k l p).1.map f, (suLoop lt k l p).2)
  | 0, l, p => rfl
  | k + 1, l, p => by
    simp only [suLoop]
    rw [kid_map lt f hf lt' hlt, getD_map f hf, List.length_map]
    split
    · rw [← suLoop_map k, List.map_set]
    · rfl
theorem siftupL_map (l : List α) (p : Nat) : siftupL lt' (l.map f) p = (siftupL lt l p).map f := by
  unfold siftupL
  simp only
  rw [getD_map f hf, suLoop_map lt f hf lt' hlt, List.length_map, ← siftdownL_map lt f hf lt' hlt, List.map_set]
theorem heappushL_map (l : List α) (x : α) : heappushL lt' (l.map f) (f x) = (heappushL lt l x).map f := by
  unfold heappushL
  rw [← siftdownL_map lt f hf lt' hlt, List.map_append, List.length_map]; rfl
end
end Mine
end
section
open PySem PySem.W PySem.Calls PyProof.Rows
set_option maxRecDepth 100000
set_option maxHeartbeats 4000000
namespace Mine
section
variable {prog : Program} {w : World} {A : Around} {E : Value → Shared → Prop} {s : Shared}
noncomputable def rit (x left step : Int) : Obj := { cls := .type "range_iterator", data := .fields #[rawInt x, rawInt left, rawInt step] }
theorem sub_rit_reversed : isSubtype (.type "range_iterator") (.type "reversed") = pure false := by rw [isSubtype_type]; kernel_rfl
theorem call_range_reversed {r : Addr} {t u v : Tok} {Q : Value → Shared → Prop} (hr : IsRange s.heap r 0 1 1 t u v)
    (h : Q (.ref s.heap.objs.size) { s with heap := s.heap.push (rit 0 1 (-1)) }) : wpAny (model prog w) A (call (.builtin "range.__reversed__") [.ref r]) Q E s := by
  refine wpAny_call_entry F.slot_range_reversed ⟨_, hr, rfl⟩ F.entry_range_reversed ?_ (F.args_range_reversed_1 _)
  obtain ⟨hp, g, d, tk, os⟩ := s
  have hr' : hp.get? r = _ := hr
  wp_walk using AutoSeq1.wpAny_loadPart' hr
  exact ⟨_, rfl, h⟩
theorem code_reversed_range {r : Addr} {t u v : Tok} {Q₁ : Value → Shared → Prop} (hr : IsRange s.heap r 0 1 1 t u v)
    (h : Q₁ (.ref s.heap.objs.size) { s with heap := s.heap.push (rit 0 1 (-1)) }) :
    codeAny (model prog w) A (.call (.builtin "reversed.__new__") ⟨[.type "reversed", .ref r], []⟩) (wants Q₁ E) s := by
  have hT : s.TypeIs (.ref r) "range" := ⟨_, hr, rfl⟩
  refine codeAny_of_tree ?_
  show wpAny _ A.in1 (do checkBuiltinCall "reversed.__new__" ⟨[.type "reversed", .ref r], []⟩; again (.builtin "reversed.__new__" ⟨[.type "reversed", .ref r], []⟩)) _ _ s
  refine wpAny_bind (wpAny_of_eq (F.newCall_reversed_1 _) (wpAny_pure ⟨plainId_quiet F.plain_reversed_new _, codeAny_builtin F.entry_reversed_new ?_⟩))
  rw [Around.under_plainId F.plain_reversed_new _]
  unfold Builtin.«reversed.__new__»
  refine wpAny_bind (wpAny_of_eq (newClass_reversed _) ?_)
  refine wpAny_bind (wpAny_of_eq (a := ()) (by kernel_rfl) ?_)
  refine wpAny_bind (wpAny_of_eq (a := ()) (by kernel_rfl) ?_)
  dsimp only
  refine wpAny_bind (wpAny_specialOf hT F.slot_range_reversed.lookup ?_)
  dsimp only
  refine wpAny_bind (wpAny_of_eq (F.slot_range_reversed.bind _) ?_)
  dsimp only
  rw [if_neg (show ¬ ((Value.builtin "range.__reversed__" == Value.none) = true) from Bool.false_ne_true)]
  refine wpAny_bind (wpAny_rule ?_)
  refine wpAny_bind (m := runValue (.call (.builtin "range.__reversed__") ⟨[.ref r], []⟩)) (show wpAny _ _ (call (.builtin "range.__reversed__") [.ref r]) _ _ _ from call_range_reversed hr ?_)
  first
  | exact wpAny_pure h
  | exact wpAny_bind (wpAny_pure (wpAny_pure h))
theorem call_reversed_range {r : Addr} {t u v : Tok} {Q : Value → Shared → Prop} (hr : IsRange s.heap r 0 1 1 t u v)
    (h : Q (.ref s.heap.objs.size) { s with heap := s.heap.push (rit 0 1 (-1)) }) : wpAny (model prog w) A (call (.type "reversed") [.ref r]) Q E s := by
  refine callType_other (U := "range_iterator") (Q₁ := fun obj s₁ => obj = .ref s.heap.objs.size ∧ s₁ = { s with heap := s.heap.push (rit 0 1 (-1)) }) (by decide +kernel) F.create_reversed ⟨_, _, F.mro_reversed⟩ F.made_reversed sub_rit_reversed (F.typeCall_reversed_1 _) (code_reversed_range hr ⟨rfl, rfl⟩) ?_
  rintro obj s₁ ⟨rfl, rfl⟩
  exact ⟨⟨_, Heap.get?_push_size _ rfl, rfl⟩, h⟩
end
end Mine
end
section
open PySem PySem.W PySem.Calls PyProof.Rows
set_option maxRecDepth 100000
set_option maxHeartbeats 8000000
namespace Mine
local macro_rules | `(tactic| walk_at $s:str) => Mine.stopAt ["call ref"] s
theorem heapify2_spec {α : Type} [Inhabited α] (val : α → Value) (lt : α → α → Bool) (w : World) (hp : Addr) (its : List α) (n : Nat) (news : Led)
   (hc : CmpOn val lt its news) (hoff0 : ∀ p ∈ news, p.1 ≠ hp) (hlen : its.length = 2) :
   Fn w 20 200 (.ref 49) [.ref hp] ((hp, listOf (its.map val).toArray n) :: news)
     (fun r news' => r = .none ∧ news' = (hp, listOf ((siftupL lt its 0).map val).toArray n) :: news) := by
  unfold Fn PG
  w_top off
  k_fill
  intro p loose mean mg mb dp un gd cn cs a ccd cl outer A₀ base h₀ L m s Q E B F X N T hk hd hu hret
  refine wpAny_call ?_
  k_dflt ktr_enter
  refine noE ?_
  rename_i g1 L1 h1 FG1 F1 N1 B1 X1 T1
  refine frG [(Str.ofString "x", .ref hp)] F1 ⟨rfl, trivial⟩ fun mE hAE FE => ?_
  clear F1 hAE
  rename Fr g1 L1 _ _ => F1
  k_steps
  refine len_at (its := its) (val := val) (by assumption) (by k_mem) (fit62 (by lia)) ?_
  intro t2 tk2
  have hl2 : ((its.length : Nat) : Int) = 2 := by lia
  rw [hl2]
  k_steps
  rename IsRange _ _ _ _ _ _ _ _ => hr
  rename Fr _ _ _ _ => F2
  rename News _ _ _ _ => N2
  refine call_reversed_range hr ?_
  refine PySem.wpAny_pyIter_rangeiter (x := 0) (left := 1) (step := -1) (Heap.get?_push_size _ rfl) ?_
  have hI0 := next_is_new F2
  have hlt : ∀ p ∈ (hp, listOf (its.map val).toArray n) :: news, p.1 < _ := fun p hp => Heap.lt_size (N2 p hp).1
  refine kdr_loop (news := (hp, listOf (its.map val).toArray n) :: news) (fun i m nx => (∃ u, m = ovr [(Str.ofString "x", .ref hp)] u) ∧ nx = (hp, listOf ((if i = 0 then its else siftupL lt its 0).map val).toArray n) :: news) (Walks.range rfl _ 0 (-1) 1) (fun _ h => h) (fun _ h => h)
    (fun i h hi b hb => ⟨_, (List.mem_singleton.mp hb) ▸ hi⟩) (fun hm => Nat.lt_irrefl _ ((List.mem_singleton.mp hm) ▸ F2.ns.lt)) (fun b hb => (List.mem_singleton.mp hb) ▸ hI0)
    (fun p hp hm => Nat.lt_irrefl _ ((List.mem_singleton.mp hm) ▸ hlt p hp)) (Heap.get?_push_size _ rfl) (F2.push _) (fun p hp => ⟨Heap.get?_push_of_some _ (N2 p hp).1, (N2 p hp).2⟩) ⟨⟨_, ovr_all ⟨rfl, trivial⟩⟩, rfl⟩ ?_ ?_
  · rintro i v m₁ nx h tk own hi1 qG1 hoff qG2 F₁ N₁
    refine hideG fun gG hG => ?_
    obtain ⟨t, rfl⟩ := qG1
    obtain ⟨⟨u, rfl⟩, rfl⟩ := qG2
    refine hG ?_
    try clear hG gG
    obtain rfl : i = 0 := by lia
    have e0 : (0 : Int) + ((0 : Nat) : Int) * (-1) = ((0 : Nat) : Int) := by decide
    rw [e0] at F₁
    rw [if_pos rfl] at N₁ hoff
    have hoff' : ∀ p ∈ news ++ own, p.1 ≠ hp := fun p hp' => (List.mem_append.mp hp').elim (hoff0 p) fun q => hoff p q _ (.head _)
    k_steps
    refine Stop.mk ?_
    refine Fn.use2 (siftup_spec val lt w hp 0 t its n (news ++ own) (hc.sub (fun _ h => h) fun p hp' => List.mem_append_left _ hp') hoff' (by lia) (fit62 (by lia))) B1 F₁ X1 N₁ T1 rfl (by show dp + 1 + 10 < _; exact lim (d := dp) (a := 1 + 10) hd rfl) (by show un + 3 + 100 < _; exact lim (d := un) (a := 3 + 100) hu rfl) ?_
    intro h' tk' F5 N5
    k_steps
    refine ⟨_, _, _, _, (hp, listOf ((siftupL lt its 0).map val).toArray n) :: news, rfl, by assumption, by assumption, ?_, ?_, ?_, ⟨_, ovr_all ⟨rfl, trivial⟩⟩, rfl⟩
    · intro p hp'
      rcases List.mem_cons.mp hp' with rfl | q
      · exact .head _
      · exact .tail _ (List.mem_append_left _ q)
    · exact fun p q => .tail _ (List.mem_append_right _ q)
    · intro p q b hb
      exact hoff p q b hb
  · rintro m₁ nx h tk qG3 F₁ N₁
    refine hideG fun gG hG => ?_
    obtain ⟨⟨u, rfl⟩, rfl⟩ := qG3
    refine hG ?_
    try clear hG gG
    rw [if_neg (by decide)] at N₁
    k_steps
    exact hret _ _ _ _ (by assumption) (by assumption) ⟨rfl, rfl⟩
theorem heapify3_spec {α : Type} [Inhabited α] (val : α → Value) (lt : α → α → Bool) (w : World) (hp : Addr) (its : List α) (n : Nat) (news : Led)
   (hc : CmpOn val lt its news) (hoff0 : ∀ p ∈ news, p.1 ≠ hp) (hlen : its.length = 3) :
   Fn w 20 200 (.ref 49) [.ref hp] ((hp, listOf (its.map val).toArray n) :: news)
     (fun r news' => r = .none ∧ news' = (hp, listOf ((siftupL lt its 0).map val).toArray n) :: news) := by
  unfold Fn PG
  w_top off
  k_fill
  intro p loose mean mg mb dp un gd cn cs a ccd cl outer A₀ base h₀ L m s Q E B F X N T hk hd hu hret
  refine wpAny_call ?_
  k_dflt ktr_enter
  refine noE ?_
  rename_i g1 L1 h1 FG1 F1 N1 B1 X1 T1
  refine frG [(Str.ofString "x", .ref hp)] F1 ⟨rfl, trivial⟩ fun mE hAE FE => ?_
  clear F1 hAE
  rename Fr g1 L1 _ _ => F1
  k_steps
  refine len_at (its := its) (val := val) (by assumption) (by k_mem) (fit62 (by lia)) ?_
  intro t2 tk2
  have hl2 : ((its.length : Nat) : Int) = 3 := by lia
  rw [hl2]
  k_steps
  rename IsRange _ _ _ _ _ _ _ _ => hr
  rename Fr _ _ _ _ => F2
  rename News _ _ _ _ => N2
  refine call_reversed_range hr ?_
  refine PySem.wpAny_pyIter_rangeiter (x := 0) (left := 1) (step := -1) (Heap.get?_push_size _ rfl) ?_
  have hI0 := next_is_new F2
  have hlt : ∀ p ∈ (hp, listOf (its.map val).toArray n) :: news, p.1 < _ := fun p hp => Heap.lt_size (N2 p hp).1
  refine kdr_loop (news := (hp, listOf (its.map val).toArray n) :: news) (fun i m nx => (∃ u, m = ovr [(Str.ofString "x", .ref hp)] u) ∧ nx = (hp, listOf ((if i = 0 then its else siftupL lt its 0).map val).toArray n) :: news) (Walks.range rfl _ 0 (-1) 1) (fun _ h => h) (fun _ h => h)
    (fun i h hi b hb => ⟨_, (List.mem_singleton.mp hb) ▸ hi⟩) (fun hm => Nat.lt_irrefl _ ((List.mem_singleton.mp hm) ▸ F2.ns.lt)) (fun b hb => (List.mem_singleton.mp hb) ▸ hI0)
    (fun p hp hm => Nat.lt_irrefl _ ((List.mem_singleton.mp hm) ▸ hlt p hp)) (Heap.get?_push_size _ rfl) (F2.push _) (fun p hp => ⟨Heap.get?_push_of_some _ (N2 p hp).1, (N2 p hp).2⟩) ⟨⟨_, ovr_all ⟨rfl, trivial⟩⟩, rfl⟩ ?_ ?_
  · rintro i v m₁ nx h tk own hi1 qG4 hoff qG5 F₁ N₁
    refine hideG fun gG hG => ?_
    obtain ⟨t, rfl⟩ := qG4
    obtain ⟨⟨u, rfl⟩, rfl⟩ := qG5
    refine hG ?_
    try clear hG gG
    obtain rfl : i = 0 := by lia
    have e0 : (0 : Int) + ((0 : Nat) : Int) * (-1) = ((0 : Nat) : Int) := by decide
    rw [e0] at F₁
    rw [if_pos rfl] at N₁ hoff
    have hoff' : ∀ p ∈ news ++ own, p.1 ≠ hp := fun p hp' => (List.mem_append.mp hp').elim (hoff0 p) fun q => hoff p q _ (.head _)
    k_steps
    refine Stop.mk ?_
    refine Fn.use2 (siftup_spec val lt w hp 0 t its n (news ++ own) (hc.sub (fun _ h => h) fun p hp' => List.mem_append_left _ hp') hoff' (by lia) (fit62 (by lia))) B1 F₁ X1 N₁ T1 rfl (by show dp + 1 + 10 < _; exact lim (d := dp) (a := 1 + 10) hd rfl) (by show un + 3 + 100 < _; exact lim (d := un) (a := 3 + 100) hu rfl) ?_
    intro h' tk' F5 N5
    k_steps
    refine ⟨_, _, _, _, (hp, listOf ((siftupL lt its 0).map val).toArray n) :: news, rfl, by assumption, by assumption, ?_, ?_, ?_, ⟨_, ovr_all ⟨rfl, trivial⟩⟩, rfl⟩
    · intro p hp'
      rcases List.mem_cons.mp hp' with rfl | q
      · exact .head _
      · exact .tail _ (List.mem_append_left _ q)
    · exact fun p q => .tail _ (List.mem_append_right _ q)
    · intro p q b hb
      exact hoff p q b hb
  · rintro m₁ nx h tk qG6 F₁ N₁
    refine hideG fun gG hG => ?_
    obtain ⟨⟨u, rfl⟩, rfl⟩ := qG6
    refine hG ?_
    try clear hG gG
    rw [if_neg (by decide)] at N₁
    k_steps
    exact hret _ _ _ _ (by assumption) (by assumption) ⟨rfl, rfl⟩
theorem heapify_max2_spec {α : Type} [Inhabited α] (val : α → Value) (lt : α → α → Bool) (w : World) (hp : Addr) (its : List α) (n : Nat) (news : Led)
   (hc : CmpOn val lt its news) (hoff0 : ∀ p ∈ news, p.1 ≠ hp) (hlen : its.length = 2) :
   Fn w 20 200 (.ref 63) [.ref hp] ((hp, listOf (its.map val).toArray n) :: news)
     (fun r news' => r = .none ∧ news' = (hp, listOf ((siftupL (fun a b => lt b a) its 0).map val).toArray n) :: news) := by
  unfold Fn PG
  w_top off
  k_fill
  intro p loose mean mg mb dp un gd cn cs a ccd cl outer A₀ base h₀ L m s Q E B F X N T hk hd hu hret
  refine wpAny_call ?_
  k_dflt ktr_enter
  refine noE ?_
  rename_i g1 L1 h1 FG1 F1 N1 B1 X1 T1
  refine frG [(Str.ofString "x", .ref hp)] F1 ⟨rfl, trivial⟩ fun mE hAE FE => ?_
  clear F1 hAE
  rename Fr g1 L1 _ _ => F1
  k_steps
  refine len_at (its := its) (val := val) (by assumption) (by k_mem) (fit62 (by lia)) ?_
  intro t2 tk2
  have hl2 : ((its.length : Nat) : Int) = 2 := by lia
  rw [hl2]
  k_steps
  rename IsRange _ _ _ _ _ _ _ _ => hr
  rename Fr _ _ _ _ => F2
  rename News _ _ _ _ => N2
  refine call_reversed_range hr ?_
  refine PySem.wpAny_pyIter_rangeiter (x := 0) (left := 1) (step := -1) (Heap.get?_push_size _ rfl) ?_
  have hI0 := next_is_new F2
  have hlt : ∀ p ∈ (hp, listOf (its.map val).toArray n) :: news, p.1 < _ := fun p hp => Heap.lt_size (N2 p hp).1
  refine kdr_loop (news := (hp, listOf (its.map val).toArray n) :: news) (fun i m nx => (∃ u, m = ovr [(Str.ofString "x", .ref hp)] u) ∧ nx = (hp, listOf ((if i = 0 then its else siftupL (fun a b => lt b a) its 0).map val).toArray n) :: news) (Walks.range rfl _ 0 (-1) 1) (fun _ h => h) (fun _ h => h)
    (fun i h hi b hb => ⟨_, (List.mem_singleton.mp hb) ▸ hi⟩) (fun hm => Nat.lt_irrefl _ ((List.mem_singleton.mp hm) ▸ F2.ns.lt)) (fun b hb => (List.mem_singleton.mp hb) ▸ hI0)
    (fun p hp hm => Nat.lt_irrefl _ ((List.mem_singleton.mp hm) ▸ hlt p hp)) (Heap.get?_push_size _ rfl) (F2.push _) (fun p hp => ⟨Heap.get?_push_of_some _ (N2 p hp).1, (N2 p hp).2⟩) ⟨⟨_, ovr_all ⟨rfl, trivial⟩⟩, rfl⟩ ?_ ?_
  · rintro i v m₁ nx h tk own hi1 qG7 hoff qG8 F₁ N₁
    refine hideG fun gG hG => ?_
    obtain ⟨t, rfl⟩ := qG7
    obtain ⟨⟨u, rfl⟩, rfl⟩ := qG8
    refine hG ?_
    try clear hG gG
    obtain rfl : i = 0 := by lia
    have e0 : (0 : Int) + ((0 : Nat) : Int) * (-1) = ((0 : Nat) : Int) := by decide
    rw [e0] at F₁
    rw [if_pos rfl] at N₁ hoff
    have hoff' : ∀ p ∈ news ++ own, p.1 ≠ hp := fun p hp' => (List.mem_append.mp hp').elim (hoff0 p) fun q => hoff p q _ (.head _)
    k_steps
    refine Stop.mk ?_
    refine Fn.use2 (siftup_max_spec val lt w hp 0 t its n (news ++ own) (hc.sub (fun _ h => h) fun p hp' => List.mem_append_left _ hp') hoff' (by lia) (fit62 (by lia))) B1 F₁ X1 N₁ T1 rfl (by show dp + 1 + 10 < _; exact lim (d := dp) (a := 1 + 10) hd rfl) (by show un + 3 + 100 < _; exact lim (d := un) (a := 3 + 100) hu rfl) ?_
    intro h' tk' F5 N5
    k_steps
    refine ⟨_, _, _, _, (hp, listOf ((siftupL (fun a b => lt b a) its 0).map val).toArray n) :: news, rfl, by assumption, by assumption, ?_, ?_, ?_, ⟨_, ovr_all ⟨rfl, trivial⟩⟩, rfl⟩
    · intro p hp'
      rcases List.mem_cons.mp hp' with rfl | q
      · exact .head _
      · exact .tail _ (List.mem_append_left _ q)
    · exact fun p q => .tail _ (List.mem_append_right _ q)
    · intro p q b hb
      exact hoff p q b hb
  · rintro m₁ nx h tk qG9 F₁ N₁
    refine hideG fun gG hG => ?_
    obtain ⟨⟨u, rfl⟩, rfl⟩ := qG9
    refine hG ?_
    try clear hG gG
    rw [if_neg (by decide)] at N₁
    k_steps
    exact hret _ _ _ _ (by assumption) (by assumption) ⟨rfl, rfl⟩
theorem heapify_max3_spec {α : Type} [Inhabited α] (val : α → Value) (lt : α → α → Bool) (w : World) (hp : Addr) (its : List α) (n : Nat) (news : Led)
   (hc : CmpOn val lt its news) (hoff0 : ∀ p ∈ news, p.1 ≠ hp) (hlen : its.length = 3) :
   Fn w 20 200 (.ref 63) [.ref hp] ((hp, listOf (its.map val).toArray n) :: news)
     (fun r news' => r = .none ∧ news' = (hp, listOf ((siftupL (fun a b => lt b a) its 0).map val).toArray n) :: news) := by
  unfold Fn PG
  w_top off
  k_fill
  intro p loose mean mg mb dp un gd cn cs a ccd cl outer A₀ base h₀ L m s Q E B F X N T hk hd hu hret
  refine wpAny_call ?_
  k_dflt ktr_enter
  refine noE ?_
  rename_i g1 L1 h1 FG1 F1 N1 B1 X1 T1
  refine frG [(Str.ofString "x", .ref hp)] F1 ⟨rfl, trivial⟩ fun mE hAE FE => ?_
  clear F1 hAE
  rename Fr g1 L1 _ _ => F1
  k_steps
  refine len_at (its := its) (val := val) (by assumption) (by k_mem) (fit62 (by lia)) ?_
  intro t2 tk2
  have hl2 : ((its.length : Nat) : Int) = 3 := by lia
  rw [hl2]
  k_steps
  rename IsRange _ _ _ _ _ _ _ _ => hr
  rename Fr _ _ _ _ => F2
  rename News _ _ _ _ => N2
  refine call_reversed_range hr ?_
  refine PySem.wpAny_pyIter_rangeiter (x := 0) (left := 1) (step := -1) (Heap.get?_push_size _ rfl) ?_
  have hI0 := next_is_new F2
  have hlt : ∀ p ∈ (hp, listOf (its.map val).toArray n) :: news, p.1 < _ := fun p hp => Heap.lt_size (N2 p hp).1
  refine kdr_loop (news := (hp, listOf (its.map val).toArray n) :: news) (fun i m nx => (∃ u, m = ovr [(Str.ofString "x", .ref hp)] u) ∧ nx = (hp, listOf ((if i = 0 then its else siftupL (fun a b => lt b a) its 0).map val).toArray n) :: news) (Walks.range rfl _ 0 (-1) 1) (fun _ h => h) (fun _ h => h)
    (fun i h hi b hb => ⟨_, (List.mem_singleton.mp hb) ▸ hi⟩) (fun hm => Nat.lt_irrefl _ ((List.mem_singleton.mp hm) ▸ F2.ns.lt)) (fun b hb => (List.mem_singleton.mp hb) ▸ hI0)
    (fun p hp hm => Nat.lt_irrefl _ ((List.mem_singleton.mp hm) ▸ hlt p hp)) (Heap.get?_push_size _ rfl) (F2.push _) (fun p hp => ⟨Heap.get?_push_of_some _ (N2 p hp).1, (N2 p hp).2⟩) ⟨⟨_, ovr_all ⟨rfl, trivial⟩⟩, rfl⟩ ?_ ?_
  · rintro i v m₁ nx h tk own hi1 qG10 hoff qG11 F₁ N₁
    refine hideG fun gG hG => ?_
    obtain ⟨t, rfl⟩ := qG10
    obtain ⟨⟨u, rfl⟩, rfl⟩ := qG11
    refine hG ?_
    try clear hG gG
    obtain rfl : i = 0 := by lia
    have e0 : (0 : Int) + ((0 : Nat) : Int) * (-1) = ((0 : Nat) : Int) := by decide
    rw [e0] at F₁
    rw [if_pos rfl] at N₁ hoff
    have hoff' : ∀ p ∈ news ++ own, p.1 ≠ hp := fun p hp' => (List.mem_append.mp hp').elim (hoff0 p) fun q => hoff p q _ (.head _)
    k_steps
    refine Stop.mk ?_
    refine Fn.use2 (siftup_max_spec val lt w hp 0 t its n (news ++ own) (hc.sub (fun _ h => h) fun p hp' => List.mem_append_left _ hp') hoff' (by lia) (fit62 (by lia))) B1 F₁ X1 N₁ T1 rfl (by show dp + 1 + 10 < _; exact lim (d := dp) (a := 1 + 10) hd rfl) (by show un + 3 + 100 < _; exact lim (d := un) (a := 3 + 100) hu rfl) ?_
    intro h' tk' F5 N5
    k_steps
    refine ⟨_, _, _, _, (hp, listOf ((siftupL (fun a b => lt b a) its 0).map val).toArray n) :: news, rfl, by assumption, by assumption, ?_, ?_, ?_, ⟨_, ovr_all ⟨rfl, trivial⟩⟩, rfl⟩
    · intro p hp'
      rcases List.mem_cons.mp hp' with rfl | q
      · exact .head _
      · exact .tail _ (List.mem_append_left _ q)
    · exact fun p q => .tail _ (List.mem_append_right _ q)
    · intro p q b hb
      exact hoff p q b hb
  · rintro m₁ nx h tk qG12 F₁ N₁
    refine hideG fun gG hG => ?_
    obtain ⟨⟨u, rfl⟩, rfl⟩ := qG12
    refine hG ?_
    try clear hG gG
    rw [if_neg (by decide)] at N₁
    k_steps
    exact hret _ _ _ _ (by assumption) (by assumption) ⟨rfl, rfl⟩
end Mine
end
section
open PySem PySem.W PySem.Calls PyProof.Rows PyProof.Rows.LCg
set_option maxRecDepth 100000
set_option maxHeartbeats 4000000
namespace Mine
inductive FEndNI (h₀ : Heap) (L : Addr) (gn : Array GenState) (dr : Drawn) (os : OsState) (own nw : Led) (J : (Str → Option Value) → Led → Prop) (s' : Shared) : Prop
  | mk0 (h' : Heap) (tk' : Nat) (m' : Str → Option Value) (nw' : Led) : s' = { heap := h', gens := gn, drawn := dr, toks := tk', os := os } → Fr h₀ L h' m' → News h₀ L h' (own ++ nw') → Fresh (own ++ nw) nw nw' → J m' nw' → FEndNI h₀ L gn dr os own nw J s'
noncomputable def FEndN (h₀ : Heap) (L : Addr) (s : Shared) (own nw : Led) (J : (Str → Option Value) → Led → Prop) (s' : Shared) : Prop := FEndNI h₀ L s.gens s.drawn s.os own nw J s'
noncomputable def FEnd (h₀ : Heap) (L : Addr) (s : Shared) (own nw : Led) (J : (Str → Option Value) → Led → Prop) (Q : Flow → Shared → Prop) (f : Flow) (s' : Shared) : Prop :=
  match f with
  | .brk => Q .next s'
  | .ret v => Q (.ret v) s'
  | _ => FEndN h₀ L s own nw J s'
inductive ForInv (h₀ : Heap) (L : Addr) (s : Shared) (n : Nat) (I : Addr) (St : Nat → Heap → Prop) (J : Nat → (Str → Option Value) → Led → Prop) (k : Nat) (s' : Shared) : Prop
  | mk0 (h : Heap) (tk i : Nat) (m : Str → Option Value) (nw : Led) : s' = { s with heap := h, toks := tk } → i ≤ n → k = n + 1 - i → St i h → Fr h₀ L h m → News h₀ L h nw → (∀ p ∈ nw, p.1 ≠ I) → J i m nw → ForInv h₀ L s n I St J k s'
/-- a for statement over one fresh iterator, any target -/
theorem forLoop_G {prog : Program} {w : World} {A : Around} {E : Value → Shared → Prop} {Q : Flow → Shared → Prop} {s : Shared} {env : Env} {h₀ : Heap} {L : Addr} {target : Expr} {body : List Stmt} {m₀ : Str → Option Value} {news : Led}
    {I : Addr} {fp : List Addr} {n : Nat} {P : Nat → Value → Prop} {St : Nat → Heap → Prop} (J : Nat → (Str → Option Value) → Led → Prop)
    (W : Walks prog w A I fp [I] n P St) (has : ∀ (i : Nat) (h : Heap), St i h → ∀ b ∈ fp, ∃ o, h.get? b = some o) (hst : St 0 s.heap) (hfp : ∀ b ∈ fp, h₀.get? b = none ∧ b ≠ L) (F : Fr h₀ L s.heap m₀) (N : News h₀ L s.heap news) (off : ∀ p ∈ news, p.1 ≠ I)
    (hJ : J 0 m₀ news)
    (turn : ∀ i v m nw h tk own, (∀ p ∈ own, p.1 ∈ fp) → (∀ p ∈ nw, p.1 ≠ I) → i < n → P i v → J i m nw → Fr h₀ L h m → News h₀ L h (own ++ nw) →
      wpAny (model prog w) A (letOwnedTupleGo target (.ref I) v) (fun _ s₁ => wpAny (model prog w) A (assign target env v) (fun _ s₂ => wpAny (model prog w) A (execs body env) (FEnd h₀ L s own nw (J (i + 1)) Q) E s₂) E s₁) E { s with heap := h, toks := tk })
    (fin : ∀ h tk m nw, J n m nw → Fr h₀ L h m → News h₀ L h nw → Q .next { s with heap := h, toks := tk })
    (hE : PassesOwn (model prog w) A env E) :
    codeAny (model prog w) A (.forLoop target (.ref I) body [] env) (fun r s' => match r with | .ok f => Q f s' | .error e => cameBackBy (model prog w) A env E e s') s := by
  have hLI : L ≠ I := fun e => (hfp I (W.sub I (.head _))).2 e.symm
  have hI0 : h₀.get? I = none := (hfp I (W.sub I (.head _))).1
  refine codeAny_forLoop_any (ForInv h₀ L s n I St J) ?_ (n + 1)
    ⟨s.heap, s.toks, 0, m₀, news, rfl, Nat.zero_le _, rfl, hst, F, N, off, hJ⟩
  rintro k s' qG1
  refine hideG fun gG hG => ?_
  obtain ⟨h, tk, i, m, nw, rfl, hi, rfl, hst', F', N', off', hJ'⟩ := qG1
  refine hG ?_
  try clear hG gG
  have frK : ∀ {hb : Heap}, Kept [I] h hb → Fr h₀ L hb m := fun k => ⟨F'.ns.at' fun o e => k L o (fun q => hLI (List.mem_singleton.mp q)) e, fun b o e => k b o (fun q => by rw [List.mem_singleton.mp q, hI0] at e; cases e) (F'.keep b o e), F'.above⟩
  have nK : ∀ {hb : Heap}, Kept [I] h hb → News h₀ L hb nw := fun k p hp => ⟨k _ _ (fun q => off' p hp (List.mem_singleton.mp q)) (N' p hp).1, (N' p hp).2⟩
  by_cases hlt : i < n
  · refine W.item i _ _ _ hlt hst' fun v h₂ tk₂ hP hst₂ hk₂ => ?_
    have F₂ := frK hk₂
    have N₂ : News h₀ L h₂ (entries h₂ fp ++ nw) := fun p hp => by
      rcases List.mem_append.mp hp with hp | hp
      · have := entries_get hp; exact ⟨this.2, (hfp _ this.1).2, (hfp _ this.1).1⟩
      · exact nK hk₂ p hp
    refine wpAny_mono (turn i v m nw h₂ tk₂ (entries h₂ fp) (fun p hp => (entries_get hp).1) off' hlt hP hJ' F₂ N₂) (fun _ s₁ h₁ => wpAny_mono h₁ (fun _ s₂ h₂' => wpAny_mono h₂' (fun f s₃ h₃ => ?_) hE) hE) hE
    have back : FEndN h₀ L s (entries h₂ fp) nw (J (i + 1)) s₃ → ∃ k', k' < n + 1 - i ∧ ForInv h₀ L s n I St J k' s₃ := by
      rintro qG2
      refine hideG fun gG hG => ?_
      obtain ⟨h', tk', m', nw', rfl, F₃, N₃, fr, j⟩ := qG2
      refine hG ?_
      try clear hG gG
      refine ⟨n + 1 - (i + 1), sub_step hlt, h', tk', i + 1, m', nw', rfl, hlt, rfl, W.frame _ _ _ hst₂ fun b hb o e => (N₃ (b, o) (List.mem_append_left _ (entries_mem hb e))).1, F₃, fun p hp => N₃ p (List.mem_append_right _ hp), fun p hp => ?_, j⟩
      rcases fr p hp with ⟨q, hq, e⟩ | ab
      · rw [← e]; exact off' q hq
      · intro e
        obtain ⟨o, ho⟩ := has _ _ hst₂ _ (W.sub I (.head _))
        exact Nat.lt_irrefl _ (e ▸ ab (I, o) (List.mem_append_left _ (entries_mem (W.sub I (.head _)) ho)))
    cases f with
    | next => exact back h₃
    | cont => exact back h₃
    | brk => exact h₃
    | ret v => exact h₃
  · obtain rfl : i = n := Nat.le_antisymm hi (Nat.not_lt.mp hlt)
    refine W.done _ _ _ hst' fun h₂ tk₂ hk₂ => ?_
    exact wpAny_execs_nil (fin h₂ tk₂ m nw hJ' (frK hk₂) (nK hk₂))

noncomputable abbrev ForK (prog : Program) (w : World) (A : Around) (E : Value → Shared → Prop) (Q : Flow → Shared → Prop) (env : Env) (target : Expr) (body : List Stmt) (it : Value) (s₂ : Shared) : Prop :=
  codeAny (model prog w) A (.forLoop target it body [] env) (fun r s' => match r with | .ok f => Q f s' | .error e => cameBackBy (model prog w) A env E e s') s₂
theorem for_list {prog : Program} {w : World} {A : Around} {E : Value → Shared → Prop} {Q : Flow → Shared → Prop} {s : Shared} {env : Env} {h₀ : Heap} {L : Addr} {target : Expr} {body : List Stmt} {m₀ : Str → Option Value} {news : Led}
    {its : List Value} {ax : Addr} {k : Nat} (J : Nat → (Str → Option Value) → Led → Prop) (F : Fr h₀ L s.heap m₀) (N : News h₀ L s.heap news) (hm : (ax, listOf its.toArray k) ∈ news) (hJ : J 0 m₀ news)
    (turn : ∀ i v m nw h tk own I, (∀ p ∈ own, p.1 = I ∨ p.1 = ax) → (∀ p ∈ nw, p.1 ≠ I) → i < its.length → its[i]? = some v → J i m nw → Fr h₀ L h m → News h₀ L h (own ++ nw) →
      wpAny (model prog w) A (letOwnedTupleGo target (.ref I) v) (fun _ s₁ => wpAny (model prog w) A (assign target env v) (fun _ s₂ => wpAny (model prog w) A (execs body env) (FEnd h₀ L s own nw (J (i + 1)) Q) E s₂) E s₁) E { s with heap := h, toks := tk })
    (fin : ∀ h tk m nw, J its.length m nw → Fr h₀ L h m → News h₀ L h nw → Q .next { s with heap := h, toks := tk })
    (hh : A.handled = none) (hE : PassesOwn (model prog w) A env E) :
    wpAny (model prog w) A (pyIter (.ref ax)) (ForK prog w A E Q env target body) E s := by
  have z := N _ hm
  have hl : s.heap.IsList ax its.toArray := ⟨_, z.1, rfl, _, rfl⟩
  refine wpAny_pyIter_list hl ?_
  have up : ∀ b o, s.heap.get? b = some o → (s.heap.push { cls := .type "list_iterator", data := .fields #[.ref ax, .int 0 0] }).get? b = some o := fun b o e => Heap.get?_push_of_some _ e
  have hax : ax ≠ s.heap.objs.size := Nat.ne_of_lt (Heap.lt_size z.1)
  refine forLoop_G (s := { s with heap := _ }) J (Walks.list hh s.heap.objs.size ax hax its.toArray) (fun i h st b hb => ?_) ⟨⟨_, Heap.get?_push_size _ rfl, rfl, rfl⟩, hl.push _⟩ (fun b hb => ?_) (F.keeps up) (N.grown up) (fun p hp => Nat.ne_of_lt (Heap.lt_size (N p hp).1)) hJ
    (fun i v m nw h tk own ho hI hi hP => turn i v m nw h tk own s.heap.objs.size (fun p hp => by simpa using ho p hp) hI (by simpa using hi) (by simpa using hP)) (by simpa using fin) hE
  · rcases List.mem_cons.mp hb with rfl | hb
    · obtain ⟨o, e, _⟩ := st.1; exact ⟨o, e⟩
    · rw [List.mem_singleton.mp hb]; obtain ⟨o, e, _⟩ := st.2; exact ⟨o, e⟩
  · rcases List.mem_cons.mp hb with rfl | hb
    · exact ⟨next_is_new F, Nat.ne_of_gt F.ns.lt⟩
    · rw [List.mem_singleton.mp hb]; exact ⟨z.2.2, z.2.1⟩
end Mine
end
section
open PySem PySem.W PySem.Calls PyProof.Rows PyProof.Rows.LCg
set_option maxRecDepth 100000
set_option maxHeartbeats 4000000
namespace Mine
theorem updF_app {c : Addr} {o : Obj} {l : Led} {g : Obj → Led} (h : UpdF c o l g) : ∀ {own : Led}, (∀ p ∈ own, p.1 ≠ c) → UpdF c o (own ++ l) (fun o' => own ++ g o')
  | [], _ => h
  | p :: r, hn => .tail (hn p (.head _)) (updF_app h fun q hq => hn q (.tail _ hq))
/-- a comprehension's own block with cells -/
theorem newEnv_cells {M : Model} {A : Around} {E : Env → Shared → Prop} {E' : Value → Shared → Prop} {s : Shared} {scope : Scope} {globals : Addr} {cl : List (Str × Addr)} {qual : Str} {func : Option Addr} {code : Value} {env : Env} {builtins : Addr} 
    (h : E { scope := scope, locals := s.heap.objs.size, globals := globals, cells := cellsFrom (s.heap.objs.size + 1) scope.names cl, qual := qual, func := func, code := env.code, frame := env.frame, builtins := env.builtins }
      { s with heap := pushCells (s.heap.push { cls := .type "dict", data := .dict #[] }) scope.names }) :
    wpAny M A (newFunctionEnv scope globals cl [] qual func code (some env) builtins) E E' s := by
  simp only [newFunctionEnv, Option.isSome_some, if_true]
  refine wpAny_bind (wpAny_alloc ?_)
  refine wpAny_bind (wpAny_layCells _ (fun name kind cells => by cases hkc : kind == NameKind.cell <;> simp [hkc]) _ _ _ _ ?_)
  rw [show ({ s with heap := s.heap.push { cls := .type "dict", data := .dict #[] } } : Shared).heap.objs.size = s.heap.objs.size + 1 from Heap.size_push ..]
  rw [List.forIn_nil]
  exact wpAny_bind (wpAny_pure (wpAny_pure h))

/-- the turn of a comprehension whose name is a cell -/
noncomputable def TurnC (prog : Program) (w : World) (A : Around) (h₀ : Heap) (L : Addr) (m : Str → Option Value) (elt : Expr) (ifs : List Expr) (scope : Scope) (cl : List (Str × Addr)) (env : Env) (x : Str) (s : Shared) (bad : List Addr) (n : Nat) (P : Nat → Value → Prop) (J : Nat → List Value → Led → Prop) : Prop :=
  ∀ (i : Nat) (v : Value) (ys : List Value) (nw : Led) (h : Heap) (tk : Nat) (own : Led) (C : Addr) (oC : Obj) (c : Addr) (oc : Obj) (D' : Addr) (E' : Value → Shared → Prop), (∀ q ∈ nw, q.1 ∉ bad → ∀ p ∈ own ++ [(C, oC), (c, oc), (D', lst ys)], p.1 ≠ q.1) → i < n → P i v → ys.length ≤ i → J i ys nw → oc.data = .cell (some v) → Fr h₀ L h m → News h₀ L h (own ++ ((C, oC) :: (c, oc) :: (D', lst ys) :: nw)) →
      wpAny (model prog w) A (forIn ifs true fun c' r => if r = true then do let ok ← isTrue c' (compEnvC scope ((x, c) :: cl) C env) (eval c' (compEnvC scope ((x, c) :: cl) C env)); pure (ForInStep.yield ok) else pure (ForInStep.yield r)) (fun ok s' =>
        if ok = true then wpAny (model prog w) A (eval elt (compEnvC scope ((x, c) :: cl) C env)) (CEnd h₀ L m { s with heap := h, toks := tk } (own ++ [(C, oC), (c, oc), (D', lst ys)]) nw (fun y nw' => J (i + 1) (ys ++ [y]) nw')) E' s'
        else CEnd h₀ L m { s with heap := h, toks := tk } (own ++ [(C, oC), (c, oc), (D', lst ys)]) nw (fun _ nw' => J (i + 1) ys nw') Value.none s') E' { s with heap := h, toks := tk }

inductive CompInvC (h₀ : Heap) (L : Addr) (m : Str → Option Value) (s₂ : Shared) (n : Nat) (d I : Addr) (St : Nat → Heap → Prop) (J : Nat → List Value → Led → Prop) (k : Nat) (s' : Shared) : Prop
  | mk0 (h' : Heap) (tk i : Nat) (ys : List Value) (nw : Led) (oC oc : Obj) : s' = { s₂ with heap := h', toks := tk } → i ≤ n → k = n + 1 - i → ys.length ≤ i → St i h' → Fr h₀ L h' m → NsObj oC (fun _ => none) → (∃ v, oc.data = .cell v) → News h₀ L h' ((d + 1, oC) :: (d + 1 + 1, oc) :: (d, lst ys) :: nw) → (∀ p ∈ nw, p.1 ≠ d ∧ p.1 ≠ d + 1 ∧ p.1 ≠ d + 1 + 1 ∧ p.1 ≠ I) → J i ys nw → CompInvC h₀ L m s₂ n d I St J k s'
inductive CompBackC (h₀ : Heap) (L : Addr) (m : Str → Option Value) (s₂ : Shared) (d I : Addr) (St : Nat → Heap → Prop) (oC oc₃ : Obj) (ys : List Value) (i : Nat) (J : Led → Prop) (s₅ : Shared) : Prop
  | mk0 (h₅ : Heap) (tk₅ : Nat) (nw' : Led) : s₅ = { s₂ with heap := h₅, toks := tk₅ } → Fr h₀ L h₅ m → News h₀ L h₅ ((d + 1, oC) :: (d + 1 + 1, oc₃) :: (d, lst ys) :: nw') → St (i + 1) h₅ → (∀ p ∈ nw', p.1 ≠ d ∧ p.1 ≠ d + 1 ∧ p.1 ≠ d + 1 + 1 ∧ p.1 ≠ I) → J nw' → CompBackC h₀ L m s₂ d I St oC oc₃ ys i J s₅
theorem comp_mainC {prog : Program} {w : World} {A : Around} {E : Value → Shared → Prop} {h₀ : Heap} {L : Addr} {m : Str → Option Value} {env : Env}
    {elt iter : Expr} {ifs : List Expr} {x : Str} {px : Pos} {scope : Scope} {cl : List (Str × Addr)} {pos : Pos} {s₂ : Shared} {I : Addr} {fp : List Addr} {n : Nat} {P : Nat → Value → Prop} {St : Nat → Heap → Prop} {news : Led}
    (J : Nat → List Value → Led → Prop) {RR : Value → Addr → Result → Shared → Prop}
    (W : Walks prog w A I fp [I] n P St) (has : ∀ (i : Nat) (h : Heap), St i h → ∀ b ∈ fp, ∃ o, h.get? b = some o) (hsz : n ≤ sizeLine)
    (hcells : ∀ n, cellsFrom n scope.names cl = (x, n) :: cl) (hpush : ∀ h, pushCells h scope.names = h.push { cls := .type "cell", data := .cell none }) (hx : ∀ c C, (compEnvC scope ((x, c) :: cl) C env).kindOf x = some .cell) (hkind : scope.kind = .function) (hst : St 0 s₂.heap) (hfp : ∀ b ∈ fp, h₀.get? b = none ∧ b ≠ L)
    (F : Fr h₀ L s₂.heap m) (N : News h₀ L s₂.heap news) (off : ∀ p ∈ news, p.1 ≠ I) (hJ : J 0 [] news)
    {bad : List Addr} (hbad : ∀ b ∈ fp, b = I ∨ b ∈ bad) (turn : TurnC prog w A h₀ L m elt ifs scope cl env x s₂ bad n P J)
    (hRR : ∀ D' C h tk m' ys nw, Fr h₀ L h m → News h₀ L h ((D', lst ys) :: nw) → (∀ p ∈ nw, p.1 ≠ D') → (∀ p ∈ news, p.1 < D') → h.Ns C m' → h₀.get? C = none → C ≠ L → C ≠ D' → (∀ p ∈ nw, p.1 ≠ C) → J n ys nw → RR (.ref D') C (.ok .next) { s₂ with heap := h, toks := tk }) :
    wpAny (model prog w) A (newList []) (fun acc s₃ => wpAny (model prog w) A (newFunctionEnv scope env.globals cl [] env.qual none .none (some env)) (fun cenv s₄ =>
      codeAny (model prog w) A (.compStart (.ListComp elt [⟨.Name x px, iter, ifs, 0⟩] scope pos) 0 (.ref I) acc { cenv with scope := relabel scope env }) (RR acc cenv.locals) s₄) E s₃) E s₂ := by
  refine wpAny_newObj_type (newEnv_cells ?_)
  have hI : I ∈ fp := W.sub I (.head _)
  have hLlt : L < s₂.heap.objs.size := F.ns.lt
  have hfplt : ∀ b ∈ fp, b < s₂.heap.objs.size := fun b hb => by obtain ⟨o, ho⟩ := has _ _ hst b hb; exact Heap.lt_size ho
  generalize hd : s₂.heap.objs.size = d at hLlt hfplt
  generalize hg1 : s₂.heap.push { cls := .type "list", dict := none, data := .seq ([] : List Value).toArray } = g1
  have z1 : g1.objs.size = d + 1 := by rw [← hg1, Heap.size_push, hd]
  dsimp only
  rw [hcells, hpush, z1]
  generalize hg2 : g1.push { cls := .type "dict", data := .dict #[] } = g2
  have z2 : g2.objs.size = d + 1 + 1 := by rw [← hg2, Heap.size_push, z1]
  generalize hg3 : g2.push { cls := .type "cell", data := .cell none } = g3
  have old : ∀ b o, s₂.heap.get? b = some o → g3.get? b = some o := fun b o e => hg3 ▸ Heap.get?_push_of_some _ (hg2 ▸ Heap.get?_push_of_some _ (hg1 ▸ Heap.get?_push_of_some _ e))
  have aD : g3.get? d = some (lst []) := hg3 ▸ Heap.get?_push_of_some _ (hg2 ▸ Heap.get?_push_of_some _ (hg1 ▸ hd ▸ Heap.get?_push_size _ rfl))
  have aC : g3.get? (d + 1) = some { cls := .type "dict", data := .dict #[] } := hg3 ▸ Heap.get?_push_of_some _ (hg2 ▸ z1 ▸ Heap.get?_push_size _ rfl)
  have ac : g3.get? (d + 1 + 1) = some { cls := .type "cell", data := .cell none } := hg3 ▸ z2 ▸ Heap.get?_push_size _ rfl
  have fresh₀ : ∀ a, d ≤ a → h₀.get? a = none := fun a ha => by
    cases e : h₀.get? a with
    | none => rfl
    | some o' => exact absurd (Heap.lt_size (F.keep a o' e)) (Nat.not_lt.mpr (hd ▸ ha))
  have nL : ∀ a, d ≤ a → a ≠ L := fun a ha e => Nat.lt_irrefl _ (Nat.lt_of_lt_of_le hLlt (e ▸ ha))
  have nf : ∀ a, d ≤ a → a ∉ fp := fun a ha q => Nat.lt_irrefl _ (Nat.lt_of_lt_of_le (hfplt a q) ha)
  have d1 : d ≤ d + 1 := Nat.le_succ _
  have d2 : d ≤ d + 1 + 1 := Nat.le_succ_of_le d1
  have hst₃ : St 0 g3 := W.frame _ _ _ hst fun b _ o e => old b o e
  have hLI : L ≠ I := fun e => (hfp I hI).2 e.symm
  have hI0 : h₀.get? I = none := (hfp I hI).1
  have ne1 : d ≠ d + 1 := Nat.ne_of_lt (Nat.lt_succ_self _)
  have ne2 : d ≠ d + 1 + 1 := Nat.ne_of_lt (Nat.lt_succ_of_lt (Nat.lt_succ_self _))
  have ne3 : d + 1 ≠ d + 1 + 1 := Nat.ne_of_lt (Nat.lt_succ_self _)
  have loop : ∀ s₃ : Shared, (∃ tk, s₃ = { s₂ with heap := g3, toks := tk }) →
      codeAny (model prog w) A (.compLoop (.ListComp elt [⟨.Name x px, iter, ifs, 0⟩] scope pos) 0 (.ref I) (.ref d) (compEnvC scope ((x, d + 1 + 1) :: cl) (d + 1) env)) (RR (.ref d) (d + 1)) s₃ := by
    rintro s₃ ⟨tk₀, rfl⟩
    refine codeAny_compLoop_any
      (CompInvC h₀ L m s₂ n d I St J) ?_ (n + 1)
      ⟨g3, _, 0, [], news, { cls := .type "dict", data := .dict #[] }, { cls := .type "cell", data := .cell none }, rfl, Nat.zero_le _, rfl, Nat.le_refl _, hst₃, F.keeps old, ⟨#[], 0, rfl, fun _ he => by simp at he, fun _ => rfl⟩, ⟨none, rfl⟩, fun p hp => ?_, fun p hp => ?_, hJ⟩
    · rintro k s' qG1 Y E0 hY
      refine hideG fun gG hG => ?_
      obtain ⟨h', tk, i, ys, nw, oC, oc, rfl, hi, rfl, hyl, hst', F', hoC, ⟨v₀, hoc⟩, N', off', hJ'⟩ := qG1
      refine hG ?_
      try clear hG gG
      have frK : ∀ {hb : Heap}, Kept [I] h' hb → Fr h₀ L hb m := fun k => ⟨F'.ns.at' fun o e => k L o (fun q => hLI (List.mem_singleton.mp q)) e, fun b o e => k b o (fun q => by rw [List.mem_singleton.mp q, hI0] at e; cases e) (F'.keep b o e), F'.above⟩
      have offI : ∀ p ∈ (d + 1, oC) :: (d + 1 + 1, oc) :: (d, lst ys) :: nw, p.1 ≠ I := fun p hp => by
        rcases List.mem_cons.mp hp with rfl | hp
        · exact fun e => nf (d + 1) d1 (by have e' : d + 1 = I := e; rw [e']; exact hI)
        · rcases List.mem_cons.mp hp with rfl | hp
          · exact fun e => nf (d + 1 + 1) d2 (by have e' : d + 1 + 1 = I := e; rw [e']; exact hI)
          · rcases List.mem_cons.mp hp with rfl | hp
            · exact fun e => nf d (Nat.le_refl _) (by have e' : d = I := e; rw [e']; exact hI)
            · exact (off' p hp).2.2.2
      have nK : ∀ {hb : Heap}, Kept [I] h' hb → News h₀ L hb ((d + 1, oC) :: (d + 1 + 1, oc) :: (d, lst ys) :: nw) := fun k p hp => ⟨k _ _ (fun q => offI p hp (List.mem_singleton.mp q)) (N' p hp).1, (N' p hp).2⟩
      by_cases hlt : i < n
      · refine W.item i _ _ _ hlt hst' fun v h₂ tk₂ hPv hst₂ hk₂ => ?_
        refine wpAny_pure ?_
        have N₂ := nK hk₂
        have zc := N₂ (d + 1 + 1, oc) (.tail _ (.head _))
        refine wpAny_assign_Name (wpAny_storeName_cell (by show (relabel scope env).kind = _; exact hkind) (hx _ _) (by show List.lookup x ((x, d + 1 + 1) :: cl) = _; rw [List.lookup_cons, beq_self_eq_true]) ⟨oc, zc.1, hoc⟩ fun h₃ hv₃ hs₃ => ?_)
        refine hideG fun gG hG => ?_
        obtain ⟨oc₃, gc₃, dc₃⟩ := hv₃
        refine hG ?_
        try clear hG gG
        have hcL : L ≠ d + 1 + 1 := Ne.symm (nL _ d2)
        have F₃ : Fr h₀ L h₃ m := (frK hk₂).change hs₃ (nL _ d2) (fresh₀ _ d2)
        have hst₃' : St (i + 1) h₃ := W.frame _ _ _ hst₂ fun b hb o e => hs₃.extBut b o (fun q => nf (d + 1 + 1) d2 (by have q' : b = d + 1 + 1 := q; rw [← q']; exact hb)) e
        have N₃ : News h₀ L h₃ (entries h₃ fp ++ ((d + 1, oC) :: (d + 1 + 1, oc₃) :: (d, lst ys) :: nw)) := fun p hp => by
          rcases List.mem_append.mp hp with hp | hp
          · have := entries_get hp; exact ⟨this.2, (hfp _ this.1).2, (hfp _ this.1).1⟩
          · rcases List.mem_cons.mp hp with rfl | hp
            · exact ⟨hs₃.extBut _ _ ne3 (N₂ _ (.head _)).1, (N₂ _ (.head _)).2⟩
            · rcases List.mem_cons.mp hp with rfl | hp
              · exact ⟨gc₃, zc.2⟩
              · have z := N₂ p (.tail _ (.tail _ hp))
                refine ⟨hs₃.extBut _ _ ?_ z.1, z.2⟩
                rcases List.mem_cons.mp hp with rfl | hp
                · exact ne2
                · exact (off' p hp).2.2.1
        have offT : ∀ q ∈ nw, q.1 ∉ bad → ∀ p ∈ entries h₃ fp ++ [(d + 1, oC), (d + 1 + 1, oc₃), (d, lst ys)], p.1 ≠ q.1 := fun q hq hqb p hp e => by
          rcases List.mem_append.mp hp with hp | hp
          · have hf := (entries_get hp).1
            rw [e] at hf
            rcases hbad _ hf with r | r
            · exact (off' q hq).2.2.2 r
            · exact hqb r
          · rcases List.mem_cons.mp hp with rfl | hp
            · exact (off' q hq).2.1 e.symm
            rcases List.mem_cons.mp hp with rfl | hp
            · exact (off' q hq).2.2.1 e.symm
            · rw [List.mem_singleton.mp hp] at e; exact (off' q hq).1 e.symm
        refine wpAny_mono (turn i v ys nw h₃ _ (entries h₃ fp) (d + 1) oC (d + 1 + 1) oc₃ d _ offT hlt hPv hyl hJ' dc₃ F₃ N₃) (fun ok s₄ h₄ => ?_) fun _ _ e => e
        have back : ∀ (y : Value) (s₅ : Shared) (JJ : Value → Led → Prop) (tk₁ : Nat), CEnd h₀ L m { s₂ with heap := h₃, toks := tk₁ } (entries h₃ fp ++ [(d + 1, oC), (d + 1 + 1, oc₃), (d, lst ys)]) nw JJ y s₅ →
            CompBackC h₀ L m s₂ d I St oC oc₃ ys i (JJ y) s₅ := by
          rintro y s₅ JJ tk₁ qG2
          refine hideG fun gG hG => ?_
          obtain ⟨h₅, tk₅, nw', rfl, F₅, N₅, ab, hj⟩ := qG2
          refine hG ?_
          try clear hG gG
          have inF : ∀ q ∈ [(d + 1, oC), (d + 1 + 1, oc₃), (d, lst ys)], q ∈ entries h₃ fp ++ [(d + 1, oC), (d + 1 + 1, oc₃), (d, lst ys)] := fun q hq => List.mem_append_right _ hq
          refine ⟨h₅, tk₅, nw', rfl, F₅, fun p hp => ?_, W.frame _ _ _ hst₃' fun b hb o e => (N₅ (b, o) (List.mem_append_left _ (List.mem_append_left _ (entries_mem hb e)))).1, fun p hp => ?_, hj⟩
          · have : p ∈ [(d + 1, oC), (d + 1 + 1, oc₃), (d, lst ys)] ++ nw' := hp
            rcases List.mem_append.mp this with q | q
            · exact N₅ p (List.mem_append_left _ (inF p q))
            · exact N₅ p (List.mem_append_right _ q)
          · rcases ab p hp with ⟨q, hq, e⟩ | ab
            · rw [← e]; exact off' q hq
            · refine ⟨Nat.ne_of_gt (ab _ (List.mem_append_left _ (inF (d, lst ys) (.tail _ (.tail _ (.head _)))))), Nat.ne_of_gt (ab _ (List.mem_append_left _ (inF (d + 1, oC) (.head _)))), Nat.ne_of_gt (ab _ (List.mem_append_left _ (inF (d + 1 + 1, oc₃) (.tail _ (.head _))))), fun q => ?_⟩
              obtain ⟨o, ho⟩ := has _ _ hst₃' _ hI
              exact Nat.lt_irrefl _ (q ▸ ab (I, o) (List.mem_append_left _ (List.mem_append_left _ (entries_mem hI ho))))
        cases ok with
        | true =>
          simp only [if_true] at h₄ ⊢
          refine wpAny_mono h₄ (fun y s₅ h₅ => ?_) fun _ _ e => e
          refine hideG fun gG hG => ?_
          obtain ⟨h₅, tk₅, nw', rfl, F₅, N₅, hst₅, off₅, hJ₅⟩ := back y s₅ _ _ h₅
          refine hG ?_
          try clear hG gG
          refine append_at (hsz := by show ys.toArray.size ≤ sizeLine; rw [List.size_toArray]; exact Nat.le_trans (Nat.le_trans hyl hi) hsz) (N₅ (d, lst ys) (.tail _ (.tail _ (.head _)))).1 fun h₆ hs₆ hD₆ => ?_
          refine hY _ ?_
          refine ⟨n + 1 - (i + 1), sub_step hlt, h₆, tk₅, i + 1, ys ++ [y], nw', oC, oc₃, rfl, hlt, rfl, by rw [List.length_append, List.length_singleton]; exact Nat.succ_le_succ hyl, W.frame _ _ _ hst₅ fun b hb o e => hs₆.extBut b o (fun q => nf d (Nat.le_refl _) (q ▸ hb)) e, F₅.change hs₆ (nL _ (Nat.le_refl _)) (fresh₀ _ (Nat.le_refl _)), hoC, ⟨_, dc₃⟩, fun p hp => ?_, off₅, hJ₅⟩
          rcases List.mem_cons.mp hp with rfl | hp
          · exact ⟨hs₆.extBut _ _ (Ne.symm ne1) (N₅ (d + 1, oC) (.head _)).1, (N₅ (d + 1, oC) (.head _)).2⟩
          · rcases List.mem_cons.mp hp with rfl | hp
            · exact ⟨hs₆.extBut _ _ (Ne.symm ne2) (N₅ (d + 1 + 1, oc₃) (.tail _ (.head _))).1, (N₅ (d + 1 + 1, oc₃) (.tail _ (.head _))).2⟩
            · rcases List.mem_cons.mp hp with rfl | hp
              · exact ⟨hD₆.trans (congrArg some (lst_snoc ys y)), nL _ (Nat.le_refl _), fresh₀ _ (Nat.le_refl _)⟩
              · exact ⟨hs₆.extBut _ _ (off₅ p hp).1 (N₅ p (.tail _ (.tail _ (.tail _ hp)))).1, (N₅ p (.tail _ (.tail _ (.tail _ hp)))).2⟩
        | false =>
          simp only [Bool.false_eq_true, if_false] at h₄ ⊢
          refine hideG fun gG hG => ?_
          obtain ⟨h₅, tk₅, nw', rfl, F₅, N₅, hst₅, off₅, hJ₅⟩ := back _ s₄ _ _ h₄
          refine hG ?_
          try clear hG gG
          refine hY _ ?_
          exact ⟨n + 1 - (i + 1), sub_step hlt, h₅, tk₅, i + 1, ys, nw', oC, oc₃, rfl, hlt, rfl, Nat.le_succ_of_le hyl, hst₅, F₅, hoC, ⟨_, dc₃⟩, N₅, off₅, hJ₅⟩
      · obtain rfl : i = n := Nat.le_antisymm hi (Nat.not_lt.mp hlt)
        refine W.done _ _ _ hst' fun h₂ tk₂ hk₂ => ?_
        have N₂ := nK hk₂
        exact hRR d (d + 1) h₂ tk₂ _ ys nw (frK hk₂) (fun p hp => N₂ p (.tail _ (.tail _ hp))) (fun p hp => (off' p hp).1) (fun p hp => hd ▸ Heap.lt_size (N p hp).1) (hoC.ns (N₂ (d + 1, oC) (.head _)).1) (fresh₀ _ d1) (nL _ d1) (Ne.symm ne1) (fun p hp => (off' p hp).2.1) hJ'
    · rcases List.mem_cons.mp hp with rfl | hp
      · exact ⟨aC, nL _ d1, fresh₀ _ d1⟩
      · rcases List.mem_cons.mp hp with rfl | hp
        · exact ⟨ac, nL _ d2, fresh₀ _ d2⟩
        · rcases List.mem_cons.mp hp with rfl | hp
          · exact ⟨aD, nL _ (Nat.le_refl _), fresh₀ _ (Nat.le_refl _)⟩
          · exact ⟨old _ _ (N p hp).1, (N p hp).2⟩
    · have lt : p.1 < d := hd ▸ Heap.lt_size (N p hp).1
      exact ⟨Nat.ne_of_lt lt, Nat.ne_of_lt (Nat.lt_succ_of_lt lt), Nat.ne_of_lt (Nat.lt_succ_of_lt (Nat.lt_succ_of_lt lt)), off p hp⟩
  exact codeAny_compStart_list (loop _ ⟨_, rfl⟩) (W.self 0 _ _ _ hst₃ (loop _ ⟨_, rfl⟩))

inductive SrcC (prog : Program) (w : World) (A : Around) (h₀ : Heap) (L : Addr) (m : Str → Option Value) (elt : Expr) (ifs : List Expr) (scope : Scope) (cl : List (Str × Addr)) (env : Env) (x : Str) (s : Shared) (Q : Addr → Shared → Prop) (iv : Value) (s₂ : Shared) : Prop
  | mk0 (I : Addr) (fp : List Addr) (n : Nat) (P : Nat → Value → Prop) (St : Nat → Heap → Prop) (news : Led) (J : Nat → List Value → Led → Prop) (h₂ : Heap) (tk₂ : Nat) (bad : List Addr) : (∀ b ∈ fp, b = I ∨ b ∈ bad) → (iv = .ref I) → (s₂ = { s with heap := h₂, toks := tk₂ }) → (Walks prog w A I fp [I] n P St) → (∀ (i : Nat) (h : Heap), St i h → ∀ b ∈ fp, ∃ o, h.get? b = some o) → (n ≤ sizeLine) → (St 0 h₂) → (∀ b ∈ fp, h₀.get? b = none ∧ b ≠ L) → (Fr h₀ L h₂ m) → (News h₀ L h₂ news) → (∀ p ∈ news, p.1 ≠ I) → (J 0 [] news) → (TurnC prog w A h₀ L m elt ifs scope cl env x s bad n P J) → (∀ D h tk ys nw, Fr h₀ L h m → News h₀ L h ((D, lst ys) :: nw) → (∀ p ∈ nw, p.1 ≠ D) → (∀ p ∈ news, p.1 < D) → J n ys nw → Q D { s with heap := h, toks := tk }) → SrcC prog w A h₀ L m elt ifs scope cl env x s Q iv s₂
theorem ListComp_C {prog : Program} {w : World} {A : Around} {E : Value → Shared → Prop} {s : Shared} {h₀ : Heap} {L : Addr} {m : Str → Option Value} {env : Env} {elt iter : Expr} {x : Str} {px : Pos} {ifs : List Expr} {scope : Scope} {cl : List (Str × Addr)} {pos : Pos} {Q : Value → Shared → Prop} (_F₀ : Fr h₀ L s.heap m)
    (hclos : closureFor scope env = pure cl) (hcells : ∀ n, cellsFrom n scope.names cl = (x, n) :: cl) (hpush : ∀ h, pushCells h scope.names = h.push { cls := .type "cell", data := .cell none }) (hx : ∀ c C, (compEnvC scope ((x, c) :: cl) C env).kindOf x = some .cell) (hkind : scope.kind = .function)
    (hnames : ∀ y ∈ scope.names, y.2 = .local → scope.names.lookup y.1 = some .local)
    (h : wpAny (model prog w) A (eval iter env) (fun xv s₁ => wpAny (model prog w) A (pyIter xv) (SrcC prog w A h₀ L m elt ifs scope cl env x s (fun D s' => Q (.ref D) s')) E s₁) E s)
    (hs : ∀ x, foldedSetIterable iter env x = pure x) :
    wpAny (model prog w) A (eval (.ListComp elt [⟨.Name x px, iter, ifs, 0⟩] scope pos) env) Q E s := by
  rw [eval_ListComp]
  refine wpAny_comprehension_free (use := none) rfl hs hclos hkind hnames (wpAny_mono h (fun xv s₁ h₁ => wpAny_mono h₁ (fun iv s₂ h₂ => ?_) fun _ _ e => e) fun _ _ e => e)
  refine hideG fun gG hG => ?_
  obtain ⟨I, fp, n, P, St, news, J, g₂, tk₂, bad, hbad, rfl, rfl, W, has, hsz, hst, hfp, F, N, off, hJ, turn, fin⟩ := h₂
  refine hG ?_
  try clear hG gG
  refine comp_mainC J W has hsz hcells hpush hx hkind hst hfp F N off hJ hbad turn ?_
  intro D' C h tk m' ys nw F' N' o1 hlt hn hC₀ hCL hCD hoC hj
  refine ⟨m', hn, fun h'' hs'' => fin D' h'' tk ys nw (F'.change hs'' hCL hC₀) (fun p hp => ?_) o1 hlt hj⟩
  refine ⟨hs''.extBut _ _ ?_ (N' p hp).1, (N' p hp).2⟩
  rcases List.mem_cons.mp hp with rfl | hp
  · exact Ne.symm hCD
  · exact hoC p hp
end Mine
end
section
open PySem PySem.W PySem.Calls PyProof.Rows PyProof.Rows.LCg
set_option maxRecDepth 100000
set_option maxHeartbeats 4000000
namespace Mine
section
variable {α β : Type} {prog : Program} {w : World} {A : Around} {E : Value → Shared → Prop} {s : Shared} {h₀ : Heap} {L : Addr} {m : Str → Option Value} {env : Env} {elt : Expr} {ifs : List Expr} {scope : Scope} {cl : List (Str × Addr)} {x : Str} {Q : Addr → Shared → Prop} {news : Led} {n : Nat} {Pt : Nat → Value → Prop} {bad : List Addr}
theorem srcC_list {its : List Value} {ax : Addr} {k : Nat} {g : Heap} {t : Nat} (J : Nat → List Value → Led → Prop) (F : Fr h₀ L g m) (N : News h₀ L g news) (hm : (ax, listOf its.toArray k) ∈ news) (hsz : its.length ≤ sizeLine) (hJ : J 0 [] news)
    (turn : TurnC prog w A h₀ L m elt ifs scope cl env x s [ax] its.length (fun i v => its[i]? = some v) J)
    (fin : ∀ D h tk ys nw, Fr h₀ L h m → News h₀ L h ((D, lst ys) :: nw) → (∀ p ∈ nw, p.1 ≠ D) → (∀ p ∈ news, p.1 < D) → J its.length ys nw → Q D { s with heap := h, toks := tk })
    (hh : A.handled = none) :
    wpAny (model prog w) A (pyIter (.ref ax)) (SrcC prog w A h₀ L m elt ifs scope cl env x s Q) E { s with heap := g, toks := t } := by
  have z := N _ hm
  have hl : g.IsList ax its.toArray := ⟨_, z.1, rfl, _, rfl⟩
  refine wpAny_pyIter_list hl ?_
  have up : ∀ b o, g.get? b = some o → (g.push { cls := .type "list_iterator", data := .fields #[.ref ax, .int 0 0] }).get? b = some o := fun b o e => Heap.get?_push_of_some _ e
  have hax : ax ≠ g.objs.size := Nat.ne_of_lt (Heap.lt_size z.1)
  refine ⟨g.objs.size, _, _, _, _, news, J, _, t, [ax], fun b hb => by simpa using hb, rfl, rfl, Walks.list hh g.objs.size ax hax its.toArray, fun i h st b hb => ?_, by simpa using hsz, ⟨⟨_, Heap.get?_push_size _ rfl, rfl, rfl⟩, hl.push _⟩, fun b hb => ?_, F.keeps up, N.grown up, fun p hp => Nat.ne_of_lt (Heap.lt_size (N p hp).1), hJ, by simpa using turn, by simpa using fin⟩
  · rcases List.mem_cons.mp hb with rfl | hb
    · obtain ⟨o, e, _⟩ := st.1; exact ⟨o, e⟩
    · rw [List.mem_singleton.mp hb]; obtain ⟨o, e, _⟩ := st.2; exact ⟨o, e⟩
  · rcases List.mem_cons.mp hb with rfl | hb
    · exact ⟨next_is_new F, Nat.ne_of_gt F.ns.lt⟩
    · rw [List.mem_singleton.mp hb]; exact ⟨z.2.2, z.2.1⟩
theorem turnC_map (xs : List α) (R : Value → α → Prop) (f : α → β) (P : Led → Value → β → Prop) (hmono : ∀ nw nw' v b, (∀ p ∈ nw, p ∈ nw') → P nw v b → P nw' v b)
    (hPt : ∀ i v, i < n → Pt i v → ∃ a, xs[i]? = some a ∧ R v a)
    (elem : ∀ a v, a ∈ xs → R v a → ∀ (h : Heap) (tk : Nat) (tl own : Led) (C : Addr) (oC : Obj) (c : Addr) (oc : Obj) (D' : Addr) (ys : List Value) (E' : Value → Shared → Prop), Above news tl → oc.data = .cell (some v) → Fr h₀ L h m →
      News h₀ L h (own ++ ((C, oC) :: (c, oc) :: (D', lst ys) :: (tl ++ news))) →
      wpAny (model prog w) A (eval elt (compEnvC scope ((x, c) :: cl) C env)) (EEnd h₀ L m { s with heap := h, toks := tk } (own ++ [(C, oC), (c, oc), (D', lst ys)]) (tl ++ news) (fun nw' y => P nw' y (f a))) E' { s with heap := h, toks := tk }) :
    TurnC prog w A h₀ L m elt [] scope cl env x s bad n Pt (JC P news (fun i => (xs.take i).map f) 0) := by
  rintro i v ys nw h tk own C oC c oc D' E' - hi hP hy qG1 hc F N
  refine hideG fun gG hG => ?_
  obtain ⟨tl, rfl, ab, hj⟩ := qG1
  obtain ⟨a, ha, hR⟩ := hPt i v hi hP
  refine hG ?_
  try clear hG gG
  refine wpAny_tests_nil ?_
  simp only [if_true]
  refine wpAny_mono (elem a v (List.mem_of_getElem? ha) hR h tk tl own C oC c oc D' ys E' ab hc F N) (fun y s' he => ?_) fun _ _ e => e
  refine hideG fun gG hG => ?_
  obtain ⟨h', tk', tl', rfl, F', N', ab', hp⟩ := he
  refine hG ?_
  try clear hG gG
  refine ⟨h', tk', tl' ++ (tl ++ news), rfl, F', fun p hp' => ?_, Fresh.app ab', tl' ++ tl, (List.append_assoc ..).symm, (ab'.sub fun p hp' => List.mem_append_right _ (List.mem_append_right _ hp')).app ab, ?_⟩
  · refine N' p ?_
    rcases List.mem_append.mp hp' with q | q
    · exact List.mem_append_right _ (List.mem_append_left _ q)
    · rcases List.mem_append.mp q with q | q
      · exact List.mem_append_left _ q
      · exact List.mem_append_right _ (List.mem_append_right _ q)
  · show Two _ _ ((xs.take (i + 1)).map f)
    rw [take_snoc ha, List.map_append]
    exact (hj.imp fun v b => hmono _ _ v b fun p hp' => List.mem_append_right _ hp').snoc hp
end
/-- a list of ints at a place -/
inductive LI (nw : Led) (v : Value) (ns : List Int) : Prop
  | mk0 (a : Addr) (vs : List Value) (k : Nat) : (v = .ref a) → ((a, listOf vs.toArray k) ∈ nw) → (Two IsI vs ns) → LI nw v ns
inductive LIL (nw : Led) (v : Value) (ns : List (List Int)) : Prop
  | mk0 (a : Addr) (vs : List Value) (k : Nat) : (v = .ref a) → ((a, listOf vs.toArray k) ∈ nw) → (Two (LI nw) vs ns) → LIL nw v ns
theorem LI.mono {nw nw' : Led} {v : Value} {b : List Int} (h : ∀ p ∈ nw, p ∈ nw') : LI nw v b → LI nw' v b := fun ⟨a, vs, k, e, hm, t⟩ => ⟨a, vs, k, e, h _ hm, t⟩
theorem LIL.mono {nw nw' : Led} {v : Value} {b : List (List Int)} (h : ∀ p ∈ nw, p ∈ nw') : LIL nw v b → LIL nw' v b := fun ⟨a, vs, k, e, hm, t⟩ => ⟨a, vs, k, e, h _ hm, t.imp fun _ _ => LI.mono h⟩
theorem two_ints : ∀ {vs : List Value} {ns : List Int}, IntsAre vs ns → Two IsI vs ns
 := by
  intro vs ns h
  induction h with
  | nil => exact .nil
  | cons n t _ ih => exact .cons ⟨t, rfl⟩ ih
theorem ints_two : ∀ {vs : List Value} {ns : List Int}, Two IsI vs ns → IntsAre vs ns
 := by
  intro vs ns h
  induction h with
  | nil => exact .nil
  | cons hx _ ih => obtain ⟨t, e⟩ := hx; exact e ▸ .cons _ t ih
theorem lt2_ne {a b : Nat} (h : a < b) : a ≠ b + 1 + 1 := by lia
theorem lt1_ne {a b : Nat} (h : a < b) : a ≠ b + 1 := by lia
end Mine
end
section
open PySem PySem.W PySem.Calls PyProof.Rows PyProof.Rows.LCg
set_option maxRecDepth 100000
set_option maxHeartbeats 4000000
namespace Mine
/-- an element's end, over an opaque ledger -/
inductive EEI (h₀ : Heap) (L : Addr) (m : Str → Option Value) (gn : Array GenState) (dr : Drawn) (os : OsState) (rest : Led) (P : Led → Value → Prop) (y : Value) (s' : Shared) : Prop
  | mk0 (h' : Heap) (tk : Nat) (tl : Led) : (s' = { heap := h', gens := gn, drawn := dr, toks := tk, os := os }) → (Fr h₀ L h' m) → (News h₀ L h' (tl ++ rest)) → (Above rest tl) → (P tl y) → EEI h₀ L m gn dr os rest P y s'
noncomputable def EE (h₀ : Heap) (L : Addr) (m : Str → Option Value) (s : Shared) (rest : Led) (P : Led → Value → Prop) (y : Value) (s' : Shared) : Prop := EEI h₀ L m s.gens s.drawn s.os rest P y s'
theorem EE.mk {h₀ h' : Heap} {L : Addr} {m : Str → Option Value} {s : Shared} {rest nwX : Led} {tk' : Nat} {P : Led → Value → Prop} {y : Value} (tl : Led) (F : Fr h₀ L h' m) (N : News h₀ L h' nwX) (hs : ∀ p ∈ tl ++ rest, p ∈ nwX) (ab : Above rest tl) (hp : P tl y) :
    EE h₀ L m s rest P y { s with heap := h', toks := tk' } := ⟨h', tk', tl, rfl, F, News.less N hs, ab, hp⟩
theorem EE.pure {h₀ h' : Heap} {L : Addr} {m : Str → Option Value} {s : Shared} {rest : Led} {tk' : Nat} {P : Led → Value → Prop} {y : Value} (F : Fr h₀ L h' m) (N : News h₀ L h' rest) (hp : P [] y) :
    EE h₀ L m s rest P y { s with heap := h', toks := tk' } := ⟨h', tk', [], rfl, F, N, Above.nil, hp⟩
inductive TEI (h₀ : Heap) (L : Addr) (m : Str → Option Value) (gn : Array GenState) (dr : Drawn) (os : OsState) (rest : Led) (b ok : Bool) (s' : Shared) : Prop
  | mk0 (h' : Heap) (tk : Nat) : (s' = { heap := h', gens := gn, drawn := dr, toks := tk, os := os }) → (Fr h₀ L h' m) → (News h₀ L h' rest) → (ok = b) → TEI h₀ L m gn dr os rest b ok s'
noncomputable def TE (h₀ : Heap) (L : Addr) (m : Str → Option Value) (s : Shared) (rest : Led) (b ok : Bool) (s' : Shared) : Prop := TEI h₀ L m s.gens s.drawn s.os rest b ok s'
inductive JT {β : Type} (P : Led → Value → β → Prop) (news : Led) (out : Nat → List β) (i : Nat) (ys : List Value) (nw : Led) : Prop
  | mk0 (tl : Led) : (nw = tl ++ news) → (Above news tl) → (Two (P tl) ys (out i)) → JT P news out i ys nw
theorem JT.nil {β : Type} {P : Led → Value → β → Prop} {news : Led} {out : Nat → List β} (h : out 0 = []) : JT P news out 0 [] news := ⟨[], rfl, Above.nil, h ▸ .nil⟩
section
variable {α β : Type} {prog : Program} {w : World} {A : Around} {s : Shared} {h₀ : Heap} {L : Addr} {m : Str → Option Value} {env : Env} {elt c : Expr} {scope : Scope} {cl : List (Str × Addr)} {news : Led} {names : List Str} {n : Nat} {Pt : Nat → List Value → Prop} {Pv : Nat → Value → Prop} {x : Str} {bad : List Addr}
theorem turn_mapT (xs : List α) (R : List Value → α → Prop) (f : α → β) (P : Led → Value → β → Prop) (hmono : ∀ nw nw' v b, (∀ p ∈ nw, p ∈ nw') → P nw v b → P nw' v b)
    (hPt : ∀ i vals, i < n → Pt i vals → ∃ a, xs[i]? = some a ∧ R vals a)
    (elem : ∀ a vals, a ∈ xs → R vals a → ∀ (h : Heap) (tk : Nat) (rest : Led) (C : Addr) (oC : Obj) (m₂ : Str → Option Value) (E' : Value → Shared → Prop), (∀ p ∈ news, p ∈ rest) → (C, oC) ∈ rest → NsObj oC (putAll names vals m₂) → Fr h₀ L h m → News h₀ L h rest →
      wpAny (model prog w) A (eval elt (compEnvC scope cl C env)) (EE h₀ L m { s with heap := h, toks := tk } rest (fun tl y => P tl y (f a))) E' { s with heap := h, toks := tk }) :
    Turn prog w A h₀ L m elt [] scope cl env names s bad n Pt (JT P news (fun i => (xs.take i).map f)) := by
  rintro i vals ys nw h tk own C oC D' m₂ E' - hi hP hy qG1 hC F N
  refine hideG fun gG hG => ?_
  obtain ⟨tl, rfl, ab, hj⟩ := qG1
  obtain ⟨a, ha, hR⟩ := hPt i vals hi hP
  refine hG ?_
  try clear hG gG
  refine wpAny_tests_nil ?_
  simp only [if_true]
  refine wpAny_mono (elem a vals (List.mem_of_getElem? ha) hR h tk _ C oC m₂ E' (fun p hp => List.mem_append_right _ (.tail _ (.tail _ (List.mem_append_right _ hp)))) (List.mem_append_right _ (.head _)) hC F N) (fun y s' he => ?_) fun _ _ e => e
  refine hideG fun gG hG => ?_
  obtain ⟨h', tk', tl', rfl, F', N', ab', hp⟩ := he
  refine hG ?_
  try clear hG gG
  refine ⟨h', tk', tl' ++ (tl ++ news), rfl, F', fun p hp' => N' p ?_, Fresh.app (ab'.sub fun p hp' => by simpa using hp'), tl' ++ tl, (List.append_assoc ..).symm, (ab'.sub fun p hp' => List.mem_append_right _ (.tail _ (.tail _ (List.mem_append_right _ hp')))).app ab, ?_⟩
  · refine subE ?_ _ hp'
    walk_at "sub"
  · show Two _ _ ((xs.take (i + 1)).map f)
    rw [take_snoc ha, List.map_append]
    exact (hj.imp fun v b => hmono _ _ v b fun p hp' => List.mem_append_right _ hp').snoc (hmono _ _ _ _ (fun p hp' => List.mem_append_left _ hp') hp)
theorem turn_filterT (xs : List α) (R : List Value → α → Prop) (t : α → Bool) (f : α → β) (P : Led → Value → β → Prop) (hmono : ∀ nw nw' v b, (∀ p ∈ nw, p ∈ nw') → P nw v b → P nw' v b)
    (hPt : ∀ i vals, i < n → Pt i vals → ∃ a, xs[i]? = some a ∧ R vals a)
    (test : ∀ a vals, a ∈ xs → R vals a → ∀ (h : Heap) (tk : Nat) (rest : Led) (C : Addr) (oC : Obj) (m₂ : Str → Option Value) (E' : Value → Shared → Prop), (∀ p ∈ news, p ∈ rest) → (C, oC) ∈ rest → NsObj oC (putAll names vals m₂) → Fr h₀ L h m → News h₀ L h rest →
      wpAny (model prog w) A (isTrue c (compEnvC scope cl C env) (eval c (compEnvC scope cl C env))) (TE h₀ L m { s with heap := h, toks := tk } rest (t a)) E' { s with heap := h, toks := tk })
    (elem : ∀ a vals, a ∈ xs → t a = true → R vals a → ∀ (h : Heap) (tk : Nat) (rest : Led) (C : Addr) (oC : Obj) (m₂ : Str → Option Value) (E' : Value → Shared → Prop), (∀ p ∈ news, p ∈ rest) → (C, oC) ∈ rest → NsObj oC (putAll names vals m₂) → Fr h₀ L h m → News h₀ L h rest →
      wpAny (model prog w) A (eval elt (compEnvC scope cl C env)) (EE h₀ L m { s with heap := h, toks := tk } rest (fun tl y => P tl y (f a))) E' { s with heap := h, toks := tk }) :
    Turn prog w A h₀ L m elt [c] scope cl env names s bad n Pt (JT P news (fun i => ((xs.take i).filter t).map f)) := by
  rintro i vals ys nw h tk own C oC D' m₂ E' - hi hP hy qG2 hC F N
  refine hideG fun gG hG => ?_
  obtain ⟨tl, rfl, ab, hj⟩ := qG2
  obtain ⟨a, ha, hR⟩ := hPt i vals hi hP
  refine hG ?_
  try clear hG gG
  refine wpAny_tests_one (wpAny_mono (test a vals (List.mem_of_getElem? ha) hR h tk _ C oC m₂ E' (fun p hp => List.mem_append_right _ (.tail _ (.tail _ (List.mem_append_right _ hp)))) (List.mem_append_right _ (.head _)) hC F N) (fun ok s₁ h₁ => ?_) fun _ _ e => e)
  refine hideG fun gG hG => ?_
  obtain ⟨g₁, tk₁, rfl, F₁, N₁, rfl⟩ := h₁
  refine hG ?_
  try clear hG gG
  cases ht : t a with
  | false =>
    simp only [Bool.false_eq_true, if_false]
    refine ⟨g₁, tk₁, tl ++ news, rfl, F₁, fun p hp' => N₁ p ?_, fun p hp => .inl ⟨p, hp, rfl⟩, tl, rfl, ab, ?_⟩
    · rw [List.append_assoc] at hp'; exact hp'
    · show Two _ _ (((xs.take (i + 1)).filter t).map f)
      rw [take_snoc ha, List.filter_append, List.map_append]
      simpa [ht] using hj
  | true =>
    simp only [if_true]
    refine wpAny_mono (elem a vals (List.mem_of_getElem? ha) ht hR g₁ tk₁ _ C oC m₂ E' (fun p hp => List.mem_append_right _ (.tail _ (.tail _ (List.mem_append_right _ hp)))) (List.mem_append_right _ (.head _)) hC F₁ N₁) (fun y s' he => ?_) fun _ _ e => e
    refine hideG fun gG hG => ?_
    obtain ⟨h', tk', tl', rfl, F', N', ab', hp⟩ := he
    refine hG ?_
    try clear hG gG
    refine ⟨h', tk', tl' ++ (tl ++ news), rfl, F', fun p hp' => N' p ?_, Fresh.app (ab'.sub fun p hp' => by simpa using hp'), tl' ++ tl, (List.append_assoc ..).symm, (ab'.sub fun p hp' => List.mem_append_right _ (.tail _ (.tail _ (List.mem_append_right _ hp')))).app ab, ?_⟩
    · refine subE ?_ _ hp'
      walk_at "sub"
    · show Two _ _ (((xs.take (i + 1)).filter t).map f)
      rw [take_snoc ha, List.filter_append, List.map_append]
      simpa [ht] using (hj.imp fun v b => hmono _ _ v b fun p hp' => List.mem_append_right _ hp').snoc (hmono _ _ _ _ (fun p hp' => List.mem_append_left _ hp') hp)
theorem turnC_mapT (xs : List α) (R : Value → α → Prop) (f : α → β) (P : Led → Value → β → Prop) (hmono : ∀ nw nw' v b, (∀ p ∈ nw, p ∈ nw') → P nw v b → P nw' v b)
    (hPt : ∀ i v, i < n → Pv i v → ∃ a, xs[i]? = some a ∧ R v a)
    (elem : ∀ a v, a ∈ xs → R v a → ∀ (h : Heap) (tk : Nat) (rest : Led) (C : Addr) (oC : Obj) (c : Addr) (oc : Obj) (E' : Value → Shared → Prop), (∀ p ∈ news, p ∈ rest) → (C, oC) ∈ rest → (c, oc) ∈ rest → oc.data = .cell (some v) → Fr h₀ L h m → News h₀ L h rest →
      wpAny (model prog w) A (eval elt (compEnvC scope ((x, c) :: cl) C env)) (EE h₀ L m { s with heap := h, toks := tk } rest (fun tl y => P tl y (f a))) E' { s with heap := h, toks := tk }) :
    TurnC prog w A h₀ L m elt [] scope cl env x s bad n Pv (JT P news (fun i => (xs.take i).map f)) := by
  rintro i v ys nw h tk own C oC c oc D' E' - hi hP hy qG3 hc F N
  refine hideG fun gG hG => ?_
  obtain ⟨tl, rfl, ab, hj⟩ := qG3
  obtain ⟨a, ha, hR⟩ := hPt i v hi hP
  refine hG ?_
  try clear hG gG
  refine wpAny_tests_nil ?_
  simp only [if_true]
  refine wpAny_mono (elem a v (List.mem_of_getElem? ha) hR h tk _ C oC c oc E' (fun p hp => List.mem_append_right _ (.tail _ (.tail _ (.tail _ (List.mem_append_right _ hp))))) (List.mem_append_right _ (.head _)) (List.mem_append_right _ (.tail _ (.head _))) hc F N) (fun y s' he => ?_) fun _ _ e => e
  refine hideG fun gG hG => ?_
  obtain ⟨h', tk', tl', rfl, F', N', ab', hp⟩ := he
  refine hG ?_
  try clear hG gG
  refine ⟨h', tk', tl' ++ (tl ++ news), rfl, F', fun p hp' => N' p ?_, Fresh.app (ab'.sub fun p hp' => by simpa using hp'), tl' ++ tl, (List.append_assoc ..).symm, (ab'.sub fun p hp' => List.mem_append_right _ (.tail _ (.tail _ (.tail _ (List.mem_append_right _ hp'))))).app ab, ?_⟩
  · refine subE ?_ _ hp'
    walk_at "sub"
  · show Two _ _ ((xs.take (i + 1)).map f)
    rw [take_snoc ha, List.map_append]
    exact (hj.imp fun v b => hmono _ _ v b fun p hp' => List.mem_append_right _ hp').snoc (hmono _ _ _ _ (fun p hp' => List.mem_append_left _ hp') hp)
end

/-- a for statement's turn: the front's objects may change, new ones may come -/
inductive FENI (h₀ : Heap) (L : Addr) (gn : Array GenState) (dr : Drawn) (os : OsState) (As : List Addr) (rest : Led) (J : (Str → Option Value) → Led → Led → Prop) (s' : Shared) : Prop
  | mk0 (h' : Heap) (tk' : Nat) (m' : Str → Option Value) (fr' tl' : Led) : s' = { heap := h', gens := gn, drawn := dr, toks := tk', os := os } → Fr h₀ L h' m' → News h₀ L h' (fr' ++ (tl' ++ rest)) → fr'.map (·.1) = As → Above rest tl' → (∀ a ∈ As, ∀ p ∈ tl', a < p.1) → J m' fr' tl' → FENI h₀ L gn dr os As rest J s'
noncomputable def FEN (h₀ : Heap) (L : Addr) (s : Shared) (As : List Addr) (rest : Led) (J : (Str → Option Value) → Led → Led → Prop) (s' : Shared) : Prop := FENI h₀ L s.gens s.drawn s.os As rest J s'
noncomputable def FE (h₀ : Heap) (L : Addr) (s : Shared) (As : List Addr) (rest : Led) (J : (Str → Option Value) → Led → Led → Prop) (Q : Flow → Shared → Prop) (f : Flow) (s' : Shared) : Prop :=
  match f with
  | .brk => Q .next s'
  | .ret v => Q (.ret v) s'
  | _ => FEN h₀ L s As rest J s'
theorem FE.mk {h₀ h' : Heap} {L : Addr} {s : Shared} {As : List Addr} {rest nwX : Led} {J : (Str → Option Value) → Led → Led → Prop} {Q : Flow → Shared → Prop} {m' : Str → Option Value} {tk' : Nat} (fr' tl' : Led) (F : Fr h₀ L h' m') (N : News h₀ L h' nwX) (hs : ∀ p ∈ fr' ++ (tl' ++ rest), p ∈ nwX) (hA : fr'.map (·.1) = As) (ab : Above rest tl') (ab2 : ∀ a ∈ As, ∀ p ∈ tl', a < p.1) (j : J m' fr' tl') :
    FE h₀ L s As rest J Q .next { s with heap := h', toks := tk' } := ⟨h', tk', m', fr', tl', rfl, F, News.less N hs, hA, ab, ab2, j⟩
theorem FE.mkc {h₀ h' : Heap} {L : Addr} {s : Shared} {As : List Addr} {rest nwX : Led} {J : (Str → Option Value) → Led → Led → Prop} {Q : Flow → Shared → Prop} {m' : Str → Option Value} {tk' : Nat} (fr' tl' : Led) (F : Fr h₀ L h' m') (N : News h₀ L h' nwX) (hs : ∀ p ∈ fr' ++ (tl' ++ rest), p ∈ nwX) (hA : fr'.map (·.1) = As) (ab : Above rest tl') (ab2 : ∀ a ∈ As, ∀ p ∈ tl', a < p.1) (j : J m' fr' tl') :
    FE h₀ L s As rest J Q .cont { s with heap := h', toks := tk' } := ⟨h', tk', m', fr', tl', rfl, F, News.less N hs, hA, ab, ab2, j⟩
inductive AInv (As : List Addr) (news : Led) (J : Led → Led → Prop) (nw : Led) : Prop
  | mk0 (fr tl : Led) : nw = fr ++ (tl ++ news) → fr.map (·.1) = As → Above news tl → (∀ a ∈ As, ∀ p ∈ tl, a < p.1) → J fr tl → AInv As news J nw
theorem mem_A {As : List Addr} {a : Addr} {fr : Led} (e : fr.map (·.1) = As) (ha : a ∈ As) : ∃ p ∈ fr, p.1 = a := by
  rw [← e] at ha; obtain ⟨p, hp, q⟩ := List.mem_map.mp ha; exact ⟨p, hp, q⟩
theorem fresh_A {As : List Addr} {own fr fr' tl tl' news : Led} (hfr : fr.map (·.1) = As) (hfr' : fr'.map (·.1) = As) (ab' : Above (own ++ (tl ++ news)) tl') (ab2' : ∀ a ∈ As, ∀ p ∈ tl', a < p.1) :
    Fresh (own ++ (fr ++ (tl ++ news))) (fr ++ (tl ++ news)) (fr' ++ ((tl' ++ tl) ++ news)) := fun p hp => by
  rcases List.mem_append.mp hp with hp | hp
  · obtain ⟨q, hq, qe⟩ := mem_A hfr (hfr' ▸ List.mem_map_of_mem hp : p.1 ∈ As)
    exact .inl ⟨q, List.mem_append_left _ hq, qe⟩
  · rcases List.mem_append.mp hp with hp | hp
    · rcases List.mem_append.mp hp with hp | hp
      · refine .inr fun q hq => ?_
        rcases List.mem_append.mp hq with hq | hq
        · exact ab' q (List.mem_append_left _ hq) p hp
        · rcases List.mem_append.mp hq with hq | hq
          · exact ab2' q.1 (hfr ▸ List.mem_map_of_mem hq) p hp
          · exact ab' q (List.mem_append_right _ hq) p hp
      · exact .inl ⟨p, List.mem_append_right _ (List.mem_append_left _ hp), rfl⟩
    · exact .inl ⟨p, List.mem_append_right _ (List.mem_append_right _ hp), rfl⟩
theorem fe_back {h₀ : Heap} {L : Addr} {s s₃ : Shared} {As : List Addr} {own fr tl news : Led} {J : (Str → Option Value) → Led → Led → Prop} (hfr : fr.map (·.1) = As) (ab : Above news tl) (ab2 : ∀ a ∈ As, ∀ p ∈ tl, a < p.1)
    (z : FEN h₀ L s As (own ++ (tl ++ news)) (fun m' fr' tl' => J m' fr' (tl' ++ tl)) s₃) : FEndN h₀ L s own (fr ++ (tl ++ news)) (fun m' => AInv As news (J m')) s₃ := by
  obtain ⟨h', tk', m', fr', tl', e, F₃, N₃, hfr', ab', ab2', j⟩ := z
  exact ⟨h', tk', m', fr' ++ ((tl' ++ tl) ++ news), e, F₃, News.less N₃ (by walk_at "sub"), fresh_A hfr hfr' ab' ab2', fr', tl' ++ tl, rfl, hfr', (ab'.sub fun p hp => List.mem_append_right _ (List.mem_append_right _ hp)).app ab, fun a ha p hp => (List.mem_append.mp hp).elim (ab2' a ha p) (ab2 a ha p), j⟩
theorem off_A {As : List Addr} {news tl : Led} (off : ∀ a ∈ As, ∀ p ∈ news, p.1 ≠ a) (ab2 : ∀ a ∈ As, ∀ p ∈ tl, a < p.1) : ∀ a ∈ As, ∀ p ∈ tl ++ news, p.1 ≠ a := fun a ha p hp e => by
  rcases List.mem_append.mp hp with hp | hp
  · exact Nat.ne_of_gt (ab2 a ha p hp) e
  · exact off a ha p hp e
theorem off_own {As : List Addr} {ax I : Addr} {oa : Obj} {own fr tl news : Led} (hfr : fr.map (·.1) = As) (off : ∀ a ∈ As, ∀ p ∈ news, p.1 ≠ a) (hm : (ax, oa) ∈ news) (ab2 : ∀ a ∈ As, ∀ p ∈ tl, a < p.1) (hown : ∀ p ∈ own, p.1 = I ∨ p.1 = ax) (hI : ∀ p ∈ fr ++ (tl ++ news), p.1 ≠ I) :
    ∀ a ∈ As, ∀ p ∈ own ++ (tl ++ news), p.1 ≠ a := fun a ha p hp e => by
  rcases List.mem_append.mp hp with hp | hp
  · obtain ⟨q, hq, qe⟩ := mem_A hfr ha
    rcases hown p hp with r | r
    · exact hI q (List.mem_append_left _ hq) (qe.trans (e.symm.trans r))
    · exact off a ha _ hm (r.symm.trans e)
  · exact off_A off ab2 a ha p hp e
theorem turn_A {prog : Program} {w : World} {A : Around} {E : Value → Shared → Prop} {Q : Flow → Shared → Prop} {s : Shared} {env : Env} {h₀ : Heap} {L : Addr} {target : Expr} {body : List Stmt} {news : Led}
    {its : List Value} {ax : Addr} {oa : Obj} {As : List Addr} {J : Nat → (Str → Option Value) → Led → Led → Prop} (off : ∀ a ∈ As, ∀ p ∈ news, p.1 ≠ a) (hm : (ax, oa) ∈ news)
    (turn : ∀ i v m fr tl rest h tk, i < its.length → its[i]? = some v → J i m fr tl → fr.map (·.1) = As → Fr h₀ L h m → News h₀ L h (fr ++ rest) → (∀ p ∈ tl ++ news, p ∈ rest) → (∀ a ∈ As, ∀ p ∈ rest, p.1 ≠ a) → ∀ I, ∀ R : Flow → Shared → Prop, (∀ f s', FE h₀ L s As rest (fun m' fr' tl' => J (i + 1) m' fr' (tl' ++ tl)) Q f s' → R f s') →
      wpAny (model prog w) A (letOwnedTupleGo target (.ref I) v) (fun _ s₁ => wpAny (model prog w) A (assign target env v) (fun _ s₂ => wpAny (model prog w) A (execs body env) R E s₂) E s₁) E { s with heap := h, toks := tk }) :
    ∀ i v m nw h tk own I, (∀ p ∈ own, p.1 = I ∨ p.1 = ax) → (∀ p ∈ nw, p.1 ≠ I) → i < its.length → its[i]? = some v → AInv As news (J i m) nw → Fr h₀ L h m → News h₀ L h (own ++ nw) →
      wpAny (model prog w) A (letOwnedTupleGo target (.ref I) v) (fun _ s₁ => wpAny (model prog w) A (assign target env v) (fun _ s₂ => wpAny (model prog w) A (execs body env) (FEnd h₀ L s own nw (fun m => AInv As news (J (i + 1) m)) Q) E s₂) E s₁) E { s with heap := h, toks := tk } := by
  rintro i v m nw h tk own I hown hI hi hv ⟨fr, tl, rfl, hfr, ab, ab2, hj⟩ F' N'
  refine turn i v m fr tl _ h tk hi hv hj hfr F' (News.less N' ?_) (fun p hp => List.mem_append_right own hp) (off_own hfr off hm ab2 hown hI) I _ fun f s₃ z => ?_
  · walk_at "sub"
  · cases f with
    | next => exact fe_back hfr ab ab2 z
    | cont => exact fe_back hfr ab ab2 z
    | brk => exact z
    | ret v => exact z
theorem for_A {prog : Program} {w : World} {A : Around} {E : Value → Shared → Prop} {Q : Flow → Shared → Prop} {s : Shared} {env : Env} {h₀ : Heap} {L : Addr} {target : Expr} {body : List Stmt} {m₀ : Str → Option Value} {fr₀ news : Led}
    {its : List Value} {ax : Addr} {k : Nat} (As : List Addr) (J : Nat → (Str → Option Value) → Led → Led → Prop) (F : Fr h₀ L s.heap m₀) (N : News h₀ L s.heap (fr₀ ++ news)) (hA : fr₀.map (·.1) = As) (off : ∀ a ∈ As, ∀ p ∈ news, p.1 ≠ a) (hm : (ax, listOf its.toArray k) ∈ news) (hJ : J 0 m₀ fr₀ [])
    (turn : ∀ i v m fr tl rest h tk, i < its.length → its[i]? = some v → J i m fr tl → fr.map (·.1) = As → Fr h₀ L h m → News h₀ L h (fr ++ rest) → (∀ p ∈ tl ++ news, p ∈ rest) → (∀ a ∈ As, ∀ p ∈ rest, p.1 ≠ a) → ∀ I, ∀ R : Flow → Shared → Prop, (∀ f s', FE h₀ L s As rest (fun m' fr' tl' => J (i + 1) m' fr' (tl' ++ tl)) Q f s' → R f s') →
      wpAny (model prog w) A (letOwnedTupleGo target (.ref I) v) (fun _ s₁ => wpAny (model prog w) A (assign target env v) (fun _ s₂ => wpAny (model prog w) A (execs body env) R E s₂) E s₁) E { s with heap := h, toks := tk })
    (fin : ∀ h tk m fr tl, J its.length m fr tl → fr.map (·.1) = As → Fr h₀ L h m → News h₀ L h (fr ++ (tl ++ news)) → (∀ a ∈ As, ∀ p ∈ tl ++ news, p.1 ≠ a) → Above news tl → (∀ a ∈ As, ∀ p ∈ tl, a < p.1) → Q .next { s with heap := h, toks := tk })
    (hh : A.handled = none) (hE : PassesOwn (model prog w) A env E) :
    wpAny (model prog w) A (pyIter (.ref ax)) (ForK prog w A E Q env target body) E s := by
  refine for_list (its := its) (k := k) (fun i m => AInv As news (J i m)) F N (List.mem_append_right _ hm) ⟨fr₀, [], rfl, hA, Above.nil, fun _ _ _ h => (nomatch h), hJ⟩ (turn_A off hm turn) ?_ hh hE
  rintro h tk m nw ⟨fr, tl, rfl, hfr, ab, ab2, hj⟩ F' N'
  exact fin h tk m fr tl hj hfr F' N' (off_A off ab2) ab ab2
section
variable {prog : Program} {w : World} {A : Around} {E : Value → Shared → Prop} {s : Shared} {h₀ : Heap} {L a : Addr} {m : Str → Option Value} {news : Led} {n : Nat} {vs : List Value} {k : Int} {u : Tok} {x : Value}
theorem itv_at {value slice : Expr} {Q : Value → Shared → Prop} (N : News h₀ L s.heap news) (hm : (a, listOf vs.toArray n) ∈ news) (h0 : 0 ≤ k) (h1 : k < 2 ^ 62) (hx : vs[k.toNat]? = some x)
    (h : Q x s)
    (hs : subscripted slice false (.ref a) (.int k u) = operate [.ref a, .int k u] (getItem (.ref a) (.int k u))) (hg : ∀ r, letTemporaryGo value (.ref a) r = pure ()) :
    wpAny (model prog w) A (subscriptTail value slice (.ref a) (.int k u)) Q E s :=
  kim_list N hm rfl rfl h0 (by lia) hx h hs hg
theorem appv_at {Q : Value → Shared → Prop} (F : Fr h₀ L s.heap m) (N : News h₀ L s.heap ((a, listOf vs.toArray n) :: news)) (hoff : ∀ p ∈ news, p.1 ≠ a) (hf : vs.length ≤ sizeLine)
    (h : ∀ h', Fr h₀ L h' m → News h₀ L h' ((a, listOf (vs ++ [x]).toArray (n + 1)) :: news) → Q .none { s with heap := h' }) : wpAny (model prog w) A (call (.builtin "list.append") [.ref a, x]) Q E s :=
  app_at (its := vs) (val := fun x => x) (x := x) F (by simpa using N) hoff hf (by simpa using h)
theorem lenv_at {Q : Value → Shared → Prop} (N : News h₀ L s.heap news) (hm : (a, listOf vs.toArray n) ∈ news) (hf : vs.length < 2 ^ 62)
    (h : ∀ t tk, Q (.int vs.length t) { s with toks := tk }) : wpAny (model prog w) A (call (.builtin "len") [.ref a]) Q E s :=
  len_at (its := vs) (val := fun x => x) N (by simpa using hm) hf h
end
theorem small_len {n : Nat} (h : n < 100) : Builtin.Range.small 0 n 1 = true := small_one (by decide) (by decide) (by lia) (by lia)
theorem size_len (n : Nat) : Builtin.Range.rangeSize 0 n 1 = n := by rw [rangeSize_one]; split <;> lia
theorem hPt_range {l n : Nat} (e : l = n) : ∀ i vals, i < l → (∃ v, vals = [v] ∧ ∃ u, v = .int (0 + (i : Int) * 1) u) → ∃ a, (List.range n)[i]? = some a ∧ ∃ v, vals = [v] ∧ IsI v (a : Int) := by
  rintro i vals hi qG7
  refine hideG fun gG hG => ?_
  obtain ⟨v, rfl, u, rfl⟩ := qG7
  refine hG ?_
  try clear hG gG
  exact ⟨i, by simp [← e, hi], _, rfl, u, by simp⟩
theorem fit9 {k : Nat} (h : k < 100) : k ≤ sizeLine := by rw [sizeLine_eq]; lia
inductive LILL (nw : Led) (v : Value) (ns : List (List (List Int))) : Prop
  | mk0 (a : Addr) (vs : List Value) (k : Nat) : (v = .ref a) → ((a, listOf vs.toArray k) ∈ nw) → (Two (LIL nw) vs ns) → LILL nw v ns
theorem LILL.mono {nw nw' : Led} {v : Value} {b : List (List (List Int))} (h : ∀ p ∈ nw, p ∈ nw') : LILL nw v b → LILL nw' v b := fun ⟨a, vs, k, e, hm, t⟩ => ⟨a, vs, k, e, h _ hm, t.imp fun _ _ => LIL.mono h⟩
inductive RetI (news : Led) (X : List Int) (r : Value) (news' : Led) : Prop
  | mk0 (D : Addr) (ys : List Value) (k : Nat) : r = .ref D → news' = (D, listOf ys.toArray k) :: news → Two IsI ys X → (∀ p ∈ news, p.1 < D) → RetI news X r news'
end Mine
end
section
open PySem PySem.W PySem.Calls PyProof.Rows PyProof.Rows.LCg
set_option maxRecDepth 100000
set_option maxHeartbeats 4000000
namespace Mine
theorem pick_from {vs : List Value} {x : Int} (h : 0 ≤ x) : slicePick vs.toArray (some x) none none = (vs.drop x.toNat).toArray := by
  have e : sliceBounds (some x) none none vs.toArray.size = (((min x.toNat vs.toArray.size : Nat) : Int), ((vs.toArray.size : Nat) : Int), 1) := by
    simp only [sliceBounds, Option.getD_none, show (1 : Int) > 0 by decide, if_true, if_neg (Int.not_lt.mpr h)]
    congr 1
    refine hideG fun gG hG => ?_
    obtain ⟨k, rfl⟩ := Int.eq_ofNat_of_zero_le h
    refine hG ?_
    clear hG gG
    show max (0 : Int) (min (k : Int) _) = ((min k vs.toArray.size : Nat) : Int)
    rw [Lean.Omega.Int.ofNat_min]
    exact Int.max_eq_right (Int.le_min.mpr ⟨Int.natCast_nonneg _, Int.natCast_nonneg _⟩)
  rw [kmk_pick_nat _ e]
  show ((vs.drop (min x.toNat vs.toArray.size)).take (vs.toArray.size - min x.toNat vs.toArray.size)).toArray = _
  rw [List.size_toArray, kmk_drop_min, List.take_of_length_le (by rw [List.length_drop]; exact Nat.sub_le_sub_left (Nat.min_le_left ..) _)]
theorem pick_upto {vs : List Value} {y : Int} (h : 0 ≤ y) : slicePick vs.toArray none (some y) none = (vs.take y.toNat).toArray := by
  have e : sliceBounds none (some y) none vs.toArray.size = (((0 : Nat) : Int), ((min y.toNat vs.toArray.size : Nat) : Int), 1) := by
    simp only [sliceBounds, Option.getD_none, show (1 : Int) > 0 by decide, if_true, if_neg (Int.not_lt.mpr h)]
    congr 1
    congr 1
    refine hideG fun gG hG => ?_
    obtain ⟨k, rfl⟩ := Int.eq_ofNat_of_zero_le h
    refine hG ?_
    clear hG gG
    show max (0 : Int) (min (k : Int) _) = ((min k vs.toArray.size : Nat) : Int)
    rw [Lean.Omega.Int.ofNat_min]
    exact Int.max_eq_right (Int.le_min.mpr ⟨Int.natCast_nonneg _, Int.natCast_nonneg _⟩)
  rw [kmk_pick_nat _ e]
  show ((vs.drop 0).take (min y.toNat vs.toArray.size - 0)).toArray = _
  rw [List.drop_zero, Nat.sub_zero, List.size_toArray, kmk_take_min]
theorem seq_list_iadd : seqSlot? (.type "list") (dunderI "add") = pure (some (.builtin "list.__iadd__")) := PySem.seqSlot_of F.slot_list_iadd.lookup (by decide +kernel)
theorem noFill_list_iadd : fillsInplaceSlot (.type "list") "add" (Operator.Add == .Add) = pure false := by
  unfold fillsInplaceSlot
  show (typeLookup (.type "list") (dunderI "add") >>= fun fi => pure (fi.isSome && !isSeqSlot fi)) = pure false
  rw [F.slot_list_iadd.lookup]
  show (pure ((some (Value.builtin "list.__iadd__")).isSome && !isSeqSlot (some (.builtin "list.__iadd__"))) : Sem Bool) = pure false
  rw [show isSeqSlot (some (.builtin "list.__iadd__")) = true by decide +kernel]
  rfl
section
variable {prog : Program} {w : World} {A : Around} {E : Value → Shared → Prop} {s : Shared} {h₀ : Heap} {L a b : Addr} {m : Str → Option Value} {news : Led} {n n2 : Nat} {vs ws : List Value} {ns : List Int} {k : Int} {u : Tok}
theorem in_at {Q : Value → Shared → Prop} (N : News h₀ L s.heap news) (hm : (a, listOf vs.toArray n) ∈ news) (hi : Two IsI vs ns) (h : Q (.bool (decide (k ∈ ns))) s) :
    wpAny (model prog w) A (compareOp .In (.int k u) (.ref a)) Q E s :=
  in_list_ints ⟨_, (N _ hm).1, rfl, _, rfl⟩ (ints_two hi) (by rw [show ns.any (· == k) = decide (k ∈ ns) by rw [Bool.eq_iff_iff]; simp]; exact h)
theorem notin_at {Q : Value → Shared → Prop} (N : News h₀ L s.heap news) (hm : (a, listOf vs.toArray n) ∈ news) (hi : Two IsI vs ns) (h : Q (.bool (!decide (k ∈ ns))) s) :
    wpAny (model prog w) A (compareOp .NotIn (.int k u) (.ref a)) Q E s :=
  notin_list_ints ⟨_, (N _ hm).1, rfl, _, rfl⟩ (ints_two hi) (by rw [show ns.any (· == k) = decide (k ∈ ns) by rw [Bool.eq_iff_iff]; simp]; exact h)
theorem ne_nil_at {Q : Value → Shared → Prop} (N : News h₀ L s.heap news) (hm : (a, listOf vs.toArray n) ∈ news) (hb : (b, listOf #[] n2) ∈ news) (hu : A.units < cLine) (h : Q (.bool (decide (vs ≠ []))) s) :
    wpAny (model prog w) A (compareOp .NotEq (.ref a) (.ref b)) Q E s := by
  have hl : s.heap.IsList a vs.toArray := ⟨_, (N _ hm).1, rfl, _, rfl⟩
  have hb' : s.heap.IsList b #[] := ⟨_, (N _ hb).1, rfl, _, rfl⟩
  cases vs with
  | nil =>
    refine SeqAt.RcNeAt.lists (e := fun _ => true) hl hb' rfl hu (fun j h1 => nomatch h1) _ _ _ _ ?_
    simpa using h
  | cons x r =>
    refine SeqAt.RcNeAt.lists_lengths hl hb' (by simp) hu _ _ _ _ ?_
    simpa using h
theorem iaddv_at {Q : Value → Shared → Prop} (F : Fr h₀ L s.heap m) (N : News h₀ L s.heap ((a, listOf vs.toArray n) :: news)) (hoff : ∀ p ∈ news, p.1 ≠ a) (hb : (b, listOf ws.toArray n2) ∈ news) (hz : vs.length + ws.length < 1000)
    (h : ∀ h' n', Fr h₀ L h' m → News h₀ L h' ((a, listOf (vs ++ ws).toArray n') :: news) → Q (.ref a) { s with heap := h' }) : wpAny (model prog w) A (inplaceOp .Add (.ref a) (.ref b)) Q E s := by
  have z := N _ (.head _)
  have zb := N _ (.tail _ hb)
  have hs0 : ¬ (!vs.toArray.isEmpty && Builtin.List.listTooLong (vs.toArray.size + ws.toArray.size)) = true := by
    simp only [Builtin.List.listTooLong, List.size_toArray, sizeLine_eq, Bool.and_eq_true, decide_eq_true_eq]; omega
  unfold inplaceOp
  refine wpAny_holding ?_
  have hT : s.TypeIs (.ref a) "list" := ⟨_, z.1, rfl⟩
  have hTb : s.TypeIs (.ref b) "list" := ⟨_, zb.1, rfl⟩
  refine wpAny_bind (wpAny_typeOf hT (wpAny_bind (wpAny_of_eq noFill_list_iadd ?_)))
  show wpAny _ A (if false = true then _ else _) Q E s
  rw [if_neg Bool.false_ne_true]
  refine wpAny_bind (wpAny_binaryOp1_none (nm := "add") hT hTb noFill_list_add ?_)
  refine wpAny_bind (wpAny_of_eq seq_list_iadd ?_)
  refine wpAny_bind (wpAny_rule ?_)
  refine call_meets PySem.F.slot_list_iadd hT PySem.F.entry_list_iadd (PySem.F.args_list_iadd_2 _ _) (AutoSeq1.list___iadd___list_list_0 a vs.toArray n b ws.toArray n2 hs0 (by rw [List.size_toArray, sizeLine_eq]; omega) (by rw [List.size_toArray, List.size_toArray, sizeLine_eq]; omega)) ⟨z.1, zb.1, ?_⟩
  have e : vs.toArray ++ ws.toArray = (vs ++ ws).toArray := by simp
  obtain ⟨n', hn'⟩ : ∃ n', (s.heap.update a (Obj.mapSeq fun x => x ++ ws.toArray)).get? a = some (listOf (vs ++ ws).toArray n') := by
    have q := get?_update_seq z.1 (fun x => x ++ ws.toArray)
    rw [e] at q
    exact ⟨_, q⟩
  refine h _ n' (F.change (Heap.SameBut.update ..) z.2.1 z.2.2) (fun p hp => ?_)
  rcases List.mem_cons.mp hp with rfl | hp
  · exact ⟨hn', z.2⟩
  · exact ⟨((Heap.SameBut.update s.heap a _).2 _ (hoff p hp)).trans (N p (.tail _ hp)).1, (N p (.tail _ hp)).2⟩
theorem addv_at {Q : Value → Shared → Prop} (F : Fr h₀ L s.heap m) (N : News h₀ L s.heap news) (ha : (a, listOf vs.toArray n) ∈ news) (hb : (b, listOf ws.toArray n2) ∈ news) (hz : vs.length + ws.length < 1000)
    (h : ∀ D h', Fr h₀ L h' m → News h₀ L h' ((D, listOf (vs ++ ws).toArray 0) :: news) → (∀ p ∈ news, p.1 < D) → Q (.ref D) { s with heap := h' }) : wpAny (model prog w) A (binaryOp .Add (.ref a) (.ref b)) Q E s :=
  kmk_add_lit F N ⟨_, (N _ ha).1, rfl, _, rfl⟩ ⟨_, (N _ hb).1, rfl, _, rfl⟩ rfl h (by show vs.length + ws.length ≤ _; rw [sizeLine_eq]; omega)
variable {value slice : Expr} {vl vu : Value}
theorem from_at {Q : Value → Shared → Prop} {x : Int} (F : Fr h₀ L s.heap m) (N : News h₀ L s.heap news) (ha : (a, listOf vs.toArray n) ∈ news) (h0 : 0 ≤ x) (hz : vs.length < 1000)
    (h : ∀ D h', Fr h₀ L h' m → News h₀ L h' ((D, listOf (vs.drop x.toNat).toArray 0) :: news) → (∀ p ∈ news, p.1 < D) → Q (.ref D) { s with heap := h' })
    (hs : subscripted slice false (.ref a) (.ref s.heap.objs.size) = operate [.ref s.heap.objs.size, .ref a] (getItem (.ref a) (.ref s.heap.objs.size))) (ht : ∀ r, letTemporaryGo value (.ref a) r = pure ()) :
    wpAny (model prog w) A (subscriptTail value slice (.ref a) (.ref s.heap.objs.size)) Q E { s with heap := s.heap.push { cls := .type "slice", data := .fields #[.int x u, .none, .none] } } :=
  kmk_slice F N ⟨_, (N _ ha).1, rfl, _, rfl⟩ (IsPart.int x u) IsPart.none (fun D h' F' N' l => h D h' F' (by rw [pick_from h0] at N'; exact N') l) hs ht (by rw [List.size_toArray, sizeLine_eq]; omega)
theorem upto_at {Q : Value → Shared → Prop} {y : Int} (F : Fr h₀ L s.heap m) (N : News h₀ L s.heap news) (ha : (a, listOf vs.toArray n) ∈ news) (h0 : 0 ≤ y) (hz : vs.length < 1000)
    (h : ∀ D h', Fr h₀ L h' m → News h₀ L h' ((D, listOf (vs.take y.toNat).toArray 0) :: news) → (∀ p ∈ news, p.1 < D) → Q (.ref D) { s with heap := h' })
    (hs : subscripted slice false (.ref a) (.ref s.heap.objs.size) = operate [.ref s.heap.objs.size, .ref a] (getItem (.ref a) (.ref s.heap.objs.size))) (ht : ∀ r, letTemporaryGo value (.ref a) r = pure ()) :
    wpAny (model prog w) A (subscriptTail value slice (.ref a) (.ref s.heap.objs.size)) Q E { s with heap := s.heap.push { cls := .type "slice", data := .fields #[.none, .int y u, .none] } } :=
  kmk_slice F N ⟨_, (N _ ha).1, rfl, _, rfl⟩ IsPart.none (IsPart.int y u) (fun D h' F' N' l => h D h' F' (by rw [pick_upto h0] at N'; exact N') l) hs ht (by rw [List.size_toArray, sizeLine_eq]; omega)
end
end Mine
namespace Mine
end Mine
end
section
open PySem PySem.W PySem.Spec PySem.Calls PyProof.Rows PyProof.Rows.LCg
set_option maxRecDepth 100000
set_option maxHeartbeats 4000000
namespace Mine
/-- the table of one element -/
noncomputable def oneTab (led : Bool) (h : Int) : SetTable := { SetTable.fresh 0 0 led with place := #[((SetTable.fresh 0 0 led).probeStart h).j] }
theorem layNew_one (led : Bool) (h : Int) (x : Value) : layNew (SetTable.fresh 0 0 led) #[] h x = (#[(h, x)], oneTab led h, false, false) := by
  with_unfolding_all rfl
noncomputable abbrev ledOf (w : World) : Bool := !w.params.followText "set-order"
noncomputable abbrev freshSet (w : World) : Obj := { cls := .type "set", dict := none, data := .set #[] 0 (.fresh 0 0 (ledOf w)) }
noncomputable abbrev oneSet (w : World) (x : Str) (t : Tok) : Obj := { cls := .type "set", dict := none, data := .set #[(hashStr w x, .str x t)] 1 { oneTab (ledOf w) (hashStr w x) with plain := false } }
section
variable {prog : Program} {w : World} {A : Around} {E : Value → Shared → Prop} {s : Shared} {D : Addr} {x : Str} {t : Tok}
theorem setAdd_one {Q : Bool → Shared → Prop} (ho : s.heap.get? D = some (freshSet w)) (h : ∀ h', Heap.SameBut D s.heap h' → h'.get? D = some (oneSet w x t) → Q true { s with heap := h', toks := s.toks + 1 }) :
    wpAny (model prog w) A (setAdd D (.str x t)) Q E s := by
  unfold setAdd
  refine wpAny_holding ?_
  refine wpAny_bind ((PySem.strKind prog w).pyHash (k := x) (PySem.strKind_is prog w x t) ?_)
  show wpAny _ _ (setAddHashed D (.str x t) (hashStr w x)) _ _ _
  unfold setAddHashed setAddHashedIn
  have hf : (SetTable.fresh 0 0 (ledOf w)).fits (#[] : Array (Int × Value)).size = true := rfl
  refine wpAny_holding (wpAny_bind (wpAny_setState_of (o := freshSet w) (t := .fresh 0 0 (ledOf w)) ho rfl hf ?_))
  dsimp only
  have hb : byScan (.str x t) (#[] : Array (Int × Value)) = true := by with_unfolding_all rfl
  rw [hb]
  simp only [↓reduceIte]
  unfold setAddByScan
  refine wpAny_bind ?_
  refine wpAny_bind (wpAny_rule ?_)
  refine wpAny_bind (wpAny_setScan_of (knd := PySem.strKind prog w) (k := x) (PySem.strKind_is prog w x t) (o := freshSet w) (t := .fresh 0 0 (ledOf w)) ho rfl hf (fun e he => by simp at he) ?_)
  have e0 : List.findIdx? (fun e : Int × Value => (PySem.strKind prog w).is x e.2) (#[] : Array (Int × Value)).toList = none := rfl
  rw [e0]
  dsimp only
  rw [layNew_one]
  dsimp only
  refine wpAny_bind (wpAny_pure ?_)
  have hp : (oneTab (ledOf w) (hashStr w x)).plain = true := rfl
  rw [hp]
  simp only [if_true]
  refine wpAny_bind ?_
  rw [hashByValue_scannable 8 rfl]
  refine wpAny_pure ?_
  simp only [plainKind, Bool.false_eq_true, if_false]
  obtain ⟨ho1, -⟩ := SetOf_store (knd := PySem.strKind prog w) (h := s.heap) (a := D) (o := freshSet w) (ep := 0) (t := .fresh 0 0 (ledOf w)) (es := #[]) (es' := #[(hashStr w x, .str x t)]) (t' := { oneTab (ledOf w) (hashStr w x) with plain := false }) (S' := fun k => decide (k = x)) ho ⟨rfl, rfl, rfl⟩ rfl
    (fun e he => by simp at he; subst he; exact ⟨⟨x, PySem.strKind_is prog w x t, rfl⟩, rfl⟩) (fun k => by
      simp only [decide_eq_true_eq]
      constructor
      · rintro rfl; exact ⟨_, .head _, PySem.strKind_is prog w k t⟩
      · rintro qG1
        refine hideG fun gG hG => ?_
        obtain ⟨e, he, hk⟩ := qG1
        refine hG ?_
        try clear hG gG
        simp at he; subst he
        exact (PySem.strKind prog w).inj _ _ _ hk (PySem.strKind_is prog w x t)) (Nat.le_of_ble_eq_true rfl) (by rfl)
  refine wpAny_bind (wpAny_storeSet_of (o := freshSet w) (ep := 0) (t := .fresh 0 0 (ledOf w)) (es := #[]) ho rfl ?_ (by rw [sizeLine_eq]; exact Nat.le_of_ble_eq_true rfl))
  have ht : (!false && SetTable.tooFull { oneTab (ledOf w) (hashStr w x) with plain := false }) = false := rfl
  rw [ht]
  simp only [Bool.false_eq_true, if_false]
  refine wpAny_pure ?_
  dsimp only
  exact wpAny_pure (h _ (Heap.SameBut.update s.heap D _) ho1)

theorem update_one {R : Result → Shared → Prop} {I : Addr} {fp : List Addr} {St : Nat → Heap → Prop} (W : Walks prog w A.in1 I fp [I] 1 (fun _ v => v = .str x t) St) (hD : D ∉ fp) (hst : St 0 s.heap) (ho : s.heap.get? D = some (freshSet w))
    (hR : ∀ h' tk, h'.get? D = some (oneSet w x t) → (∀ b o, b ≠ D → b ≠ I → s.heap.get? b = some o → h'.get? b = some o) → R (.ok (.ret .none)) { s with heap := h', toks := tk }) :
    codeAny (model prog w) A (.builtin "set.update.loop" ⟨[.ref D, .ref I], []⟩) R s := by
  have hDI : D ≠ I := fun e => hD (e ▸ W.sub I (.head _))
  refine codeAny_builtin F.entry_set_update_loop ?_
  rw [Around.under_plainId F.plain_set_update_loop _]
  show wpAny _ A.in1 (pyNext (.ref I) >>= _) _ _ s
  refine wpAny_bind (W.item 0 s _ _ (Nat.zero_lt_one) hst fun v h₁ tk₁ hP hst₁ hk₁ => ?_)
  subst hP
  show wpAny _ A.in1 (holding [Value.str x t] (setAdd D (.str x t)) >>= _) _ _ _
  refine wpAny_bind (wpAny_holding (setAdd_one (hk₁ _ _ (fun q => hDI (List.mem_singleton.mp q)) ho) fun h₂ hs₂ ho₂ => ?_))
  refine wpAny_pure ⟨plainId_quiet F.plain_set_update_loop _, ?_⟩
  refine codeAny_builtin F.entry_set_update_loop ?_
  rw [Around.under_plainId F.plain_set_update_loop _]
  show wpAny _ A.in1 (pyNext (.ref I) >>= _) _ _ _
  refine wpAny_bind (W.done _ _ _ (W.frame _ _ _ hst₁ fun b hb o e => hs₂.extBut _ _ (fun q => hD (q ▸ hb)) e) fun h₃ tk₃ hk₃ => ?_)
  show wpAny _ A.in1 (ret Value.none) _ _ _
  exact wpAny_pure (hR h₃ tk₃ (hk₃ _ _ (fun q => hDI (List.mem_singleton.mp q)) ho₂) fun b o h1 h2 e => hk₃ _ _ (fun q => h2 (List.mem_singleton.mp q)) (hs₂.extBut _ _ h1 (hk₁ _ _ (fun q => h2 (List.mem_singleton.mp q)) e)))
theorem code_set_new_one (a : Value) {Q₁ : Value → Shared → Prop} (h : Q₁ (.ref s.heap.objs.size) { s with heap := s.heap.push (freshSet w) }) :
    codeAny (model prog w) A (.call (.builtin "set.__new__") ⟨[.type "set", a], []⟩) (wants Q₁ E) s := by
  refine codeAny_of_tree ?_
  show wpAny _ A.in1 (do checkBuiltinCall "set.__new__" ⟨[.type "set", a], []⟩; again (.builtin "set.__new__" ⟨[.type "set", a], []⟩)) _ _ s
  refine wpAny_bind (wpAny_of_eq (PySem.F.newCall_set_1 a) (wpAny_pure ⟨plainId_quiet PySem.F.plain_set_new _, codeAny_builtin PySem.F.entry_set_new ?_⟩))
  rw [Around.under_plainId PySem.F.plain_set_new _]
  unfold Builtin.«set.__new__» Builtin.Frozenset.newClass
  have hsub := sub_set_self
  refine hideG fun gG hG => ?_
  obtain ⟨hp, g, d, tk, os⟩ := s
  refine hG ?_
  try clear hG gG
  dsimp only
  wp_walk
  refine wpAny_askSetting (wpAny_pure ?_)
  dsimp only
  simp only [newObj]
  refine wpAny_bind (wpAny_alloc (wpAny_pure ?_))
  exact wpAny_pure h

set_option maxHeartbeats 8000000 in
theorem call_set_one {l : Addr} {n : Nat} {Q : Value → Shared → Prop} (hh : A.handled = none) (hol : s.heap.get? l = some (listOf #[.str x t] n))
    (h : ∀ (h' : Heap) (tk : Nat), h'.get? s.heap.objs.size = some (oneSet w x t) → (∀ b o, s.heap.get? b = some o → h'.get? b = some o) → Q (.ref s.heap.objs.size) { s with heap := h', toks := tk }) :
    wpAny (model prog w) A (call (.type "set") [.ref l]) Q E s := by
  refine hideG fun gG hG => ?_
  obtain ⟨c, tl, hmro⟩ := PySem.F.called_set.mro
  refine hG ?_
  try clear hG gG
  have hmade := PySem.F.called_set.made
  have hsub := PySem.F.called_set.sub
  refine wpAny_call (codeAny_of_tree ?_)
  show wpAny _ _ (callAny (.type "set") _) _ _ _
  refine wpAny_pure ⟨Code.quiet_builtin _ (by decide +kernel), codeAny_builtin PySem.F.entry_type_call ?_⟩
  rw [Around.under_plain (weight_type_call_type "set" [.ref l] []) rfl]
  have h1 := PySem.F.called_set.notType
  have h2 := PySem.F.called_set.canCreate
  have hct := PySem.F.typeCall_set_1 (.ref l)
  repeat (any_goals (first | assumption | wp_step))
  refine codeAny_mono (code_set_new_one (.ref l) (E := E) (Q₁ := fun obj s₁ => obj = .ref s.heap.objs.size ∧ s₁ = { s with heap := s.heap.push (freshSet w) }) ⟨rfl, rfl⟩) fun r s₁ hr => ?_
  cases r with
  | error e => exact hr
  | ok fl =>
    cases fl with
    | ret obj =>
      obtain ⟨rfl, rfl⟩ := hr
      have hS : (s.heap.push (freshSet w)).get? s.heap.objs.size = some (freshSet w) := Heap.get?_push_size _ rfl
      have hT : Shared.TypeIs { s with heap := s.heap.push (freshSet w) } (.ref s.heap.objs.size) "set" := ⟨_, hS, rfl⟩
      have hli := PySem.F.called_set.init.lookup
      have hbi := PySem.F.called_set.init.bind (.ref s.heap.objs.size)
      repeat (any_goals (first | assumption | wp_step))
      refine codeAny_mono (codeAny_call_builtin (R := wants (fun r s₂ => r = .none ∧ ∃ h' tk, s₂ = { s with heap := h', toks := tk } ∧
          h'.get? s.heap.objs.size = some (oneSet w x t) ∧ (∀ b o, s.heap.get? b = some o → h'.get? b = some o)) E) PySem.F.called_set.init.plain PySem.F.entry_set_init (check_set_init_1 hT ?_)) fun r₂ s₂ hr₂ => ?_
      · have hol' : (s.heap.push (freshSet w)).get? l = some (listOf #[.str x t] n) := Heap.get?_push_of_some _ hol
        have hsls := PySem.F.sub_list_set
        have hslf := PySem.F.sub_list_frozenset
        have hne : (Value.type "list" == Value.type "dict") = false := by decide
        have hl1 : (s.heap.push (freshSet w)).IsList l #[.str x t] := ⟨_, hol', rfl, n, rfl⟩
        unfold Builtin.«set.__init__» noKeywords Builtin.Frozenset.updateFrom
        generalize hPI : pyIter = PI
        wp_walk
        subst hPI
        refine wpAny_pyIter_list hl1 ?_
        refine wpAny_bind (wpAny_runValue ?_)
        have hlS : l < s.heap.objs.size := Heap.lt_size hol
        have hh3 : A.in1.in1.in1.handled = none := by simp [hh]
        have hneI : l ≠ (s.heap.push (freshSet w)).objs.size := by
          rw [Heap.size_push]; exact Nat.ne_of_lt (Nat.lt_succ_of_lt hlS)
        have hSf : s.heap.objs.size ∉ [(s.heap.push (freshSet w)).objs.size, l] := by
          rw [Heap.size_push]; simp only [List.mem_cons, List.not_mem_nil, or_false, not_or]
          exact ⟨Nat.ne_of_lt (Nat.lt_succ_self _), Nat.ne_of_gt hlS⟩
        have W : Walks prog w A.in1.in1.in1 (s.heap.push (freshSet w)).objs.size [(s.heap.push (freshSet w)).objs.size, l] [(s.heap.push (freshSet w)).objs.size] 1 (fun _ v => v = .str x t) (fun i h => h.IsListIter (s.heap.push (freshSet w)).objs.size l i ∧ h.IsList l #[.str x t]) := by
          have W0 := Walks.list (prog := prog) (w := w) (A := A.in1.in1.in1) hh3 (s.heap.push (freshSet w)).objs.size l hneI #[.str x t]
          exact { sub := W0.sub, frame := W0.frame, self := W0.self, done := W0.done, item := fun i s' Q' E' hi st hQ => W0.item i s' Q' E' hi st fun v h' tk hv => by
                    have hi0 : i = 0 := by have : i < 1 := hi; lia
                    subst hi0
                    have hv' : v = .str x t := by simpa using hv.symm
                    exact hQ v h' tk hv' }
        refine update_one W hSf ⟨⟨_, Heap.get?_push_size _ rfl, rfl, rfl⟩, hl1.push _⟩ (Heap.get?_push_of_some _ hS) fun h' tk' ho' hk' => ?_
        show wpAny _ _ _ _ _ _
        refine wpAny_pure ?_
        show wpAny _ _ (ret Value.none) _ _ _
        refine wpAny_pure ⟨rfl, h', tk', rfl, ho', fun b o e => ?_⟩
        have hb := Heap.lt_size e
        refine hk' b o (Nat.ne_of_lt hb) ?_ (Heap.get?_push_of_some _ (Heap.get?_push_of_some _ e))
        rw [Heap.size_push]; exact Nat.ne_of_lt (Nat.lt_succ_of_lt hb)
      · cases r₂ with
        | error e => exact hr₂
        | ok fl₂ =>
          cases fl₂ with
          | ret r =>
            refine hideG fun gG hG => ?_
            obtain ⟨rfl, h', tk, rfl, hS', hk'⟩ := hr₂
            refine hG ?_
            try clear hG gG
            repeat (any_goals (first | assumption | wp_step))
            exact h _ _ hS' hk'
          | _ => exact hr₂.elim
    | _ => exact hr.elim
theorem set_one_at {h₀ : Heap} {L l : Addr} {m : Str → Option Value} {news : Led} {n : Nat} {Q : Value → Shared → Prop} (hh : A.handled = none) (F : Fr h₀ L s.heap m) (N : News h₀ L s.heap news) (hm : (l, listOf #[.str x t] n) ∈ news)
    (h : ∀ D h' tk, Fr h₀ L h' m → News h₀ L h' ((D, oneSet w x t) :: news) → (∀ p ∈ news, p.1 < D) → Q (.ref D) { s with heap := h', toks := tk }) :
    wpAny (model prog w) A (call (.type "set") [.ref l]) Q E s := by
  refine call_set_one hh (N _ hm).1 fun h' tk ho hk => h _ h' tk (F.keeps hk) (fun p hp => ?_) fun p hp => Heap.lt_size (N p hp).1
  rcases List.mem_cons.mp hp with rfl | hp
  · exact ⟨ho, Nat.ne_of_gt F.ns.lt, next_is_new F⟩
  · exact ⟨hk _ _ (N p hp).1, (N p hp).2⟩
end
end Mine
end
section
open PySem PySem.W PySem.Spec PySem.Calls PyProof.Rows PyProof.Rows.LCg
set_option maxRecDepth 100000
set_option maxHeartbeats 4000000
namespace Mine
theorem slot_snext : Slot "set_iterator" "__next__" "set_iterator.__next__" :=
  .of (owner := "set_iterator") (n := "__next__") (by rw [typeLookup_type, builtinLookup_eq_fast]; kernel_rfl) (by decide +kernel) (by decide +kernel) (by decide +kernel)
    (by first | exact .inl (by decide +kernel) | exact .inr (by decide +kernel)) (by rw [isSubtype_type]; kernel_rfl)
theorem entry_snext : entryFor table "set_iterator.__next__" = some Builtin.«set_iterator.__next__» := entryFor_of_tree (by kernel_rfl)
theorem entry_siter : entryFor table "set.__iter__" = some Builtin.«frozenset.__iter__» := by
  exact entryFor_alias (id' := "frozenset.__iter__") (by kernel_rfl) rfl (by decide +kernel) (by kernel_rfl)
theorem args_snext (a : Value) : argsOk "set_iterator.__next__" ⟨[a], []⟩ := by unfold argsOk; kernel_rfl
theorem slot_sself : Slot "set_iterator" "__iter__" "set_iterator.__iter__" :=
  .of (owner := "set_iterator") (n := "__iter__") (by rw [typeLookup_type, builtinLookup_eq_fast]; kernel_rfl) (by decide +kernel) (by decide +kernel) (by decide +kernel)
    (by first | exact .inl (by decide +kernel) | exact .inr (by decide +kernel)) (by rw [isSubtype_type]; kernel_rfl)
theorem entry_sself : entryFor table "set_iterator.__iter__" = some Builtin.«dict_keyiterator.__iter__» := entryFor_alias (id' := "dict_keyiterator.__iter__") (by kernel_rfl) rfl (by decide +kernel) (by kernel_rfl)
theorem args_sself (a : Value) : argsOk "set_iterator.__iter__" ⟨[a], []⟩ := by unfold argsOk; kernel_rfl
noncomputable abbrev sIter (D : Addr) (sl i : Nat) : Obj := { cls := .type "set_iterator", data := .fields #[.int sl 0, .int i 0, .ref D, .int 1 0, .int 1 0] }
section
variable {prog : Program} {w : World} {A : Around} {E : Value → Shared → Prop} {s : Shared} {D : Addr} {x : Str} {t : Tok}
theorem one_fits : SetTable.fits { oneTab (ledOf w) (hashStr w x) with plain := false } (#[(hashStr w x, Value.str x t)] : Array (Int × Value)).size = true := rfl
theorem iter_one {Q : Value → Shared → Prop} (ho : s.heap.get? D = some (oneSet w x t)) (hQ : Q (.ref s.heap.objs.size) { s with heap := s.heap.push (sIter D 0 0) }) :
    wpAny (model prog w) A (pyIter (.ref D)) Q E s := by
  have hT : s.TypeIs (.ref D) "set" := ⟨_, ho, rfl⟩
  refine wpAny_pyIter_slot hT PySem.F.slot_set_iter (wpAny_call_entry PySem.F.slot_set_iter hT entry_siter ?_ (PySem.F.args_set_iter_1 _))
  unfold Builtin.«frozenset.__iter__»
  refine wpAny_bind ?_
  show wpAny _ _ (Builtin.Frozenset.slot0 "__iter__" ⟨[.ref D], []⟩) _ _ _
  refine wpAny_pure ?_
  refine wpAny_bind (wpAny_bind (wpAny_setEntries_of ho rfl one_fits (wpAny_pure ?_)))
  dsimp only
  refine wpAny_bind (m := setDrawn D) ?_
  unfold setDrawn setsByText
  refine wpAny_bind (wpAny_setState_of ho rfl one_fits ?_)
  dsimp only
  refine wpAny_bind (wpAny_bind (wpAny_askSetting (wpAny_pure ?_)))
  refine wpAny_pure ?_
  rw [if_neg (by rw [Bool.and_comm]; exact Bool.false_ne_true)]
  refine wpAny_bind (wpAny_pure ?_)
  refine wpAny_bind (m := setEpoch D) (wpAny_bind (wpAny_setState_of ho rfl one_fits (wpAny_pure ?_)))
  exact wpAny_bind (wpAny_newObj_type (wpAny_pure ⟨_, rfl, "set_iterator", _, ⟨_, Heap.get?_push_size _ rfl, rfl⟩, slot_snext.lookup, hQ⟩))
theorem pick_one {α : Type} (f : Nat → Nat) (e : α) : pickOrder f #[e] = #[e] := by
  unfold pickOrder
  show pickOrder.go f 1 0 [e] #[] = _
  unfold pickOrder.go
  simp [Nat.mod_one, pickOrder.go]
theorem below_zero (j : Nat) : SetTable.below #[j] 0 = 0 := by
  simp [SetTable.below, SetTable.below.go]
theorem below_one (j : Nat) : SetTable.below #[j] (j + 1) = 1 := by
  simp [SetTable.below, SetTable.below.go]
theorem walk_one {Q : Array (Int × Value) → Shared → Prop} (ho : s.heap.get? D = some (oneSet w x t)) (hb : w.params.followText "set-order" = true) (h : Q #[(hashStr w x, .str x t)] s) : wpAny (model prog w) A (setWalk D) Q E s := by
  unfold setWalk setsByText
  refine wpAny_bind (wpAny_setState_of ho rfl one_fits ?_)
  dsimp only
  refine wpAny_bind (wpAny_bind (wpAny_askSetting (wpAny_pure ?_)))
  rw [show ({ program := (model prog w).prog, params := (model prog w).w.params } : Setting).params.followText "set-order" = true from hb]
  simp only [if_true]
  refine wpAny_bind (wpAny_askSetting ?_)
  rw [pick_one]
  exact wpAny_pure h
/-- where the walk stands -/
noncomputable def slotAt (w : World) (x : Str) : Nat := if w.params.followText "set-order" then 0 else ((SetTable.fresh 0 0 (ledOf w)).probeStart (hashStr w x)).j + 1
theorem setNext_one {Q : Option (Value × Nat) → Shared → Prop} (ho : s.heap.get? D = some (oneSet w x t)) (h : Q (some (.str x t, slotAt w x)) s) : wpAny (model prog w) A (setNext D 0 0 1) Q E s := by
  unfold setNext setsByText
  refine wpAny_bind (wpAny_setState_of ho rfl one_fits ?_)
  dsimp only
  refine wpAny_bind (wpAny_bind (wpAny_askSetting (wpAny_pure ?_)))
  cases hb : w.params.followText "set-order" with
  | true =>
    rw [show ({ program := (model prog w).prog, params := (model prog w).w.params } : Setting).params.followText "set-order" = true from hb]
    simp only [if_true, bne_self_eq_false, Bool.false_eq_true, if_false]
    refine wpAny_bind (walk_one ho hb (wpAny_pure ?_))
    rw [slotAt, hb] at h
    exact h
  | false =>
    rw [show ({ program := (model prog w).prog, params := (model prog w).w.params } : Setting).params.followText "set-order" = false from hb]
    simp only [Bool.false_eq_true, if_false]
    rw [if_neg (by exact Bool.false_ne_true)]
    have hl : (oneTab (ledOf w) (hashStr w x)).led = true := by show ledOf w = true; rw [ledOf, hb]; rfl
    refine wpAny_bind (m := _) ?_
    show wpAny _ _ (if (!(oneTab (ledOf w) (hashStr w x)).led && !(#[(hashStr w x, Value.str x t)] : Array (Int × Value)).isEmpty) = true then _ else pure ()) _ _ _
    rw [hl]
    refine wpAny_pure (wpAny_pure ?_)
    rw [slotAt, hb] at h
    rw [show (oneTab (ledOf w) (hashStr w x)).place = #[((SetTable.fresh 0 0 (ledOf w)).probeStart (hashStr w x)).j] from rfl, below_zero]
    exact h
theorem setNext_end {Q : Option (Value × Nat) → Shared → Prop} (ho : s.heap.get? D = some (oneSet w x t)) (h : Q none s) : wpAny (model prog w) A (setNext D (slotAt w x) 1 1) Q E s := by
  unfold setNext setsByText
  refine wpAny_bind (wpAny_setState_of ho rfl one_fits ?_)
  dsimp only
  refine wpAny_bind (wpAny_bind (wpAny_askSetting (wpAny_pure ?_)))
  cases hb : w.params.followText "set-order" with
  | true =>
    rw [show ({ program := (model prog w).prog, params := (model prog w).w.params } : Setting).params.followText "set-order" = true from hb]
    simp only [if_true, bne_self_eq_false, Bool.false_eq_true, if_false]
    refine wpAny_bind (walk_one ho hb (wpAny_pure ?_))
    exact h
  | false =>
    rw [show ({ program := (model prog w).prog, params := (model prog w).w.params } : Setting).params.followText "set-order" = false from hb]
    simp only [Bool.false_eq_true, if_false]
    rw [if_neg (by exact Bool.false_ne_true)]
    have hl : (oneTab (ledOf w) (hashStr w x)).led = true := by show ledOf w = true; rw [ledOf, hb]; rfl
    refine wpAny_bind (m := _) ?_
    show wpAny _ _ (if (!(oneTab (ledOf w) (hashStr w x)).led && !(#[(hashStr w x, Value.str x t)] : Array (Int × Value)).isEmpty) = true then _ else pure ()) _ _ _
    rw [hl]
    refine wpAny_pure (wpAny_pure ?_)
    rw [slotAt, hb]
    rw [show (oneTab (ledOf w) (hashStr w x)).place = #[((SetTable.fresh 0 0 (ledOf w)).probeStart (hashStr w x)).j] from rfl]
    simp only [Bool.false_eq_true, if_false]
    rw [below_one]
    exact h
end
end Mine
end
section
open PySem PySem.W PySem.Spec PySem.Calls PyProof.Rows PyProof.Rows.LCg
set_option maxRecDepth 100000
set_option maxHeartbeats 4000000
namespace Mine
section
variable {prog : Program} {w : World} {A : Around} {E : Value → Shared → Prop} {s : Shared} {D I : Addr} {x : Str} {t : Tok}
theorem snext_item {Q : Option Value → Shared → Prop} (hit : s.heap.get? I = some (sIter D 0 0)) (ho : s.heap.get? D = some (oneSet w x t))
    (hQ : ∀ h', h'.get? I = some (sIter D (slotAt w x) 1) → Heap.SameBut I s.heap h' → Q (some (.str x t)) { s with heap := h' }) : wpAny (model prog w) A (pyNext (.ref I)) Q E s := by
  have hT : s.TypeIs (.ref I) "set_iterator" := ⟨_, hit, rfl⟩
  unfold pyNext
  refine wpAny_bind (wpAny_attempt (wpAny_callSpecial?_slot (name := PySem.Str.ofString "__next__") hT slot_snext
    (wpAny_call_entry slot_snext hT entry_snext ?_ (args_snext _))))
  unfold Builtin.«set_iterator.__next__»
  refine wpAny_bind (m := slotArgs "__next__" 0 _) (wpAny_pure ?_)
  dsimp only
  refine wpAny_bind (wpAny_fieldsOf hit rfl ?_)
  dsimp only
  refine wpAny_bind (wpAny_setEntries_of ho rfl one_fits ?_)
  rw [if_neg (by exact Bool.false_ne_true)]
  show wpAny _ _ (setNext D (0 : Int).toNat (0 : Int).toNat (1 : Int).toNat >>= _) _ _ _
  refine wpAny_bind (setNext_one ho ?_)
  dsimp only
  have h1 : (s.heap.update I (Obj.mapFields (·.setIfInBounds 0 (rawInt (slotAt w x : Nat))))).get? I = some { cls := .type "set_iterator", data := .fields #[.int (slotAt w x : Nat) 0, .int 0 0, .ref D, .int 1 0, .int 1 0] } :=
    Heap.get?_update_self _ hit rfl
  have h2 : ((s.heap.update I (Obj.mapFields (·.setIfInBounds 0 (rawInt (slotAt w x : Nat))))).update I (Obj.mapFields (·.setIfInBounds 1 (rawInt (0 + 1))))).get? I = some (sIter D (slotAt w x) 1) :=
    Heap.get?_update_self _ h1 rfl
  refine wpAny_bind (wpAny_setField hit rfl (by simp) ?_)
  refine wpAny_bind (wpAny_setField h1 rfl (by simp) ?_)
  exact wpAny_pure ⟨_, rfl, wpAny_pure (hQ _ h2 ((Heap.SameBut.update ..).trans (Heap.SameBut.update ..)))⟩
theorem snext_end {Q : Option Value → Shared → Prop} (hh : A.handled = none) (hit : s.heap.get? I = some (sIter D (slotAt w x) 1)) (ho : s.heap.get? D = some (oneSet w x t))
    (hQ : ∀ h', Heap.ExtBut I s.heap h' → Q none { s with heap := h' }) : wpAny (model prog w) A (pyNext (.ref I)) Q E s := by
  have hT : s.TypeIs (.ref I) "set_iterator" := ⟨_, hit, rfl⟩
  unfold pyNext
  refine wpAny_bind (wpAny_attempt (wpAny_callSpecial?_slot (name := PySem.Str.ofString "__next__") hT slot_snext
    (wpAny_call_entry slot_snext hT entry_snext ?_ (args_snext _))))
  unfold Builtin.«set_iterator.__next__»
  refine wpAny_bind (m := slotArgs "__next__" 0 _) (wpAny_pure ?_)
  dsimp only
  refine wpAny_bind (wpAny_fieldsOf hit rfl ?_)
  dsimp only
  refine wpAny_bind (wpAny_setEntries_of ho rfl one_fits ?_)
  rw [if_neg (by exact Bool.false_ne_true)]
  show wpAny _ _ (setNext D ((slotAt w x : Nat) : Int).toNat (1 : Int).toNat (1 : Int).toNat >>= _) _ _ _
  rw [Int.toNat_natCast]
  refine wpAny_bind (setNext_end ho ?_)
  dsimp only
  refine wpAny_bind (wpAny_setField hit rfl (by simp) ?_)
  show wpAny _ _ (newExc (.type "StopIteration") [] >>= _) _ _ _
  refine wpAny_bind ?_
  simp only [newExc, newTuple]
  refine wpAny_bind (wpAny_newObj_type ?_ (by size_fits))
  refine wpAny_bind (m := firstArgMember _ _) (wpAny_of_eq (a := Value.none) (by first | rfl | (simp only [firstArgMember]; rfl)) ?_)
  refine wpAny_newObj_type ?_ (by size_fits)
  simp only [raiseNew]
  refine wpAny_bind (wpAny_handled ?_)
  rw [show A.in1.handled = none from hh]
  refine wpAny_bind (wpAny_pure (wpAny_throw ?_))
  refine wpAny_bind (wpAny_isInstance (T := "StopIteration") (b := true) ⟨_, Heap.get?_push_size _ rfl, rfl⟩ isSubtype_stop ?_)
  exact wpAny_pure (hQ _ (((Heap.SameBut.update ..).extBut.push _).push _))
theorem sself {D : Addr} {sl i : Nat} {Q : Value → Shared → Prop} (hit : s.heap.get? I = some (sIter D sl i)) (h : Q (.ref I) s) : wpAny (model prog w) A (pyIter (.ref I)) Q E s := by
  have hT : s.TypeIs (.ref I) "set_iterator" := ⟨_, hit, rfl⟩
  refine wpAny_pyIter_slot hT slot_sself (wpAny_call_entry slot_sself hT entry_sself ?_ (args_sself _))
  show wpAny _ _ (ret (.ref I)) _ _ s
  exact wpAny_pure ⟨_, rfl, "set_iterator", _, hT, slot_snext.lookup, h⟩
theorem walks_one (hh : A.handled = none) (I D : Addr) (hne : D ≠ I) (x : Str) (t : Tok) :
    Walks prog w A I [I, D] [I] 1 (fun _ v => v = .str x t) (fun i h => h.get? I = some (sIter D (if i = 0 then 0 else slotAt w x) (if i = 0 then 0 else 1)) ∧ h.get? D = some (oneSet w x t)) where
  sub := fun b hb => by simp at hb; simp [hb]
  frame := fun _ _ _ st hk => ⟨hk I (by simp) _ st.1, hk D (by simp) _ st.2⟩
  item := fun i s Q E hi st hQ => by
    obtain rfl : i = 0 := by lia
    exact snext_item st.1 st.2 fun h' hit' hs' => hQ _ h' s.toks rfl ⟨hit', hs'.extBut _ _ hne st.2⟩ fun b o hb e => hs'.extBut b o (fun h => hb (by simp [h])) e
  done := fun s Q E st hQ => snext_end hh st.1 st.2 fun h' he' => hQ h' s.toks fun b o hb e => he' b o (fun h => hb (by simp [h])) e
  self := fun _ _ _ _ st hQ => sself st.1 hQ
theorem one_setObj : (oneSet w x t).SetObjOf (PySem.strKind prog w) (fun k => decide (k = x)) 1 :=
  ⟨⟨rfl, rfl, rfl⟩, _, _, _, rfl, fun e he => by simp at he; subst he; exact ⟨⟨x, PySem.strKind_is prog w x t, rfl⟩, rfl⟩, fun k => by
    simp only [decide_eq_true_eq]
    constructor
    · rintro rfl; exact ⟨_, .head _, PySem.strKind_is prog w k t⟩
    · rintro qG1
      refine hideG fun gG hG => ?_
      obtain ⟨e, he, hk⟩ := qG1
      refine hG ?_
      try clear hG gG
      simp at he; subst he
      exact (PySem.strKind prog w).inj _ _ _ hk (PySem.strKind_is prog w x t), rfl, rfl⟩
theorem in_one {h₀ : Heap} {L : Addr} {news : Led} {y : Str} {u : Tok} {Q : Value → Shared → Prop} (N : News h₀ L s.heap news) (hm : (D, oneSet w x t) ∈ news) (h : Q (.bool (decide (y = x))) { s with toks := s.toks + 1 }) :
    wpAny (model prog w) A (compareOp .In (.str y u) (.ref D)) Q E s :=
  kse_in (knd := PySem.strKind prog w) (k := y) (g := fun o => [(D, o)]) (News.less (nw' := [(D, oneSet w x t)]) N fun p hp => (List.mem_singleton.mp hp) ▸ hm) (.head (fun _ h => nomatch h)) one_setObj (by decide) (PySem.strKind_is prog w y u) rfl h
theorem for_one {Q : Flow → Shared → Prop} {env : Env} {h₀ : Heap} {L : Addr} {target : Expr} {body : List Stmt} {m₀ : Str → Option Value} {news : Led}
    (J : Nat → (Str → Option Value) → Led → Prop) (F : Fr h₀ L s.heap m₀) (N : News h₀ L s.heap news) (hm : (D, oneSet w x t) ∈ news) (hJ : J 0 m₀ news)
    (turn : ∀ m nw h tk own I, (∀ p ∈ own, p.1 = I ∨ p.1 = D) → (∀ p ∈ nw, p.1 ≠ I) → J 0 m nw → Fr h₀ L h m → News h₀ L h (own ++ nw) →
      wpAny (model prog w) A (letOwnedTupleGo target (.ref I) (.str x t)) (fun _ s₁ => wpAny (model prog w) A (assign target env (.str x t)) (fun _ s₂ => wpAny (model prog w) A (execs body env) (FEnd h₀ L s own nw (J 1) Q) E s₂) E s₁) E { s with heap := h, toks := tk })
    (fin : ∀ h tk m nw, J 1 m nw → Fr h₀ L h m → News h₀ L h nw → Q .next { s with heap := h, toks := tk })
    (hh : A.handled = none) (hE : PassesOwn (model prog w) A env E) :
    wpAny (model prog w) A (pyIter (.ref D)) (ForK prog w A E Q env target body) E s := by
  have z := N _ hm
  refine iter_one z.1 ?_
  have up : ∀ b o, s.heap.get? b = some o → (s.heap.push (sIter D 0 0)).get? b = some o := fun b o e => Heap.get?_push_of_some _ e
  have hax : D ≠ s.heap.objs.size := Nat.ne_of_lt (Heap.lt_size z.1)
  refine forLoop_G (s := { s with heap := _ }) J (walks_one hh s.heap.objs.size D hax x t) (fun i h st b hb => ?_) ⟨Heap.get?_push_size _ rfl, up _ _ z.1⟩ (fun b hb => ?_) (F.keeps up) (N.grown up) (fun p hp => Nat.ne_of_lt (Heap.lt_size (N p hp).1)) hJ
    (fun i v m nw h tk own ho hI hi hP hj => by
      obtain rfl : i = 0 := by lia
      subst hP
      exact turn m nw h tk own s.heap.objs.size (fun p hp => by simpa using ho p hp) hI hj) fin hE
  · rcases List.mem_cons.mp hb with rfl | hb
    · exact ⟨_, st.1⟩
    · rw [List.mem_singleton.mp hb]; exact ⟨_, st.2⟩
  · rcases List.mem_cons.mp hb with rfl | hb
    · exact ⟨next_is_new F, Nat.ne_of_gt F.ns.lt⟩
    · rw [List.mem_singleton.mp hb]; exact ⟨z.2.2, z.2.1⟩
end
end Mine
end
section
open PySem PySem.W PySem.Spec PySem.Calls PyProof.V PyProof.Rows PyProof.Rows.LCg
set_option maxRecDepth 100000
set_option maxHeartbeats 4000000
namespace Mine
/-- what a reader of the front x says of a name -/
noncomputable def hit (x lab : Str) : Int := if lab = x ∨ Txt.startswith lab (x ++ Str.ofString ".") = true then 1 else 0
noncomputable def Memo (w : World) (x : Str) (n : Nat) (oI : Obj) : Prop := ∃ (kvs : List (Str × Value)) (D : List (PyData × PyData)), oI.IsDictOf (PySem.strKind PG w) kvs ∧ FlatPairs PyData.str kvs D ∧ D.length ≤ n ∧ ∀ k v, lookup (.str k) D = some v → k = Str.ofString "<string>" ∨ v = .int (hit x k)
theorem memo_set {w : World} {A : Around} {E : Value → Shared → Prop} {s : Shared} {h₀ : Heap} {L Ig : Addr} {m : Str → Option Value} {rest : Led} {x lab : Str} {n : Nat} {oI : Obj} {t u : Tok} {b : Int} {Q : Unit → Shared → Prop} {kvs : List (Str × Value)} {D : List (PyData × PyData)}
    (F : Fr h₀ L s.heap m) (N : News h₀ L s.heap ((Ig, oI) :: rest)) (hoff : ∀ p ∈ rest, p.1 ≠ Ig) (hdo : oI.IsDictOf (PySem.strKind PG w) kvs) (hfp : FlatPairs PyData.str kvs D) (hDl : D.length ≤ n) (hM : ∀ k v, lookup (.str k) D = some v → k = Str.ofString "<string>" ∨ v = .int (hit x k)) (hb : b = hit x lab) (hn : n < 100)
    (h : ∀ h' o', Fr h₀ L h' m → News h₀ L h' ((Ig, o') :: rest) → Memo w x (n + 1) o' → Q () { s with heap := h', toks := s.toks + 1 }) :
    wpAny (model PG w) A (setItem (.ref Ig) (.str lab t) (.int b u)) Q E s := by
  refine setItem_K PyProof.V.same_str (PySem.strKind_is _ _ _ _) (Flat.int _ _) F N (.head hoff) hdo hfp (fun h' o' F' N' hd' hf' => h h' o' F' N' ⟨_, _, hd', hf', Nat.le_trans (putD_length_le _ _ _) (by lia), fun k v hl => ?_⟩) (by rw [sizeLine_eq]; lia)
  rw [lookup_putK keyEnc_str] at hl
  by_cases e : k = lab
  · rw [if_pos e] at hl
    injection hl with hl
    exact .inr (by rw [← hl, hb, e])
  · rw [if_neg e] at hl
    exact hM k v hl
end Mine
end
section
open PySem PySem.W PySem.Calls PyProof.Rows PyProof.Rows.LCg
set_option maxRecDepth 100000
set_option maxHeartbeats 8000000
namespace Mine
/-- each element's key is a list of ints -/
noncomputable def KeyL (news : Led) (kv : Int → Value) (fars : Int → List Int) (ns : List Int) : Prop := ∀ k ∈ ns, LI news (kv k) (fars k)
theorem KeyL.mono {news news' : Led} {kv : Int → Value} {fars : Int → List Int} {ns : List Int} (h : KeyL news kv fars ns) (hs : ∀ p ∈ news, p ∈ news') : KeyL news' kv fars ns := fun k hk => (h k hk).mono hs
theorem KeyL.sub {news : Led} {kv : Int → Value} {fars : Int → List Int} {ns ns' : List Int} (h : KeyL news kv fars ns) (hs : ∀ p ∈ ns', p ∈ ns) : KeyL news kv fars ns' := fun k hk => h k (hs k hk)
theorem eqAt_int {A : Around} {s : Shared} {a b : Int} {t u : Tok} : SeqAt.EqAt A s (.int a t) (.int b u) (decide (a = b)) := fun prog w E Q h => by
  refine wpAny_eqBool_int ?_
  have : (a == b) = decide (a = b) := by rw [Bool.eq_iff_iff]; simp
  rw [this]; exact h
theorem ltAt_int {A : Around} {s : Shared} {a b : Int} {t u : Tok} : LtAt A s (.int a t) (.int b u) (decide (a < b)) := fun prog w E Q h =>
  CmpOf.ints_lt (P := fun i v => ∃ t, v = .int (if i = 0 then a else b) t) (fun i => if i = 0 then a else b) (fun i v h => h) 0 1 _ _ _ _ _ ⟨t, rfl⟩ ⟨u, rfl⟩ (by simpa using h)
theorem lexOK_ints {A : Around} {s : Shared} : ∀ {va vb : List Value} {a b : List Int} {f : Bool}, Two IsI va a → Two IsI vb b → f = decide (va.length < vb.length) → LexOK A s f (va.zip vb) (lexI a b)
 := by
  intro va vb a b f ha
  induction ha generalizing vb b f with
  | nil => intro hb h; subst h; cases hb <;> exact .nil
  | @cons v x va a hx ha ih' =>
   intro hb h
   cases hb with
   | nil => subst h; exact .nil
   | @cons v2 y vb b hy hb =>
    refine hideG fun gG hG => ?_
    obtain ⟨t, rfl⟩ := hx
    obtain ⟨u, rfl⟩ := hy
    refine hG ?_
    try clear hG gG
    have ih := ih' hb (f := f) (by subst h; simp only [List.length_cons, Nat.add_lt_add_iff_right])
    show LexOK A s f ((.int x t, .int y u) :: va.zip vb) (if x = y then lexI a b else decide (x < y))
    by_cases e : x = y
    · rw [if_pos e]
      exact .eq (by have := eqAt_int (A := A) (s := s) (a := x) (b := y) (t := t) (u := u); rwa [decide_eq_true e] at this) ih
    · rw [if_neg e]
      exact .ne (by have := eqAt_int (A := A) (s := s) (a := x) (b := y) (t := t) (u := u); rwa [decide_eq_false e] at this) ltAt_int
section
variable {news : Led} {kv : Int → Value} {fars : Int → List Int} {ns : List Int}
theorem key_eq {A : Around} {s : Shared} {h₀ : Heap} {L : Addr} {x y : Value} {a b : List Int} (N : News h₀ L s.heap news) (hx : LI news x a) (hy : LI news y b) (hu : A.units < cLine) : SeqAt.EqAt A s x y (decide (a = b)) := by
  refine hideG fun gG hG => ?_
  obtain ⟨l, va, k, rfl, hm, hi⟩ := hx
  obtain ⟨l2, vb, k2, rfl, hm2, hi2⟩ := hy
  refine hG ?_
  try clear hG gG
  exact eqB_ints (ints_two hi) (ints_two hi2) (N _ hm).1 (N _ hm2).1 hu
theorem key_lt {A : Around} {s : Shared} {h₀ : Heap} {L : Addr} {x y : Value} {a b : List Int} (N : News h₀ L s.heap news) (hx : LI news x a) (hy : LI news y b) (hu : A.units < cLine) : LtAt A s x y (lexI a b) := fun prog w E Q h => by
  refine hideG fun gG hG => ?_
  obtain ⟨l, va, k, rfl, hm, hi⟩ := hx
  obtain ⟨l2, vb, k2, rfl, hm2, hi2⟩ := hy
  refine hG ?_
  try clear hG gG
  exact lt_list (ints_two hi) (ints_two hi2) (N _ hm).1 (N _ hm2).1 hu h
theorem cmp_keys (hk : KeyL news kv fars ns) : CmpOn kv (fun a b => lexI (fars a) (fars b)) ns news := fun x hx y hy A s h₀ L news' hs N hu =>
  key_lt N ((hk x hx).mono hs) ((hk y hy).mono hs) (by lia)
/-- a tuple in the ledger: place, element, ints after the key -/
noncomputable abbrev TI := Addr × (Int × List Int)
inductive TupIn (news : Led) (kv : Int → Value) (p : TI) : Prop
  | mk0 (vs : List Value) (k : Nat) : ((p.1, tupO (kv p.2.1 :: vs) k) ∈ news) → (Two IsI vs p.2.2) → TupIn news kv p
theorem TupIn.mono {news' : Led} {p : TI} (h : ∀ q ∈ news, q ∈ news') : TupIn news kv p → TupIn news' kv p := fun ⟨vs, k, hm, t⟩ => ⟨vs, k, h _ hm, t⟩
/-- the order of such tuples -/
noncomputable def ltE (fars : Int → List Int) (x y : Int × List Int) : Bool := if fars x.1 = fars y.1 then lexI x.2 y.2 else lexI (fars x.1) (fars y.1)
noncomputable def ltT (fars : Int → List Int) (x y : TI) : Bool := ltE fars x.2 y.2
noncomputable abbrev tref (p : TI) : Value := .ref p.1
theorem cmp_tups {S : List TI} (hk : KeyL news kv fars ns) (hS : ∀ p ∈ S, TupIn news kv p ∧ p.2.1 ∈ ns) : CmpOn tref (ltT fars) S news := fun x hx y hy A s h₀ L news' hs N hu => fun prog w E Q h => by
  refine hideG fun gG hG => ?_
  obtain ⟨⟨va, ka, hma, hia⟩, hxa⟩ := hS x hx
  obtain ⟨⟨vb, kb, hmb, hib⟩, hyb⟩ := hS y hy
  refine hG ?_
  try clear hG gG
  refine lt_tup (N _ (hs _ hma)).1 (N _ (hs _ hmb)).1 (by lia) ?_ h
  have e := key_eq (A := A.in1) N ((hk _ hxa).mono hs) ((hk _ hyb).mono hs) (by show A.units + 1 < cLine; lia)
  show LexOK _ _ _ ((kv x.2.1, kv y.2.1) :: va.zip vb) (if fars x.2.1 = fars y.2.1 then lexI x.2.2 y.2.2 else lexI (fars x.2.1) (fars y.2.1))
  by_cases q : fars x.2.1 = fars y.2.1
  · rw [if_pos q]; rw [decide_eq_true q] at e
    exact .eq e (lexOK_ints hia hib (by simp))
  · rw [if_neg q]; rw [decide_eq_false q] at e
    exact .ne e (key_lt N ((hk _ hxa).mono hs) ((hk _ hyb).mono hs) (by show A.units + 1 < cLine; lia))
/-- a key function: it hands back each element's key -/
noncomputable def KeyFn (w : World) (kf : Value) (kv : Int → Value) (ns : List Int) (news : Led) : Prop := ∀ k ∈ ns, ∀ t news', (∀ p ∈ news, p ∈ news') → Fn w 5 50 kf [.int k t] news' (fun r nw => r = kv k ∧ nw = news')
theorem KeyFn.mono {news' : Led} {w : World} {kf : Value} (h : KeyFn w kf kv ns news) (hs : ∀ p ∈ news, p ∈ news') : KeyFn w kf kv ns news' := fun k hk t nw hn => h k hk t nw fun p hp => hn p (hs p hp)
end
end Mine
end
section
open PySem PySem.W PySem.Calls PyProof.Rows PyProof.Rows.LCg
set_option maxRecDepth 100000
set_option maxHeartbeats 8000000
namespace Mine
section
variable {prog : Program} {w : World} {A : Around} {E : Value → Shared → Prop} {s : Shared} {h₀ : Heap} {L a : Addr} {m : Str → Option Value} {news : Led} {n : Nat} {vs : List Value}
/-- a list's iterator, as an object -/
noncomputable def IsLI (o : Obj) (l : Addr) (i : Nat) : Prop := o.cls = .type "list_iterator" ∧ o.data = .fields #[.ref l, .int i 0]
theorem IsLI.at {o : Obj} {l it : Addr} {i : Nat} {h : Heap} (x : IsLI o l i) (e : h.get? it = some o) : h.IsListIter it l i := ⟨o, e, x.1, x.2⟩
theorem iter_at {Q : Value → Shared → Prop} (F : Fr h₀ L s.heap m) (N : News h₀ L s.heap news) (hm : (a, listOf vs.toArray n) ∈ news)
    (h : ∀ D o h', Fr h₀ L h' m → News h₀ L h' ((D, o) :: news) → (∀ p ∈ news, p.1 < D) → IsLI o a 0 → Q (.ref D) { s with heap := h' }) : wpAny (model prog w) A (call (.builtin "iter") [.ref a]) Q E s := by
  have hl : s.heap.IsList a vs.toArray := ⟨_, (N _ hm).1, rfl, _, rfl⟩
  refine call_function_entry (by decide +kernel) (by decide +kernel) kdk_entry_iter (kdk_args_iter _) ?_
  unfold Builtin.«iter»
  refine wpAny_bind (m := someArgs "iter" 1 2 _) (wpAny_of_eq (a := [Value.ref a]) (by first | rfl | kernel_rfl!) ?_)
  show wpAny _ _ (pyIter (.ref a) >>= _) _ _ _
  refine wpAny_bind (wpAny_pyIter_list hl ?_)
  exact wpAny_pure ⟨_, rfl, h _ _ _ (F.push _) (News.push F N _ rfl) (fun q hq => Heap.lt_size (N q hq).1) ⟨rfl, rfl⟩⟩
noncomputable abbrev zrH1 (h : Heap) (x y c : Int) : Heap := h.push { cls := .type "range_iterator", data := .fields #[rawInt x, rawInt (Builtin.Range.rangeSize x y c), rawInt c] }
noncomputable abbrev zrH2 (h : Heap) (it : Addr) (x y c : Int) : Heap := (zrH1 h x y c).push { cls := .type "tuple", data := .seq #[.ref h.objs.size, .ref it] }
noncomputable abbrev zrH3 (h : Heap) (it : Addr) (x y c : Int) : Heap := (zrH2 h it x y c).push { cls := .type "tuple", data := .seq #[.none, .none] }
noncomputable abbrev zrH4 (h : Heap) (it : Addr) (x y c : Int) : Heap := (zrH3 h it x y c).push { cls := .type "zip", data := .fields #[.none, .bool false, .bool false, .ref (zrH1 h x y c).objs.size, .ref (zrH2 h it x y c).objs.size] }
theorem meets_zip_rl (r it l : Addr) (i : Nat) (x y c : Int) (t u v : Tok) (hsm : Builtin.Range.small x y c = true) :
    Meets (Builtin.«zip.__new__» ⟨[.type "zip", .ref r, .ref it], []⟩) (fun _ R s => IsRange s.heap r x y c t u v ∧ s.heap.IsListIter it l i ∧
      R (.ok (.ret (.ref (zrH3 s.heap it x y c).objs.size))) { s with heap := zrH4 s.heap it x y c }) :=
  .of_wp fun prog w A R s h => by
    refine hideG fun gG hG => ?_
    obtain ⟨hp, g, d, tk, os⟩ := s; obtain ⟨hr, hit, h⟩ := h
    refine hG ?_
    try clear hG gG
    have hsub := sub_zip
    have hR : IsRange (Shared.heap ⟨hp, g, d, tk, os⟩) r x y c t u v := hr
    have hI : Heap.IsListIter (Shared.heap ⟨hp.push { cls := .type "range_iterator", data := .fields #[rawInt x, rawInt (Builtin.Range.rangeSize x y c), rawInt c] }, g, d, tk, os⟩) it l i := hit.at fun o e => Heap.get?_push_of_some _ e
    wp_walk using wpAny_pyIter_range hR hsm, wpAny_pyIter_listiter hI
    exact ⟨_, rfl, h⟩
theorem call_zip_rl {r it l : Addr} {i : Nat} {x y c : Int} {t u v : Tok} {Q : Value → Shared → Prop} (hsm : Builtin.Range.small x y c = true) (hr : IsRange s.heap r x y c t u v) (hit : s.heap.IsListIter it l i)
    (h : ∀ h', IsZip h' (s.heap.objs.size + 3) (s.heap.objs.size + 1) (s.heap.objs.size + 2) .none → IsPair h' (s.heap.objs.size + 1) (.ref s.heap.objs.size) (.ref it) →
      IsPair h' (s.heap.objs.size + 2) .none .none → IsRangeIter h' s.heap.objs.size x (Builtin.Range.rangeSize x y c) c →
      (∀ b o, s.heap.get? b = some o → h'.get? b = some o) → Q (.ref (s.heap.objs.size + 3)) { s with heap := h' }) :
    wpAny (model prog w) A (call (.type "zip") [.ref r, .ref it]) Q E s := by
  refine callType_new F.called_zip (by decide) (F.typeCall_zip_2 _ _) (F.newCall_zip_2 _ _) (fun obj => F.args_object_init_3 obj _ _) F.entry_zip_new
    (meets_zip_rl r it l i x y c t u v hsm) ⟨hr, hit, ?_⟩
  have z1 : (zrH1 s.heap x y c).objs.size = s.heap.objs.size + 1 := Heap.size_push ..
  have z2 : (zrH2 s.heap it x y c).objs.size = s.heap.objs.size + 2 := by rw [Heap.size_push, z1]
  have z3 : (zrH3 s.heap it x y c).objs.size = s.heap.objs.size + 3 := by rw [Heap.size_push, z2]
  have g4 : (zrH4 s.heap it x y c).get? (zrH3 s.heap it x y c).objs.size = some _ := Heap.get?_push_size _ rfl
  have g3 : (zrH4 s.heap it x y c).get? (zrH2 s.heap it x y c).objs.size = some _ := Heap.get?_push_of_some _ (Heap.get?_push_size _ rfl)
  have g2 : (zrH4 s.heap it x y c).get? (zrH1 s.heap x y c).objs.size = some _ := Heap.get?_push_of_some _ (Heap.get?_push_of_some _ (Heap.get?_push_size _ rfl))
  have g1 : (zrH4 s.heap it x y c).get? s.heap.objs.size = some _ := Heap.get?_push_of_some _ (Heap.get?_push_of_some _ (Heap.get?_push_of_some _ (Heap.get?_push_size _ rfl)))
  show _ ∧ _
  rw [z1, z2, z3] at g4
  rw [z1] at g2
  rw [z2] at g3
  rw [z3]
  exact ⟨⟨_, g4, rfl⟩, h _ g4 g2 g3 g1 fun c o x =>
    Heap.get?_push_of_some _ (Heap.get?_push_of_some _ (Heap.get?_push_of_some _ (Heap.get?_push_of_some _ x)))⟩
end
section
variable {prog : Program} {w : World} {A : Around} {E : Value → Shared → Prop} {s : Shared} {h₀ : Heap} {L : Addr} {m : Str → Option Value} {env : Env} {elt : Expr} {ifs : List Expr} {scope : Scope} {cl : List (Str × Addr)} {mD : Addr → Str → Option Value} {Q : Addr → Shared → Prop} {news : Led}
theorem ltk {b g k : Nat} (h : b < g) : b < g + k := by lia
theorem src_zr {p1 p2 : Str × Pos} {ctx : Nat} {tp : Pos} {r it l : Addr} {oI : Obj} {x y c : Int} {t₁ t₂ t₃ : Tok} {n k : Nat} {vs : List Value} {g : Heap} {t : Nat} (J : Nat → List Value → Led → Prop) (F : Fr h₀ L g m) (N : News h₀ L g ((it, oI) :: news)) (hr : IsRange g r x y c t₁ t₂ t₃)
    (hsm : Builtin.Range.small x y c = true) (hn : Builtin.Range.rangeSize x y c = ((n : Nat) : Int)) (hI : IsLI oI l 0) (hm : (l, listOf vs.toArray k) ∈ news) (hoff : ∀ p ∈ news, p.1 ≠ it) (hsz : n ≤ vs.length) (hsz2 : n ≤ sizeLine) (hJ : J 0 [] news)
    (turn : ∀ bad, Turn prog w A h₀ L m elt ifs scope cl env [p1.1, p2.1] s bad n (fun i vals => ∃ t v, vs[i]? = some v ∧ vals = [.int (x + i * c) t, v]) J)
    (fin : ∀ D h tk ys nw oI', Fr h₀ L h (mD D) → News h₀ L h ((it, oI') :: (D, lst ys) :: nw) → IsLI oI' l n → (∀ p ∈ nw, p.1 ≠ D) → (∀ p ∈ news, p.1 < D) → J n ys nw → Q D { s with heap := h, toks := tk })
    (hh : A.handled = none) (hkind : scope.kind = .function) (hx1 : scope.names.lookup p1.1 = some .local) (hx2 : scope.names.lookup p2.1 = some .local) :
    wpAny (model prog w) A (call (.type "zip") [.ref r, .ref it]) (fun xv s₁ => wpAny (model prog w) A (pyIter xv) (SrcOf prog w A h₀ L m elt (.Tuple ([p1, p2].map nmE) ctx tp) ifs scope cl env s mD Q) E s₁) E { s with heap := g, toks := t } := by
  have zI := N _ (.head _)
  have zl := N _ (.tail _ hm)
  have hl : g.IsList l vs.toArray := ⟨_, zl.1, rfl, _, rfl⟩
  refine call_zip_rl hsm hr (hI.at zI.1) fun h' hz hTI hTO h1 hk => ?_
  refine wpAny_pyIter_zip hz ?_
  have hit : it < g.objs.size := Heap.lt_size zI.1
  have hll : l < g.objs.size := Heap.lt_size zl.1
  have hL : L < g.objs.size := F.ns.lt
  have hlit : l ≠ it := hoff _ hm
  have D : ZRApart (g.objs.size + 3) (g.objs.size + 1) (g.objs.size + 2) g.objs.size it l := by
    constructor <;> first | exact hlit | exact Nat.ne_of_lt (ltk hit) | exact Nat.ne_of_gt (ltk hit) | exact Nat.ne_of_lt (ltk hll) | exact Nat.ne_of_gt (ltk hll) | exact Nat.ne_of_lt hit | exact Nat.ne_of_gt hit | exact Nat.ne_of_lt hll | exact Nat.ne_of_lt (by lia) | exact Nat.ne_of_gt (by lia)
  have F' : Fr h₀ L h' m := F.keeps hk
  have N' : News h₀ L h' ((it, oI) :: news) := N.grown hk
  have fresh : ∀ b, g.objs.size ≤ b → h₀.get? b = none := fun b hb => Heap.get?_none_of_le (Nat.le_trans F.above (Nat.le_trans (Nat.le_of_lt hL) hb))
  refine ⟨_, [g.objs.size + 3, g.objs.size + 1, g.objs.size + 2, g.objs.size, it, l], [g.objs.size + 3, g.objs.size + 2, g.objs.size, it], n, _, _, _, news, J, _, h', t, [g.objs.size + 1, l], ?_, rfl, rfl,
    draw_U (ps := [p1, p2]) hh hkind ?_ (fun _ => rfl) (fun _ => rfl) (walks_zr hh D x c n vs.toArray (by simpa using hsz)) ?_ ?_ ?_ (done_zr hh D x c n vs.toArray), hsz2, ?_, ?_, F', fun p hp => N' p (.tail _ hp), ?_, hJ, ?_, ?_⟩
  · intro b hb; simp only [List.mem_cons, List.not_mem_nil, or_false] at hb ⊢; rcases hb with h | h | h | h | h | h <;> simp [h]
  · intro p hp; simp only [List.mem_cons, List.not_mem_nil, or_false] at hp; rcases hp with rfl | rfl
    · exact hx1
    · exact hx2
  · rintro i vals ⟨t, y, _, rfl⟩; rfl
  · rintro i h qG1 b hb
    refine hideG fun gG hG => ?_
    obtain ⟨hz, hTI, ⟨a, b, hTO⟩, h1, ⟨o2, h2, _⟩, ⟨ol, hl, _⟩⟩ := qG1
    refine hG ?_
    try clear hG gG
    simp only [List.mem_cons, List.not_mem_nil, or_false] at hb
    rcases hb with rfl | rfl | rfl | rfl | rfl | rfl
    · exact ⟨_, hz⟩
    · exact ⟨_, hTI⟩
    · exact ⟨_, hTO⟩
    · exact ⟨_, h1⟩
    · exact ⟨_, h2⟩
    · exact ⟨_, hl⟩
  · rintro h h' qG2 hk
    refine hideG fun gG hG => ?_
    obtain ⟨o, ho, hc⟩ := qG2
    refine hG ?_
    try clear hG gG
    exact ⟨o, hk it (by simp) o ho, hc⟩
  · refine ⟨hz, hTI, ⟨_, _, hTO⟩, ?_, ?_, hl.at fun o e => hk _ o e⟩
    · rw [hn] at h1; simpa using h1
    · exact hI.at (N' _ (.head _)).1
  · intro b hb
    simp only [List.mem_cons, List.not_mem_nil, or_false] at hb
    rcases hb with rfl | rfl | rfl | rfl | rfl | rfl
    · exact ⟨fresh _ (by first | exact Nat.le_refl _ | exact Nat.le_add_right _ _), Nat.ne_of_gt (by first | exact hL | exact ltk hL)⟩
    · exact ⟨fresh _ (by first | exact Nat.le_refl _ | exact Nat.le_add_right _ _), Nat.ne_of_gt (by first | exact hL | exact ltk hL)⟩
    · exact ⟨fresh _ (by first | exact Nat.le_refl _ | exact Nat.le_add_right _ _), Nat.ne_of_gt (by first | exact hL | exact ltk hL)⟩
    · exact ⟨fresh _ (by first | exact Nat.le_refl _ | exact Nat.le_add_right _ _), Nat.ne_of_gt (by first | exact hL | exact ltk hL)⟩
    · exact ⟨zI.2.2, zI.2.1⟩
    · exact ⟨zl.2.2, zl.2.1⟩
  · intro p hp q
    have hlt : p.1 < g.objs.size := Heap.lt_size (N p (.tail _ hp)).1
    have := hoff p hp
    simp only [List.mem_cons, List.not_mem_nil, or_false] at q
    rcases q with q | q | q | q
    · exact Nat.ne_of_lt (Nat.lt_of_lt_of_le hlt (Nat.le_add_right _ _)) q
    · exact Nat.ne_of_lt (Nat.lt_of_lt_of_le hlt (Nat.le_add_right _ _)) q
    · exact Nat.ne_of_lt hlt q
    · exact this q
  · have ht := turn [g.objs.size + 1, l]
    have e : (fun (i : Nat) (vals : List Value) => ∃ t v, vs[i]? = some v ∧ vals = [.int (x + i * c) t, v]) = (fun i vals => ∃ t y, vs.toArray[i]? = some y ∧ vals.toArray = #[.int (x + i * c) t, y]) := by
      funext i vals
      apply propext
      constructor
      · rintro ⟨t, v, h1, rfl⟩; exact ⟨t, v, by simpa using h1, rfl⟩
      · rintro ⟨t, v, h1, h2⟩; exact ⟨t, v, by simpa using h1, by simpa using h2⟩
    rw [← e]
    exact ht
  · rintro D h tk ys nw F9 N9 o1 hlt qG3 hj
    refine hideG fun gG hG => ?_
    obtain ⟨oI', e1, e2, e3⟩ := qG3
    refine hG ?_
    try clear hG gG
    refine fin D h tk ys nw oI' F9 (fun p hp => ?_) ⟨e2, e3⟩ o1 hlt hj
    rcases List.mem_cons.mp hp with rfl | hp
    · exact ⟨e1, zI.2⟩
    · exact N9 p hp
end
end Mine
end
section
open PySem PySem.W PySem.Calls PyProof.Rows PyProof.Rows.LCg
set_option maxRecDepth 100000
set_option maxHeartbeats 8000000
namespace Mine
theorem Walks.from {prog : Program} {w : World} {A : Around} {I : Addr} {fp wr : List Addr} {n : Nat} {P : Nat → Value → Prop} {St : Nat → Heap → Prop} (W : Walks prog w A I fp wr n P St) (k : Nat) (hk : k ≤ n) :
    Walks prog w A I fp wr (n - k) (fun i => P (k + i)) (fun i => St (k + i)) where
  sub := W.sub
  frame := fun i => W.frame (k + i)
  item := fun i s Q E hi st hQ => W.item (k + i) s Q E (by omega) st hQ
  done := fun s Q E st hQ => W.done s Q E (by have e : k + (n - k) = n := by omega
                                              rw [e] at st; exact st) hQ
  self := fun i => W.self (k + i)
theorem for_listI {prog : Program} {w : World} {A : Around} {E : Value → Shared → Prop} {Q : Flow → Shared → Prop} {s : Shared} {env : Env} {h₀ : Heap} {L : Addr} {target : Expr} {body : List Stmt} {m₀ : Str → Option Value} {news : Led}
    {its : List Value} {ax It : Addr} {oI : Obj} {k i0 : Nat} (J : Nat → (Str → Option Value) → Led → Prop) (F : Fr h₀ L s.heap m₀) (N : News h₀ L s.heap ((It, oI) :: news)) (hIt : IsLI oI ax i0) (hoI : ∀ p ∈ news, p.1 ≠ It) (hle : i0 ≤ its.length) (hm : (ax, listOf its.toArray k) ∈ news) (hJ : J 0 m₀ news)
    (turn : ∀ i v m nw h tk own I, (∀ p ∈ own, p.1 = I ∨ p.1 = ax) → (∀ p ∈ nw, p.1 ≠ I) → i < (its.drop i0).length → (its.drop i0)[i]? = some v → J i m nw → Fr h₀ L h m → News h₀ L h (own ++ nw) →
      wpAny (model prog w) A (letOwnedTupleGo target (.ref I) v) (fun _ s₁ => wpAny (model prog w) A (assign target env v) (fun _ s₂ => wpAny (model prog w) A (execs body env) (FEnd h₀ L s own nw (J (i + 1)) Q) E s₂) E s₁) E { s with heap := h, toks := tk })
    (fin : ∀ h tk m nw, J (its.drop i0).length m nw → Fr h₀ L h m → News h₀ L h nw → Q .next { s with heap := h, toks := tk })
    (hh : A.handled = none) (hE : PassesOwn (model prog w) A env E) :
    wpAny (model prog w) A (pyIter (.ref It)) (ForK prog w A E Q env target body) E s := by
  have z := N _ (.tail _ hm)
  have zI := N _ (.head _)
  have hl : s.heap.IsList ax its.toArray := ⟨_, z.1, rfl, _, rfl⟩
  refine wpAny_pyIter_listiter (hIt.at zI.1) ?_
  have hax : ax ≠ It := hoI _ hm
  have hd : (its.drop i0).length = its.toArray.size - i0 := by simp
  refine forLoop_G (n := its.toArray.size - i0) J (Walks.from (Walks.list hh It ax hax its.toArray) i0 (by simpa using hle)) (fun i h st b hb => ?_) ⟨hIt.at zI.1, hl⟩ (fun b hb => ?_) F (fun p hp => N p (.tail _ hp)) hoI hJ
    (fun i v m nw h tk own ho hI hi hP => turn i v m nw h tk own It (fun p hp => by simpa using ho p hp) hI (by rw [hd]; exact hi) (by rw [List.getElem?_drop]; simpa using hP)) (fun h tk m nw hj => fin h tk m nw (by rw [hd]; exact hj)) hE
  · rcases List.mem_cons.mp hb with rfl | hb
    · obtain ⟨o, e, _⟩ := st.1; exact ⟨o, e⟩
    · rw [List.mem_singleton.mp hb]; obtain ⟨o, e, _⟩ := st.2; exact ⟨o, e⟩
  · rcases List.mem_cons.mp hb with rfl | hb
    · exact ⟨zI.2.2, zI.2.1⟩
    · rw [List.mem_singleton.mp hb]; exact ⟨z.2.2, z.2.1⟩
theorem for_AI {prog : Program} {w : World} {A : Around} {E : Value → Shared → Prop} {Q : Flow → Shared → Prop} {s : Shared} {env : Env} {h₀ : Heap} {L : Addr} {target : Expr} {body : List Stmt} {m₀ : Str → Option Value} {fr₀ news : Led}
    {its : List Value} {ax It : Addr} {oI : Obj} {k i0 : Nat} (As : List Addr) (J : Nat → (Str → Option Value) → Led → Led → Prop) (F : Fr h₀ L s.heap m₀) (N : News h₀ L s.heap ((It, oI) :: (fr₀ ++ news))) (hIt : IsLI oI ax i0) (hoI : ∀ p ∈ fr₀ ++ news, p.1 ≠ It) (hle : i0 ≤ its.length) (hA : fr₀.map (·.1) = As) (off : ∀ a ∈ As, ∀ p ∈ news, p.1 ≠ a) (hm : (ax, listOf its.toArray k) ∈ news) (hJ : J 0 m₀ fr₀ [])
    (turn : ∀ i v m fr tl rest h tk, i < (its.drop i0).length → (its.drop i0)[i]? = some v → J i m fr tl → fr.map (·.1) = As → Fr h₀ L h m → News h₀ L h (fr ++ rest) → (∀ p ∈ tl ++ news, p ∈ rest) → (∀ a ∈ As, ∀ p ∈ rest, p.1 ≠ a) → ∀ I, ∀ R : Flow → Shared → Prop, (∀ f s', FE h₀ L s As rest (fun m' fr' tl' => J (i + 1) m' fr' (tl' ++ tl)) Q f s' → R f s') →
      wpAny (model prog w) A (letOwnedTupleGo target (.ref I) v) (fun _ s₁ => wpAny (model prog w) A (assign target env v) (fun _ s₂ => wpAny (model prog w) A (execs body env) R E s₂) E s₁) E { s with heap := h, toks := tk })
    (fin : ∀ h tk m fr tl, J (its.drop i0).length m fr tl → fr.map (·.1) = As → Fr h₀ L h m → News h₀ L h (fr ++ (tl ++ news)) → (∀ a ∈ As, ∀ p ∈ tl ++ news, p.1 ≠ a) → Above news tl → (∀ a ∈ As, ∀ p ∈ tl, a < p.1) → Q .next { s with heap := h, toks := tk })
    (hh : A.handled = none) (hE : PassesOwn (model prog w) A env E) :
    wpAny (model prog w) A (pyIter (.ref It)) (ForK prog w A E Q env target body) E s := by
  refine for_listI (its := its) (k := k) (i0 := i0) (fun i m => AInv As news (J i m)) F N hIt hoI hle (List.mem_append_right _ hm) ⟨fr₀, [], rfl, hA, Above.nil, fun _ _ _ h => (nomatch h), hJ⟩ (turn_A (its := its.drop i0) off hm turn) ?_ hh hE
  rintro h tk m nw ⟨fr, tl, rfl, hfr, ab, ab2, hj⟩ F' N'
  exact fin h tk m fr tl hj hfr F' N' (off_A off ab2) ab ab2
end Mine
end
section
open PySem PySem.W PySem.Calls PyProof.Rows PyProof.Rows.LCg
set_option maxRecDepth 100000
set_option maxHeartbeats 8000000
namespace Mine
section
variable {prog : Program} {w : World} {A : Around} {E : Value → Shared → Prop} {s : Shared} {h₀ : Heap} {L a : Addr} {m : Str → Option Value} {news : Led} {n : Nat} {vs : List Value} {u : Tok} {x : Value}
theorem itt_at {value slice : Expr} {Q : Value → Shared → Prop} {k : Int} (j : Nat) (hk : k = (j : Int)) (N : News h₀ L s.heap news) (hm : (a, tupO vs n) ∈ news) (hl : vs.length < 100) (hx : vs[j]? = some x)
    (h : Q x s)
    (hs : subscripted slice false (.ref a) (.int k u) = operate [.ref a, .int k u] (getItem (.ref a) (.int k u))) (hg : ∀ r, letTemporaryGo value (.ref a) r = pure ()) :
    wpAny (model prog w) A (subscriptTail value slice (.ref a) (.int k u)) Q E s := by
  subst hk
  have hj : j < vs.length := (List.getElem?_eq_some_iff.mp hx).1
  refine kim_tup (j := j) N hm rfl rfl (by omega) (by omega) ?_ hx h hs hg
  unfold seqIndex?
  simp only [show ¬ ((j : Int) < 0) by omega, if_false]
  rw [if_pos (by simp; omega)]
  simp
end
inductive TupR (kv : Int → Value) (nw : Led) (v : Value) (b : Int × List Int) : Prop
  | mk0 (T : Addr) : (v = .ref T) → (TupIn nw kv (T, b)) → TupR kv nw v b
theorem TupR.mono {kv : Int → Value} {nw nw' : Led} {v : Value} {b : Int × List Int} (h : ∀ p ∈ nw, p ∈ nw') : TupR kv nw v b → TupR kv nw' v b := fun ⟨T, e, t⟩ => ⟨T, e, t.mono h⟩
theorem allLt_get {d : Addr} : ∀ {l : List (Addr × Obj)}, AllLt d l → ∀ p ∈ l, p.1 < d
  | [], _, _, hp => nomatch hp
  | _ :: _, h, p, hp => (List.mem_cons.mp hp).elim (fun e => e ▸ h.1) fun q => allLt_get h.2 p q
/-- values that are the tuples of a list of items -/
theorem tups_of {kv : Int → Value} {nw : Led} : ∀ {ys : List Value} {xs : List (Int × List Int)}, Two (TupR kv nw) ys xs → ∃ its : List TI, ys = its.map tref ∧ its.map Prod.snd = xs ∧ ∀ p ∈ its, TupIn nw kv p
 := by
  intro ys xs h
  induction h with
  | nil => exact ⟨[], rfl, rfl, fun _ h => by cases h⟩
  | @cons _ x _ _ hx r ih =>
    refine hideG fun gG hG => ?_
    obtain ⟨T, e, t⟩ := hx
    obtain ⟨its, rfl, rfl, h⟩ := ih
    refine hG ?_
    try clear hG gG
    refine ⟨(T, x) :: its, by rw [e]; rfl, rfl, fun p hp => ?_⟩
    rcases List.mem_cons.mp hp with rfl | hp
    · exact t
    · exact h p hp
noncomputable def it0 (ns : List Int) (i : Nat) : Int × List Int := (ns.getD i 0, [(i : Int), ns.getD i 0])
/-- an item put in place of the heap's top, when it is nearer -/
noncomputable def nsStep (fars : Int → List Int) (st : List (Int × List Int) × Int) (e : Int) : List (Int × List Int) × Int :=
  if lexI (fars e) (fars (st.1.getD 0 default).1) then (siftupL (fun a b => ltE fars b a) (st.1.set 0 (e, [st.2, e])) 0, st.2 + 1) else st
noncomputable def nsInit (fars : Int → List Int) (ns : List Int) (n : Nat) : List (Int × List Int) × Int := (siftupL (fun a b => ltE fars b a) ((List.range n).map (it0 ns)) 0, (n : Int))
end Mine
end
section
open PySem PySem.W PySem.Calls PyProof.Rows PyProof.Rows.LCg
set_option maxRecDepth 100000
set_option maxHeartbeats 8000000
namespace Mine
/-- what a sort yields -/
noncomputable def sortIdx (lt : Nat → Nat → Bool) (n : Nat) : List Nat := (kasRun lt (kas_sort n)).toList
section
variable {α : Type} [Inhabited α]
noncomputable def sortBy (lt : α → α → Bool) (l : List α) : List α := (sortIdx (fun i j => lt (l.getD i default) (l.getD j default)) l.length).map fun i => l.getD i default
noncomputable def sortBR (b : Bool) (lt : α → α → Bool) (l : List α) : List α := katRev b (sortBy lt (katRev b l))
end
theorem sort_perm_run (lt : Nat → Nat → Bool) (n : Nat) : (kasRun lt (kas_sort n)).Perm (List.range n).toArray := Ends.run (P := fun p : Array Nat => p.Perm (List.range n).toArray) lt (sort_perm n)
theorem sortIdx_lt {lt : Nat → Nat → Bool} {n : Nat} : ∀ i ∈ sortIdx lt n, i < n := fun i hi => by
  have := sort_perm_run lt n
  have h2 := (Array.perm_iff_toList_perm.mp this).mem_iff.mp hi
  simpa using h2
theorem sortBy_len {α : Type} [Inhabited α] {lt : α → α → Bool} {l : List α} : (sortBy lt l).length = l.length := by
  unfold sortBy sortIdx
  have := (Array.perm_iff_toList_perm.mp (sort_perm_run (fun i j => lt (l.getD i default) (l.getD j default)) l.length)).length_eq
  simpa using this
section
variable {prog : Program} {w : World} {A : Around} {E : Value → Shared → Prop} {s : Shared} {h₀ : Heap} {L a : Addr} {m : Str → Option Value} {news : Led} {n : Nat} {κ : SortKind}
/-- a sort's questions, when the comparisons answer by lt and leave the state -/
theorem sort_ask {α : Type} [Inhabited α] {val : α → Value} {lt : α → α → Bool} {its : List α} {G : Array Nat → Shared → Prop} (h1 : 0 < its.length)
    (hc : ∀ x ∈ its, ∀ y ∈ its, ∀ C : Bool → Shared → Prop, C (lt x y) s → wpAny (model prog w) A (keyLt' κ (val x) (val y)) C (fun _ _ => False) s)
    (h : G (kasRun (fun i j => lt (its.getD i default) (its.getD j default)) (kas_sort its.length)) s) : (kas_sort its.length).kasWp (kas_ask prog w A κ (its.map val)) G s := by
  refine kas_run (lt := fun i j => lt (its.getD i default) (its.getD j default)) (fun i j hi hj C hC => ?_) (asks_sort h1) h
  unfold kas_ask
  have e : ∀ k, k < its.length → (its.map val).getD k Value.none = val (its.getD k default) := fun k hk => by
    rw [List.getD_eq_getElem?_getD, List.getElem?_map, List.getD_eq_getElem?_getD, List.getElem?_eq_getElem hk]; rfl
  rw [e i hi, e j hj]
  exact hc _ (getD_mem' hi) _ (getD_mem' hj) C hC
theorem sort_outs {α : Type} [Inhabited α] {val : α → Value} {lt : α → α → Bool} {its : List α} :
    ((kasRun (fun i j => lt (its.getD i default) (its.getD j default)) (kas_sort its.length)).toList.map fun i => (its.map val).getD i Value.none) = (sortBy lt its).map val := by
  unfold sortBy
  rw [List.map_map]
  refine List.map_congr_left fun i hi => ?_
  have hi' := sortIdx_lt i hi
  show (its.map val).getD i Value.none = val (its.getD i default)
  rw [List.getD_eq_getElem?_getD, List.getElem?_map, List.getD_eq_getElem?_getD, List.getElem?_eq_getElem hi']; rfl
noncomputable def lsTree (a : Addr) (b : Bool) : Sem PySem.Fin := Builtin.«list.sort» ⟨[.ref a], [(Str.ofString "reverse", .bool b)]⟩
theorem lsTree_plain (a : Addr) : Builtin.«list.sort» ⟨[.ref a], []⟩ = lsTree a false := rfl
theorem katRev_map {α β : Type} (b : Bool) (f : α → β) (l : List α) : katRev b (l.map f) = (katRev b l).map f := by
  unfold katRev; split
  · rw [List.map_reverse]
  · rfl
theorem katRev_mem {α : Type} (b : Bool) {l : List α} {x : α} : x ∈ katRev b l ↔ x ∈ l := by
  unfold katRev; split
  · exact List.mem_reverse
  · rfl
theorem lsort_tree {α : Type} [Inhabited α] {val : α → Value} {lt : α → α → Bool} {its : List α} {b : Bool} {P : PySem.Fin → Shared → Prop} (F : Fr h₀ L s.heap m) (N : News h₀ L s.heap ((a, listOf (its.map val).toArray n) :: news)) (hoff : ∀ p ∈ news, p.1 ≠ a)
    (h2 : 2 ≤ its.length) (h64 : its.length < 64)
    (hκ : ∀ h', News h₀ L h' news → ∀ C : SortKind → Shared → Prop, C κ { s with heap := h' } → wpAny (model prog w) A (keyKind' (its.map val).toArray) C (fun _ _ => False) { s with heap := h' })
    (hc : ∀ h', News h₀ L h' news → ∀ x ∈ its, ∀ y ∈ its, ∀ C : Bool → Shared → Prop, C (lt x y) { s with heap := h' } → wpAny (model prog w) A (keyLt' κ (val x) (val y)) C (fun _ _ => False) { s with heap := h' })
    (h : ∀ h' n', Fr h₀ L h' m → News h₀ L h' ((a, listOf ((sortBR b lt its).map val).toArray n') :: news) → P (.done (.ret .none)) { s with heap := h' }) :
    wpAny (model prog w) A (lsTree a b) P E s := by
  generalize hvs : its.map val = vs at *
  have hvl : vs.length = its.length := by rw [← hvs, List.length_map]
  have z := N _ (.head _)
  have ho : s.heap.get? a = some (seqObj "list" vs.toArray n) := z.1
  have haL := z.2.1
  have ha0 := z.2.2
  have ha : a < s.heap.objs.size := Heap.lt_size ho
  have s1 := Heap.SameBut.update s.heap a (Obj.mapSeq fun _ => (#[] : Array Value))
  refine hideG fun gG hG => ?_
  obtain ⟨e1, ho1⟩ : ∃ e1, (s.heap.update a (Obj.mapSeq fun _ => (#[] : Array Value))).get? a = some (seqObj "list" #[] e1) := ⟨_, get?_update_seq ho fun _ => #[]⟩
  refine hG ?_
  try clear hG gG
  have Nn : News h₀ L s.heap news := fun p hp => N p (.tail _ hp)
  generalize hg : ((s.heap.update a (Obj.mapSeq fun _ => (#[] : Array Value))).push (seqObj "tuple" vs.toArray 0)).push (seqObj "list" #[] 0) = g
  have F3 : Fr h₀ L g m := hg ▸ ((kas_fr F s1 haL ha0).push _).push _
  have N2 : News h₀ L g news := hg ▸ (kas_news Nn s1 hoff).grown fun b x e => Heap.get?_push_of_some _ (Heap.get?_push_of_some _ e)
  have oa : g.get? a = some (seqObj "list" #[] e1) := hg ▸ Heap.get?_push_of_some _ (Heap.get?_push_of_some _ ho1)
  unfold lsTree
  rw [list_sort_rev]
  refine wpAny_bind (listItems_at ho rfl ?_)
  refine wpAny_bind (listUpdate_at ho rfl ?_ (by rw [List.size_toArray, sizeLine_eq]; lia) (Nat.zero_le _))
  refine wpAny_bind (seqEpoch_at ho1 rfl ?_)
  refine wpAny_bind (wpAny_newTuple ?_ (by show vs.length ≤ _; rw [sizeLine_eq]; lia))
  refine wpAny_bind (wpAny_newList ?_ (Nat.zero_le _))
  refine wpAny_holding ?_
  show wpAny (model prog w) A _ P E { s with heap := ((s.heap.update a (Obj.mapSeq fun _ => (#[] : Array Value))).push (seqObj "tuple" vs.toArray 0)).push (seqObj "list" #[] 0) }
  rw [hg]
  dsimp only
  have step : ∀ t : Sem PySem.Fin, wpAny (model prog w) A t P E { s with heap := g } → wpAny (model prog w) A (if b = true then (do let _ ← rule "list.sort.reverse"; t) else t) P E { s with heap := g } := by
    intro t ht
    split
    · exact wpAny_bind (wpAny_rule ht)
    · exact ht
  refine step _ ?_
  have hn2 : ¬ vs.toArray.size < 2 := by rw [List.size_toArray]; lia
  rw [if_neg hn2, if_neg hn2]
  refine wpAny_bind (wpAny_mono (hκ g N2 (fun k s' => k = κ ∧ s' = { s with heap := g }) ⟨rfl, rfl⟩) (fun κ' s' hk => ?_) fun _ _ x => x.elim)
  obtain ⟨rfl, rfl⟩ := hk
  rw [kat_pairs b rfl]
  have hlr : (katRev b vs).length = (katRev b vs).length := rfl
  have hkr : (katRev b its).map val = katRev b vs := by rw [← hvs, katRev_map]
  have hkl : (katRev b its).length = its.length := kat_len b its
  refine wpAny_bind (wpAny_mono (kat_run (κ := κ') (ks := katRev b vs) (vs := katRev b vs) (Q := fun st' s' => arrOf st' = ((kasRun (fun i j => lt ((katRev b its).getD i default) ((katRev b its).getD j default)) (kas_sort (katRev b its).length))).map (kas_item ((List.toArray (katRev b vs)).zip (List.toArray (katRev b vs)))) ∧ failedOf st' = none ∧ s' = { s with heap := g })
    (G := fun p s' => p = (kasRun (fun i j => lt ((katRev b its).getD i default) ((katRev b its).getD j default)) (kas_sort (katRev b its).length)) ∧ s' = { s with heap := g }) rfl (by rw [kat_len]; lia) (by rw [kat_len]; lia) (fun p st' s' _ e1 e2 hG => ⟨by rw [e1, hG.1], e2, hG.2⟩) ?_) ?_ fun _ _ x => x)
  · rw [← hkr, List.length_map]
    refine sort_ask (by lia) (fun x hx y hy C hC => hc g N2 x ((katRev_mem b).mp hx) y ((katRev_mem b).mp hy) C hC) ⟨rfl, rfl⟩
  · rintro qG1 s' qG2
    refine hideG fun gG hG => ?_
    obtain ⟨⟨⟩, st'⟩ := qG1
    obtain ⟨har, hf, rfl⟩ := qG2
    refine hG ?_
    try clear hG gG
    dsimp only
    have hout := kat_snds rfl har
    have hlen : (sortBy lt (katRev b its)).length = its.length := by rw [sortBy_len, hkl]
    rw [← hkr, sort_outs] at hout
    rw [hout, kat_outs, katRev_map]
    show wpAny _ A _ P E _
    have s2 := Heap.SameBut.update g a (Obj.mapSeq fun _ => List.toArray ((sortBR b lt its).map val))
    refine hideG fun gG hG => ?_
    obtain ⟨c2, hc2⟩ : ∃ c2, (g.update a (Obj.mapSeq fun _ => List.toArray ((sortBR b lt its).map val))).get? a = some (seqObj "list" (List.toArray ((sortBR b lt its).map val)) c2) := ⟨_, get?_update_seq oa fun _ => List.toArray ((sortBR b lt its).map val)⟩
    refine hG ?_
    try clear hG gG
    refine wpAny_bind (seqEpoch_at oa rfl ?_)
    refine wpAny_bind (listUpdate_at oa rfl ?_ (Nat.zero_le _) (by rw [List.size_toArray, List.length_map, kat_len, hlen, sizeLine_eq]; lia))
    rw [hf]
    simp only [bne_self_eq_false, Bool.false_eq_true, if_false]
    refine wpAny_pure (h _ c2 (kas_fr F3 s2 haL ha0) fun p hp => ?_)
    rcases List.mem_cons.mp hp with rfl | hp
    · exact ⟨hc2, haL, ha0⟩
    · exact kas_news N2 s2 hoff p hp
theorem lsort_at {α : Type} [Inhabited α] {val : α → Value} {lt : α → α → Bool} {its : List α} {Q : Value → Shared → Prop} (F : Fr h₀ L s.heap m) (N : News h₀ L s.heap ((a, listOf (its.map val).toArray n) :: news)) (hoff : ∀ p ∈ news, p.1 ≠ a)
    (h2 : 2 ≤ its.length) (h64 : its.length < 64)
    (hκ : ∀ h', News h₀ L h' news → ∀ C : SortKind → Shared → Prop, C κ { s with heap := h' } → wpAny (model prog w) A.in1 (keyKind' (its.map val).toArray) C (fun _ _ => False) { s with heap := h' })
    (hc : ∀ h', News h₀ L h' news → ∀ x ∈ its, ∀ y ∈ its, ∀ C : Bool → Shared → Prop, C (lt x y) { s with heap := h' } → wpAny (model prog w) A.in1 (keyLt' κ (val x) (val y)) C (fun _ _ => False) { s with heap := h' })
    (h : ∀ h' n', Fr h₀ L h' m → News h₀ L h' ((a, listOf ((sortBR false lt its).map val).toArray n') :: news) → Q .none { s with heap := h' }) :
    wpAny (model prog w) A (call (.builtin "list.sort") [.ref a]) Q E s :=
  wpAny_call_entry slot_list_sort ⟨_, (N _ (.head _)).1, rfl⟩ entry_list_sort (by rw [lsTree_plain]; exact lsort_tree F N hoff h2 h64 hκ hc fun h' n' F' N' => ⟨_, rfl, h h' n' F' N'⟩) (args_list_sort _)
theorem lsortR_at {α : Type} [Inhabited α] {val : α → Value} {lt : α → α → Bool} {its : List α} {Q : Value → Shared → Prop} (F : Fr h₀ L s.heap m) (N : News h₀ L s.heap ((a, listOf (its.map val).toArray n) :: news)) (hoff : ∀ p ∈ news, p.1 ≠ a)
    (h2 : 2 ≤ its.length) (h64 : its.length < 64)
    (hκ : ∀ h', News h₀ L h' news → ∀ C : SortKind → Shared → Prop, C κ { s with heap := h' } → wpAny (model prog w) A.in1 (keyKind' (its.map val).toArray) C (fun _ _ => False) { s with heap := h' })
    (hc : ∀ h', News h₀ L h' news → ∀ x ∈ its, ∀ y ∈ its, ∀ C : Bool → Shared → Prop, C (lt x y) { s with heap := h' } → wpAny (model prog w) A.in1 (keyLt' κ (val x) (val y)) C (fun _ _ => False) { s with heap := h' })
    (h : ∀ h' n', Fr h₀ L h' m → News h₀ L h' ((a, listOf ((sortBR true lt its).map val).toArray n') :: news) → Q .none { s with heap := h' }) :
    wpAny (model prog w) A (call (.builtin "list.sort") [.ref a] [(Str.ofString "reverse", .bool true)]) Q E s :=
  wpAny_call_entry_kw slot_list_sort ⟨_, (N _ (.head _)).1, rfl⟩ entry_list_sort (lsort_tree F N hoff h2 h64 hκ hc fun h' n' F' N' => ⟨_, rfl, h h' n' F' N'⟩) (args_list_sort_rev _ _)
end
end Mine
end
section
open PySem PySem.W PySem.Calls PyProof.Rows PyProof.Rows.LCg
namespace Mine
section
variable {α : Type} [Inhabited α] {lt : α → α → Bool}
theorem sortBy_perm (l : List α) : (sortBy lt l).Perm l := by
  have := Array.perm_iff_toList_perm.mp (sort_perm_run (fun i j => lt (l.getD i default) (l.getD j default)) l.length)
  have h2 := this.map fun i => l.getD i default
  refine (show (sortBy lt l).Perm _ from h2).trans ?_
  rw [show ((List.range l.length).map fun i => l.getD i default) = l from ?_]
  refine List.ext_getElem (by simp) fun i h1 h2 => ?_
  simp [List.getD_eq_getElem?_getD, h2]
theorem sortBy_sorted (S : SWO lt) {l : List α} (hd : ∀ i j, i < l.length → j < l.length → i ≠ j → lt (l.getD i default) (l.getD j default) = false → lt (l.getD j default) (l.getD i default) = true) :
    (sortBy lt l).Pairwise (fun a b => lt b a = false) := by
  cases l with
  | nil => rw [show sortBy lt ([] : List α) = [] from List.eq_nil_of_length_eq_zero (by rw [sortBy_len]; rfl)]; exact .nil
  | cons x r =>
    have S' : SWO (fun i j => lt ((x :: r).getD i default) ((x :: r).getD j default)) := ⟨fun _ _ => S.has _ _, fun _ _ _ => S.tr _ _ _, fun _ _ _ => S.hle _ _ _⟩
    have h := run_sort S' (N := (x :: r).length) (by simp) hd
    unfold sortBy sortIdx
    rw [List.pairwise_map, List.pairwise_iff_getElem]
    intro i j hi hj hij
    have hz : (kasRun (fun i j => lt ((x :: r).getD i default) ((x :: r).getD j default)) (kas_sort (x :: r).length)).toList.length = (x :: r).length := by
      have := (Array.perm_iff_toList_perm.mp (sort_perm_run (fun i j => lt ((x :: r).getD i default) ((x :: r).getD j default)) (x :: r).length)).length_eq
      simpa using this
    have h' := h i j hij (by lia)
    clear h
    generalize kasRun (fun i j => lt ((x :: r).getD i default) ((x :: r).getD j default)) (kas_sort (x :: r).length) = arr at *
    have hi' : i < arr.size := by simpa using hi
    have hj' : j < arr.size := by simpa using hj
    rw [Array.getD_eq_getD_getElem?, Array.getD_eq_getD_getElem?, Array.getElem?_eq_getElem hi', Array.getElem?_eq_getElem hj'] at h'
    simpa using h'
end
end Mine
end
section
open PySem PySem.W PySem.Calls PyProof.Rows PyProof.Rows.LCg
set_option maxRecDepth 100000
set_option maxHeartbeats 8000000
namespace Mine
theorem lt_listG {l b : Addr} {va vb : List Value} {na nb : List Int} {n n2 : Nat} (ha : IntsAre va na) (hb : IntsAre vb nb) :
    Meets (Builtin.«list.__lt__» ⟨[.ref l, .ref b], []⟩) (fun _ R s => s.heap.get? l = some (listOf va.toArray n) ∧ s.heap.get? b = some (listOf vb.toArray n2) ∧ R (.ok (.ret (.bool (lexI na nb)))) s) := by
  intro prog w A R s h
  refine hideG fun gG hG => ?_
  obtain ⟨hp, g, d, tk, os⟩ := s; obtain ⟨hl, hb', h⟩ := h
  refine hG ?_
  try clear hG gG
  have f3 := AutoSeq1.sub_list_list
  wp_walk using wpAny_loadPart' hl, wpAny_loadPart' hb'
  exact ⟨plainId_quiet MeetsSeq3.plain_eq_loop _, codeAny_builtin MeetsSeq3.entry_eq_loop (by
    rw [Around.under_plainId MeetsSeq3.plain_eq_loop _]
    exact lt_loop l b va vb na nb n n2 ha hb _ 0 rfl prog w A R _ ⟨hl, hb', ⟨by lia, by lia⟩, by simpa using h⟩)⟩
section
variable {prog : Program} {w : World} {A : Around} {E : Value → Shared → Prop} {s : Shared} {h₀ : Heap} {L : Addr} {news : Led} {kv : Int → Value} {fars : Int → List Int} {ns : List Int}
theorem oneLt_keys {x y : Value} {a b : List Int} {Q : Bool → Shared → Prop} (N : News h₀ L s.heap news) (hx : LI news x a) (hy : LI news y b) (hu : A.units < cLine) (h : Q (lexI a b) s) : wpAny (model prog w) A (oneLt' true x y) Q E s := by
  refine hideG fun gG hG => ?_
  obtain ⟨l, va, k, rfl, hm, hi⟩ := hx
  obtain ⟨l2, vb, k2, rfl, hm2, hi2⟩ := hy
  refine hG ?_
  try clear hG gG
  rw [oneLt'_eq]
  simp only [if_true]
  refine wpAny_bind (wpAny_cRoomFor hu ?_)
  refine wpAny_bind (wpAny_callSpecialIfBound?_slot ⟨_, (N _ hm).1, rfl⟩ F.slot_list_lt ?_)
  refine call_meets F.slot_list_lt ⟨_, (N _ hm).1, rfl⟩ F.entry_list_lt (F.args_list_lt_2 _ _) (lt_listG (ints_two hi) (ints_two hi2)) ⟨(N _ hm).1, (N _ hm2).1, ?_⟩
  exact wpAny_truthy_bool h
theorem katLex_ok {fin z b : Bool} {Q : Bool → Shared → Prop} : ∀ {l : List (Value × Value)} {i : Nat}, LexOK A s fin l z → 0 < i → Q z s → KatLex prog w A b fin Q l i s
 := by
  intro l i hl
  induction hl generalizing i with
  | nil => intro _ h; exact kat_nil h
  | eq he _ ih => intro _ h; exact kat_cons (he prog w _ _ (kat_yes (ih (Nat.succ_pos _) h)))
  | ne he hl =>
    intro hi h
    refine kat_cons (he prog w _ _ (kat_no ?_))
    have : (i == 0) = false := beq_eq_false_iff_ne.mpr (Nat.ne_of_gt hi)
    rw [this, Bool.and_false]
    exact kat_one _ _ (hl prog w _ _ h)
theorem typ_keys {x : Value} {a : List Int} (N : News h₀ L s.heap news) (hx : LI news x a) : Looks (model prog w) s.heap (typeOf x) (.type "list") := by
  refine hideG fun gG hG => ?_
  obtain ⟨l, va, k, rfl, hm, _⟩ := hx
  refine hG ?_
  try clear hG gG
  exact (Looks.ld (N _ hm).1).andThen .now
theorem kind_tups {its : List TI} {C : SortKind → Shared → Prop} (N : News h₀ L s.heap news) (hk : KeyL news kv fars ns) (hS : ∀ p ∈ its, TupIn news kv p ∧ p.2.1 ∈ ns) (h1 : 0 < its.length) (h : C (tuples' true) s) :
    wpAny (model prog w) A (keyKind' (its.map tref).toArray) C E s := by
  refine kat_kind (fs := its.map fun p => kv p.2.1) (T := .type "list") ?_ (by simpa using h1) (fun v hv => ?_) (by rfl) h
  · clear h1
    induction its with
    | nil => exact KatTups.nil
    | cons p r ih =>
      refine hideG fun gG hG => ?_
      obtain ⟨⟨vs, k, hm, _⟩, _⟩ := hS p (.head _)
      refine hG ?_
      try clear hG gG
      exact KatTups.cons (N _ hm).1 rfl rfl (by simp) (ih fun q hq => hS q (.tail _ hq))
  · refine hideG fun gG hG => ?_
    obtain ⟨p, hp, rfl⟩ := List.mem_map.mp hv
    refine hG ?_
    try clear hG gG
    exact typ_keys N (hk _ (hS p hp).2)
theorem klt_tups {x y : TI} {C : Bool → Shared → Prop} (N : News h₀ L s.heap news) (hk : KeyL news kv fars ns) (hx : TupIn news kv x ∧ x.2.1 ∈ ns) (hy : TupIn news kv y ∧ y.2.1 ∈ ns) (hu : A.units < cLine) (h : C (ltT fars x y) s) :
    wpAny (model prog w) A (keyLt' (tuples' true) (tref x) (tref y)) C E s := by
  refine hideG fun gG hG => ?_
  obtain ⟨⟨va, ka, hma, hia⟩, hxa⟩ := hx
  obtain ⟨⟨vb, kb, hmb, hib⟩, hyb⟩ := hy
  refine hG ?_
  try clear hG gG
  refine kat_lt (N _ hma).1 rfl (N _ hmb).1 rfl ?_
  have e := key_eq (A := A) N (hk _ hxa) (hk _ hyb) hu
  show KatLex _ _ _ _ _ _ ((kv x.2.1, kv y.2.1) :: va.zip vb) 0 s
  have hz : decide ((kv x.2.1 :: va).toArray.size < (kv y.2.1 :: vb).toArray.size) = decide (va.length < vb.length) := by simp
  rw [hz]
  change C (if fars x.2.1 = fars y.2.1 then lexI x.2.2 y.2.2 else lexI (fars x.2.1) (fars y.2.1)) s at h
  by_cases q : fars x.2.1 = fars y.2.1
  · rw [if_pos q] at h; rw [decide_eq_true q] at e
    exact kat_cons (e prog w _ _ (kat_yes (katLex_ok (lexOK_ints hia hib rfl) (Nat.succ_pos _) h)))
  · rw [if_neg q] at h; rw [decide_eq_false q] at e
    exact kat_cons (e prog w _ _ (kat_no (oneLt_keys N (hk _ hxa) (hk _ hyb) hu h)))
theorem kind_keys {its : List Int} {C : SortKind → Shared → Prop} (N : News h₀ L s.heap news) (hk : KeyL news kv fars its) (h2 : 2 ≤ its.length) (h : C oneType' s) :
    wpAny (model prog w) A (keyKind' (its.map kv).toArray) C E s :=
  kas_kind (T := .type "list") (by simpa using h2) (fun v hv => by
    refine hideG fun gG hG => ?_
    obtain ⟨p, hp, rfl⟩ := List.mem_map.mp hv
    refine hG ?_
    try clear hG gG
    exact typ_keys N (hk _ hp)) (by rfl) (by rfl) h
theorem klt_keys {x y : Int} {C : Bool → Shared → Prop} (N : News h₀ L s.heap news) (hk : KeyL news kv fars ns) (hx : x ∈ ns) (hy : y ∈ ns) (hu : A.units < cLine) (h : C (lexI (fars x) (fars y)) s) :
    wpAny (model prog w) A (keyLt' oneType' (kv x) (kv y)) C E s := by
  rw [keyLt'_oneType]; exact oneLt_keys N (hk _ hx) (hk _ hy) hu h
/-- a tuple of ints -/
inductive IT (news : Led) (v : Value) (b : List Int) : Prop
  | mk0 (l : Addr) (va : List Value) (k : Nat) : (v = .ref l) → ((l, tupO va k) ∈ news) → (Two IsI va b) → IT news v b
theorem kind_ints {its : List Value} {xs : List (List Int)} {C : SortKind → Shared → Prop} (N : News h₀ L s.heap news) (hS : Two (IT news) its xs) (hne : ∀ x ∈ xs, x ≠ []) (h1 : 0 < its.length) (h : C (tuples' true) s) :
    wpAny (model prog w) A (keyKind' its.toArray) C E s := by
  have hf : ∃ fs, KatTups s.heap its fs ∧ fs.length = its.length ∧ ∀ v ∈ fs, ∃ n t, v = Value.int n t := by
    clear h1 h
    induction hS with
    | nil => exact ⟨[], KatTups.nil, rfl, fun _ h => nomatch h⟩
    | cons hr _ ih =>
      refine hideG fun gG hG => ?_
      obtain ⟨fs, h1, h2, h3⟩ := ih (fun x hx => hne x (.tail _ hx))
      obtain ⟨l, va, k, rfl, hm, hi⟩ := hr
      refine hG ?_
      try clear hG gG
      cases hi with
      | nil => exact absurd rfl (hne _ (.head _))
      | cons hv _ =>
        obtain ⟨t, rfl⟩ := hv
        rename_i n0 _ _ _
        refine ⟨.int n0 t :: fs, KatTups.cons (N _ hm).1 rfl rfl rfl h1, by simp [h2], fun v hv => ?_⟩
        rcases List.mem_cons.mp hv with rfl | hv
        · exact ⟨_, _, rfl⟩
        · exact h3 v hv
  refine hideG fun gG hG => ?_
  obtain ⟨fs, h1', h2, h3⟩ := hf
  refine hG ?_
  try clear hG gG
  exact kat_kind (T := .type "int") h1' (by lia) (fun v hv => by obtain ⟨n, t, rfl⟩ := h3 v hv; exact Looks.of_pure rfl) (by rfl) h
theorem klt_ints {x y : Value} {a b : List Int} {C : Bool → Shared → Prop} (N : News h₀ L s.heap news) (hx : IT news x a) (hy : IT news y b) (h : C (lexI a b) s) :
    wpAny (model prog w) A (keyLt' (tuples' true) x y) C E s := by
  refine hideG fun gG hG => ?_
  obtain ⟨l, va, k, rfl, hm, hi⟩ := hx
  obtain ⟨l2, vb, k2, rfl, hm2, hi2⟩ := hy
  refine hG ?_
  try clear hG gG
  refine kat_lt (N _ hm).1 rfl (N _ hm2).1 rfl ?_
  have hz : decide (va.toArray.size < vb.toArray.size) = decide (va.length < vb.length) := by simp
  rw [hz]
  cases hi with
  | nil =>
    cases hi2 with
    | nil => exact kat_nil h
    | cons _ _ => exact kat_nil h
  | cons ha ra =>
    cases hi2 with
    | nil => exact kat_nil h
    | cons hb rb =>
      refine hideG fun gG hG => ?_
      obtain ⟨t, rfl⟩ := ha
      obtain ⟨u, rfl⟩ := hb
      refine hG ?_
      try clear hG gG
      rename_i p vs' ps q vs'' qs
      change C (if p = q then lexI ps qs else decide (p < q)) s at h
      have e := eqAt_int (A := A) (s := s) (a := p) (b := q) (t := t) (u := u)
      by_cases c : p = q
      · rw [if_pos c] at h; rw [decide_eq_true c] at e
        exact kat_cons (e prog w _ _ (kat_yes (katLex_ok (lexOK_ints ra rb (by simp)) (Nat.succ_pos _) h)))
      · rw [if_neg c] at h; rw [decide_eq_false c] at e
        exact kat_cons (e prog w _ _ (kat_no (oneLt_int h)))
end
end Mine
end
section
open PySem PySem.W PySem.Calls PyProof.Rows PyProof.Rows.LCg
set_option maxRecDepth 100000
set_option maxHeartbeats 8000000
namespace Mine
section
variable {prog : Program} {w : World} {A : Around} {E : Value → Shared → Prop} {s : Shared} {h₀ : Heap} {L : Addr} {m : Str → Option Value} {env : Env} {elt : Expr} {ifs : List Expr} {scope : Scope} {cl : List (Str × Addr)} {mD : Addr → Str → Option Value} {Q : Addr → Shared → Prop} {news : Led}
theorem src_tups {ps : List (Str × Pos)} {ctx : Nat} {tp : Pos} {its : List Value} {ax : Addr} {k : Nat} {g : Heap} {t : Nat} (Ts : Nat → Addr) (vals : Nat → List Value) (J : Nat → List Value → Led → Prop) (F : Fr h₀ L g m) (N : News h₀ L g news) (hm : (ax, listOf its.toArray k) ∈ news)
    (hT : ∀ i v, its[i]? = some v → v = .ref (Ts i) ∧ (vals i).length = ps.length ∧ ∃ k, (Ts i, tupO (vals i) k) ∈ news) (hsz : its.length ≤ sizeLine) (hJ : J 0 [] news)
    (turn : ∀ bad, Turn prog w A h₀ L m elt ifs scope cl env (ps.map (·.1)) s bad its.length (fun i v => v = vals i) J)
    (fin : ∀ D h tk ys nw, Fr h₀ L h (mD D) → News h₀ L h ((D, lst ys) :: nw) → (∀ p ∈ nw, p.1 ≠ D) → (∀ p ∈ news, p.1 < D) → J its.length ys nw → Q D { s with heap := h, toks := tk })
    (hx : ∀ p ∈ ps, scope.names.lookup p.1 = some .local) (hstar : ∀ e, (assignEach (ps.map nmE) e).findIdx? (·.1) = none) (hlen : ∀ e, (assignEach (ps.map nmE) e).length = ps.length) (hh : A.handled = none) (hkind : scope.kind = .function) :
    wpAny (model prog w) A (pyIter (.ref ax)) (SrcOf prog w A h₀ L m elt (.Tuple (ps.map nmE) ctx tp) ifs scope cl env s mD Q) E { s with heap := g, toks := t } := by
  have z := N _ hm
  have hl : g.IsList ax its.toArray := ⟨_, z.1, rfl, _, rfl⟩
  refine wpAny_pyIter_list hl ?_
  have up : ∀ b o, g.get? b = some o → (g.push { cls := .type "list_iterator", data := .fields #[.ref ax, .int 0 0] }).get? b = some o := fun b o e => Heap.get?_push_of_some _ e
  have hax : ax ≠ g.objs.size := Nat.ne_of_lt (Heap.lt_size z.1)
  have hT' : ∀ j, j < its.toArray.size → its.toArray[j]? = some (.ref (Ts j)) ∧ (vals j).length = ps.length ∧ ∃ k, (Ts j, tupO (vals j) k) ∈ news := fun j hj => by
    have hj' : j < its.length := by simpa using hj
    obtain ⟨e, r⟩ := hT j its[j] (List.getElem?_eq_getElem hj')
    exact ⟨by rw [List.getElem?_toArray, List.getElem?_eq_getElem hj', e], r⟩
  have tin : ∀ j, j < its.toArray.size → ∃ o, g.get? (Ts j) = some o ∧ Ts j ≠ L ∧ h₀.get? (Ts j) = none := fun j hj => by
    refine hideG fun gG hG => ?_
    obtain ⟨_, _, k, hk⟩ := hT' j hj
    refine hG ?_
    try clear hG gG
    exact ⟨_, N _ hk⟩
  have W := WalksU.bound (WalksU.listOfTuples (prog := prog) (w := w) (A := A) hh g.objs.size ax hax its.toArray Ts (fun j => (vals j).toArray) (fun j hj => (hT' j hj).1) (fun j hj => Nat.ne_of_lt (by obtain ⟨o, ho, _⟩ := tin j hj; exact Heap.lt_size ho)))
  have has : ∀ (i : Nat) (h : Heap), (h.IsListIter g.objs.size ax i ∧ h.IsList ax its.toArray ∧ ∀ k, k < its.toArray.size → h.IsTuple (Ts k) (vals k).toArray) → ∀ b ∈ g.objs.size :: ax :: (List.range its.toArray.size).map Ts, ∃ o, h.get? b = some o := by
    rintro i h qG1 b hb
    refine hideG fun gG hG => ?_
    obtain ⟨h1, h2, h3⟩ := qG1
    refine hG ?_
    try clear hG gG
    rcases List.mem_cons.mp hb with rfl | hb
    · obtain ⟨o, e, _⟩ := h1; exact ⟨o, e⟩
    · rcases List.mem_cons.mp hb with rfl | hb
      · obtain ⟨o, e, _⟩ := h2; exact ⟨o, e⟩
      · obtain ⟨j, hj, rfl⟩ := List.mem_map.mp hb
        obtain ⟨o, e, _⟩ := h3 j (List.mem_range.mp hj); exact ⟨o, e⟩
  refine ⟨_, _, [g.objs.size], its.length, _, _, fun _ => True, news, J, ps.map (·.1), _, t, ax :: (List.range its.toArray.size).map Ts, ?_, rfl, rfl,
    draw_U (Pt := fun j v => j < its.toArray.size ∧ v = (vals j).toArray) (St := fun i h => h.IsListIter g.objs.size ax i ∧ h.IsList ax its.toArray ∧ ∀ k, k < its.toArray.size → h.IsTuple (Ts k) (vals k).toArray) (ps := ps) (k := ctx) (tp := tp) hh hkind hx hstar hlen (by simpa using W) ?_ has (fun _ _ _ _ => trivial) (fun s Q E hst hQ => W.done s Q E (by simpa using hst) fun h' tk hk => hQ h' tk hk trivial), hsz, ?_, ?_, F.keeps up, N.grown up, ?_, hJ, ?_, fun D h tk ys nw F N o1 lt _ hj => fin D h tk ys nw F N o1 lt hj⟩
  · intro b hb
    rcases List.mem_cons.mp hb with rfl | hb
    · exact .inl (.head _)
    · exact .inr hb
  · rintro i v ⟨hi, rfl⟩
    rw [List.size_toArray]; exact (hT' i hi).2.1
  · exact ⟨⟨_, Heap.get?_push_size _ rfl, rfl, rfl⟩, hl.push _, fun j hj => by
      refine hideG fun gG hG => ?_
      obtain ⟨_, _, k, hk⟩ := hT' j hj
      refine hG ?_
      try clear hG gG
      exact ⟨_, up _ _ (N _ hk).1, rfl, _, rfl⟩⟩
  · intro b hb
    rcases List.mem_cons.mp hb with rfl | hb
    · exact ⟨next_is_new F, Nat.ne_of_gt F.ns.lt⟩
    · rcases List.mem_cons.mp hb with rfl | hb
      · exact ⟨z.2.2, z.2.1⟩
      · refine hideG fun gG hG => ?_
        obtain ⟨j, hj, rfl⟩ := List.mem_map.mp hb
        obtain ⟨o, e, h1, h2⟩ := tin j (List.mem_range.mp hj)
        refine hG ?_
        try clear hG gG
        exact ⟨h2, h1⟩
  · intro p hp q
    exact Nat.ne_of_lt (Heap.lt_size (N p hp).1) (List.mem_singleton.mp q)
  · have ht := turn (ax :: (List.range its.toArray.size).map Ts)
    intro i v ys nw h tk own C oC D' m₂ E' ho hi hP
    exact ht i v ys nw h tk own C oC D' m₂ E' ho hi (by have := hP.2; simpa using this)
end
end Mine
namespace Mine
theorem sortBy_map {α β : Type} [Inhabited α] [Inhabited β] (lt : α → α → Bool) (f : α → β) (hf : f default = default) (lt' : β → β → Bool) (hlt : ∀ a b, lt' (f a) (f b) = lt a b) (l : List α) : sortBy lt' (l.map f) = (sortBy lt l).map f := by
  unfold sortBy
  simp only [getD_map f hf, hlt, List.length_map, List.map_map]
  rfl
theorem sortBR_map {α β : Type} [Inhabited α] [Inhabited β] (b : Bool) (lt : α → α → Bool) (f : α → β) (hf : f default = default) (lt' : β → β → Bool) (hlt : ∀ a b, lt' (f a) (f b) = lt a b) (l : List α) : sortBR b lt' (l.map f) = (sortBR b lt l).map f := by
  unfold sortBR
  rw [katRev_map, sortBy_map lt f hf lt' hlt, katRev_map]
theorem sortBR_perm {α : Type} [Inhabited α] (b : Bool) (lt : α → α → Bool) (l : List α) : (sortBR b lt l).Perm l := by
  unfold sortBR katRev
  split
  · exact (List.reverse_perm _).trans ((sortBy_perm _).trans (List.reverse_perm _))
  · exact sortBy_perm _
/-- what nsmallest's general branch finds -/
noncomputable def nsGen (fars : Int → List Int) (ns : List Int) (n : Nat) : List Int := (sortBR false (ltE fars) ((ns.drop n).foldl (nsStep fars) (nsInit fars ns n)).1).map fun x => x.2.getD 1 0
end Mine
end
section
open PySem PySem.W PySem.Calls PyProof.Rows PyProof.Rows.LCg
set_option maxRecDepth 100000
set_option maxHeartbeats 8000000
namespace Mine
theorem gt_loop (l b : Addr) (va vb : List Value) (na nb : List Int) (n n2 : Nat) (ha : IntsAre va na) (hb : IntsAre vb nb) (k : Nat) :
    ∀ i : Nat, na.length - i = k → Meets (Builtin.«list.__eq__.loop» ⟨[.ref l, .ref b, rawInt i, rawInt 4], []⟩)
      (fun _ R s => s.heap.get? l = some (listOf va.toArray n) ∧ s.heap.get? b = some (listOf vb.toArray n2) ∧
        (i ≤ na.length ∧ i ≤ nb.length) ∧ R (.ok (.ret (.bool (lexI (nb.drop i) (na.drop i))))) s) := by
  have la : va.length = na.length := ha.length
  have lb : vb.length = nb.length := hb.length
  have hend : ∀ i, i ≤ na.length → i ≤ nb.length → (i = na.length ∨ i = nb.length) → lexI (nb.drop i) (na.drop i) = decide (nb.length < na.length) := by
    intro i h1 h2 h3
    rcases Nat.lt_or_ge i na.length with q1 | q1
    · have e : nb.drop i = [] := List.drop_eq_nil_of_le (by lia)
      rw [e, List.drop_eq_getElem_cons q1]
      simp [lexI]; lia
    · have e : na.drop i = [] := List.drop_eq_nil_of_le (by lia)
      rw [e]
      rcases Nat.lt_or_ge i nb.length with q2 | q2
      · rw [List.drop_eq_getElem_cons q2]; simp [lexI]; lia
      · rw [List.drop_eq_nil_of_le q2]; simp [lexI]; lia
  induction k with
  | zero =>
    intro i hk prog w A R s h
    refine hideG fun gG hG => ?_
    obtain ⟨hp, g, d, tk, os⟩ := s; obtain ⟨hl, hb', ⟨hi1, hi2⟩, h⟩ := h
    refine hG ?_
    try clear hG gG
    have hie : i = na.length := Nat.le_antisymm hi1 (Nat.sub_eq_zero_iff_le.mp hk)
    rw [hend i hi1 hi2 (.inl hie)] at h
    wp_walk using wpAny_loadPart' hl, wpAny_loadPart' hb'
    have e1 : va.toArray[((i : Nat) : Int).toNat]? = none := by simp; lia
    rw [e1]
    wp_walk using wpAny_loadPart' hl, wpAny_loadPart' hb'
    show R (.ok (.ret (.bool (decide (vb.toArray.size < va.toArray.size))))) _
    simpa [la, lb] using h
  | succ k ih =>
    intro i hk prog w A R s h
    refine hideG fun gG hG => ?_
    obtain ⟨hp, g, d, tk, os⟩ := s; obtain ⟨hl, hb', ⟨hi1, hi2⟩, h⟩ := h
    refine hG ?_
    try clear hG gG
    have hlt : i < na.length := Nat.lt_of_sub_ne_zero (by rw [hk]; exact Nat.succ_ne_zero k)
    obtain ⟨t, ht⟩ := ints_at ha i hlt
    have e1 : va.toArray[((i : Nat) : Int).toNat]? = some (.int na[i] t) := by simpa using ht
    wp_walk using wpAny_loadPart' hl, wpAny_loadPart' hb'
    rw [e1]
    rcases Nat.lt_or_ge i nb.length with q2 | q2
    · obtain ⟨u, hu⟩ := ints_at hb i q2
      have e2 : vb.toArray[((i : Nat) : Int).toNat]? = some (.int nb[i] u) := by simpa using hu
      rw [e2]
      rw [List.drop_eq_getElem_cons hlt, List.drop_eq_getElem_cons q2] at h
      refine wpAny_bind (wpAny_eqBool_int ?_)
      by_cases he : na[i] = nb[i]
      · have he' : (na[i] == nb[i]) = true := by simpa using he
        rw [he']
        simp only [lexI, if_pos he.symm] at h
        have hc : ((i : Int) + 1) = ((i + 1 : Nat) : Int) := by push_cast; rfl
        wp_walk
        rw [hc]
        exact ⟨plainId_quiet MeetsSeq3.plain_eq_loop _, codeAny_builtin MeetsSeq3.entry_eq_loop (by
          rw [Around.under_plainId MeetsSeq3.plain_eq_loop _]
          exact ih (i + 1) (by rw [Nat.sub_succ, hk]; rfl) prog w A R _ ⟨hl, hb', ⟨hlt, q2⟩, h⟩)⟩
      · have he' : (na[i] == nb[i]) = false := by simpa using he
        rw [he']
        simp only [lexI, if_neg (fun q => he (Eq.symm q))] at h
        wp_walk using wpAny_loadPart' hl, wpAny_loadPart' hb'
        rw [e1, e2]
        refine wpAny_bind (gt_int (Q := fun v s' => _) ?_)
        wp_walk
        exact h
    · have e2 : vb.toArray[((i : Nat) : Int).toNat]? = none := by simp; lia
      rw [e2]
      rw [hend i hi1 hi2 (.inr (Nat.le_antisymm hi2 q2))] at h
      wp_walk using wpAny_loadPart' hl, wpAny_loadPart' hb'
      show R (.ok (.ret (.bool (decide (vb.toArray.size < va.toArray.size))))) _
      simpa [la, lb] using h
theorem gt_list {prog : Program} {w : World} {A : Around} {E : Value → Shared → Prop} {s : Shared} {l b : Addr} {va vb : List Value} {na nb : List Int} {n n2 : Nat} {Q : Value → Shared → Prop}
    (ha : IntsAre va na) (hb : IntsAre vb nb) (hl : s.heap.get? l = some (listOf va.toArray n)) (hb' : s.heap.get? b = some (listOf vb.toArray n2)) (hu : A.units < cLine)
    (h : Q (.bool (lexI nb na)) s) : wpAny (model prog w) A (richCompare .Gt (.ref l) (.ref b)) Q E s := by
  have g : Meets (Builtin.«list.__gt__» ⟨[.ref l, .ref b], []⟩) (fun _ R s => s.heap.get? l = some (listOf va.toArray n) ∧ s.heap.get? b = some (listOf vb.toArray n2) ∧ R (.ok (.ret (.bool (lexI nb na)))) s) := by
    intro prog w A R s h
    refine hideG fun gG hG => ?_
    obtain ⟨hp, g, d, tk, os⟩ := s; obtain ⟨hl, hb', h⟩ := h
    refine hG ?_
    try clear hG gG
    have f3 := AutoSeq1.sub_list_list
    wp_walk using wpAny_loadPart' hl, wpAny_loadPart' hb'
    exact ⟨plainId_quiet MeetsSeq3.plain_eq_loop _, codeAny_builtin MeetsSeq3.entry_eq_loop (by
      rw [Around.under_plainId MeetsSeq3.plain_eq_loop _]
      exact gt_loop l b va vb na nb n n2 ha hb _ 0 rfl prog w A R _ ⟨hl, hb', ⟨Nat.zero_le _, Nat.zero_le _⟩, by simpa using h⟩)⟩
  exact richCompare_meets_room (op := .Gt) ⟨_, hl, rfl⟩ ⟨_, hb', rfl⟩ F.slot_list_gt F.entry_list_gt (F.args_list_gt_2 _ _) g
    ⟨hl, hb', show Value.bool (lexI nb na) ≠ Value.notImplemented ∧ Q (.bool (lexI nb na)) s from ⟨(fun x => nomatch x), h⟩⟩ hu

end Mine
end
section
open PySem PySem.W PySem.Calls PyProof.Rows PyProof.Rows.LCg
set_option maxRecDepth 100000
set_option maxHeartbeats 8000000
namespace Mine
/-- a key function, called from within a built-in -/
noncomputable def KCall (prog : Program) (w : World) (A : Around) (f : Value) (kv : Int → Value) (ns : List Int) (h₀ : Heap) (L : Addr) (m : Str → Option Value) (s : Shared) (news : Led) : Prop :=
  ∀ k ∈ ns, ∀ (t : Tok) (h' : Heap) (tk : Nat) (nw : Led), (∀ p ∈ news, p ∈ nw) → Fr h₀ L h' m → News h₀ L h' nw → ∀ (Q' : Value → Shared → Prop) (E' : Value → Shared → Prop),
    (∀ h'' tk'', Fr h₀ L h'' m → News h₀ L h'' nw → Q' (kv k) { s with heap := h'', toks := tk'' }) → wpAny (model prog w) A (call f [.int k t]) Q' E' { s with heap := h', toks := tk }
/-- the best of a list -/
noncomputable def bestF (lt : Int → Int → Bool) : Int → List Int → Int
  | b, [] => b
  | b, x :: r => bestF lt (if lt x b then x else b) r
theorem key_gt {news : Led} {A : Around} {s : Shared} {h₀ : Heap} {L : Addr} {x y : Value} {a b : List Int} (N : News h₀ L s.heap news) (hx : LI news x a) (hy : LI news y b) (hu : A.units < cLine) {prog : Program} {w : World} {E Q : Value → Shared → Prop} (h : Q (.bool (lexI b a)) s) :
    wpAny (model prog w) A (richCompare .Gt x y) Q E s := by
  refine hideG fun gG hG => ?_
  obtain ⟨l, va, k, rfl, hm, hi⟩ := hx
  obtain ⟨l2, vb, k2, rfl, hm2, hi2⟩ := hy
  refine hG ?_
  try clear hG gG
  exact gt_list (ints_two hi) (ints_two hi2) (N _ hm).1 (N _ hm2).1 hu h
noncomputable def ltK (fars : Int → List Int) (a b : Int) : Bool := lexI (fars a) (fars b)
noncomputable def gtK (fars : Int → List Int) (a b : Int) : Bool := lexI (fars b) (fars a)
section
variable {prog : Program} {w : World} {A : Around} {E : Value → Shared → Prop} {s : Shared} {h₀ : Heap} {L l I S : Addr} {q : Addr} {m : Str → Option Value} {news : Led} {vs : List Value} {ns : List Int} {n : Nat} {kv : Int → Value} {fars : Int → List Int} {kw : List (Str × Value)}
theorem min_args (a v d : Value) : argsOk "min" ⟨[a], [(Str.ofString "default", d), (Str.ofString "key", v)]⟩ := by unfold argsOk; kernel_rfl
theorem min_loop {R : Result → Shared → Prop} (hh : A.handled = none) (hm : (l, listOf vs.toArray n) ∈ news) (hlI : l ≠ I) (hSI : S ≠ I) (hnS : ∀ p ∈ news, p.1 ≠ S) (hnI : ∀ p ∈ news, p.1 ≠ I) (hi : Two IsI vs ns) (hkl : KeyL news kv fars ns)
    (hc : KCall prog w A.in1 (.ref q) kv ns h₀ L m s news) (hu : A.units + 5 < cLine)
    (hR : ∀ r v h' tk', IsI v r → r = bestF (ltK fars) (ns.getD 0 0) (ns.drop 1) → Fr h₀ L h' m → News h₀ L h' news → R (.ok (.ret v)) { s with heap := h', toks := tk' }) :
    ∀ (rs : List Int) (j : Nat) (b : Int) (h : Heap) (tk : Nat) (vb : Value) (c : Nat) (oI : Obj), ns.drop (j + 1) = rs → j + 1 ≤ ns.length → b ∈ ns → IsI vb b → bestF (ltK fars) b rs = bestF (ltK fars) (ns.getD 0 0) (ns.drop 1) → Fr h₀ L h m →
      News h₀ L h ((S, seqObj "list" #[vb, kv b] c) :: (I, oI) :: news) → IsLI oI l (j + 1) →
      codeAny (model prog w) A (.builtin "min.loop" ⟨[.ref I, .ref q, .ref S], kw⟩) R { s with heap := h, toks := tk } := by
  have hname : (toString "min" ++ toString ".loop" : String) = "min.loop" := by decide
  have W := Walks.list (prog := prog) (w := w) (A := A.in1) hh I l hlI vs.toArray
  have hsz : vs.toArray.size = ns.length := by rw [List.size_toArray, hi.len]
  intro rs
  induction rs with
  | nil =>
    intro j b h tk vb c oI hr hj hb hvb hbest F N hit
    have hin : j + 1 = ns.length := Nat.le_antisymm hj (List.drop_eq_nil_iff.mp hr)
    have nS := N (S, seqObj "list" #[vb, kv b] c) (.head _)
    have nI := N (I, oI) (.tail _ (.head _))
    have Nn : News h₀ L h news := fun p hp => N p (.tail _ (.tail _ hp))
    refine codeAny_builtin PySem.F.entry_min_loop ?_
    rw [Around.under_plainId PySem.F.plain_min_loop _]
    show wpAny _ A.in1 (seqItems? (.ref S) >>= _) _ _ _
    refine wpAny_bind (wpAny_seqItems nS.1 rfl ?_)
    show wpAny _ A.in1 (tryCatch (pyNext (.ref I)) _ >>= _) _ _ _
    refine wpAny_bind (wpAny_tryCatch (W.done _ _ _ ⟨by rw [hsz, ← hin]; exact hit.at nI.1, ⟨_, (Nn _ hm).1, rfl, _, rfl⟩⟩ fun h' tk' hk' => ?_))
    have F1 := kmk_fr F hk' nI.2.1 nI.2.2
    have N1 := kmk_news Nn hk' hnI
    have hS' := hk' S _ (by simpa using hSI) nS.1
    have s1 := Heap.SameBut.update h' S (Obj.mapSeq fun _ => (#[] : Array Value))
    show wpAny _ A.in1 (updateSeq S (fun _ => #[]) >>= _) _ _ _
    refine wpAny_bind ?_
    refine wpAny_updateSeq hS' rfl (wpAny_bind (wpAny_letGo (wpAny_pure ?_)))
    exact hR b vb _ _ hvb hbest (ksk_fr F1 s1 nS.2.1 nS.2.2) (ksk_news N1 s1 hnS)
  | cons x rs ih =>
    intro j b h tk vb c oI hr hj hb hvb hbest F N hit
    have hlt : j + 1 < ns.length := Nat.lt_of_not_le fun c => absurd ((List.drop_eq_nil_of_le c).symm.trans hr) (List.cons_ne_nil _ _).symm
    have hx : ns[j + 1]? = some x := by have := congrArg (fun l => l[0]?) hr; simpa using this
    have hxm : x ∈ ns := List.mem_of_getElem? hx
    have hr2 : ns.drop (j + 1 + 1) = rs := by have := congrArg (List.drop 1) hr; simpa using this
    have nS := N (S, seqObj "list" #[vb, kv b] c) (.head _)
    have nI := N (I, oI) (.tail _ (.head _))
    have Nn : News h₀ L h news := fun p hp => N p (.tail _ (.tail _ hp))
    refine codeAny_builtin PySem.F.entry_min_loop ?_
    rw [Around.under_plainId PySem.F.plain_min_loop _]
    show wpAny _ A.in1 (seqItems? (.ref S) >>= _) _ _ _
    refine wpAny_bind (wpAny_seqItems nS.1 rfl ?_)
    show wpAny _ A.in1 (tryCatch (pyNext (.ref I)) _ >>= _) _ _ _
    refine wpAny_bind (wpAny_tryCatch (W.item (j + 1) _ _ _ (by rw [hsz]; exact hlt) ⟨hit.at nI.1, ⟨_, (Nn _ hm).1, rfl, _, rfl⟩⟩ fun v h' tk' hP hst' hk' => ?_))
    refine hideG fun gG hG => ?_
    obtain ⟨x', hx', t, rfl⟩ := hi.get (show vs[j + 1]? = some v by simpa using hP)
    refine hG ?_
    try clear hG gG
    obtain rfl : x = x' := by rw [hx] at hx'; injection hx'
    refine hideG fun gG hG => ?_
    obtain ⟨oI', hoI', hoc, hod⟩ := id hst'.1
    refine hG ?_
    try clear hG gG
    have F1 := kmk_fr F hk' nI.2.1 nI.2.2
    have N1 : News h₀ L h' ((S, seqObj "list" #[vb, kv b] c) :: (I, oI') :: news) := fun p hp => by
      rcases List.mem_cons.mp hp with rfl | hp
      · exact ⟨hk' S _ (by simpa using hSI) nS.1, nS.2⟩
      · rcases List.mem_cons.mp hp with rfl | hp
        · exact ⟨hoI', nI.2⟩
        · exact kmk_news Nn hk' hnI p hp
    show wpAny _ A.in1 (tryCatch (holding [Value.int x t] (call (.ref q) [Value.int x t])) _ >>= _) _ _ _
    refine wpAny_bind (wpAny_tryCatch (wpAny_holding (hc x hxm t h' tk' _ (fun p hp => .tail _ (.tail _ hp)) F1 N1 _ _ fun h2 tk2 F2 N2 => ?_)))
    have nS2 := N2 (S, seqObj "list" #[vb, kv b] c) (.head _)
    have nI2 := N2 (I, oI') (.tail _ (.head _))
    have N2n : News h₀ L h2 news := fun p hp => N2 p (.tail _ (.tail _ hp))
    show wpAny _ A.in1 (tryCatch (holding [Value.int x t, kv x] (richCompare .Lt (kv x) (kv b) >>= _)) _ >>= _) _ _ _
    refine wpAny_bind (wpAny_tryCatch (wpAny_holding (wpAny_bind (key_lt N2n (hkl x hxm) (hkl b hb) (by show A.units + 1 < cLine; lia) _ _ _ _ ?_))))
    refine wpAny_bind (wpAny_holding (wpAny_truthy_bool ?_))
    refine wpAny_bind (wpAny_letGo (wpAny_pure ?_))
    change bestF (ltK fars) (if ltK fars x b then x else b) rs = _ at hbest
    cases hb' : lexI (fars x) (fars b) with
    | true =>
      rw [if_pos (show ltK fars x b = true from hb')] at hbest
      have s1 := Heap.SameBut.update h2 S (Obj.mapSeq fun _ => #[Value.int x t, kv x])
      refine hideG fun gG hG => ?_
      obtain ⟨c2, hc2⟩ : ∃ c2, (h2.update S (Obj.mapSeq fun _ => #[Value.int x t, kv x])).get? S = some (seqObj "list" #[Value.int x t, kv x] c2) := ⟨_, get?_update_seq nS2.1 fun _ => #[Value.int x t, kv x]⟩
      refine hG ?_
      try clear hG gG
      simp only [if_true]
      refine wpAny_bind ?_
      refine wpAny_updateSeq nS2.1 rfl (wpAny_bind (wpAny_letGo ?_))
      rw [hname]
      refine wpAny_pure ⟨plainId_quiet PySem.F.plain_min_loop _, ih (j + 1) x _ _ (.int x t) c2 oI' hr2 hlt hxm ⟨t, rfl⟩ hbest (ksk_fr F2 s1 nS2.2.1 nS2.2.2) (fun p hp => ?_) ⟨hoc, hod⟩⟩
      rcases List.mem_cons.mp hp with rfl | hp
      · exact ⟨hc2, nS2.2⟩
      · rcases List.mem_cons.mp hp with rfl | hp
        · exact ⟨(s1.2 I hSI.symm).trans nI2.1, nI2.2⟩
        · exact ksk_news N2n s1 hnS p hp
    | false =>
      rw [if_neg (show ¬ ltK fars x b = true from fun q => Bool.noConfusion (hb'.symm.trans q))] at hbest
      simp only [Bool.false_eq_true, if_false]
      refine wpAny_bind (wpAny_letGo ?_)
      rw [hname]
      exact wpAny_pure ⟨plainId_quiet PySem.F.plain_min_loop _, ih (j + 1) b _ _ vb c oI' hr2 hlt hb hvb hbest F2 N2 ⟨hoc, hod⟩⟩
/-- min of a list's fresh iterator, with a default and a key -/
theorem min_at {d : Value} {oI : Obj} {Q : Value → Shared → Prop} (hh : A.handled = none) (F : Fr h₀ L s.heap m) (N : News h₀ L s.heap ((I, oI) :: news)) (hm : (l, listOf vs.toArray n) ∈ news) (hit : IsLI oI l 0) (hnI : ∀ p ∈ news, p.1 ≠ I) (hi : Two IsI vs ns) (hkl : KeyL news kv fars ns)
    (hc : KCall prog w A.in1 (.ref q) kv ns h₀ L m s news) (hu : A.units + 9 < cLine) (hne : 0 < ns.length)
    (h : ∀ v h' tk', IsI v (bestF (ltK fars) (ns.getD 0 0) (ns.drop 1)) → Fr h₀ L h' m → News h₀ L h' news → Q v { s with heap := h', toks := tk' }) :
    wpAny (model prog w) A (call (.builtin "min") [.ref I] [(Str.ofString "default", d), (Str.ofString "key", .ref q)]) Q E s := by
  have hname : (toString "min" ++ toString ".loop" : String) = "min.loop" := by decide
  have hL : L < s.heap.objs.size := F.ns.lt
  refine kmk_tree PySem.F.kind_min PySem.F.plain_min PySem.F.entry_min (min_args _ _ _) ?_
  show wpAny _ A.in1 (Builtin.Builtins.bindParams "min" ["key", "default"] 0 ⟨[], [(Str.ofString "default", d), (Str.ofString "key", .ref q)]⟩ >>= _) _ _ s
  refine wpAny_bind (wpAny_of_eq (show Builtin.Builtins.bindParams "min" ["key", "default"] 0 ⟨[], [(Str.ofString "default", d), (Str.ofString "key", .ref q)]⟩ = pure [some (.ref q), some d] from rfl) ?_)
  refine wpAny_bind (wpAny_pure ?_)
  have nI := N (I, oI) (.head _)
  refine wpAny_bind (wpAny_pyIter_listiter (hit.at nI.1) ?_)
  refine wpAny_bind (wpAny_newList ?_ (Nat.zero_le _))
  rw [hname]
  have hIlt : I < s.heap.objs.size := Heap.lt_size nI.1
  have hlI : l ≠ I := hnI _ hm
  have F0 : Fr h₀ L (s.heap.push (seqObj "list" #[] 0)) m := F.push _
  have gS : (s.heap.push (seqObj "list" #[] 0)).get? s.heap.objs.size = some (seqObj "list" #[] 0) := Heap.get?_push_size _ rfl
  have aS : s.heap.objs.size ≠ L := Nat.ne_of_gt hL
  have zS : h₀.get? s.heap.objs.size = none := next_is_new F
  have NH : News h₀ L (s.heap.push (seqObj "list" #[] 0)) ((I, oI) :: news) := N.grown fun b x e => Heap.get?_push_of_some _ e
  have hSI : s.heap.objs.size ≠ I := Nat.ne_of_gt hIlt
  have hnS : ∀ p ∈ news, p.1 ≠ s.heap.objs.size := fun p hp => Nat.ne_of_lt (Heap.lt_size (N p (.tail _ hp)).1)
  have W := Walks.list (prog := prog) (w := w) (A := A.in1) hh I l hlI vs.toArray
  have hsz : vs.toArray.size = ns.length := by rw [List.size_toArray, hi.len]
  refine wpAny_pure ⟨plainId_quiet PySem.F.plain_min_loop _, ?_⟩
  refine codeAny_builtin PySem.F.entry_min_loop ?_
  rw [Around.under_plainId PySem.F.plain_min_loop _]
  show wpAny _ A.in1 (seqItems? (.ref _) >>= _) _ _ _
  refine wpAny_bind (wpAny_seqItems gS rfl ?_)
  show wpAny _ A.in1 (tryCatch (pyNext (.ref I)) _ >>= _) _ _ _
  refine wpAny_bind (wpAny_tryCatch (W.item 0 _ _ _ (by rw [hsz]; exact hne) ⟨hit.at (NH _ (.head _)).1, ⟨_, (NH _ (.tail _ hm)).1, rfl, _, rfl⟩⟩ fun v h' tk' hP hst' hk' => ?_))
  refine hideG fun gG hG => ?_
  obtain ⟨x, hx, t, rfl⟩ := hi.get (show vs[0]? = some v by simpa using hP)
  refine hG ?_
  try clear hG gG
  have hxm : x ∈ ns := List.mem_of_getElem? hx
  refine hideG fun gG hG => ?_
  obtain ⟨oI', hoI', hoc, hod⟩ := id hst'.1
  refine hG ?_
  try clear hG gG
  have F1 := kmk_fr F0 hk' nI.2.1 nI.2.2
  have N1 : News h₀ L h' ((s.heap.objs.size, seqObj "list" #[] 0) :: (I, oI') :: news) := fun p hp => by
    rcases List.mem_cons.mp hp with rfl | hp
    · exact ⟨hk' _ _ (by simpa using hSI) gS, aS, zS⟩
    · rcases List.mem_cons.mp hp with rfl | hp
      · exact ⟨hoI', nI.2⟩
      · exact kmk_news (fun p hp => NH p (.tail _ hp)) hk' hnI p hp
  show wpAny _ A.in1 (tryCatch (holding [Value.int x t] (call (.ref q) [Value.int x t])) _ >>= _) _ _ _
  refine wpAny_bind (wpAny_tryCatch (wpAny_holding (hc x hxm t h' tk' _ (fun p hp => .tail _ (.tail _ hp)) F1 N1 _ _ fun h2 tk2 F2 N2 => ?_)))
  have nS2 := N2 (s.heap.objs.size, seqObj "list" #[] 0) (.head _)
  have nI2 := N2 (I, oI') (.tail _ (.head _))
  have N2n : News h₀ L h2 news := fun p hp => N2 p (.tail _ (.tail _ hp))
  have s1 := Heap.SameBut.update h2 s.heap.objs.size (Obj.mapSeq fun _ => #[Value.int x t, kv x])
  refine hideG fun gG hG => ?_
  obtain ⟨c2, hc2⟩ : ∃ c2, (h2.update s.heap.objs.size (Obj.mapSeq fun _ => #[Value.int x t, kv x])).get? s.heap.objs.size = some (seqObj "list" #[Value.int x t, kv x] c2) := ⟨_, get?_update_seq nS2.1 fun _ => #[Value.int x t, kv x]⟩
  refine hG ?_
  try clear hG gG
  show wpAny _ A.in1 (updateSeq s.heap.objs.size (fun _ => #[Value.int x t, kv x]) >>= _) _ _ _
  refine wpAny_bind ?_
  refine wpAny_updateSeq nS2.1 rfl ?_
  rw [hname]
  have h0 : ns.getD 0 0 = x := by rw [List.getD_eq_getElem?_getD, hx]; rfl
  refine wpAny_pure ⟨plainId_quiet PySem.F.plain_min_loop _, min_loop (A := A) (ns := ns) (n := n) (vs := vs) hh hm hlI hSI hnS hnI hi hkl hc (by lia) (fun r v h' tk' hv hr F N => h v h' tk' (hr ▸ hv) F N) (ns.drop 1) 0 x _ _ (.int x t) c2 oI' rfl hne hxm ⟨t, rfl⟩ (by rw [h0]) (ksk_fr F2 s1 nS2.2.1 nS2.2.2) (fun p hp => ?_) ⟨hoc, hod⟩⟩
  rcases List.mem_cons.mp hp with rfl | hp
  · exact ⟨hc2, nS2.2⟩
  · rcases List.mem_cons.mp hp with rfl | hp
    · exact ⟨(s1.2 _ hSI.symm).trans nI2.1, nI2.2⟩
    · exact ksk_news N2n s1 hnS p hp
end
section
variable {prog : Program} {w : World} {A : Around} {E : Value → Shared → Prop} {s : Shared} {h₀ : Heap} {L l I S : Addr} {q : Addr} {m : Str → Option Value} {news : Led} {vs : List Value} {ns : List Int} {n : Nat} {kv : Int → Value} {fars : Int → List Int} {kw : List (Str × Value)}
theorem max_args (a v d : Value) : argsOk "max" ⟨[a], [(Str.ofString "default", d), (Str.ofString "key", v)]⟩ := by unfold argsOk; kernel_rfl
theorem max_loop {R : Result → Shared → Prop} (hh : A.handled = none) (hm : (l, listOf vs.toArray n) ∈ news) (hlI : l ≠ I) (hSI : S ≠ I) (hnS : ∀ p ∈ news, p.1 ≠ S) (hnI : ∀ p ∈ news, p.1 ≠ I) (hi : Two IsI vs ns) (hkl : KeyL news kv fars ns)
    (hc : KCall prog w A.in1 (.ref q) kv ns h₀ L m s news) (hu : A.units + 5 < cLine)
    (hR : ∀ r v h' tk', IsI v r → r = bestF (gtK fars) (ns.getD 0 0) (ns.drop 1) → Fr h₀ L h' m → News h₀ L h' news → R (.ok (.ret v)) { s with heap := h', toks := tk' }) :
    ∀ (rs : List Int) (j : Nat) (b : Int) (h : Heap) (tk : Nat) (vb : Value) (c : Nat) (oI : Obj), ns.drop (j + 1) = rs → j + 1 ≤ ns.length → b ∈ ns → IsI vb b → bestF (gtK fars) b rs = bestF (gtK fars) (ns.getD 0 0) (ns.drop 1) → Fr h₀ L h m →
      News h₀ L h ((S, seqObj "list" #[vb, kv b] c) :: (I, oI) :: news) → IsLI oI l (j + 1) →
      codeAny (model prog w) A (.builtin "max.loop" ⟨[.ref I, .ref q, .ref S], kw⟩) R { s with heap := h, toks := tk } := by
  have hname : (toString "max" ++ toString ".loop" : String) = "max.loop" := by decide
  have W := Walks.list (prog := prog) (w := w) (A := A.in1) hh I l hlI vs.toArray
  have hsz : vs.toArray.size = ns.length := by rw [List.size_toArray, hi.len]
  intro rs
  induction rs with
  | nil =>
    intro j b h tk vb c oI hr hj hb hvb hbest F N hit
    have hin : j + 1 = ns.length := Nat.le_antisymm hj (List.drop_eq_nil_iff.mp hr)
    have nS := N (S, seqObj "list" #[vb, kv b] c) (.head _)
    have nI := N (I, oI) (.tail _ (.head _))
    have Nn : News h₀ L h news := fun p hp => N p (.tail _ (.tail _ hp))
    refine codeAny_builtin PySem.F.entry_max_loop ?_
    rw [Around.under_plainId PySem.F.plain_max_loop _]
    show wpAny _ A.in1 (seqItems? (.ref S) >>= _) _ _ _
    refine wpAny_bind (wpAny_seqItems nS.1 rfl ?_)
    show wpAny _ A.in1 (tryCatch (pyNext (.ref I)) _ >>= _) _ _ _
    refine wpAny_bind (wpAny_tryCatch (W.done _ _ _ ⟨by rw [hsz, ← hin]; exact hit.at nI.1, ⟨_, (Nn _ hm).1, rfl, _, rfl⟩⟩ fun h' tk' hk' => ?_))
    have F1 := kmk_fr F hk' nI.2.1 nI.2.2
    have N1 := kmk_news Nn hk' hnI
    have hS' := hk' S _ (by simpa using hSI) nS.1
    have s1 := Heap.SameBut.update h' S (Obj.mapSeq fun _ => (#[] : Array Value))
    show wpAny _ A.in1 (updateSeq S (fun _ => #[]) >>= _) _ _ _
    refine wpAny_bind ?_
    refine wpAny_updateSeq hS' rfl (wpAny_bind (wpAny_letGo (wpAny_pure ?_)))
    exact hR b vb _ _ hvb hbest (ksk_fr F1 s1 nS.2.1 nS.2.2) (ksk_news N1 s1 hnS)
  | cons x rs ih =>
    intro j b h tk vb c oI hr hj hb hvb hbest F N hit
    have hlt : j + 1 < ns.length := Nat.lt_of_not_le fun c => absurd ((List.drop_eq_nil_of_le c).symm.trans hr) (List.cons_ne_nil _ _).symm
    have hx : ns[j + 1]? = some x := by have := congrArg (fun l => l[0]?) hr; simpa using this
    have hxm : x ∈ ns := List.mem_of_getElem? hx
    have hr2 : ns.drop (j + 1 + 1) = rs := by have := congrArg (List.drop 1) hr; simpa using this
    have nS := N (S, seqObj "list" #[vb, kv b] c) (.head _)
    have nI := N (I, oI) (.tail _ (.head _))
    have Nn : News h₀ L h news := fun p hp => N p (.tail _ (.tail _ hp))
    refine codeAny_builtin PySem.F.entry_max_loop ?_
    rw [Around.under_plainId PySem.F.plain_max_loop _]
    show wpAny _ A.in1 (seqItems? (.ref S) >>= _) _ _ _
    refine wpAny_bind (wpAny_seqItems nS.1 rfl ?_)
    show wpAny _ A.in1 (tryCatch (pyNext (.ref I)) _ >>= _) _ _ _
    refine wpAny_bind (wpAny_tryCatch (W.item (j + 1) _ _ _ (by rw [hsz]; exact hlt) ⟨hit.at nI.1, ⟨_, (Nn _ hm).1, rfl, _, rfl⟩⟩ fun v h' tk' hP hst' hk' => ?_))
    refine hideG fun gG hG => ?_
    obtain ⟨x', hx', t, rfl⟩ := hi.get (show vs[j + 1]? = some v by simpa using hP)
    refine hG ?_
    try clear hG gG
    obtain rfl : x = x' := by rw [hx] at hx'; injection hx'
    refine hideG fun gG hG => ?_
    obtain ⟨oI', hoI', hoc, hod⟩ := id hst'.1
    refine hG ?_
    try clear hG gG
    have F1 := kmk_fr F hk' nI.2.1 nI.2.2
    have N1 : News h₀ L h' ((S, seqObj "list" #[vb, kv b] c) :: (I, oI') :: news) := fun p hp => by
      rcases List.mem_cons.mp hp with rfl | hp
      · exact ⟨hk' S _ (by simpa using hSI) nS.1, nS.2⟩
      · rcases List.mem_cons.mp hp with rfl | hp
        · exact ⟨hoI', nI.2⟩
        · exact kmk_news Nn hk' hnI p hp
    show wpAny _ A.in1 (tryCatch (holding [Value.int x t] (call (.ref q) [Value.int x t])) _ >>= _) _ _ _
    refine wpAny_bind (wpAny_tryCatch (wpAny_holding (hc x hxm t h' tk' _ (fun p hp => .tail _ (.tail _ hp)) F1 N1 _ _ fun h2 tk2 F2 N2 => ?_)))
    have nS2 := N2 (S, seqObj "list" #[vb, kv b] c) (.head _)
    have nI2 := N2 (I, oI') (.tail _ (.head _))
    have N2n : News h₀ L h2 news := fun p hp => N2 p (.tail _ (.tail _ hp))
    show wpAny _ A.in1 (tryCatch (holding [Value.int x t, kv x] (richCompare .Gt (kv x) (kv b) >>= _)) _ >>= _) _ _ _
    refine wpAny_bind (wpAny_tryCatch (wpAny_holding (wpAny_bind (key_gt N2n (hkl x hxm) (hkl b hb) (by show A.units + 1 < cLine; lia) ?_))))
    refine wpAny_bind (wpAny_holding (wpAny_truthy_bool ?_))
    refine wpAny_bind (wpAny_letGo (wpAny_pure ?_))
    change bestF (gtK fars) (if gtK fars x b then x else b) rs = _ at hbest
    cases hb' : lexI (fars b) (fars x) with
    | true =>
      rw [if_pos (show gtK fars x b = true from hb')] at hbest
      have s1 := Heap.SameBut.update h2 S (Obj.mapSeq fun _ => #[Value.int x t, kv x])
      refine hideG fun gG hG => ?_
      obtain ⟨c2, hc2⟩ : ∃ c2, (h2.update S (Obj.mapSeq fun _ => #[Value.int x t, kv x])).get? S = some (seqObj "list" #[Value.int x t, kv x] c2) := ⟨_, get?_update_seq nS2.1 fun _ => #[Value.int x t, kv x]⟩
      refine hG ?_
      try clear hG gG
      simp only [if_true]
      refine wpAny_bind ?_
      refine wpAny_updateSeq nS2.1 rfl (wpAny_bind (wpAny_letGo ?_))
      rw [hname]
      refine wpAny_pure ⟨plainId_quiet PySem.F.plain_max_loop _, ih (j + 1) x _ _ (.int x t) c2 oI' hr2 hlt hxm ⟨t, rfl⟩ hbest (ksk_fr F2 s1 nS2.2.1 nS2.2.2) (fun p hp => ?_) ⟨hoc, hod⟩⟩
      rcases List.mem_cons.mp hp with rfl | hp
      · exact ⟨hc2, nS2.2⟩
      · rcases List.mem_cons.mp hp with rfl | hp
        · exact ⟨(s1.2 I hSI.symm).trans nI2.1, nI2.2⟩
        · exact ksk_news N2n s1 hnS p hp
    | false =>
      rw [if_neg (show ¬ gtK fars x b = true from fun q => Bool.noConfusion (hb'.symm.trans q))] at hbest
      simp only [Bool.false_eq_true, if_false]
      refine wpAny_bind (wpAny_letGo ?_)
      rw [hname]
      exact wpAny_pure ⟨plainId_quiet PySem.F.plain_max_loop _, ih (j + 1) b _ _ vb c oI' hr2 hlt hb hvb hbest F2 N2 ⟨hoc, hod⟩⟩
/-- max of a list's fresh iterator, with a default and a key -/
theorem max_at {d : Value} {oI : Obj} {Q : Value → Shared → Prop} (hh : A.handled = none) (F : Fr h₀ L s.heap m) (N : News h₀ L s.heap ((I, oI) :: news)) (hm : (l, listOf vs.toArray n) ∈ news) (hit : IsLI oI l 0) (hnI : ∀ p ∈ news, p.1 ≠ I) (hi : Two IsI vs ns) (hkl : KeyL news kv fars ns)
    (hc : KCall prog w A.in1 (.ref q) kv ns h₀ L m s news) (hu : A.units + 9 < cLine) (hne : 0 < ns.length)
    (h : ∀ v h' tk', IsI v (bestF (gtK fars) (ns.getD 0 0) (ns.drop 1)) → Fr h₀ L h' m → News h₀ L h' news → Q v { s with heap := h', toks := tk' }) :
    wpAny (model prog w) A (call (.builtin "max") [.ref I] [(Str.ofString "default", d), (Str.ofString "key", .ref q)]) Q E s := by
  have hname : (toString "max" ++ toString ".loop" : String) = "max.loop" := by decide
  have hL : L < s.heap.objs.size := F.ns.lt
  refine kmk_tree PySem.F.kind_max PySem.F.plain_max PySem.F.entry_max (max_args _ _ _) ?_
  show wpAny _ A.in1 (Builtin.Builtins.bindParams "max" ["key", "default"] 0 ⟨[], [(Str.ofString "default", d), (Str.ofString "key", .ref q)]⟩ >>= _) _ _ s
  refine wpAny_bind (wpAny_of_eq (show Builtin.Builtins.bindParams "max" ["key", "default"] 0 ⟨[], [(Str.ofString "default", d), (Str.ofString "key", .ref q)]⟩ = pure [some (.ref q), some d] from rfl) ?_)
  refine wpAny_bind (wpAny_pure ?_)
  have nI := N (I, oI) (.head _)
  refine wpAny_bind (wpAny_pyIter_listiter (hit.at nI.1) ?_)
  refine wpAny_bind (wpAny_newList ?_ (Nat.zero_le _))
  rw [hname]
  have hIlt : I < s.heap.objs.size := Heap.lt_size nI.1
  have hlI : l ≠ I := hnI _ hm
  have F0 : Fr h₀ L (s.heap.push (seqObj "list" #[] 0)) m := F.push _
  have gS : (s.heap.push (seqObj "list" #[] 0)).get? s.heap.objs.size = some (seqObj "list" #[] 0) := Heap.get?_push_size _ rfl
  have aS : s.heap.objs.size ≠ L := Nat.ne_of_gt hL
  have zS : h₀.get? s.heap.objs.size = none := next_is_new F
  have NH : News h₀ L (s.heap.push (seqObj "list" #[] 0)) ((I, oI) :: news) := N.grown fun b x e => Heap.get?_push_of_some _ e
  have hSI : s.heap.objs.size ≠ I := Nat.ne_of_gt hIlt
  have hnS : ∀ p ∈ news, p.1 ≠ s.heap.objs.size := fun p hp => Nat.ne_of_lt (Heap.lt_size (N p (.tail _ hp)).1)
  have W := Walks.list (prog := prog) (w := w) (A := A.in1) hh I l hlI vs.toArray
  have hsz : vs.toArray.size = ns.length := by rw [List.size_toArray, hi.len]
  refine wpAny_pure ⟨plainId_quiet PySem.F.plain_max_loop _, ?_⟩
  refine codeAny_builtin PySem.F.entry_max_loop ?_
  rw [Around.under_plainId PySem.F.plain_max_loop _]
  show wpAny _ A.in1 (seqItems? (.ref _) >>= _) _ _ _
  refine wpAny_bind (wpAny_seqItems gS rfl ?_)
  show wpAny _ A.in1 (tryCatch (pyNext (.ref I)) _ >>= _) _ _ _
  refine wpAny_bind (wpAny_tryCatch (W.item 0 _ _ _ (by rw [hsz]; exact hne) ⟨hit.at (NH _ (.head _)).1, ⟨_, (NH _ (.tail _ hm)).1, rfl, _, rfl⟩⟩ fun v h' tk' hP hst' hk' => ?_))
  refine hideG fun gG hG => ?_
  obtain ⟨x, hx, t, rfl⟩ := hi.get (show vs[0]? = some v by simpa using hP)
  refine hG ?_
  try clear hG gG
  have hxm : x ∈ ns := List.mem_of_getElem? hx
  refine hideG fun gG hG => ?_
  obtain ⟨oI', hoI', hoc, hod⟩ := id hst'.1
  refine hG ?_
  try clear hG gG
  have F1 := kmk_fr F0 hk' nI.2.1 nI.2.2
  have N1 : News h₀ L h' ((s.heap.objs.size, seqObj "list" #[] 0) :: (I, oI') :: news) := fun p hp => by
    rcases List.mem_cons.mp hp with rfl | hp
    · exact ⟨hk' _ _ (by simpa using hSI) gS, aS, zS⟩
    · rcases List.mem_cons.mp hp with rfl | hp
      · exact ⟨hoI', nI.2⟩
      · exact kmk_news (fun p hp => NH p (.tail _ hp)) hk' hnI p hp
  show wpAny _ A.in1 (tryCatch (holding [Value.int x t] (call (.ref q) [Value.int x t])) _ >>= _) _ _ _
  refine wpAny_bind (wpAny_tryCatch (wpAny_holding (hc x hxm t h' tk' _ (fun p hp => .tail _ (.tail _ hp)) F1 N1 _ _ fun h2 tk2 F2 N2 => ?_)))
  have nS2 := N2 (s.heap.objs.size, seqObj "list" #[] 0) (.head _)
  have nI2 := N2 (I, oI') (.tail _ (.head _))
  have N2n : News h₀ L h2 news := fun p hp => N2 p (.tail _ (.tail _ hp))
  have s1 := Heap.SameBut.update h2 s.heap.objs.size (Obj.mapSeq fun _ => #[Value.int x t, kv x])
  refine hideG fun gG hG => ?_
  obtain ⟨c2, hc2⟩ : ∃ c2, (h2.update s.heap.objs.size (Obj.mapSeq fun _ => #[Value.int x t, kv x])).get? s.heap.objs.size = some (seqObj "list" #[Value.int x t, kv x] c2) := ⟨_, get?_update_seq nS2.1 fun _ => #[Value.int x t, kv x]⟩
  refine hG ?_
  try clear hG gG
  show wpAny _ A.in1 (updateSeq s.heap.objs.size (fun _ => #[Value.int x t, kv x]) >>= _) _ _ _
  refine wpAny_bind ?_
  refine wpAny_updateSeq nS2.1 rfl ?_
  rw [hname]
  have h0 : ns.getD 0 0 = x := by rw [List.getD_eq_getElem?_getD, hx]; rfl
  refine wpAny_pure ⟨plainId_quiet PySem.F.plain_max_loop _, max_loop (A := A) (ns := ns) (n := n) (vs := vs) hh hm hlI hSI hnS hnI hi hkl hc (by lia) (fun r v h' tk' hv hr F N => h v h' tk' (hr ▸ hv) F N) (ns.drop 1) 0 x _ _ (.int x t) c2 oI' rfl hne hxm ⟨t, rfl⟩ (by rw [h0]) (ksk_fr F2 s1 nS2.2.1 nS2.2.2) (fun p hp => ?_) ⟨hoc, hod⟩⟩
  rcases List.mem_cons.mp hp with rfl | hp
  · exact ⟨hc2, nS2.2⟩
  · rcases List.mem_cons.mp hp with rfl | hp
    · exact ⟨(s1.2 _ hSI.symm).trans nI2.1, nI2.2⟩
    · exact ksk_news N2n s1 hnS p hp
end
end Mine
end
section
open PySem PySem.W PySem.Calls PyProof.Rows
namespace Mine
theorem lexI_asym : ∀ a b : List Int, lexI a b = true → lexI b a = false
  | [], [], _ => rfl
  | [], _ :: _, _ => rfl
  | _ :: _, [], h => by cases h
  | x :: a, y :: b, h => by
    simp only [lexI] at h ⊢
    by_cases e : x = y
    · rw [if_pos e] at h; rw [if_pos e.symm]; exact lexI_asym a b h
    · rw [if_neg e] at h; rw [if_neg (Ne.symm e)]
      have := of_decide_eq_true h
      exact decide_eq_false (by omega)
theorem lexI_tr : ∀ a b c : List Int, lexI a b = true → lexI b c = true → lexI a c = true
  | [], [], _, h, _ => by cases h
  | [], _ :: _, [], _, h => by cases h
  | [], _ :: _, _ :: _, _, _ => rfl
  | _ :: _, [], _, h, _ => by cases h
  | _ :: _, _ :: _, [], _, h => by cases h
  | x :: a, y :: b, z :: c, h1, h2 => by
    simp only [lexI] at h1 h2 ⊢
    by_cases e : x = y
    · subst e
      rw [if_pos rfl] at h1
      by_cases e2 : x = z
      · rw [if_pos e2] at h2 ⊢; exact lexI_tr a b c h1 h2
      · rw [if_neg e2] at h2 ⊢; exact h2
    · rw [if_neg e] at h1
      have h1' := of_decide_eq_true h1
      by_cases e2 : y = z
      · subst e2; rw [if_neg e]; exact h1
      · rw [if_neg e2] at h2
        have h2' := of_decide_eq_true h2
        rw [if_neg (by omega)]; exact decide_eq_true (by omega)
theorem lexI_tri : ∀ a b : List Int, lexI a b = false → lexI b a = false → a = b
  | [], [], _, _ => rfl
  | [], _ :: _, h, _ => by cases h
  | _ :: _, [], _, h => by cases h
  | x :: a, y :: b, h1, h2 => by
    simp only [lexI] at h1 h2
    by_cases e : x = y
    · subst e; rw [if_pos rfl] at h1 h2; rw [lexI_tri a b h1 h2]
    · rw [if_neg e] at h1; rw [if_neg (Ne.symm e)] at h2
      have := of_decide_eq_false h1; have := of_decide_eq_false h2; omega
/-- an asymmetric transitive order in which two incomparable ones are alike -/
theorem swo_of {α β : Type} (f : α → β) {lt : β → β → Bool} (ha : ∀ a b, lt a b = true → lt b a = false) (ht : ∀ a b c, lt a b = true → lt b c = true → lt a c = true) (h3 : ∀ a b, lt a b = false → lt b a = false → a = b) : SWO (fun a b => lt (f a) (f b)) where
  has := fun a b => ha _ _
  tr := fun a b c => ht _ _ _
  hle := fun a b c h1 h2 => by
    cases q : lt (f c) (f a) with
    | false => rfl
    | true =>
      cases q2 : lt (f a) (f b) with
      | true => have := ht _ _ _ q q2; rw [h2] at this; cases this
      | false => have e := h3 _ _ h1 q2; rw [e] at h2; rw [h2] at q; cases q
theorem ltK_swo (fars : Int → List Int) : SWO (ltK fars) := swo_of fars lexI_asym lexI_tr lexI_tri
theorem SWO.flip {α : Type} {lt : α → α → Bool} (h : SWO lt) : SWO (fun a b => lt b a) where
  has := fun a b q => h.has _ _ q
  tr := fun a b c q r => h.tr _ _ _ r q
  hle := fun a b c q r => h.hle _ _ _ r q
theorem SWO.irr {α : Type} {lt : α → α → Bool} (h : SWO lt) (a : α) : lt a a = false := by
  cases q : lt a a with
  | false => rfl
  | true => rw [h.has _ _ q] at q; cases q
noncomputable def lexP (x y : List Int × List Int) : Bool := if x.1 = y.1 then lexI x.2 y.2 else lexI x.1 y.1
theorem ltE_swo (fars : Int → List Int) : SWO (ltE fars) := by
  refine swo_of (fun x : Int × List Int => (fars x.1, x.2)) (lt := lexP) (fun a b h => ?_) (fun a b c h1 h2 => ?_) (fun a b h1 h2 => ?_)
  · unfold lexP at h ⊢
    by_cases e : a.1 = b.1
    · rw [if_pos e] at h; rw [if_pos e.symm]; exact lexI_asym _ _ h
    · rw [if_neg e] at h; rw [if_neg (Ne.symm e)]; exact lexI_asym _ _ h
  · unfold lexP at h1 h2 ⊢
    by_cases e : a.1 = b.1
    · rw [if_pos e] at h1; rw [e]
      by_cases e2 : b.1 = c.1
      · rw [if_pos e2] at h2 ⊢; exact lexI_tr _ _ _ h1 h2
      · rw [if_neg e2] at h2 ⊢; exact h2
    · rw [if_neg e] at h1
      by_cases e2 : b.1 = c.1
      · rw [← e2, if_neg e]; exact h1
      · rw [if_neg e2] at h2
        have h3 := lexI_tr _ _ _ h1 h2
        rw [if_neg (fun q => by rw [q] at h3; rw [lexI_asym _ _ h3] at h3; cases h3)]; exact h3
  · unfold lexP at h1 h2
    by_cases e : a.1 = b.1
    · rw [if_pos e] at h1; rw [if_pos e.symm] at h2
      exact Prod.ext e (lexI_tri _ _ h1 h2)
    · rw [if_neg e] at h1; rw [if_neg (Ne.symm e)] at h2; exact absurd (lexI_tri _ _ h1 h2) e
theorem ltE_K {fars : Int → List Int} {x y : Int × List Int} (h : ltE fars x y = false) : ltK fars x.1 y.1 = false := by
  unfold ltE at h
  unfold ltK
  split at h
  · rename_i e; rw [e]; exact (ltK_swo fars).irr y.1
  · exact h
noncomputable def Dis (fars : Int → List Int) (ns : List Int) : Prop := ns.Nodup ∧ ∀ a ∈ ns, ∀ b ∈ ns, fars a = fars b → a = b
theorem Dis.tri {fars : Int → List Int} {ns : List Int} (h : Dis fars ns) {a b : Int} (ha : a ∈ ns) (hb : b ∈ ns) (h1 : ltK fars a b = false) (h2 : ltK fars b a = false) : a = b := h.2 a ha b hb (lexI_tri _ _ h1 h2)
theorem Dis.perm {fars : Int → List Int} {ns ms : List Int} (h : Dis fars ns) (hp : ms.Perm ns) : Dis fars ms := ⟨hp.symm.nodup h.1, fun a ha b hb => h.2 a (hp.mem_iff.mp ha) b (hp.mem_iff.mp hb)⟩
theorem Dis.sub {fars : Int → List Int} {ns ms : List Int} (h : Dis fars ns) (hn : ms.Nodup) (hs : ∀ x ∈ ms, x ∈ ns) : Dis fars ms := ⟨hn, fun a ha b hb => h.2 a (hs a ha) b (hs b hb)⟩
theorem nodup_get {l : List Int} (h : l.Nodup) {i j : Nat} (hi : i < l.length) (hj : j < l.length) (hij : i ≠ j) : l.getD i default ≠ l.getD j default := by
  rw [List.getD_eq_getElem?_getD, List.getD_eq_getElem?_getD, List.getElem?_eq_getElem hi, List.getElem?_eq_getElem hj]
  intro e
  have e : l[i] = l[j] := e
  rw [List.nodup_iff_pairwise_ne, List.pairwise_iff_getElem] at h
  rcases Nat.lt_or_gt_of_ne hij with c | c
  · exact h i j hi hj c e
  · exact h j i hj hi c e.symm
theorem sortK_sorted {fars : Int → List Int} {ns : List Int} (hd : Dis fars ns) : (sortBy (ltK fars) ns).Pairwise (fun a b => ltK fars b a = false) :=
  sortBy_sorted (ltK_swo fars) fun i j hi hj hij h => by
    cases q : ltK fars (ns.getD j default) (ns.getD i default) with
    | true => rfl
    | false => exact absurd (hd.tri (getD_mem' hi) (getD_mem' hj) h q) (nodup_get hd.1 hi hj hij)
theorem sorted_unique {fars : Int → List Int} {ns S : List Int} (hd : Dis fars ns) (hp : S.Perm ns) (hs : S.Pairwise (fun a b => ltK fars b a = false)) : S = sortBy (ltK fars) ns :=
  List.Perm.eq_of_pairwise (le := fun a b => ltK fars b a = false) (fun a b ha hb h1 h2 => hd.tri (hp.mem_iff.mp ha) ((sortBy_perm ns).mem_iff.mp hb) h2 h1) hs (sortK_sorted hd) (hp.trans (sortBy_perm ns).symm)
theorem take_unique {fars : Int → List Int} {ns D R : List Int} (hd : Dis fars ns) (hp : (D ++ R).Perm ns) (hs : D.Pairwise (fun a b => ltK fars b a = false)) (hb : ∀ d ∈ D, ∀ r ∈ R, ltK fars r d = false) : D = (sortBy (ltK fars) ns).take D.length := by
  have hR : Dis fars R := hd.sub ((List.nodup_append.mp (hp.symm.nodup hd.1)).2.1) fun x hx => hp.mem_iff.mp (List.mem_append_right _ hx)
  have e : D ++ sortBy (ltK fars) R = sortBy (ltK fars) ns := sorted_unique hd ((List.Perm.append_left D (sortBy_perm R)).trans hp) (List.pairwise_append.mpr ⟨hs, sortK_sorted hR, fun d hdm r hr => hb d hdm r ((sortBy_perm R).mem_iff.mp hr)⟩)
  rw [← e, List.take_left]
theorem take_uniqueR {fars : Int → List Int} {ns D R : List Int} (hd : Dis fars ns) (hp : (D ++ R).Perm ns) (hs : D.Pairwise (fun a b => ltK fars a b = false)) (hb : ∀ d ∈ D, ∀ r ∈ R, ltK fars d r = false) : D = (sortBy (ltK fars) ns).reverse.take D.length := by
  have hR : Dis fars R := hd.sub ((List.nodup_append.mp (hp.symm.nodup hd.1)).2.1) fun x hx => hp.mem_iff.mp (List.mem_append_right _ hx)
  have e : sortBy (ltK fars) R ++ D.reverse = sortBy (ltK fars) ns := by
    refine sorted_unique hd ?_ (List.pairwise_append.mpr ⟨sortK_sorted hR, List.pairwise_reverse.mpr hs, fun r hr d hdm => hb d (List.mem_reverse.mp hdm) r ((sortBy_perm R).mem_iff.mp hr)⟩)
    exact (List.Perm.append (sortBy_perm R) (List.reverse_perm D)).trans (List.perm_append_comm.trans hp)
  rw [← e, List.reverse_append, List.reverse_reverse, List.take_left]
/-- the best is in the list, and none is better -/
theorem best_spec {lt : Int → Int → Bool} (S : SWO lt) : ∀ (l : List Int) (b : Int), bestF lt b l ∈ b :: l ∧ ∀ x ∈ b :: l, lt x (bestF lt b l) = false
  | [], b => ⟨.head _, fun x hx => by rw [List.mem_singleton.mp hx]; exact S.irr b⟩
  | y :: r, b => by
    have ih := best_spec S r (if lt y b then y else b)
    unfold bestF
    refine ⟨?_, fun x hx => ?_⟩
    · rcases List.mem_cons.mp ih.1 with h | h
      · rw [h]; split
        · exact .tail _ (.head _)
        · exact .head _
      · exact .tail _ (.tail _ h)
    · have h0 := ih.2 _ (.head _)
      rcases List.mem_cons.mp hx with rfl | hx
      · by_cases c : lt y x = true
        · rw [if_pos c] at h0 ⊢
          exact S.hle _ _ _ h0 (S.has _ _ c)
        · rw [if_neg c] at h0 ⊢; exact h0
      · rcases List.mem_cons.mp hx with rfl | hx
        · by_cases c : lt x b = true
          · rw [if_pos c] at h0 ⊢; exact h0
          · rw [if_neg c] at h0 ⊢
            exact S.hle _ _ _ h0 (by simpa using c)
        · exact ih.2 x (.tail _ hx)
theorem head_drop {ns : List Int} (h : 1 ≤ ns.length) : ns = ns.getD 0 0 :: ns.drop 1 := by
  cases ns with
  | nil => simp at h
  | cons x r => rfl
theorem best_eq {fars : Int → List Int} {ns : List Int} (hd : Dis fars ns) (hl : 1 ≤ ns.length) : [bestF (ltK fars) (ns.getD 0 0) (ns.drop 1)] = (sortBy (ltK fars) ns).take 1 := by
  have hb := best_spec (ltK_swo fars) (ns.drop 1) (ns.getD 0 0)
  rw [← head_drop hl] at hb
  generalize bestF (ltK fars) (ns.getD 0 0) (ns.drop 1) = b at hb
  exact take_unique (D := [b]) (R := ns.erase b) hd (List.perm_cons_erase hb.1).symm (by simp) fun d hdm r hr => by rw [List.mem_singleton.mp hdm]; exact hb.2 r (List.mem_of_mem_erase hr)
theorem bestG_eq {fars : Int → List Int} {ns : List Int} (hd : Dis fars ns) (hl : 1 ≤ ns.length) : [bestF (gtK fars) (ns.getD 0 0) (ns.drop 1)] = (sortBy (ltK fars) ns).reverse.take 1 := by
  have hb := best_spec (lt := gtK fars) (ltK_swo fars).flip (ns.drop 1) (ns.getD 0 0)
  rw [← head_drop hl] at hb
  generalize bestF (gtK fars) (ns.getD 0 0) (ns.drop 1) = b at hb
  exact take_uniqueR (D := [b]) (R := ns.erase b) hd (List.perm_cons_erase hb.1).symm (by simp) fun d hdm r hr => by rw [List.mem_singleton.mp hdm]; exact hb.2 r (List.mem_of_mem_erase hr)
end Mine
end
section
open PySem PySem.W PySem.Calls PyProof.Rows PyProof.Rows.LCg
set_option maxRecDepth 100000
set_option maxHeartbeats 8000000
namespace Mine
section
variable {prog : Program} {w : World} {A : Around} {E : Value → Shared → Prop} {s : Shared} {h₀ : Heap} {L l kS : Addr} {q : Addr} {m : Str → Option Value} {news nw2 : Led} {vs : List Value} {ns : List Int} {n : Nat} {kv : Int → Value} {fars : Int → List Int}
theorem keys_all {f : Value} {Fin : List Value → Nat → Shared → Prop} (hc : KCall prog w A f kv ns h₀ L m s news) (hs : ∀ p ∈ news, p ∈ nw2) (hoff : ∀ p ∈ nw2, p.1 ≠ kS) :
    ∀ (r : List Value) (rs done : List Int) (e : Nat) (h : Heap) (tk : Nat), Two IsI r rs → (∀ k ∈ rs, k ∈ ns) → Fr h₀ L h m → News h₀ L h ((kS, seqObj "list" (List.toArray (done.map kv)) e) :: nw2) →
      (∀ e h tk, Fr h₀ L h m → News h₀ L h ((kS, seqObj "list" (List.toArray ((done ++ rs).map kv)) e) :: nw2) → Fin ((done ++ rs).map kv) e { s with heap := h, toks := tk }) →
      KatKeys prog w A h₀ L m kS f Fin r (done.map kv) e { s with heap := h, toks := tk } := by
  intro r rs done e h tk hi
  induction hi generalizing done e h tk with
  | nil => intro _ F N fin; exact KatKeys.nil (by rw [List.append_nil] at fin; exact fin e h tk F N)
  | @cons y x r rs hv hr ih =>
    intro hk F N fin
    obtain ⟨t, rfl⟩ := hv
    refine KatKeys.cons (hc x (hk x (.head _)) t h tk _ (fun p hp => .tail _ (hs p hp)) F N _ _ fun h2 tk2 F2 N2 => ?_)
    refine ⟨_, _, F2, N2, UpdF.head hoff, fun h3 c3 F3 N3 => ?_⟩
    have e1 : done.map kv ++ [kv x] = (done ++ [x]).map kv := by simp
    rw [e1] at N3
    show KatKeys prog w A h₀ L m kS f Fin r (done.map kv ++ [kv x]) c3 _
    rw [e1]
    refine ih (done ++ [x]) c3 h3 tk2 (fun k hk' => hk k (.tail _ hk')) F3 N3 fun e h tk F N => ?_
    have e2 : done ++ [x] ++ rs = done ++ x :: rs := by simp
    rw [e2] at N ⊢
    exact fin e h tk F N
theorem sorted2_at {Q : Value → Shared → Prop} (F : Fr h₀ L s.heap m) (N : News h₀ L s.heap news) (hm : (l, listOf vs.toArray n) ∈ news) (hi : Two IsI vs ns) (hkl : KeyL news kv fars ns) (h2 : 2 ≤ ns.length) (h64 : ns.length < 64)
    (hc : KCall prog w A.in1.in1 (.ref q) kv ns h₀ L m s news) (hu : A.units + 9 < cLine)
    (h : ∀ D h' tk' n' ys, Two IsI ys (sortBy (ltK fars) ns) → Fr h₀ L h' m → News h₀ L h' ((D, listOf ys.toArray n') :: news) → (∀ p ∈ news, p.1 < D) → Q (.ref D) { s with heap := h', toks := tk' }) :
    wpAny (model prog w) A (call (.builtin "sorted") [.ref l] [(Str.ofString "key", .ref q)]) Q E s := by
  have hvl := hi.len
  refine kat_sortedK F N ⟨_, (N _ hm).1, rfl, _, rfl⟩ (by lia) (by lia) (ksk_s1 _ _) (fun x => ksk_l1 _ _) (fun x => ksk_t1 _ _) fun D kS e1 h' F' N' l0 l1 => ?_
  have hoD : ∀ p ∈ news, p.1 ≠ D := fun p hp => Nat.ne_of_lt (l1 p hp)
  refine keys_all (news := news) (nw2 := (D, seqObj "list" #[] e1) :: news) (s := s) hc (fun p hp => .tail _ hp) (fun p hp => ?_) vs ns [] 0 h' s.toks hi (fun k hk => hk) F' N' fun e h9 tk9 F9 N9 => ?_
  · rcases List.mem_cons.mp hp with rfl | hp
    · exact Nat.ne_of_lt l0
    · exact Nat.ne_of_lt (Nat.lt_trans (l1 p hp) l0)
  · have Nn : News h₀ L h9 news := fun p hp => N9 p (.tail _ (.tail _ hp))
    rw [List.nil_append] at N9 ⊢
    refine kind_keys (s := { s with heap := h9, toks := tk9 }) Nn hkl h2 ?_
    have hl : vs.length = (ns.map kv).length := by rw [List.length_map]; exact hvl
    show (kas_sort vs.length).kasWp (kas_ask prog w A.in1.in1 oneType' (ns.map kv)) _ _
    rw [hvl]
    refine sort_ask (lt := ltK fars) (by lia) (fun x hx y hy C hC => klt_keys (s := { s with heap := h9, toks := tk9 }) Nn hkl hx hy (by show A.units + 1 + 1 < cLine; lia) hC) ?_
    refine ⟨_, _, F9, N9, UpdF.head (fun p hp => ?_), fun h10 c10 F10 N10 => ?_⟩
    · rcases List.mem_cons.mp hp with rfl | hp
      · exact Nat.ne_of_lt l0
      · exact Nat.ne_of_lt (Nat.lt_trans (l1 p hp) l0)
    · refine ⟨_, _, F10, N10, UpdF.tail (Nat.ne_of_gt l0) (UpdF.head hoD), fun h11 c11 F11 N11 => ?_⟩
      refine h D h11 tk9 c11 ((sortIdx (fun i j => ltK fars (ns.getD i default) (ns.getD j default)) ns.length).map fun i => vs.getD i Value.none) ?_ F11 (News.less N11 fun p hp => ?_) l1
      · show Two IsI ((sortIdx (fun i j => ltK fars (ns.getD i default) (ns.getD j default)) ns.length).map fun i => vs.getD i Value.none) ((sortIdx (fun i j => ltK fars (ns.getD i default) (ns.getD j default)) ns.length).map fun i => ns.getD i default)
        have : ∀ l : List Nat, (∀ i ∈ l, i < ns.length) → Two IsI (l.map fun i => vs.getD i Value.none) (l.map fun i => ns.getD i default) := by
          intro l
          induction l with
          | nil => intro _; exact .nil
          | cons i r ih =>
            intro hl
            refine .cons ?_ (ih fun j hj => hl j (.tail _ hj))
            have hi' : i < vs.length := by have := hl i (.head _); lia
            refine hideG fun gG hG => ?_
            obtain ⟨b, hb, hv⟩ := hi.get (List.getElem?_eq_getElem hi')
            refine hG ?_
            try clear hG gG
            show IsI (vs.getD i Value.none) (ns.getD i default)
            rw [List.getD_eq_getElem?_getD, List.getD_eq_getElem?_getD, List.getElem?_eq_getElem hi', hb]
            exact hv
        exact this _ sortIdx_lt
      · rcases List.mem_cons.mp hp with rfl | hp
        · exact .tail _ (.head _)
        · exact .tail _ (.tail _ hp)
theorem sorted1_at {Q : Value → Shared → Prop} (F : Fr h₀ L s.heap m) (N : News h₀ L s.heap news) (hm : (l, listOf vs.toArray n) ∈ news) (hi : Two IsI vs ns) (h1 : ns.length = 1)
    (hc : KCall prog w A.in1.in1 (.ref q) kv ns h₀ L m s news)
    (h : ∀ D h' tk' n' ys, Two IsI ys (sortBy (ltK fars) ns) → Fr h₀ L h' m → News h₀ L h' ((D, listOf ys.toArray n') :: news) → (∀ p ∈ news, p.1 < D) → Q (.ref D) { s with heap := h', toks := tk' }) :
    wpAny (model prog w) A (call (.builtin "sorted") [.ref l] [(Str.ofString "key", .ref q)]) Q E s := by
  obtain ⟨v, x, rfl, rfl, hv⟩ : ∃ v x, vs = [v] ∧ ns = [x] ∧ IsI v x := by
    cases hi with
    | nil => cases h1
    | cons a b =>
      cases b with
      | nil => exact ⟨_, _, rfl, rfl, a⟩
      | cons _ _ => cases h1
  obtain ⟨t, rfl⟩ := hv
  have hls : s.heap.IsList l #[Value.int x t] := ⟨_, (N _ hm).1, rfl, _, rfl⟩
  have hL : L < s.heap.objs.size := F.ns.lt
  refine call_function_entry_kw kind_sorted plain_sorted entry_sorted (ksk_s1 _ _) ?_
  unfold Builtin.«sorted»
  refine wpAny_bind (m := checkCount "sorted" 1 1 _) (wpAny_pure ?_)
  refine wpAny_bind (collect_list hls ?_ (by rw [sizeLine_eq]; exact Nat.le_of_ble_eq_true rfl))
  refine wpAny_bind (wpAny_newList ?_ (by rw [sizeLine_eq]; exact Nat.le_of_ble_eq_true rfl))
  generalize hg0 : (s.heap.push (seqObj "list" #[] 0)).update s.heap.objs.size (Obj.mapSeq (· ++ #[Value.int x t])) = g0
  have hsz : g0.objs.size = s.heap.objs.size + 1 := by rw [← hg0, Heap.size_update, size_push']
  have keep : ∀ b o, s.heap.get? b = some o → g0.get? b = some o := fun b o q => by
    have hlt : b < s.heap.objs.size := Heap.lt_size q
    rw [← hg0, Heap.get?_update_ne _ _ _ _ (Nat.ne_of_lt hlt), Heap.get?_push_ne _ _ _ (Nat.ne_of_lt hlt)]
    exact q
  show wpAny _ _ _ _ _ { s with heap := g0.push (seqObj "list" #[Value.int x t] 0) }
  rw [hsz]
  generalize hD : s.heap.objs.size + 1 = D
  have oD : (g0.push (seqObj "list" #[Value.int x t] 0)).get? D = some (seqObj "list" #[Value.int x t] 0) := by
    rw [← hD, ← hsz]; exact Heap.get?_push_size _ rfl
  have keep1 : ∀ b o, s.heap.get? b = some o → (g0.push (seqObj "list" #[Value.int x t] 0)).get? b = some o := fun b o e => Heap.get?_push_of_some _ (keep b o e)
  have zD : (g0.push (seqObj "list" #[Value.int x t] 0)).objs.size = D + 1 := by rw [Heap.size_push, hsz, hD]
  generalize g0.push (seqObj "list" #[Value.int x t] 0) = g1 at oD keep1 zD
  have hLD : L < D := hD ▸ Nat.lt_succ_of_lt hL
  have haL : D ≠ L := Nat.ne_of_gt hLD
  have ha0 : h₀.get? D = none := Heap.get?_none_of_le (Nat.le_trans F.above (Nat.le_of_lt hLD))
  have F1 : Fr h₀ L g1 m := F.keeps keep1
  have N1 : News h₀ L g1 news := N.grown keep1
  have hlD : ∀ p ∈ news, p.1 < D := fun p hp => hD ▸ Nat.lt_succ_of_lt (Heap.lt_size (N p hp).1)
  have hoD : ∀ p ∈ news, p.1 ≠ D := fun p hp => Nat.ne_of_lt (hlD p hp)
  refine wpAny_bind (wpAny_holding (wpAny_call_entry_kw slot_list_sort ⟨_, oD, rfl⟩ entry_list_sort ?body (ksk_l1 _ _)))
  case body =>
    show wpAny (model prog w) A.in1.in1 (Builtin.«list.sort» ⟨[.ref D], [(Str.ofString "key", .ref q)]⟩) _ _ _
    rw [ksk_t1]
    have s1 := Heap.SameBut.update g1 D (Obj.mapSeq fun _ => (#[] : Array Value))
    refine hideG fun gG hG => ?_
    obtain ⟨e1, ho1⟩ : ∃ e1, (g1.update D (Obj.mapSeq fun _ => (#[] : Array Value))).get? D = some (seqObj "list" #[] e1) := ⟨_, get?_update_seq oD fun _ => #[]⟩
    refine hG ?_
    try clear hG gG
    unfold ksk_tree
    refine wpAny_bind (listItems_at oD rfl ?_)
    refine wpAny_bind (listUpdate_at oD rfl ?_ (by rw [sizeLine_eq]; exact Nat.le_of_ble_eq_true rfl) (Nat.zero_le _))
    refine wpAny_bind (seqEpoch_at ho1 rfl ?_)
    refine wpAny_bind (wpAny_newTuple ?_ (by show (1 : Nat) ≤ _; rw [sizeLine_eq]; exact Nat.le_of_ble_eq_true rfl))
    refine wpAny_bind (wpAny_newList ?_ (Nat.zero_le _))
    refine wpAny_holding ?_
    generalize hg2 : (g1.update D (Obj.mapSeq fun _ => (#[] : Array Value))).push (seqObj "tuple" #[Value.int x t] 0) = g2
    have z2 : g2.objs.size = D + 1 + 1 := by rw [← hg2, Heap.size_push, Heap.size_update, zD]
    show wpAny _ _ (ksk_rest D (.ref q) false #[Value.int x t] e1 (.ref g2.objs.size)) _ _ { s with heap := g2.push (seqObj "list" #[] 0) }
    have okS : (g2.push (seqObj "list" #[] 0)).get? g2.objs.size = some (seqObj "list" #[] 0) := Heap.get?_push_size _ rfl
    rw [z2] at okS ⊢
    have F3 : Fr h₀ L (g2.push (seqObj "list" #[] 0)) m := by rw [← hg2]; exact ((kas_fr F1 s1 haL ha0).push _).push _
    have up3 : ∀ b o, (g1.update D (Obj.mapSeq fun _ => (#[] : Array Value))).get? b = some o → (g2.push (seqObj "list" #[] 0)).get? b = some o := fun b o e => Heap.get?_push_of_some _ (by rw [← hg2]; exact Heap.get?_push_of_some _ e)
    have N3 : News h₀ L (g2.push (seqObj "list" #[] 0)) ((D + 1 + 1, seqObj "list" #[] 0) :: (D, seqObj "list" #[] e1) :: news) := fun p hp => by
      rcases List.mem_cons.mp hp with rfl | hp
      · exact ⟨okS, Nat.ne_of_gt (Nat.lt_succ_of_lt (Nat.lt_succ_of_lt hLD)), Heap.get?_none_of_le (Nat.le_trans F.above (Nat.le_of_lt (Nat.lt_succ_of_lt (Nat.lt_succ_of_lt hLD))))⟩
      · rcases List.mem_cons.mp hp with rfl | hp
        · exact ⟨up3 _ _ ho1, haL, ha0⟩
        · exact (kas_news N1 s1 hoD).grown up3 p hp
    generalize g2.push (seqObj "list" #[] 0) = g3 at F3 N3
    have hSD : D + 1 + 1 ≠ D := Nat.ne_of_gt (Nat.lt_succ_of_lt (Nat.lt_succ_self _))
    have hoS : ∀ p ∈ news, p.1 ≠ D + 1 + 1 := fun p hp => Nat.ne_of_lt (Nat.lt_succ_of_lt (Nat.lt_succ_of_lt (hlD p hp)))
    generalize D + 1 + 1 = S at N3 hSD hoS
    unfold ksk_rest
    refine wpAny_bind (wpAny_rule ?_)
    rw [show (forIn #[Value.int x t] PUnit.unit : (Value → PUnit → Sem (ForInStep PUnit)) → Sem PUnit) = forIn [Value.int x t] PUnit.unit from by funext f; rw [← Array.forIn_toList]]
    rw [List.forIn_cons]
    refine wpAny_bind (wpAny_bind (wpAny_bind (wpAny_attempt (hc x (.head _) t g3 s.toks _ (fun p hp => .tail _ (.tail _ hp)) F3 N3 _ _ fun h4 tk4 F4 N4 => ?_))))
    have nk := N4 _ (.head _)
    have s4 := Heap.SameBut.update h4 S (Obj.mapSeq (·.push (kv x)))
    refine hideG fun gG hG => ?_
    obtain ⟨c4, hc4⟩ : ∃ c4, (h4.update S (Obj.mapSeq (·.push (kv x)))).get? S = some (seqObj "list" #[kv x] c4) := ⟨_, get?_update_seq nk.1 (·.push (kv x))⟩
    refine hG ?_
    try clear hG gG
    dsimp only
    refine wpAny_bind (listUpdate_at nk.1 rfl ?_ (Nat.zero_le _) (by show (1 : Nat) ≤ _; rw [sizeLine_eq]; exact Nat.le_of_ble_eq_true rfl))
    refine wpAny_pure ?_
    show wpAny _ _ (forIn [] PUnit.unit _) _ _ _
    rw [List.forIn_nil]
    refine wpAny_pure ?_
    refine wpAny_bind (listItems_at hc4 rfl ?_)
    unfold ksk_end
    simp only [Bool.false_eq_true, if_false]
    have na := N4 (D, seqObj "list" #[] e1) (.tail _ (.head _))
    have F5 := kas_fr F4 s4 nk.2.1 nk.2.2
    have na5 : (h4.update S (Obj.mapSeq (·.push (kv x)))).get? D = some (seqObj "list" #[] e1) := (s4.2 D (Ne.symm hSD)).trans na.1
    have N5 : News h₀ L (h4.update S (Obj.mapSeq (·.push (kv x)))) news := kas_news (fun p hp => N4 p (.tail _ (.tail _ hp))) s4 hoS
    generalize h4.update S (Obj.mapSeq (·.push (kv x))) = h5 at hc4 F5 na5 N5
    have hn2 : #[Value.int x t].size < 2 := by show 1 < 2; decide
    rw [if_pos hn2]
    simp only [if_pos hn2]
    refine wpAny_bind (wpAny_pure ?_)
    rw [StateT.run_pure]
    refine wpAny_bind (wpAny_pure ?_)
    have hko : (arrOf (SortSt.mk' general' (#[kv x].zip #[Value.int x t]) #[] 7 none)).map (·.2) = #[Value.int x t] := by show (#[kv x].zip #[Value.int x t]).map (·.2) = _; simp
    unfold ksk_tail
    simp only [Bool.false_eq_true, if_false]
    rw [hko]
    have nk5 := nk.2
    have s6 := Heap.SameBut.update h5 S (Obj.mapSeq fun _ => (#[] : Array Value))
    refine wpAny_bind (listUpdate_at hc4 rfl ?_ (by show (1 : Nat) ≤ _; rw [sizeLine_eq]; exact Nat.le_of_ble_eq_true rfl) (Nat.zero_le _))
    refine wpAny_bind (wpAny_letGo ?_)
    have na6 := (s6.2 D (Ne.symm hSD)).trans na5
    have s7 := Heap.SameBut.update (h5.update S (Obj.mapSeq fun _ => (#[] : Array Value))) D (Obj.mapSeq fun _ => #[Value.int x t])
    refine hideG fun gG hG => ?_
    obtain ⟨c7, hc7⟩ : ∃ c7, ((h5.update S (Obj.mapSeq fun _ => (#[] : Array Value))).update D (Obj.mapSeq fun _ => #[Value.int x t])).get? D = some (seqObj "list" #[Value.int x t] c7) := ⟨_, get?_update_seq na6 fun _ => #[Value.int x t]⟩
    refine hG ?_
    try clear hG gG
    refine wpAny_bind (seqEpoch_at na6 rfl ?_)
    refine wpAny_bind (listUpdate_at na6 rfl ?_ (Nat.zero_le _) (by show (1 : Nat) ≤ _; rw [sizeLine_eq]; exact Nat.le_of_ble_eq_true rfl))
    simp only [bne_self_eq_false, Bool.false_eq_true, if_false]
    refine wpAny_pure ⟨_, rfl, wpAny_pure ⟨_, rfl, ?_⟩⟩
    have F6 := kas_fr F5 s6 nk5.1 nk5.2
    have N6 := kas_news N5 s6 hoS
    refine h D _ _ c7 [.int x t] (.cons ⟨t, rfl⟩ .nil) (kas_fr F6 s7 haL ha0) (fun p hp => ?_) hlD
    rcases List.mem_cons.mp hp with rfl | hp
    · exact ⟨hc7, haL, ha0⟩
    · exact kas_news N6 s7 hoD p hp
theorem sorted_at {Q : Value → Shared → Prop} (F : Fr h₀ L s.heap m) (N : News h₀ L s.heap news) (hm : (l, listOf vs.toArray n) ∈ news) (hi : Two IsI vs ns) (hkl : KeyL news kv fars ns) (h1 : 1 ≤ ns.length) (h64 : ns.length < 64)
    (hc : KCall prog w A.in1.in1 (.ref q) kv ns h₀ L m s news) (hu : A.units + 9 < cLine)
    (h : ∀ D h' tk' n' ys, Two IsI ys (sortBy (ltK fars) ns) → Fr h₀ L h' m → News h₀ L h' ((D, listOf ys.toArray n') :: news) → (∀ p ∈ news, p.1 < D) → Q (.ref D) { s with heap := h', toks := tk' }) :
    wpAny (model prog w) A (call (.builtin "sorted") [.ref l] [(Str.ofString "key", .ref q)]) Q E s := by
  by_cases c : ns.length = 1
  · exact sorted1_at F N hm hi c hc h
  · exact sorted2_at F N hm hi hkl (by lia) h64 hc hu h
end
end Mine
end
section
open PySem PySem.W PySem.Calls PyProof.Rows PyProof.Rows.LCg
set_option maxRecDepth 100000
set_option maxHeartbeats 8000000
namespace Mine
theorem lookup_object_new : typeLookup (.type "object") "__new__" = pure (some (.builtin "object.__new__")) := by rw [typeLookup_type, builtinLookup_eq_fast]; kernel_rfl
theorem mroObject : mroOf (.type "object") = pure [.type "object"] := by rw [mroOf_type]; kernel_rfl
theorem called_object : TypeCalled "object" "object.__new__" "object.__init__" :=
  ⟨by decide +kernel, by decide +kernel, ⟨_, _, mroObject⟩, madeBy_type mroObject lookup_object_new (by decide +kernel), by decide +kernel, by rw [isSubtype_type]; kernel_rfl, PySem.F.slot_object_init⟩
theorem typeCall_object_0 : checkTypeCall "object" ⟨[], []⟩ = pure () := by kernel_rfl
theorem newCall_object_0 : checkBuiltinCall "object.__new__" ⟨[.type "object"], []⟩ = pure () := by kernel_rfl
theorem args_object_init_1 (a : Value) : argsOk "object.__init__" ⟨[a], []⟩ := by
  unfold argsOk; rw [signature?_of (id := "object.__init__") (n := ['_', '_', 't', 'i', 'n', 'i', '_', '_']) (o := ['t', 'c', 'e', 'j', 'b', 'o']) (by kernel_rfl) F.owner_object]; kernel_rfl
theorem object_new_meets : Meets (Builtin.«object.__new__» ⟨[.type "object"], []⟩) (fun _ R s => R (.ok (.ret (.ref s.heap.objs.size))) { s with heap := s.heap.push { cls := .type "object", data := .plain } }) :=
  .of_wp fun prog w A R s h => by
    refine hideG fun gG hG => ?_
    obtain ⟨hp, g, d, tk, os⟩ := s
    refine hG ?_
    try clear hG gG
    have h1 : Bind.madeBy (.type "object") = pure (some "object.__new__") := called_object.made
    wp_walk
    exact ⟨_, rfl, h⟩
theorem object_init_nil (self : Value) : Meets (Builtin.«object.__init__» ⟨[self], []⟩) (fun _ R s => R (.ok (.ret .none)) s) :=
  .of_wp fun prog w A R s h => wpAny_pure ⟨_, rfl, h⟩
section
variable {prog : Program} {w : World} {A : Around} {E : Value → Shared → Prop} {s : Shared} {h₀ : Heap} {L : Addr} {m : Str → Option Value} {news : Led}
theorem object_at {Q : Value → Shared → Prop} (F : Fr h₀ L s.heap m) (N : News h₀ L s.heap news)
    (h : ∀ D h', Fr h₀ L h' m → News h₀ L h' ((D, { cls := .type "object", data := .plain }) :: news) → (∀ p ∈ news, p.1 < D) → Q (.ref D) { s with heap := h' }) :
    wpAny (model prog w) A (call (.type "object") []) Q E s := by
  refine callType_meets (Q₁ := fun obj s₁ => obj = .ref s.heap.objs.size ∧ s₁ = { s with heap := s.heap.push { cls := .type "object", data := .plain } }) called_object typeCall_object_0 newCall_object_0 PySem.F.entry_object_new PySem.F.entry_object_init object_new_meets ⟨rfl, rfl⟩ fun obj s₁ hq => ?_
  obtain ⟨rfl, rfl⟩ := hq
  refine ⟨⟨_, Heap.get?_push_size _ rfl, rfl⟩, args_object_init_1 _, _, object_init_nil _, rfl, ?_⟩
  exact h _ _ (F.push _) (News.push F N _ rfl) (fun q hq => Heap.lt_size (N q hq).1)
end
end Mine
end
section
open PySem PySem.W PySem.Calls PyProof.Rows PyProof.Rows.LCg
namespace Mine
section
variable {M : Model} {A : Around} {E : Value → Shared → Prop} {s : Shared} {env : Env}
theorem evalArgs_kw0 {f : Value} {keywords : List (Option Str × Sem Value)} {Q : Args → Shared → Prop}
    (hall : keywords.all (·.1.isSome) = true) (h : wpAny M A (evalAll (keywords.map (·.2))) (fun kvs s₂ => Q ⟨[], (keywords.filterMap (·.1)).zip kvs⟩ s₂) E s) :
    wpAny M A (evalArgs f true [] keywords) Q E s := by
  unfold evalArgs
  show wpAny M A (pure [] >>= _) Q E s
  refine wpAny_bind (wpAny_pure ?_)
  refine wpAny_bind (wpAny_pure ?_)
  refine wpAny_holding ?_
  rw [if_pos hall]
  refine wpAny_bind (wpAny_mono h (fun kvs s₂ h₂ => ?_) fun _ _ x => x)
  exact wpAny_bind (wpAny_pure (wpAny_pure h₂))
theorem callWith_mkw {pos : Pos} {id : String} {first : List Value} {kws : List Keyword} {Q : Value → Shared → Prop}
    (h : wpAny M A (evalAll ((backToKw pos (keywordEach kws env)).map (·.2))) (fun kvs s₂ => wpAny M A (call (.builtin id) (first ++ []) (((backToKw pos (keywordEach kws env)).filterMap (·.1)).zip kvs)) Q E s₂) E s)
    (hall : (backToKw pos (keywordEach kws env)).all (·.1.isSome) = true)
    (hkw : (backToKw pos (keywordEach kws env)).any (·.1.isNone) = false) :
    wpAny M A (callWith pos (.builtin id) first (backTo pos (starEach [] env)) (backToKw pos (keywordEach kws env))) Q E s :=
  callWith_builtin_kwB (args := []) rfl hkw (evalArgs_kw0 hall h)
end
end Mine
end
section
open PySem PySem.W PySem.Calls PyProof.Rows PyProof.Rows.LCg
set_option maxRecDepth 100000
set_option maxHeartbeats 8000000
namespace Mine
noncomputable def it0m (ns : List Int) (i : Nat) : Int × List Int := (ns.getD i 0, [-(i : Int), ns.getD i 0])
noncomputable def nlStep (fars : Int → List Int) (st : List (Int × List Int) × Int) (e : Int) : List (Int × List Int) × Int :=
  if lexI (fars (st.1.getD 0 default).1) (fars e) then (siftupL (ltE fars) (st.1.set 0 (e, [st.2, e])) 0, st.2 - 1) else st
noncomputable def nlInit (fars : Int → List Int) (ns : List Int) (n : Nat) : List (Int × List Int) × Int := (siftupL (ltE fars) ((List.range n).map (it0m ns)) 0, -(n : Int))
noncomputable def nlGen (fars : Int → List Int) (ns : List Int) (n : Nat) : List Int := (sortBR true (ltE fars) ((ns.drop n).foldl (nlStep fars) (nlInit fars ns n)).1).map fun x => x.2.getD 1 0
theorem small_down {n : Nat} (h : n < 100) : Builtin.Range.small 0 (-(n : Int)) (-1) = true := by
  have : ∀ m : Nat, m < 100 → Builtin.Range.small 0 (-(m : Int)) (-1) = true := by decide +kernel
  exact this n h
theorem size_down {n : Nat} (h : n < 100) : Builtin.Range.rangeSize 0 (-(n : Int)) (-1) = n := by
  have : ∀ m : Nat, m < 100 → Builtin.Range.rangeSize 0 (-(m : Int)) (-1) = m := by decide +kernel
  exact this n h
local macro_rules | `(tactic| walk_at "mine") => `(tactic| skip)
local macro_rules | `(tactic| walk_at $s:str) => Mine.stopAt ["call ref", "eval ListComp", "exec For Name Name cons nil", "exec Assign cons ListComp", "call builtin:len cons nil", "call builtin:iter", "call type:zip", "subscriptTail Name Constant ref int", "subscriptTail Subscript Constant ref int", "compareOp Lt ref ref", "call builtin:list.sort", "truthy ref"] s
inductive NlJ (D : Addr) (kv : Int → Value) (fars : Int → List Int) (ns : List Int) (n : Nat) (nx : Led) (i : Nat) (m : Str → Option Value) (fr : Led) (tl : Led) : Prop
  | mk0 (its : List TI) (q : Nat) (order : Int) (t : Tok) : (AllAre m [(Str.ofString "result", .ref D), (Str.ofString "top", kv (its.getD 0 default).2.1), (Str.ofString "order", .int order t), (Str.ofString "_heapreplace", .ref 42)]) → (fr = [(D, listOf (its.map tref).toArray q)]) → ((its.map Prod.snd, order) = ((ns.drop n).take i).foldl (nlStep fars) (nlInit fars ns n)) → (its.length = n) → (∀ p ∈ its, TupIn (tl ++ nx) kv p ∧ p.2.1 ∈ ns ∧ p.2.2.length = 2) → NlJ D kv fars ns n nx i m fr tl
theorem nlargest_spec (w : World) (a_1 fa : Addr) (vs : List Value) (ns : List Int) (k : Nat) (size : Int) (t1 : Tok) (oc : Value) (od : Option Addr) (fd : FuncData) (sl : Array (Option Value)) (kv : Int → Value) (fars : Int → List Int) (news : Led) (hm : (a_1, listOf vs.toArray k) ∈ news) (hi : Two IsI vs ns)
   (hfa : (fa, (⟨oc, od, .func fd, sl⟩ : Obj)) ∈ news) (hkf : KeyFn w (.ref fa) kv ns news) (hkl : KeyL news kv fars ns) (hs : size = 2 ∨ size = 3) (hr : ns.length < 10) (hlt : size < ns.length) :
   FnK w 60 600 (.ref 103) [.int size t1, .ref a_1] [(Str.ofString "key", .ref fa)] news (RetI news (nlGen fars ns size.toNat)) := by
  unfold FnK PG
  w_top off
  k_fill
  intro p loose mean mg mb dp un gd cn cs a ccd cl outer A₀ base h₀ L m s Q E B F X N T hk hd hu hret
  refine wpAny_call ?_
  k_dflt ((refine' code_defC ?k1 ?k2 ?k3 ?k4 ?k5 ?kA ?kF ?kK ?k6 ?k7 ?k8 ?k9 ?kB ?kD ?_ ?c2 ?c3 ?c4; (case kA => exact rfl); (case kF => exact rfl); (case kK => first | assumption | exact rfl); (case k1 => k_asm); (case k2 => k_asm); (case k3 => k_asm); (case k4 => k_asm); (case k5 => k_asm); (case k6 => k_is); (case k7 => k_is); (case k8 => ktr_room); (case k9 => first | exact BindsTo.of_eq rfl | exact binds_K (by k_in) rfl (by k_is) rfl rfl rfl); (case kB => exact rfl); (case kD => decide +kernel); (case c2 => exact rfl); (case c3 => exact rfl); (case c4 => exact rfl); k_whole; intro g1 L1 h1 tk1 cc1 FG1 F1 N1 Y1 B1 X1 T1 l1; k_cells Y1; (try simp only [List.cons_append, List.nil_append] at N1); (try dsimp only); (try k_fold)))
  refine noE ?_
  refine frG [(Str.ofString "n", .int size t1), (Str.ofString "iterable", .ref a_1)] F1 ⟨rfl, rfl, trivial⟩ fun mE hAE FE => ?_
  clear F1 hAE
  rename Fr g1 L1 _ _ => F1
  refine hideQ fun QR hRq => ?_
  rename_i oP d1
  replace d1 : oP.data = .cell (some (.ref fa)) := d1
  have hs1 : size ≠ 1 := by lia
  have hlv := hi.len
  clear A₀ B F X N T hk FG1 l1
  k_steps
  · exact absurd ‹size = 1› hs1
  rename_i hs1'
  refine lenv_at N1 (.tail _ hm) (by lia) ?_
  intro t2 tk2
  with_reducible first | refine k_flat (s := s) ?_ | (show wpAny _ _ _ _ _ _; refine k_flat (s := s) ?_)
  intro tkF
  have hge : ¬ (size ≥ (vs.length : Int)) := by lia
  k_steps
  rename_i h2 F2 N2
  refine iter_at F2 N2 (.tail _ hm) ?_
  intro It oI h3 F3 N3 lI hI
  with_reducible first | refine k_flat (s := s) ?_ | (show wpAny _ _ _ _ _ _; refine k_flat (s := s) ?_)
  intro tkF
  have hoff : ∀ p ∈ (L1 + 1, oP) :: news, p.1 ≠ It := fun p hp => Nat.ne_of_lt (lI p hp)
  have hmP : (L1 + 1, oP) ∈ (L1 + 1, oP) :: news := .head _
  have hmL : (a_1, listOf vs.toArray k) ∈ (L1 + 1, oP) :: news := .tail _ hm
  have hsub : ∀ p ∈ news, p ∈ (L1 + 1, oP) :: news := fun p hp => .tail _ hp
  have hkf' := hkf.mono hsub
  have hmF := hsub _ hfa
  have hkl' := hkl.mono hsub
  generalize (L1 + 1, oP) :: news = r1 at hoff hmP hmL hmF hsub N3 hkf' hkl'
  rename_i z2 z1
  clear hm hfa hkf hkl h1 tk1 hs1 hs1' z2 tk2 z1 hge h2 F2 N2 tk lI
  k_steps
  rename Fr g1 L1 _ _ => F4
  rename News g1 L1 _ _ => N4
  refine Stop.mk ?_
  refine Assign_ListComp_G (hs := by intro _; rfl) F4 rfl (by with_unfolding_all rfl) (by with_unfolding_all rfl) (by decide) (by rfl) (by decide) (by with_unfolding_all rfl) (by with_unfolding_all rfl) ?_
  k_steps
  rename IsRange _ _ _ _ _ _ _ _ => hR5
  rename Fr g1 L1 _ _ => F5
  rename News g1 L1 _ _ => N5
  refine Stop.mk ?_
  refine hideG fun gG hG => ?_
  obtain ⟨n, rfl⟩ : ∃ n : Nat, size = (n : Int) := ⟨size.toNat, by lia⟩
  refine hG ?_
  try clear hG gG
  refine src_zr (hh := by rfl) (hkind := by rfl) (hx1 := by rfl) (hx2 := by rfl) (p1 := (Str.ofString "i", _)) (p2 := (Str.ofString "elem", _)) (vs := vs) (n := n) _ F5 N5 hR5 (small_down (by lia)) (size_down (by lia)) hI hmL hoff (by lia) (fit9 (by lia)) (JT.nil rfl) (fun bad => turn_mapT ((List.range n).map (it0m ns)) (fun vals b => ∃ (i : Nat) (t t' : Tok), i < ns.length ∧ b = it0m ns i ∧ vals = [.int (-(i : Int)) t, .int (ns.getD i 0) t']) id (TupR kv) (fun _ _ _ _ hp => TupR.mono hp) ?_ ?_) ?_
  · rintro i vals hi' qG1
    refine hideG fun gG hG => ?_
    obtain ⟨t, v, hv, rfl⟩ := qG1
    obtain ⟨e, he, u, rfl⟩ := hi.get hv
    refine hG ?_
    try clear hG gG
    have hil : i < ns.length := by lia
    refine ⟨it0m ns i, by simp [hi'], i, t, u, hil, rfl, ?_⟩
    have e1 : ns.getD i 0 = e := by rw [List.getD_eq_getElem?_getD, he]; rfl
    rw [e1]
    have e2 : (0 : Int) + (i : Int) * (-1) = -(i : Int) := by lia
    rw [e2]
  · rintro b vals - qG2 h8 tk8 rest8 C8 oC8 m8 E8 hs8 hmC8 hC8 F8 N8
    refine hideG fun gG hG => ?_
    obtain ⟨i, t, t', hil, rfl, rfl⟩ := qG2
    refine hG ?_
    try clear hG gG
    have hx1 : putAll [Str.ofString "i", Str.ofString "elem"] [.int (-(i : Int)) t, .int (ns.getD i 0) t'] m8 (Str.ofString "i") = some (.int (-(i : Int)) t) := rfl
    have hx2 : putAll [Str.ofString "i", Str.ofString "elem"] [.int (-(i : Int)) t, .int (ns.getD i 0) t'] m8 (Str.ofString "elem") = some (.int (ns.getD i 0) t') := rfl
    generalize putAll [Str.ofString "i", Str.ofString "elem"] [.int (-(i : Int)) t, .int (ns.getD i 0) t'] m8 = m9 at hC8 hx1 hx2
    have hmem : ns.getD i 0 ∈ ns := getD_mem' hil
    have hbP := hs8 _ hmP
    have hkf8 := hkf'.mono hs8
    generalize he : ns.getD i 0 = e at hx2 hmem
    have hbF := hs8 _ hmF
    rename_i z8 z7 z6 z5 z4 z3 z2 z1
    clear k fars news hi hr hlv oI h3 hI tkF r1 hoff hmP hmL hmF hsub hkf' hkl' z8 z7 z6 z5 z4 z3 N5 z2 hs hlt hret z1 hR5 F5 bad m8 hs8 hil
    k_steps
    refine callWith_F (FnAt.of N8 hbF) ?_
    k_steps
    refine Stop.mk ?_
    refine Fn.use2 (hkf8 e hmem t' rest8 (fun _ h => h)) B1 F8 X1 N8 T1 rfl (by show dp + 1 + 5 < _; exact lim (d := dp) (a := 1 + 5) hd rfl) (by show un + 3 + 50 < _; exact lim (d := un) (a := 3 + 50) hu rfl) ?_
    intro h' tk' F9 N9
    with_reducible first | refine k_flat (s := s) ?_ | (show wpAny _ _ _ _ _ _; refine k_flat (s := s) ?_)
    intro tkF
    k_steps
    rename Fr g1 L1 _ _ => F10
    rename News g1 L1 _ _ => N10
    rename_i T10 h10 l10
    refine EE.mk [_] F10 N10 (fun p hp => hp) (fun q hq p hp => by rw [List.mem_singleton.mp hp]; exact l10 q hq) ⟨_, rfl, [.int (-(i : Int)) t, .int e t'], 0, ?_, ?_⟩
    · show _ ∈ [_]
      simp only [id, it0m, he]
      exact .head _
    · simp only [id, it0m, he]
      exact .cons ⟨t, rfl⟩ (.cons ⟨t', rfl⟩ .nil)
  · intro D h9 tk9 ys nw oI' F9 N9 hI' hnD hlD ⟨tl9, e9, ab9, hj9⟩
    refine hideG fun gG hG => ?_
    obtain ⟨its, rfl, hits, htup⟩ := tups_of hj9
    refine hG ?_
    try clear hG gG
    have hcl : ∀ p ∈ (It, oI') :: (D, lst (its.map tref)) :: nw, p.2.cls ≠ .type "list_iterator" → p.1 ≠ It := by
      intro p hp hc e
      have q1 := (N9 _ (.head _)).1
      have q2 := (N9 p hp).1
      rw [e] at q2
      have q3 : oI' = p.2 := Option.some.inj (q1.symm.trans q2)
      exact hc (q3 ▸ hI'.1)
    have hDI : It ≠ D := (hcl (D, lst (its.map tref)) (.tail _ (.head _)) (by intro h; injection h with h; exact absurd h (by decide))).symm
    have hlen : its.length = n := by
      have := congrArg List.length hits; simpa using this
    have hitsE : its.map Prod.snd = (List.range n).map (it0m ns) := by
      rw [hits]; simp only [List.map_id]; exact List.take_of_length_le (by simp)
    refine hideG fun gG hG => ?_
    obtain ⟨nx, hnx⟩ : ∃ nx : Led, nx = nw.filter (fun p => decide (p.1 ≠ It)) := ⟨_, rfl⟩
    refine hG ?_
    try clear hG gG
    have hnx1 : ∀ p ∈ nx, p ∈ nw ∧ p.1 ≠ It := fun p hp => by rw [hnx] at hp; simpa using List.mem_filter.mp hp
    have hnx2 : ∀ p ∈ nw, p.1 ≠ It → p ∈ nx := fun p hp h => by rw [hnx]; exact List.mem_filter.mpr ⟨hp, by simpa using h⟩
    have hr12 : ∀ p ∈ r1, p ∈ nx := fun p hp => hnx2 p (by rw [e9]; exact List.mem_append_right _ hp) (hoff p hp)
    have htup2 : ∀ p ∈ its, TupIn nx kv p ∧ p.2.1 ∈ ns ∧ p.2.2.length = 2 := fun p hp => ⟨by
        refine hideG fun gG hG => ?_
        obtain ⟨vs9, k9, m9, i9⟩ := htup p hp
        refine hG ?_
        try clear hG gG
        have m9' : (p.1, tupO (kv p.2.1 :: vs9) k9) ∈ nw := by rw [e9]; exact List.mem_append_left _ m9
        exact ⟨vs9, k9, hnx2 _ m9' (hcl _ (.tail _ (.tail _ m9')) (by intro h; injection h with h; exact absurd h (by decide))), i9⟩, by
      have : p.2 ∈ its.map Prod.snd := List.mem_map_of_mem hp
      rw [hitsE] at this
      refine hideG fun gG hG => ?_
      obtain ⟨i, hi1, hi2⟩ := List.mem_map.mp this
      refine hG ?_
      try clear hG gG
      rw [← hi2]
      exact ⟨getD_mem' (by have := List.mem_range.mp hi1; lia), rfl⟩⟩
    have hmP2 := hr12 _ hmP
    have hmL2 := hr12 _ hmL
    have hmF2 := hr12 _ hmF
    have hkf2 := hkf'.mono hr12
    have hkl2 := hkl'.mono hr12
    have hsub2 : ∀ p ∈ news, p ∈ nx := fun p hp => hr12 p (hsub p hp)
    have hoffI : ∀ p ∈ nx, p.1 ≠ It := fun p hp => (hnx1 p hp).2
    replace N9 : News g1 L1 h9 ((D, listOf (its.map tref).toArray (its.map tref).length) :: (It, oI') :: nx) := News.less N9 fun p hp => by
      rcases List.mem_cons.mp hp with rfl | hp
      · exact .tail _ (.head _)
      · rcases List.mem_cons.mp hp with rfl | hp
        · exact .head _
        · exact .tail _ (.tail _ (hnx1 p hp).1)
    have hoffD : ∀ p ∈ (It, oI') :: nx, p.1 ≠ D := fun p hp => by
      rcases List.mem_cons.mp hp with rfl | hp
      · exact hDI
      · exact hnD p (hnx1 p hp).1
    have hn2 : 2 ≤ n ∧ n ≤ 3 := by lia
    rename_i z8 z7 z6 z5 z4 z3 z2 z1
    clear oI h3 hI tkF r1 hoff hmP hmL hmF hsub hkf' hkl' z8 z7 z6 z5 z4 z3 N5 z2 hs z1 hR5 F5 hlD tl9 e9 ab9 hj9 hits htup hcl hnx hnx1 hnx2 hr12
    k_steps
    refine truthy_at (its := its) (val := tref) N9 (.head _) (fit62 (by lia)) ?_
    intro tk10
    rw [show decide (0 < its.length) = true from decide_eq_true (by lia)]
    k_steps
    refine Stop.mk ?_
    have hh : Fn w 20 200 (.ref 49) [.ref D] ((D, listOf (its.map tref).toArray (its.map tref).length) :: (It, oI') :: nx) (fun r news' => r = .none ∧ news' = (D, listOf ((siftupL (ltT fars) its 0).map tref).toArray (its.map tref).length) :: (It, oI') :: nx) := by
      have hc : CmpOn tref (ltT fars) its ((It, oI') :: nx) := (cmp_tups hkl2 fun p hp => ⟨(htup2 p hp).1, (htup2 p hp).2.1⟩).sub (fun _ h => h) fun p hp => .tail _ hp
      rcases Nat.lt_or_ge n 3 with h | h
      · exact heapify2_spec tref (ltT fars) w D its _ _ hc hoffD (by lia)
      · exact heapify3_spec tref (ltT fars) w D its _ _ hc hoffD (by lia)
    refine Fn.use2 hh B1 F9 X1 N9 T1 rfl (by show dp + 1 + 20 < _; exact lim (d := dp) (a := 1 + 20) hd rfl) (by show un + 3 + 200 < _; exact lim (d := un) (a := 3 + 200) hu rfl) ?_
    intro h' tk' F10 N10
    with_reducible first | refine k_flat (s := s) ?_ | (show wpAny _ _ _ _ _ _; refine k_flat (s := s) ?_)
    intro tkF
    have hp2 := siftupL_perm (ltT fars) (l := its) (p := 0) (by lia)
    have hitsE2 : (siftupL (ltT fars) its 0).map Prod.snd = (nlInit fars ns n).1 := by
      rw [← siftupL_map (ltT fars) Prod.snd rfl (ltE fars) (fun _ _ => rfl), hitsE]; rfl
    have hlen2 : (siftupL (ltT fars) its 0).length = n := hp2.length_eq.trans hlen
    have htup3 : ∀ p ∈ siftupL (ltT fars) its 0, TupIn nx kv p ∧ p.2.1 ∈ ns ∧ p.2.2.length = 2 := fun p hp => htup2 p (hp2.mem_iff.mp hp)
    generalize siftupL (ltT fars) its 0 = its2 at N10 hitsE2 hlen2 htup3
    generalize (its.map tref).length = nn at N10
    refine hideG fun gG hG => ?_
    obtain ⟨⟨vs0, k0, hm0, hi0⟩, he0, hz0⟩ := htup3 (its2.getD 0 default) (getD_mem' (by lia))
    refine hG ?_
    try clear hG gG
    rename_i z1
    clear z1 tkf h9 tk9 nw F9 hnD its hlen hitsE htup2 N9 tk10 hh tk' hp2
    k_steps
    refine it_at (hs := by with_unfolding_all rfl) (hg := by intro _; with_unfolding_all rfl) (its := its2) (val := tref) N10 (.head _) (by decide) (by lia) (fit62 (by lia)) ?_
    have hvl0 : vs0.length = (its2.getD 0 default).2.2.length := hi0.len
    with_reducible first | refine k_flat (s := s) ?_ | (show wpAny _ _ _ _ _ _; refine k_flat (s := s) ?_)
    intro tkF
    k_steps
    refine itt_at (hs := by with_unfolding_all rfl) (hg := by intro _; with_unfolding_all rfl) 0 rfl N10 (.tail _ (.tail _ hm0)) (by show vs0.length + 1 < 100; lia) rfl ?_
    with_reducible first | refine k_flat (s := s) ?_ | (show wpAny _ _ _ _ _ _; refine k_flat (s := s) ?_)
    intro tkF
    k_steps
    rename Fr g1 L1 _ _ => F12
    rename News g1 L1 _ _ => N12
    refine Stop.mk ?_
    refine wpAny_For ?_
    k_steps
    refine for_AI (hh := by rfl) (hE := by passes_own) (its := vs) (k := k) (i0 := n) (fr₀ := [(D, listOf (its2.map tref).toArray nn)]) (news := nx) (oI := oI') [D]
      (NlJ D kv fars ns n nx)
      F12 (News.less N12 fun p hp => ?_) hI' (fun p hp => ?_) (by lia) rfl (fun a ha p hp => by rw [List.mem_singleton.mp ha]; exact hoffD p (.tail _ hp)) hmL2 ⟨its2, nn, _, _, ⟨rfl, rfl, rfl, rfl, trivial⟩, rfl, by rw [hitsE2]; rfl, hlen2, htup3⟩ ?_ ?_
    · rcases List.mem_cons.mp hp with rfl | hp
      · exact .tail _ (.head _)
      · rcases List.mem_cons.mp hp with rfl | hp
        · exact .head _
        · exact .tail _ (.tail _ hp)
    · rcases List.mem_cons.mp hp with rfl | hp
      · exact hDI.symm
      · exact hoffI p hp
    · rintro i v m fr tl rest h tk hi' hv qG3 - F13 N13 hsR off I R hR
      refine hideG fun gG hG => ?_
      obtain ⟨its, q, order, t, hA, rfl, hst, hln, htu⟩ := qG3
      refine hG ?_
      try clear hG gG
      rw [List.getElem?_drop] at hv
      refine hideG fun gG hG => ?_
      obtain ⟨e, he, u, rfl⟩ := hi.get hv
      refine hG ?_
      try clear hG gG
      have hel : e ∈ ns := List.mem_of_getElem? he
      refine wpAny_pure ?_
      have hoD := off D (.head _)
      replace N13 : News g1 L1 h ((D, listOf (its.map tref).toArray q) :: rest) := N13
      have hsx : ∀ p ∈ nx, p ∈ rest := fun p hp => hsR p (List.mem_append_right _ hp)
      have aP : (L1 + 1, oP) ∈ (D, listOf (its.map tref).toArray q) :: rest := .tail _ (hsx _ hmP2)
      have aF : (fa, (⟨oc, od, .func fd, sl⟩ : Obj)) ∈ (D, listOf (its.map tref).toArray q) :: rest := .tail _ (hsx _ hmF2)
      have hkf3 := hkf2.mono hsx
      have hkl3 := hkl2.mono hsx
      have htu2 : ∀ p ∈ its, TupIn rest kv p ∧ p.2.1 ∈ ns ∧ p.2.2.length = 2 := fun p hp => ⟨(htu p hp).1.mono hsR, (htu p hp).2⟩
      refine hideG fun gG hG => ?_
      obtain ⟨ae, va, ke, hke, hme, hie⟩ := hkl3 e hel
      refine hG ?_
      try clear hG gG
      have h0t := htu2 (its.getD 0 default) (getD_mem' (by lia))
      refine hideG fun gG hG => ?_
      obtain ⟨at0, vt, kt, hkt, hmt, hit⟩ := hkl3 _ h0t.2.1
      refine hG ?_
      try clear hG gG
      have hLe : LI rest (.ref ae) (fars e) := ⟨ae, va, ke, rfl, hme, hie⟩
      have hLt : LI rest (.ref at0) (fars (its.getD 0 default).2.1) := ⟨at0, vt, kt, rfl, hmt, hit⟩
      rw [hkt] at hA
      replace F13 := frOv F13 hA
      rename_i z6 z5 z4 z3 z2 z1 _
      clear a_1 vs k t1 news hi hr mE hlv t2 It hlt hret oI' hI' hDI hmP2 hmL2 hmF2 hkf2 hkl2 hsub2 hoffI hoffD h' z6 its2 hitsE2 hlen2 htup3 nn vs0 k0 hm0 hi0 he0 hz0 hvl0 z5 tkF z4 z3 z2 z1 F12 N12 hi' off I hv hsx va ke hme hie h0t vt kt hmt hit
      k_steps
      rename News g1 L1 _ _ => N14
      refine callWith_F (FnAt.of N14 aF) ?_
      k_steps
      rename Fr g1 L1 _ _ => F14
      refine Stop.mk ?_
      refine Fn.use2 (hkf3 e hel u _ (fun p hp => .tail _ hp)) B1 F14 X1 N14 T1 rfl (by show dp + 1 + 5 < _; exact lim (d := dp) (a := 1 + 5) hd rfl) (by show un + 3 + 50 < _; exact lim (d := un) (a := 3 + 50) hu rfl) ?_
      intro h' tk' F15 N15
      rw [hke]
      with_reducible first | refine k_flat (s := s) ?_ | (show wpAny _ _ _ _ _ _; refine k_flat (s := s) ?_)
      intro tkF
      rename_i z1
      clear h tk z1 F14 N14 tkf tk'
      k_steps
      rename News g1 L1 _ _ => N16
      refine Stop.mk ?_
      refine key_lt N16 (hLt.mono fun p hp => .tail _ hp) (hLe.mono fun p hp => .tail _ hp) (by show un + 3 < cLine; exact lim (d := un) (a := 3) hu rfl) _ _ _ _ ?_
      cases hb : lexI (fars (its.getD 0 default).2.1) (fars e) with
      | false =>
        k_steps
        refine hR _ _ ?_
        refine FE.mk [(D, listOf (its.map tref).toArray q)] [] (by assumption) N16 (fun p hp => hp) rfl Above.nil (fun _ _ _ h => nomatch h) ⟨its, q, order, t, ⟨rfl, congrArg some hkt.symm, rfl, rfl, trivial⟩, rfl, ?_, hln, htu⟩
        rw [take_snoc (by rw [List.getElem?_drop]; exact he), List.foldl_append, ← hst]
        show _ = nlStep fars _ e
        unfold nlStep
        rw [if_neg]
        show ¬ lexI (fars ((its.map Prod.snd).getD 0 default).1) (fars e) = true
        rw [getD_map Prod.snd rfl, hb]; decide
      | true =>
        k_steps
        refine Stop.mk ?_
        rename _ ∧ AllLt _ rest => lT
        rename Fr g1 L1 _ _ => F17
        rename News g1 L1 _ _ => N17
        rename_i T h17
        have hz : TupIn ((T, tupO [.ref ae, .int order t, .int e u] 0) :: rest) kv (T, (e, [order, e])) := ⟨[.int order t, .int e u], 0, by show (T, tupO (kv e :: _) 0) ∈ _; rw [hke]; exact .head _, .cons ⟨t, rfl⟩ (.cons ⟨u, rfl⟩ .nil)⟩
        have hoT : ∀ p ∈ (T, tupO [.ref ae, .int order t, .int e u] 0) :: rest, p.1 ≠ D := fun p hp => by
          rcases List.mem_cons.mp hp with rfl | hp
          · exact Nat.ne_of_gt lT.1
          · exact hoD p hp
        have htu4 : ∀ p ∈ its ++ [(T, (e, [order, e]))], TupIn ((T, tupO [.ref ae, .int order t, .int e u] 0) :: rest) kv p ∧ p.2.1 ∈ ns ∧ p.2.2.length = 2 := fun p hp => by
          rcases List.mem_append.mp hp with hp | hp
          · exact ⟨(htu2 p hp).1.mono fun _ h => .tail _ h, (htu2 p hp).2⟩
          · rw [List.mem_singleton.mp hp]; exact ⟨hz, hel, rfl⟩
        refine Fn.use2 (heapreplace_spec tref (ltT fars) w D (T, (e, [order, e])) its q _ (cmp_tups (hkl3.mono fun _ h => .tail _ h) fun p hp => ⟨(htu4 p hp).1, (htu4 p hp).2.1⟩) hoT (by lia) (by lia)) B1 F17 X1 (News.less N17 fun p hp => ?_) T1 rfl (by show dp + 1 + 20 < _; exact lim (d := dp) (a := 1 + 20) hd rfl) (by show un + 3 + 200 < _; exact lim (d := un) (a := 3 + 200) hu rfl) ?_
        · refine subE ?_ _ hp
          walk_at "sub"
        intro h' tk' F18 N18
        with_reducible first | refine k_flat (s := s) ?_ | (show wpAny _ _ _ _ _ _; refine k_flat (s := s) ?_)
        intro tkF
        have hp2 := siftupL_perm (ltT fars) (l := its.set 0 (T, (e, [order, e]))) (p := 0) (by rw [List.length_set]; lia)
        have hE2 : (siftupL (ltT fars) (its.set 0 (T, (e, [order, e]))) 0).map Prod.snd = siftupL (ltE fars) ((its.map Prod.snd).set 0 (e, [order, e])) 0 := by
          rw [← siftupL_map (ltT fars) Prod.snd rfl (ltE fars) (fun _ _ => rfl), List.map_set]
        have hl2 : (siftupL (ltT fars) (its.set 0 (T, (e, [order, e]))) 0).length = n := by rw [hp2.length_eq, List.length_set]; exact hln
        have htu5 : ∀ p ∈ siftupL (ltT fars) (its.set 0 (T, (e, [order, e]))) 0, p = (T, (e, [order, e])) ∨ p ∈ its := fun p hp => (List.mem_or_eq_of_mem_set (hp2.mem_iff.mp hp)).symm
        generalize siftupL (ltT fars) (its.set 0 (T, (e, [order, e]))) 0 = its3 at N18 hE2 hl2 htu5
        have htu6 : ∀ p ∈ its3, TupIn ((T, tupO [.ref ae, .int order t, .int e u] 0) :: rest) kv p ∧ p.2.1 ∈ ns ∧ p.2.2.length = 2 := fun p hp => htu4 p (by
          rcases htu5 p hp with rfl | h
          · exact List.mem_append_right _ (.head _)
          · exact List.mem_append_left _ h)
        refine hideG fun gG hG => ?_
        obtain ⟨⟨vs0, k0, hm0, hi0⟩, he0, hz0⟩ := htu6 (its3.getD 0 default) (getD_mem' (by lia))
        refine hG ?_
        try clear hG gG
        rename_i z3 z2 z1
        clear oc od fd sl aP aF htu2 hLe hLt z3 z2 z1 tkf h17 F17 N17 hz hoT htu4 tk' hp2
        k_steps
        refine it_at (hs := by with_unfolding_all rfl) (hg := by intro _; with_unfolding_all rfl) (its := its3) (val := tref) N18 (.head _) (by decide) (by lia) (fit62 (by lia)) ?_
        with_reducible first | refine k_flat (s := s) ?_ | (show wpAny _ _ _ _ _ _; refine k_flat (s := s) ?_)
        intro tkF
        k_steps
        obtain ⟨o1, e1, hoe⟩ : ∃ o1 e1, (its3.getD 0 default).2.2 = [o1, e1] := by
          match h : (its3.getD 0 default).2.2, hz0 with
          | [a, b], _ => exact ⟨a, b, rfl⟩
        rw [hoe] at hi0
        obtain ⟨t9, t10, rfl⟩ : ∃ t9 t10, vs0 = [.int o1 t9, .int e1 t10] := by
          cases hi0 with
          | cons h r => cases r with
            | cons h2 r2 =>
              cases r2
              refine hideG fun gG hG => ?_
              obtain ⟨t9, rfl⟩ := h
              obtain ⟨t10, rfl⟩ := h2
              refine hG ?_
              try clear hG gG
              exact ⟨_, _, rfl⟩
        refine hideG fun gG hG => ?_
        obtain ⟨a9, v9, k9, hk9, hm9, hi9⟩ := hkl3 _ he0
        refine hG ?_
        try clear hG gG
        rw [hk9] at hm0
        have zT := N18 _ (.tail _ hm0)
        refine assign_Tuple_tuple (items := #[.ref a9, .int o1 t9, .int e1 t10]) rfl ⟨_, zT.1, rfl, _, rfl⟩ (by rfl) (by rfl) fun h19 he19 => ?_
        have up19 := fun b o (x : h'.get? b = some o) => he19 b o (Nat.ne_of_lt (Heap.lt_size x)) x
        replace F18 := F18.keeps up19
        replace N18 := N18.grown up19
        clear k0 he0 hz0 hoe hi0 hm0 v9 k9 hm9 hi9 zT he19 up19
        k_steps
        rename Fr g1 L1 _ _ => F20
        rename News g1 L1 _ _ => N20
        refine hR _ _ ?_
        refine FE.mk [(D, listOf (its3.map tref).toArray q)] [(T, tupO [.ref ae, .int order t, .int e u] 0)] F20 N20 (fun p hp => hp) rfl (fun q hq p hp => ?_) (fun a ha p hp => ?_) ⟨its3, q, order - 1, _, ⟨rfl, congrArg some hk9.symm, rfl, rfl, trivial⟩, rfl, ?_, hl2, ?_⟩
        · rw [List.mem_singleton.mp hp]; exact allLt_get lT.2 q hq
        · rw [List.mem_singleton.mp hp, List.mem_singleton.mp ha]; exact lT.1
        · rw [take_snoc (by rw [List.getElem?_drop]; exact he), List.foldl_append, ← hst]
          show _ = nlStep fars _ e
          unfold nlStep
          rw [if_pos, hE2]
          show lexI (fars ((its.map Prod.snd).getD 0 default).1) (fars e) = true
          rw [getD_map Prod.snd rfl, hb]
        · intro p hp
          rcases htu5 p hp with rfl | h
          · exact ⟨⟨[.int order t, .int e u], 0, by show (T, tupO (kv e :: _) 0) ∈ _; rw [hke]; exact .head _, .cons ⟨t, rfl⟩ (.cons ⟨u, rfl⟩ .nil)⟩, hel, rfl⟩
          · exact ⟨(htu p h).1.mono fun _ h => .tail _ h, (htu p h).2⟩
    · rintro h9 tk9 m fr tl qG4 - F13 N13 off ab ab2
      refine hideG fun gG hG => ?_
      obtain ⟨its, q, order, t, hA, rfl, hst, hln, htu⟩ := qG4
      refine hG ?_
      try clear hG gG
      have hvl : (vs.drop n).length = (ns.drop n).length := by simp [hlv]
      rw [hvl, List.take_length] at hst
      have hoD := off D (.head _)
      replace N13 : News g1 L1 h9 ((D, listOf (its.map tref).toArray q) :: (tl ++ nx)) := N13
      have hsx : ∀ p ∈ news, p ∈ tl ++ nx := fun p hp => List.mem_append_right _ (hsub2 p hp)
      have hkl3 := hkl2.mono (fun p hp => List.mem_append_right tl hp)
      generalize tl ++ nx = rest at N13 hoD hsx hkl3 htu
      replace F13 := frOv F13 hA
      rename_i z6 z5 z4 z3 z2 z1 _
      clear a_1 vs k t1 oc od fd sl hi hr mE hlv t2 It hlt oI' hI' hDI nx hmP2 hmL2 hmF2 hkf2 hkl2 hsub2 hoffI hoffD h' z6 its2 hitsE2 hlen2 htup3 nn vs0 k0 hm0 hi0 he0 hz0 hvl0 z5 tkF z4 z3 z2 z1 F12 N12 tl off ab ab2 hvl
      k_steps
      refine callWith_mkw (hall := by rfl) (hkw := by rfl) ?_
      k_steps
      refine Stop.mk ?_
      refine lsortR_at (κ := tuples' true) (val := tref) (lt := ltT fars) (its := its) F13 N13 hoD (by lia) (by lia) (fun h' N' C hC => kind_tups N' hkl3 (fun p hp => ⟨(htu p hp).1, (htu p hp).2.1⟩) (by lia) hC) (fun h' N' x hx y hy C hC => klt_tups N' hkl3 ⟨(htu x hx).1, (htu x hx).2.1⟩ ⟨(htu y hy).1, (htu y hy).2.1⟩ (by show un + 3 + 1 < cLine; exact lim (d := un) (a := 3 + 1) hu rfl) hC) ?_
      intro h14 q14 F14 N14
      with_reducible first | refine k_flat (s := s) ?_ | (show wpAny _ _ _ _ _ _; refine k_flat (s := s) ?_)
      intro tkF
      have hp14 := sortBR_perm true (ltT fars) its
      have hE14 : (sortBR true (ltT fars) its).map Prod.snd = sortBR true (ltE fars) ((ns.drop n).foldl (nlStep fars) (nlInit fars ns n)).1 := by
        rw [← hst, ← sortBR_map true (ltT fars) Prod.snd rfl (ltE fars) (fun _ _ => rfl)]
      have htu14 : ∀ p ∈ sortBR true (ltT fars) its, TupIn rest kv p ∧ p.2.1 ∈ ns ∧ p.2.2.length = 2 := fun p hp => htu p (hp14.mem_iff.mp hp)
      have hl14 : (sortBR true (ltT fars) its).length = n := hp14.length_eq.trans hln
      generalize sortBR true (ltT fars) its = its2 at N14 hE14 htu14 hl14
      rename_i z1
      clear fa oP d1 z1 tkf h9 tk9 q hA hst hln N13 htu F13 hp14
      k_steps
      refine Stop.mk ?_
      rename Fr g1 L1 _ _ => F15
      rename News g1 L1 _ _ => N15
      refine ListComp_G (hs := by intro _; rfl) F15 (by with_unfolding_all rfl) (by decide) (by rfl) (by decide) ?_
      k_steps
      have hV : ∀ i, ∃ V : List Value, i < its2.length → (V.length = 3 ∧ ∃ k, ((its2.getD i default).1, tupO V k) ∈ rest) ∧ ∃ v1 v2 t, V = [v1, v2, .int ((its2.getD i default).2.2.getD 1 0) t] := fun i => by
        by_cases c : i < its2.length
        · refine hideG fun gG hG => ?_
          obtain ⟨⟨vs9, k9, hm9, hi9⟩, _, hz9⟩ := htu14 _ (getD_mem' c)
          refine hG ?_
          try clear hG gG
          refine ⟨_, fun _ => ⟨⟨?_, k9, hm9⟩, ?_⟩⟩
          · rw [List.length_cons, hi9.len, hz9]
          · match h : (its2.getD i default).2.2, hz9 with
            | [o1, e1], _ =>
              rw [h] at hi9
              cases hi9 with
              | cons ha r =>
                cases r with
                | cons hb r2 =>
                  cases r2
                  obtain ⟨t, rfl⟩ := hb
                  exact ⟨_, _, t, rfl⟩
        · exact ⟨[], fun h => absurd h c⟩
      obtain ⟨V, hV⟩ := Classical.skolem.mp hV
      have hg : ∀ i v, (its2.map tref)[i]? = some v → i < its2.length ∧ v = .ref (its2.getD i default).1 := fun i v hv => by
        rw [List.getElem?_map] at hv
        have hi : i < its2.length := by
          by_cases c : i < its2.length
          · exact c
          · rw [List.getElem?_eq_none (Nat.le_of_not_lt c)] at hv; cases hv
        refine ⟨hi, ?_⟩
        rw [List.getD_eq_getElem?_getD, List.getElem?_eq_getElem hi] at *
        simpa using hv.symm
      have hDr : ∀ p ∈ rest, p ∈ (D, listOf (its2.map tref).toArray q14) :: rest := fun p hp => .tail _ hp
      refine src_tups (hh := by rfl) (hkind := by rfl) (ps := [(Str.ofString "k", _), (Str.ofString "order", _), (Str.ofString "elem", _)]) (its := its2.map tref) (Ts := fun i => (its2.getD i default).1) (vals := V) _ F15 N15 (.head _) (fun i v hv => ⟨(hg i v hv).2, (hV i (hg i v hv).1).1.1, by obtain ⟨k, hk⟩ := (hV i (hg i v hv).1).1.2; exact ⟨k, hDr _ hk⟩⟩) (fit9 (by simp; lia)) (JT.nil rfl) (fun bad => turn_mapT its2 (fun vals x => ∃ v1 v2 t, vals = [v1, v2, .int (x.2.2.getD 1 0) t]) (fun x => x.2.2.getD 1 0) (fun _ v b => IsI v b) (fun _ _ _ _ _ h => h) ?_ ?_) ?_ ?_ ?_ ?_
      · rintro i vals hi rfl
        have hi' : i < its2.length := by simpa using hi
        refine ⟨its2[i], List.getElem?_eq_getElem hi', ?_⟩
        have := (hV i hi').2
        have e0 : its2.getD i default = its2[i] := by rw [List.getD_eq_getElem?_getD, List.getElem?_eq_getElem hi']; rfl
        rwa [e0] at this
      · rintro x vals hx qG5 h8 tk8 rest8 C8 oC8 m8 E8 hs8 hmC8 hC8 F8 N8
        refine hideG fun gG hG => ?_
        obtain ⟨v1, v2, t8, rfl⟩ := qG5
        refine hG ?_
        try clear hG gG
        have hx1 : putAll [Str.ofString "k", Str.ofString "order", Str.ofString "elem"] [v1, v2, .int (x.2.2.getD 1 0) t8] m8 (Str.ofString "elem") = some (.int (x.2.2.getD 1 0) t8) := rfl
        replace hC8 : NsObj oC8 (putAll [Str.ofString "k", Str.ofString "order", Str.ofString "elem"] [v1, v2, .int (x.2.2.getD 1 0) t8] m8) := hC8
        generalize putAll [Str.ofString "k", Str.ofString "order", Str.ofString "elem"] [v1, v2, .int (x.2.2.getD 1 0) t8] m8 = m9 at hC8 hx1
        generalize x.2.2.getD 1 0 = e8 at hx1
        rename_i z1
        clear ns fars news hd hu n hret hn2 rest hoD hsx hkl3 q14 F15 its2 N15 hE14 htu14 hl14 z1 V hV hg hDr bad x hx m8 hs8 v1 v2
        k_steps
        exact EE.pure F8 N8 ⟨_, rfl⟩
      · intro D9 h9 tk9 ys nw F9 N9 hnD hlD ⟨tl9, e9, ab9, hj9⟩
        have hj9 : Two IsI ys (its2.map fun x => x.2.2.getD 1 0) := by simpa using hj9
        refine hRq _ _ ?_
        k_steps
        refine leaveK_ F9 N9 fun kF kN => ?_
        have hss : ∀ p ∈ news, p ∈ (D, listOf (its2.map tref).toArray q14) :: rest := fun p hp => .tail _ (hsx p hp)
        refine hret (.ref D9) ((D9, lst ys) :: news) h9 tk9 kF (News.less kN fun p hp => ?_) ⟨D9, ys, _, rfl, rfl, ?_, fun p hp => hlD p (hss p hp)⟩
        · rcases List.mem_cons.mp hp with rfl | hp
          · exact .head _
          · exact .tail _ (by rw [e9]; exact List.mem_append_right _ (hss p hp))
        · have e : (its2.map fun x => x.2.2.getD 1 0) = nlGen fars ns n := by
            unfold nlGen; rw [← hE14, List.map_map]; rfl
          rw [e] at hj9
          exact hj9
      · intro p hp
        simp only [List.mem_cons, List.not_mem_nil, or_false] at hp
        rcases hp with rfl | rfl | rfl <;> rfl
      · intro e; rfl
      · intro e; rfl
end Mine
end
section
open PySem PySem.W PySem.Calls PyProof.Rows
namespace Mine
theorem siftup_top {α : Type} [Inhabited α] {lt : α → α → Bool} (S : SWO lt) {l : List α} (h : l.length = 2 ∨ l.length = 3) : ∀ x ∈ siftupL lt l 0, lt x ((siftupL lt l 0).getD 0 default) = false := by
  have ir := S.irr
  have has := S.has
  have hle := S.hle
  have mix := S.mix
  have tr := S.tr
  match l, h with
  | [a, b], _ =>
    cases hab : lt a b with
    | true =>
      have e : siftupL lt [a, b] 0 = [a, b] := by simp [siftupL, suLoop, kid, siftdownL, sdLoop, hab]
      rw [e]; intro x hx
      simp only [List.mem_cons, List.not_mem_nil, or_false] at hx
      rcases hx with rfl | rfl
      · exact ir _
      · exact has _ _ hab
    | false =>
      have e : siftupL lt [a, b] 0 = [b, a] := by simp [siftupL, suLoop, kid, siftdownL, sdLoop, hab]
      rw [e]; intro x hx
      simp only [List.mem_cons, List.not_mem_nil, or_false] at hx
      rcases hx with rfl | rfl
      · exact ir _
      · exact hab
  | [a, b, c], _ =>
    cases hbc : lt b c with
    | true =>
      cases hab : lt a b with
      | true =>
        have e : siftupL lt [a, b, c] 0 = [a, b, c] := by simp [siftupL, suLoop, kid, siftdownL, sdLoop, hab, hbc]
        rw [e]; intro x hx
        simp only [List.mem_cons, List.not_mem_nil, or_false] at hx
        rcases hx with rfl | rfl | rfl
        · exact ir _
        · exact has _ _ hab
        · exact has _ _ (tr _ _ _ hab hbc)
      | false =>
        have e : siftupL lt [a, b, c] 0 = [b, a, c] := by simp [siftupL, suLoop, kid, siftdownL, sdLoop, hab, hbc]
        rw [e]; intro x hx
        simp only [List.mem_cons, List.not_mem_nil, or_false] at hx
        rcases hx with rfl | rfl | rfl
        · exact ir _
        · exact hab
        · exact has _ _ hbc
    | false =>
      cases hac : lt a c with
      | true =>
        have e : siftupL lt [a, b, c] 0 = [a, b, c] := by simp [siftupL, suLoop, kid, siftdownL, sdLoop, hac, hbc]
        rw [e]; intro x hx
        simp only [List.mem_cons, List.not_mem_nil, or_false] at hx
        rcases hx with rfl | rfl | rfl
        · exact ir _
        · exact has _ _ (mix _ _ _ hac hbc)
        · exact has _ _ hac
      | false =>
        have e : siftupL lt [a, b, c] 0 = [c, b, a] := by simp [siftupL, suLoop, kid, siftdownL, sdLoop, hac, hbc]
        rw [e]; intro x hx
        simp only [List.mem_cons, List.not_mem_nil, or_false] at hx
        rcases hx with rfl | rfl | rfl
        · exact ir _
        · exact hbc
        · exact hac
noncomputable abbrev It := Int × List Int
/-- what the loop keeps: the best so far, the worst of them on top -/
structure GInv (bt : Int → Int → Bool) (hl : It → It → Bool) (n : Nat) (pre : List Int) (st : List It × Int) : Prop where
  len : st.1.length = n
  shp : ∀ x ∈ st.1, ∃ o, x.2 = [o, x.1]
  top : ∀ x ∈ st.1, hl x (st.1.getD 0 default) = false
  rest : ∃ R, (st.1.map (·.1) ++ R).Perm pre ∧ ∀ r ∈ R, ∀ x ∈ st.1, bt r x.1 = false
theorem perm_set_zero {α : Type} [Inhabited α] {l : List α} {x : α} (h : 0 < l.length) : ∃ r, l = l.getD 0 default :: r ∧ l.set 0 x = x :: r := by
  cases l with
  | nil => cases h
  | cons a r => exact ⟨r, rfl, rfl⟩
theorem ginv_step {bt : Int → Int → Bool} {hl : It → It → Bool} {n : Nat} {pre : List Int} {st : List It × Int} (Sb : SWO bt) (Sh : SWO hl) (hK : ∀ x y : It, hl x y = false → bt y.1 x.1 = false) (hn : n = 2 ∨ n = 3) (h : GInv bt hl n pre st) (e o' : Int) :
    GInv bt hl n (pre ++ [e]) (if bt e (st.1.getD 0 default).1 = true then (siftupL hl (st.1.set 0 (e, [st.2, e])) 0, o') else st) := by
  obtain ⟨hlen, hshp, htop, R, hp, hR⟩ := h
  by_cases c : bt e (st.1.getD 0 default).1 = true
  · rw [if_pos c]
    have hl0 : 0 < st.1.length := by rw [hlen]; rcases hn with rfl | rfl <;> decide
    have hpm := siftupL_perm hl (l := st.1.set 0 (e, [st.2, e])) (p := 0) (by rw [List.length_set]; exact hl0)
    have htop' := siftup_top Sh (l := st.1.set 0 (e, [st.2, e])) (by rw [List.length_set, hlen]; exact hn)
    obtain ⟨r, e1, e2⟩ := perm_set_zero (x := (e, [st.2, e])) hl0
    have hmem : ∀ x ∈ siftupL hl (st.1.set 0 (e, [st.2, e])) 0, x = (e, [st.2, e]) ∨ x ∈ st.1 := fun x hx => (List.mem_or_eq_of_mem_set (hpm.mem_iff.mp hx)).symm
    refine ⟨by rw [hpm.length_eq, List.length_set]; exact hlen, fun x hx => ?_, htop', (st.1.getD 0 default).1 :: R, ?_, fun q hq x hx => ?_⟩
    · rcases hmem x hx with rfl | h
      · exact ⟨_, rfl⟩
      · exact hshp x h
    · refine ((hpm.map _).append_right _).trans ?_
      rw [e2]
      rw [e1] at hp
      simp only [List.map_cons, List.cons_append] at hp ⊢
      generalize (st.1.getD 0 default).1 = t at *
      have h1 : (r.map (·.1) ++ t :: R).Perm pre := List.perm_middle.trans hp
      exact (h1.cons e).trans (List.perm_append_comm (l₁ := [e]) (l₂ := pre))
    · rcases List.mem_cons.mp hq with rfl | hq
      · rcases hmem x hx with rfl | h
        · exact Sb.has _ _ c
        · exact hK _ _ (htop x h)
      · rcases hmem x hx with rfl | h
        · have h0 := hR q hq _ (getD_mem' (d := default) hl0)
          cases q2 : bt q e with
          | false => rfl
          | true => rw [Sb.tr _ _ _ q2 c] at h0; cases h0
        · exact hR q hq x h
  · rw [if_neg c]
    refine ⟨hlen, hshp, htop, e :: R, ?_, fun q hq x hx => ?_⟩
    · exact List.perm_middle.trans ((hp.cons e).trans (List.perm_append_comm (l₁ := [e]) (l₂ := pre)))
    · rcases List.mem_cons.mp hq with rfl | hq
      · exact Sb.hle _ _ _ (hK _ _ (htop x hx)) (by simpa using c)
      · exact hR q hq x hx
theorem items_sorted {fars : Int → List Int} {its : List It} (hd : Dis fars (its.map (·.1))) : (sortBy (ltE fars) its).Pairwise (fun a b => ltE fars b a = false) :=
  sortBy_sorted (ltE_swo fars) fun i j hi hj hij h => by
    cases q : ltE fars (its.getD j default) (its.getD i default) with
    | true => rfl
    | false =>
      have hi' : i < (its.map (·.1)).length := by simpa using hi
      have hj' : j < (its.map (·.1)).length := by simpa using hj
      have e : ∀ k, (its.map (·.1)).getD k default = (its.getD k default).1 := fun k => getD_map (·.1) rfl its k
      have := hd.tri (a := (its.getD i default).1) (b := (its.getD j default).1) (List.mem_map_of_mem (getD_mem' hi)) (List.mem_map_of_mem (getD_mem' hj)) (ltE_K h) (ltE_K q)
      have h2 := nodup_get hd.1 hi' hj' hij
      rw [e, e] at h2
      exact absurd this h2
theorem ginv_fold {bt : Int → Int → Bool} {hl : It → It → Bool} {n : Nat} {step : List It × Int → Int → List It × Int} (hs : ∀ st e pre, GInv bt hl n pre st → GInv bt hl n (pre ++ [e]) (step st e)) : ∀ (l pre : List Int) (st : List It × Int), GInv bt hl n pre st → GInv bt hl n (pre ++ l) (l.foldl step st)
  | [], pre, st, h => by rw [List.append_nil]; exact h
  | e :: l, pre, st, h => by
    have := ginv_fold hs l (pre ++ [e]) (step st e) (hs st e pre h)
    rwa [List.append_assoc] at this
theorem ginv_init {bt : Int → Int → Bool} {hl : It → It → Bool} {n : Nat} {ns : List Int} {its : List It} {o : Int} (Sh : SWO hl) (hn : n = 2 ∨ n = 3) (hl2 : n ≤ ns.length) (he : its.map (·.1) = ns.take n) (hshp : ∀ x ∈ its, ∃ o, x.2 = [o, x.1]) : GInv bt hl n (ns.take n) (siftupL hl its 0, o) := by
  have hlen : its.length = n := by have := congrArg List.length he; rw [List.length_map, List.length_take, Nat.min_eq_left hl2] at this; exact this
  have hpm := siftupL_perm hl (l := its) (p := 0) (by rw [hlen]; rcases hn with rfl | rfl <;> decide)
  refine ⟨hpm.length_eq.trans hlen, fun x hx => hshp x (hpm.mem_iff.mp hx), siftup_top Sh (by rw [hlen]; exact hn), [], ?_, fun _ h => nomatch h⟩
  rw [List.append_nil, ← he]; exact hpm.map _
theorem map_snd {l : List It} (h : ∀ x ∈ l, ∃ o, x.2 = [o, x.1]) : (l.map fun x => x.2.getD 1 0) = l.map (·.1) :=
  List.map_congr_left fun x hx => by obtain ⟨o, e⟩ := h x hx; rw [e]; rfl
theorem range_take {ns : List Int} {n : Nat} (h : n ≤ ns.length) : ((List.range n).map fun i => ns.getD i 0) = ns.take n := by
  refine List.ext_getElem (by rw [List.length_map, List.length_range, List.length_take, Nat.min_eq_left h]) fun i h1 h2 => ?_
  have : i < ns.length := Nat.lt_of_lt_of_le (by rw [List.length_map, List.length_range] at h1; exact h1) h
  simp [List.getD_eq_getElem?_getD, this]
theorem nsGen_eq {fars : Int → List Int} {ns : List Int} {n : Nat} (hd : Dis fars ns) (hn : n = 2 ∨ n = 3) (hl : n < ns.length) : nsGen fars ns n = (sortBy (ltK fars) ns).take n := by
  have G : GInv (ltK fars) (fun a b => ltE fars b a) n ns ((ns.drop n).foldl (nsStep fars) (nsInit fars ns n)) := by
    have h0 : GInv (ltK fars) (fun a b => ltE fars b a) n (ns.take n) (nsInit fars ns n) := ginv_init (ltE_swo fars).flip hn (Nat.le_of_lt hl) (by rw [List.map_map]; exact range_take (Nat.le_of_lt hl)) fun x hx => by
      obtain ⟨i, hi, rfl⟩ := List.mem_map.mp hx
      exact ⟨_, rfl⟩
    have := ginv_fold (step := nsStep fars) (fun st e pre h => ginv_step (ltK_swo fars) (ltE_swo fars).flip (fun x y q => ltE_K q) hn h e (st.2 + 1)) (ns.drop n) _ _ h0
    rwa [List.take_append_drop] at this
  unfold nsGen
  generalize (ns.drop n).foldl (nsStep fars) (nsInit fars ns n) = st at G
  obtain ⟨hlen, hshp, -, R, hp, hR⟩ := G
  have hdi : Dis fars (st.1.map (·.1)) := hd.sub (List.nodup_append.mp (hp.symm.nodup hd.1)).1 fun x hx => hp.mem_iff.mp (List.mem_append_left _ hx)
  show ((sortBy (ltE fars) st.1).map fun x => x.2.getD 1 0) = _
  rw [map_snd (l := sortBy (ltE fars) st.1) fun x hx => hshp x ((sortBy_perm _).mem_iff.mp hx)]
  have hl2 : ((sortBy (ltE fars) st.1).map (·.1)).length = n := by rw [List.length_map, sortBy_len]; exact hlen
  have := take_unique (D := (sortBy (ltE fars) st.1).map (·.1)) (R := R) hd ((((sortBy_perm st.1).map _).append_right R).trans hp) (List.pairwise_map.mpr ((items_sorted hdi).imp fun h => ltE_K h)) fun d hdm r hr => by
    obtain ⟨x, hx, rfl⟩ := List.mem_map.mp hdm
    exact hR r hr x ((sortBy_perm _).mem_iff.mp hx)
  rwa [hl2] at this
theorem nlGen_eq {fars : Int → List Int} {ns : List Int} {n : Nat} (hd : Dis fars ns) (hn : n = 2 ∨ n = 3) (hl : n < ns.length) : nlGen fars ns n = (sortBy (ltK fars) ns).reverse.take n := by
  have G : GInv (gtK fars) (ltE fars) n ns ((ns.drop n).foldl (nlStep fars) (nlInit fars ns n)) := by
    have h0 : GInv (gtK fars) (ltE fars) n (ns.take n) (nlInit fars ns n) := ginv_init (ltE_swo fars) hn (Nat.le_of_lt hl) (by rw [List.map_map]; exact range_take (Nat.le_of_lt hl)) fun x hx => by
      obtain ⟨i, hi, rfl⟩ := List.mem_map.mp hx
      exact ⟨_, rfl⟩
    have := ginv_fold (step := nlStep fars) (fun st e pre h => ginv_step (bt := gtK fars) (ltK_swo fars).flip (ltE_swo fars) (fun x y q => ltE_K q) hn h e (st.2 - 1)) (ns.drop n) _ _ h0
    rwa [List.take_append_drop] at this
  unfold nlGen
  generalize (ns.drop n).foldl (nlStep fars) (nlInit fars ns n) = st at G
  obtain ⟨hlen, hshp, -, R, hp, hR⟩ := G
  have hp2 : (st.1.reverse.map (·.1)).Perm (st.1.map (·.1)) := (List.reverse_perm st.1).map _
  have hdi : Dis fars (st.1.reverse.map (·.1)) := (hd.sub (List.nodup_append.mp (hp.symm.nodup hd.1)).1 fun x hx => hp.mem_iff.mp (List.mem_append_left _ hx)).perm hp2
  have hpm : (sortBy (ltE fars) st.1.reverse).reverse.Perm st.1 := (List.reverse_perm _).trans ((sortBy_perm _).trans (List.reverse_perm _))
  show (((sortBy (ltE fars) st.1.reverse).reverse).map fun x => x.2.getD 1 0) = _
  rw [map_snd (l := (sortBy (ltE fars) st.1.reverse).reverse) fun x hx => hshp x (hpm.mem_iff.mp hx)]
  have hl2 : ((sortBy (ltE fars) st.1.reverse).reverse.map (·.1)).length = n := by rw [List.length_map, hpm.length_eq]; exact hlen
  have := take_uniqueR (D := (sortBy (ltE fars) st.1.reverse).reverse.map (·.1)) (R := R) hd (((hpm.map _).append_right R).trans hp) (List.pairwise_map.mpr (List.pairwise_reverse.mpr ((items_sorted hdi).imp fun h => ltE_K h))) fun d hdm r hr => by
    obtain ⟨x, hx, rfl⟩ := List.mem_map.mp hdm
    exact hR r hr x (hpm.mem_iff.mp hx)
  rwa [hl2] at this
end Mine
end
section
open PySem PySem.W PySem.Calls PyProof.Rows PyProof.Rows.LCg
set_option maxRecDepth 100000
set_option maxHeartbeats 8000000
namespace Mine
local macro_rules | `(tactic| walk_at $s:str) => Mine.stopAt ["call ref", "eval ListComp", "exec For Name Name cons nil", "exec Assign cons ListComp", "call builtin:len cons nil", "call builtin:iter", "call type:zip", "subscriptTail Name Constant ref int", "subscriptTail Subscript Constant ref int", "compareOp Lt ref ref", "call builtin:list.sort", "truthy ref"] s
inductive NsJ (D : Addr) (kv : Int → Value) (fars : Int → List Int) (ns : List Int) (n : Nat) (nx : Led) (i : Nat) (m : Str → Option Value) (fr : Led) (tl : Led) : Prop
  | mk0 (its : List TI) (q : Nat) (order : Int) (t : Tok) : (AllAre m [(Str.ofString "result", .ref D), (Str.ofString "top", kv (its.getD 0 default).2.1), (Str.ofString "order", .int order t), (Str.ofString "_heapreplace", .ref 56)]) → (fr = [(D, listOf (its.map tref).toArray q)]) → ((its.map Prod.snd, order) = ((ns.drop n).take i).foldl (nsStep fars) (nsInit fars ns n)) → (its.length = n) → (∀ p ∈ its, TupIn (tl ++ nx) kv p ∧ p.2.1 ∈ ns ∧ p.2.2.length = 2) → NsJ D kv fars ns n nx i m fr tl
theorem nsmallest_spec (w : World) (a_1 fa : Addr) (vs : List Value) (ns : List Int) (k : Nat) (size : Int) (t1 : Tok) (oc : Value) (od : Option Addr) (fd : FuncData) (sl : Array (Option Value)) (kv : Int → Value) (fars : Int → List Int) (news : Led) (hm : (a_1, listOf vs.toArray k) ∈ news) (hi : Two IsI vs ns)
   (hfa : (fa, (⟨oc, od, .func fd, sl⟩ : Obj)) ∈ news) (hkf : KeyFn w (.ref fa) kv ns news) (hkl : KeyL news kv fars ns) (hs : size = 2 ∨ size = 3) (hr : ns.length < 10) (hlt : size < ns.length) :
   FnK w 60 600 (.ref 97) [.int size t1, .ref a_1] [(Str.ofString "key", .ref fa)] news (RetI news (nsGen fars ns size.toNat)) := by
  unfold FnK PG
  w_top off
  k_fill
  intro p loose mean mg mb dp un gd cn cs a ccd cl outer A₀ base h₀ L m s Q E B F X N T hk hd hu hret
  refine wpAny_call ?_
  k_dflt ((refine' code_defC ?k1 ?k2 ?k3 ?k4 ?k5 ?kA ?kF ?kK ?k6 ?k7 ?k8 ?k9 ?kB ?kD ?_ ?c2 ?c3 ?c4; (case kA => exact rfl); (case kF => exact rfl); (case kK => first | assumption | exact rfl); (case k1 => k_asm); (case k2 => k_asm); (case k3 => k_asm); (case k4 => k_asm); (case k5 => k_asm); (case k6 => k_is); (case k7 => k_is); (case k8 => ktr_room); (case k9 => first | exact BindsTo.of_eq rfl | exact binds_K (by k_in) rfl (by k_is) rfl rfl rfl); (case kB => exact rfl); (case kD => decide +kernel); (case c2 => exact rfl); (case c3 => exact rfl); (case c4 => exact rfl); k_whole; intro g1 L1 h1 tk1 cc1 FG1 F1 N1 Y1 B1 X1 T1 l1; k_cells Y1; (try simp only [List.cons_append, List.nil_append] at N1); (try dsimp only); (try k_fold)))
  refine noE ?_
  refine frG [(Str.ofString "n", .int size t1), (Str.ofString "iterable", .ref a_1)] F1 ⟨rfl, rfl, trivial⟩ fun mE hAE FE => ?_
  clear F1 hAE
  rename Fr g1 L1 _ _ => F1
  refine hideQ fun QR hRq => ?_
  rename_i oP d1
  replace d1 : oP.data = .cell (some (.ref fa)) := d1
  have hs1 : size ≠ 1 := by lia
  have hlv := hi.len
  clear A₀ B F X N T hk FG1 l1
  k_steps
  · exact absurd ‹size = 1› hs1
  rename_i hs1'
  refine lenv_at N1 (.tail _ hm) (by lia) ?_
  intro t2 tk2
  with_reducible first | refine k_flat (s := s) ?_ | (show wpAny _ _ _ _ _ _; refine k_flat (s := s) ?_)
  intro tkF
  have hge : ¬ (size ≥ (vs.length : Int)) := by lia
  k_steps
  rename_i h2 F2 N2
  refine iter_at F2 N2 (.tail _ hm) ?_
  intro It oI h3 F3 N3 lI hI
  with_reducible first | refine k_flat (s := s) ?_ | (show wpAny _ _ _ _ _ _; refine k_flat (s := s) ?_)
  intro tkF
  have hoff : ∀ p ∈ (L1 + 1, oP) :: news, p.1 ≠ It := fun p hp => Nat.ne_of_lt (lI p hp)
  have hmP : (L1 + 1, oP) ∈ (L1 + 1, oP) :: news := .head _
  have hmL : (a_1, listOf vs.toArray k) ∈ (L1 + 1, oP) :: news := .tail _ hm
  have hsub : ∀ p ∈ news, p ∈ (L1 + 1, oP) :: news := fun p hp => .tail _ hp
  have hkf' := hkf.mono hsub
  have hmF := hsub _ hfa
  have hkl' := hkl.mono hsub
  generalize (L1 + 1, oP) :: news = r1 at hoff hmP hmL hmF hsub N3 hkf' hkl'
  rename_i z2 z1
  clear hm hfa hkf hkl h1 tk1 hs1 hs1' z2 tk2 z1 hge h2 F2 N2 tk lI
  k_steps
  rename Fr g1 L1 _ _ => F4
  rename News g1 L1 _ _ => N4
  refine Stop.mk ?_
  refine Assign_ListComp_G (hs := by intro _; rfl) F4 rfl (by with_unfolding_all rfl) (by with_unfolding_all rfl) (by decide) (by rfl) (by decide) (by with_unfolding_all rfl) (by with_unfolding_all rfl) ?_
  k_steps
  rename IsRange _ _ _ _ _ _ _ _ => hR5
  rename Fr g1 L1 _ _ => F5
  rename News g1 L1 _ _ => N5
  refine Stop.mk ?_
  refine hideG fun gG hG => ?_
  obtain ⟨n, rfl⟩ : ∃ n : Nat, size = (n : Int) := ⟨size.toNat, by lia⟩
  refine hG ?_
  try clear hG gG
  refine src_zr (hh := by rfl) (hkind := by rfl) (hx1 := by rfl) (hx2 := by rfl) (p1 := (Str.ofString "i", _)) (p2 := (Str.ofString "elem", _)) (vs := vs) (n := n) _ F5 N5 hR5 (small_len (by lia)) (size_len n) hI hmL hoff (by lia) (fit9 (by lia)) (JT.nil rfl) (fun bad => turn_mapT ((List.range n).map (it0 ns)) (fun vals b => ∃ (i : Nat) (t t' : Tok), i < ns.length ∧ b = it0 ns i ∧ vals = [.int (i : Int) t, .int (ns.getD i 0) t']) id (TupR kv) (fun _ _ _ _ hp => TupR.mono hp) ?_ ?_) ?_
  · rintro i vals hi' qG1
    refine hideG fun gG hG => ?_
    obtain ⟨t, v, hv, rfl⟩ := qG1
    obtain ⟨e, he, u, rfl⟩ := hi.get hv
    refine hG ?_
    try clear hG gG
    have hil : i < ns.length := by lia
    refine ⟨it0 ns i, by simp [hi'], i, t, u, hil, rfl, ?_⟩
    have e1 : ns.getD i 0 = e := by rw [List.getD_eq_getElem?_getD, he]; rfl
    rw [e1]
    simp
  · rintro b vals - qG2 h8 tk8 rest8 C8 oC8 m8 E8 hs8 hmC8 hC8 F8 N8
    refine hideG fun gG hG => ?_
    obtain ⟨i, t, t', hil, rfl, rfl⟩ := qG2
    refine hG ?_
    try clear hG gG
    have hx1 : putAll [Str.ofString "i", Str.ofString "elem"] [.int (i : Int) t, .int (ns.getD i 0) t'] m8 (Str.ofString "i") = some (.int (i : Int) t) := rfl
    have hx2 : putAll [Str.ofString "i", Str.ofString "elem"] [.int (i : Int) t, .int (ns.getD i 0) t'] m8 (Str.ofString "elem") = some (.int (ns.getD i 0) t') := rfl
    generalize putAll [Str.ofString "i", Str.ofString "elem"] [.int (i : Int) t, .int (ns.getD i 0) t'] m8 = m9 at hC8 hx1 hx2
    have hmem : ns.getD i 0 ∈ ns := getD_mem' hil
    have hbP := hs8 _ hmP
    have hkf8 := hkf'.mono hs8
    generalize he : ns.getD i 0 = e at hx2 hmem
    have hbF := hs8 _ hmF
    rename_i z8 z7 z6 z5 z4 z3 z2 z1
    clear k fars news hi hr hlv oI h3 hI tkF r1 hoff hmP hmL hmF hsub hkf' hkl' z8 z7 z6 z5 z4 z3 N5 z2 hs hlt hret z1 hR5 F5 bad m8 hs8 hil
    k_steps
    refine callWith_F (FnAt.of N8 hbF) ?_
    k_steps
    refine Stop.mk ?_
    refine Fn.use2 (hkf8 e hmem t' rest8 (fun _ h => h)) B1 F8 X1 N8 T1 rfl (by show dp + 1 + 5 < _; exact lim (d := dp) (a := 1 + 5) hd rfl) (by show un + 3 + 50 < _; exact lim (d := un) (a := 3 + 50) hu rfl) ?_
    intro h' tk' F9 N9
    with_reducible first | refine k_flat (s := s) ?_ | (show wpAny _ _ _ _ _ _; refine k_flat (s := s) ?_)
    intro tkF
    k_steps
    rename Fr g1 L1 _ _ => F10
    rename News g1 L1 _ _ => N10
    rename_i T10 h10 l10
    refine EE.mk [_] F10 N10 (fun p hp => hp) (fun q hq p hp => by rw [List.mem_singleton.mp hp]; exact l10 q hq) ⟨_, rfl, [.int (i : Int) t, .int e t'], 0, ?_, ?_⟩
    · show _ ∈ [_]
      simp only [id, it0, he]
      exact .head _
    · simp only [id, it0, he]
      exact .cons ⟨t, rfl⟩ (.cons ⟨t', rfl⟩ .nil)
  · intro D h9 tk9 ys nw oI' F9 N9 hI' hnD hlD ⟨tl9, e9, ab9, hj9⟩
    refine hideG fun gG hG => ?_
    obtain ⟨its, rfl, hits, htup⟩ := tups_of hj9
    refine hG ?_
    try clear hG gG
    have hcl : ∀ p ∈ (It, oI') :: (D, lst (its.map tref)) :: nw, p.2.cls ≠ .type "list_iterator" → p.1 ≠ It := by
      intro p hp hc e
      have q1 := (N9 _ (.head _)).1
      have q2 := (N9 p hp).1
      rw [e] at q2
      have q3 : oI' = p.2 := Option.some.inj (q1.symm.trans q2)
      exact hc (q3 ▸ hI'.1)
    have hDI : It ≠ D := (hcl (D, lst (its.map tref)) (.tail _ (.head _)) (by intro h; injection h with h; exact absurd h (by decide))).symm
    have hlen : its.length = n := by
      have := congrArg List.length hits; simpa using this
    have hitsE : its.map Prod.snd = (List.range n).map (it0 ns) := by
      rw [hits]; simp only [List.map_id]; exact List.take_of_length_le (by simp)
    refine hideG fun gG hG => ?_
    obtain ⟨nx, hnx⟩ : ∃ nx : Led, nx = nw.filter (fun p => decide (p.1 ≠ It)) := ⟨_, rfl⟩
    refine hG ?_
    try clear hG gG
    have hnx1 : ∀ p ∈ nx, p ∈ nw ∧ p.1 ≠ It := fun p hp => by rw [hnx] at hp; simpa using List.mem_filter.mp hp
    have hnx2 : ∀ p ∈ nw, p.1 ≠ It → p ∈ nx := fun p hp h => by rw [hnx]; exact List.mem_filter.mpr ⟨hp, by simpa using h⟩
    have hr12 : ∀ p ∈ r1, p ∈ nx := fun p hp => hnx2 p (by rw [e9]; exact List.mem_append_right _ hp) (hoff p hp)
    have htup2 : ∀ p ∈ its, TupIn nx kv p ∧ p.2.1 ∈ ns ∧ p.2.2.length = 2 := fun p hp => ⟨by
        refine hideG fun gG hG => ?_
        obtain ⟨vs9, k9, m9, i9⟩ := htup p hp
        refine hG ?_
        try clear hG gG
        have m9' : (p.1, tupO (kv p.2.1 :: vs9) k9) ∈ nw := by rw [e9]; exact List.mem_append_left _ m9
        exact ⟨vs9, k9, hnx2 _ m9' (hcl _ (.tail _ (.tail _ m9')) (by intro h; injection h with h; exact absurd h (by decide))), i9⟩, by
      have : p.2 ∈ its.map Prod.snd := List.mem_map_of_mem hp
      rw [hitsE] at this
      refine hideG fun gG hG => ?_
      obtain ⟨i, hi1, hi2⟩ := List.mem_map.mp this
      refine hG ?_
      try clear hG gG
      rw [← hi2]
      exact ⟨getD_mem' (by have := List.mem_range.mp hi1; lia), rfl⟩⟩
    have hmP2 := hr12 _ hmP
    have hmL2 := hr12 _ hmL
    have hmF2 := hr12 _ hmF
    have hkf2 := hkf'.mono hr12
    have hkl2 := hkl'.mono hr12
    have hsub2 : ∀ p ∈ news, p ∈ nx := fun p hp => hr12 p (hsub p hp)
    have hoffI : ∀ p ∈ nx, p.1 ≠ It := fun p hp => (hnx1 p hp).2
    replace N9 : News g1 L1 h9 ((D, listOf (its.map tref).toArray (its.map tref).length) :: (It, oI') :: nx) := News.less N9 fun p hp => by
      rcases List.mem_cons.mp hp with rfl | hp
      · exact .tail _ (.head _)
      · rcases List.mem_cons.mp hp with rfl | hp
        · exact .head _
        · exact .tail _ (.tail _ (hnx1 p hp).1)
    have hoffD : ∀ p ∈ (It, oI') :: nx, p.1 ≠ D := fun p hp => by
      rcases List.mem_cons.mp hp with rfl | hp
      · exact hDI
      · exact hnD p (hnx1 p hp).1
    have hn2 : 2 ≤ n ∧ n ≤ 3 := by lia
    rename_i z8 z7 z6 z5 z4 z3 z2 z1
    clear oI h3 hI tkF r1 hoff hmP hmL hmF hsub hkf' hkl' z8 z7 z6 z5 z4 z3 N5 z2 hs z1 hR5 F5 hlD tl9 e9 ab9 hj9 hits htup hcl hnx hnx1 hnx2 hr12
    k_steps
    refine truthy_at (its := its) (val := tref) N9 (.head _) (fit62 (by lia)) ?_
    intro tk10
    rw [show decide (0 < its.length) = true from decide_eq_true (by lia)]
    k_steps
    refine Stop.mk ?_
    have hh : Fn w 20 200 (.ref 63) [.ref D] ((D, listOf (its.map tref).toArray (its.map tref).length) :: (It, oI') :: nx) (fun r news' => r = .none ∧ news' = (D, listOf ((siftupL (fun a b => ltT fars b a) its 0).map tref).toArray (its.map tref).length) :: (It, oI') :: nx) := by
      have hc : CmpOn tref (ltT fars) its ((It, oI') :: nx) := (cmp_tups hkl2 fun p hp => ⟨(htup2 p hp).1, (htup2 p hp).2.1⟩).sub (fun _ h => h) fun p hp => .tail _ hp
      rcases Nat.lt_or_ge n 3 with h | h
      · exact heapify_max2_spec tref (ltT fars) w D its _ _ hc hoffD (by lia)
      · exact heapify_max3_spec tref (ltT fars) w D its _ _ hc hoffD (by lia)
    refine Fn.use2 hh B1 F9 X1 N9 T1 rfl (by show dp + 1 + 20 < _; exact lim (d := dp) (a := 1 + 20) hd rfl) (by show un + 3 + 200 < _; exact lim (d := un) (a := 3 + 200) hu rfl) ?_
    intro h' tk' F10 N10
    with_reducible first | refine k_flat (s := s) ?_ | (show wpAny _ _ _ _ _ _; refine k_flat (s := s) ?_)
    intro tkF
    have hp2 := siftupL_perm (fun a b => ltT fars b a) (l := its) (p := 0) (by lia)
    have hitsE2 : (siftupL (fun a b => ltT fars b a) its 0).map Prod.snd = (nsInit fars ns n).1 := by
      rw [← siftupL_map (fun a b => ltT fars b a) Prod.snd rfl (fun a b => ltE fars b a) (fun _ _ => rfl), hitsE]; rfl
    have hlen2 : (siftupL (fun a b => ltT fars b a) its 0).length = n := hp2.length_eq.trans hlen
    have htup3 : ∀ p ∈ siftupL (fun a b => ltT fars b a) its 0, TupIn nx kv p ∧ p.2.1 ∈ ns ∧ p.2.2.length = 2 := fun p hp => htup2 p (hp2.mem_iff.mp hp)
    generalize siftupL (fun a b => ltT fars b a) its 0 = its2 at N10 hitsE2 hlen2 htup3
    generalize (its.map tref).length = nn at N10
    refine hideG fun gG hG => ?_
    obtain ⟨⟨vs0, k0, hm0, hi0⟩, he0, hz0⟩ := htup3 (its2.getD 0 default) (getD_mem' (by lia))
    refine hG ?_
    try clear hG gG
    rename_i z1
    clear z1 tkf h9 tk9 nw F9 hnD its hlen hitsE htup2 N9 tk10 hh tk' hp2
    k_steps
    refine it_at (hs := by with_unfolding_all rfl) (hg := by intro _; with_unfolding_all rfl) (its := its2) (val := tref) N10 (.head _) (by decide) (by lia) (fit62 (by lia)) ?_
    have hvl0 : vs0.length = (its2.getD 0 default).2.2.length := hi0.len
    with_reducible first | refine k_flat (s := s) ?_ | (show wpAny _ _ _ _ _ _; refine k_flat (s := s) ?_)
    intro tkF
    k_steps
    refine itt_at (hs := by with_unfolding_all rfl) (hg := by intro _; with_unfolding_all rfl) 0 rfl N10 (.tail _ (.tail _ hm0)) (by show vs0.length + 1 < 100; lia) rfl ?_
    with_reducible first | refine k_flat (s := s) ?_ | (show wpAny _ _ _ _ _ _; refine k_flat (s := s) ?_)
    intro tkF
    k_steps
    rename Fr g1 L1 _ _ => F12
    rename News g1 L1 _ _ => N12
    refine Stop.mk ?_
    refine wpAny_For ?_
    k_steps
    refine for_AI (hh := by rfl) (hE := by passes_own) (its := vs) (k := k) (i0 := n) (fr₀ := [(D, listOf (its2.map tref).toArray nn)]) (news := nx) (oI := oI') [D]
      (NsJ D kv fars ns n nx)
      F12 (News.less N12 fun p hp => ?_) hI' (fun p hp => ?_) (by lia) rfl (fun a ha p hp => by rw [List.mem_singleton.mp ha]; exact hoffD p (.tail _ hp)) hmL2 ⟨its2, nn, _, _, ⟨rfl, rfl, rfl, rfl, trivial⟩, rfl, by rw [hitsE2]; rfl, hlen2, htup3⟩ ?_ ?_
    · rcases List.mem_cons.mp hp with rfl | hp
      · exact .tail _ (.head _)
      · rcases List.mem_cons.mp hp with rfl | hp
        · exact .head _
        · exact .tail _ (.tail _ hp)
    · rcases List.mem_cons.mp hp with rfl | hp
      · exact hDI.symm
      · exact hoffI p hp
    · rintro i v m fr tl rest h tk hi' hv qG3 - F13 N13 hsR off I R hR
      refine hideG fun gG hG => ?_
      obtain ⟨its, q, order, t, hA, rfl, hst, hln, htu⟩ := qG3
      refine hG ?_
      try clear hG gG
      rw [List.getElem?_drop] at hv
      refine hideG fun gG hG => ?_
      obtain ⟨e, he, u, rfl⟩ := hi.get hv
      refine hG ?_
      try clear hG gG
      have hel : e ∈ ns := List.mem_of_getElem? he
      refine wpAny_pure ?_
      have hoD := off D (.head _)
      replace N13 : News g1 L1 h ((D, listOf (its.map tref).toArray q) :: rest) := N13
      have hsx : ∀ p ∈ nx, p ∈ rest := fun p hp => hsR p (List.mem_append_right _ hp)
      have aP : (L1 + 1, oP) ∈ (D, listOf (its.map tref).toArray q) :: rest := .tail _ (hsx _ hmP2)
      have aF : (fa, (⟨oc, od, .func fd, sl⟩ : Obj)) ∈ (D, listOf (its.map tref).toArray q) :: rest := .tail _ (hsx _ hmF2)
      have hkf3 := hkf2.mono hsx
      have hkl3 := hkl2.mono hsx
      have htu2 : ∀ p ∈ its, TupIn rest kv p ∧ p.2.1 ∈ ns ∧ p.2.2.length = 2 := fun p hp => ⟨(htu p hp).1.mono hsR, (htu p hp).2⟩
      refine hideG fun gG hG => ?_
      obtain ⟨ae, va, ke, hke, hme, hie⟩ := hkl3 e hel
      refine hG ?_
      try clear hG gG
      have h0t := htu2 (its.getD 0 default) (getD_mem' (by lia))
      refine hideG fun gG hG => ?_
      obtain ⟨at0, vt, kt, hkt, hmt, hit⟩ := hkl3 _ h0t.2.1
      refine hG ?_
      try clear hG gG
      have hLe : LI rest (.ref ae) (fars e) := ⟨ae, va, ke, rfl, hme, hie⟩
      have hLt : LI rest (.ref at0) (fars (its.getD 0 default).2.1) := ⟨at0, vt, kt, rfl, hmt, hit⟩
      rw [hkt] at hA
      replace F13 := frOv F13 hA
      rename_i z6 z5 z4 z3 z2 z1 _
      clear a_1 vs k t1 news hi hr mE hlv t2 It hlt hret oI' hI' hDI hmP2 hmL2 hmF2 hkf2 hkl2 hsub2 hoffI hoffD h' z6 its2 hitsE2 hlen2 htup3 nn vs0 k0 hm0 hi0 he0 hz0 hvl0 z5 tkF z4 z3 z2 z1 F12 N12 hi' off I hv hsx va ke hme hie h0t vt kt hmt hit
      k_steps
      rename News g1 L1 _ _ => N14
      refine callWith_F (FnAt.of N14 aF) ?_
      k_steps
      rename Fr g1 L1 _ _ => F14
      refine Stop.mk ?_
      refine Fn.use2 (hkf3 e hel u _ (fun p hp => .tail _ hp)) B1 F14 X1 N14 T1 rfl (by show dp + 1 + 5 < _; exact lim (d := dp) (a := 1 + 5) hd rfl) (by show un + 3 + 50 < _; exact lim (d := un) (a := 3 + 50) hu rfl) ?_
      intro h' tk' F15 N15
      rw [hke]
      with_reducible first | refine k_flat (s := s) ?_ | (show wpAny _ _ _ _ _ _; refine k_flat (s := s) ?_)
      intro tkF
      rename_i z1
      clear h tk z1 F14 N14 tkf tk'
      k_steps
      rename News g1 L1 _ _ => N16
      refine Stop.mk ?_
      refine key_lt N16 (hLe.mono fun p hp => .tail _ hp) (hLt.mono fun p hp => .tail _ hp) (by show un + 3 < cLine; exact lim (d := un) (a := 3) hu rfl) _ _ _ _ ?_
      cases hb : lexI (fars e) (fars (its.getD 0 default).2.1) with
      | false =>
        k_steps
        refine hR _ _ ?_
        refine FE.mk [(D, listOf (its.map tref).toArray q)] [] (by assumption) N16 (fun p hp => hp) rfl Above.nil (fun _ _ _ h => nomatch h) ⟨its, q, order, t, ⟨rfl, congrArg some hkt.symm, rfl, rfl, trivial⟩, rfl, ?_, hln, htu⟩
        rw [take_snoc (by rw [List.getElem?_drop]; exact he), List.foldl_append, ← hst]
        show _ = nsStep fars _ e
        unfold nsStep
        rw [if_neg]
        show ¬ lexI (fars e) (fars ((its.map Prod.snd).getD 0 default).1) = true
        rw [getD_map Prod.snd rfl, hb]; decide
      | true =>
        k_steps
        refine Stop.mk ?_
        rename _ ∧ AllLt _ rest => lT
        rename Fr g1 L1 _ _ => F17
        rename News g1 L1 _ _ => N17
        rename_i T h17
        have hz : TupIn ((T, tupO [.ref ae, .int order t, .int e u] 0) :: rest) kv (T, (e, [order, e])) := ⟨[.int order t, .int e u], 0, by show (T, tupO (kv e :: _) 0) ∈ _; rw [hke]; exact .head _, .cons ⟨t, rfl⟩ (.cons ⟨u, rfl⟩ .nil)⟩
        have hoT : ∀ p ∈ (T, tupO [.ref ae, .int order t, .int e u] 0) :: rest, p.1 ≠ D := fun p hp => by
          rcases List.mem_cons.mp hp with rfl | hp
          · exact Nat.ne_of_gt lT.1
          · exact hoD p hp
        have htu4 : ∀ p ∈ its ++ [(T, (e, [order, e]))], TupIn ((T, tupO [.ref ae, .int order t, .int e u] 0) :: rest) kv p ∧ p.2.1 ∈ ns ∧ p.2.2.length = 2 := fun p hp => by
          rcases List.mem_append.mp hp with hp | hp
          · exact ⟨(htu2 p hp).1.mono fun _ h => .tail _ h, (htu2 p hp).2⟩
          · rw [List.mem_singleton.mp hp]; exact ⟨hz, hel, rfl⟩
        refine Fn.use2 (heapreplace_max_spec tref (ltT fars) w D (T, (e, [order, e])) its q _ (cmp_tups (hkl3.mono fun _ h => .tail _ h) fun p hp => ⟨(htu4 p hp).1, (htu4 p hp).2.1⟩) hoT (by lia) (by lia)) B1 F17 X1 (News.less N17 fun p hp => ?_) T1 rfl (by show dp + 1 + 20 < _; exact lim (d := dp) (a := 1 + 20) hd rfl) (by show un + 3 + 200 < _; exact lim (d := un) (a := 3 + 200) hu rfl) ?_
        · refine subE ?_ _ hp
          walk_at "sub"
        intro h' tk' F18 N18
        with_reducible first | refine k_flat (s := s) ?_ | (show wpAny _ _ _ _ _ _; refine k_flat (s := s) ?_)
        intro tkF
        have hp2 := siftupL_perm (fun a b => ltT fars b a) (l := its.set 0 (T, (e, [order, e]))) (p := 0) (by rw [List.length_set]; lia)
        have hE2 : (siftupL (fun a b => ltT fars b a) (its.set 0 (T, (e, [order, e]))) 0).map Prod.snd = siftupL (fun a b => ltE fars b a) ((its.map Prod.snd).set 0 (e, [order, e])) 0 := by
          rw [← siftupL_map (fun a b => ltT fars b a) Prod.snd rfl (fun a b => ltE fars b a) (fun _ _ => rfl), List.map_set]
        have hl2 : (siftupL (fun a b => ltT fars b a) (its.set 0 (T, (e, [order, e]))) 0).length = n := by rw [hp2.length_eq, List.length_set]; exact hln
        have htu5 : ∀ p ∈ siftupL (fun a b => ltT fars b a) (its.set 0 (T, (e, [order, e]))) 0, p = (T, (e, [order, e])) ∨ p ∈ its := fun p hp => (List.mem_or_eq_of_mem_set (hp2.mem_iff.mp hp)).symm
        generalize siftupL (fun a b => ltT fars b a) (its.set 0 (T, (e, [order, e]))) 0 = its3 at N18 hE2 hl2 htu5
        have htu6 : ∀ p ∈ its3, TupIn ((T, tupO [.ref ae, .int order t, .int e u] 0) :: rest) kv p ∧ p.2.1 ∈ ns ∧ p.2.2.length = 2 := fun p hp => htu4 p (by
          rcases htu5 p hp with rfl | h
          · exact List.mem_append_right _ (.head _)
          · exact List.mem_append_left _ h)
        refine hideG fun gG hG => ?_
        obtain ⟨⟨vs0, k0, hm0, hi0⟩, he0, hz0⟩ := htu6 (its3.getD 0 default) (getD_mem' (by lia))
        refine hG ?_
        try clear hG gG
        rename_i z3 z2 z1
        clear oc od fd sl aP aF htu2 hLe hLt z3 z2 z1 tkf h17 F17 N17 hz hoT htu4 tk' hp2
        k_steps
        refine it_at (hs := by with_unfolding_all rfl) (hg := by intro _; with_unfolding_all rfl) (its := its3) (val := tref) N18 (.head _) (by decide) (by lia) (fit62 (by lia)) ?_
        with_reducible first | refine k_flat (s := s) ?_ | (show wpAny _ _ _ _ _ _; refine k_flat (s := s) ?_)
        intro tkF
        k_steps
        obtain ⟨o1, e1, hoe⟩ : ∃ o1 e1, (its3.getD 0 default).2.2 = [o1, e1] := by
          match h : (its3.getD 0 default).2.2, hz0 with
          | [a, b], _ => exact ⟨a, b, rfl⟩
        rw [hoe] at hi0
        obtain ⟨t9, t10, rfl⟩ : ∃ t9 t10, vs0 = [.int o1 t9, .int e1 t10] := by
          cases hi0 with
          | cons h r => cases r with
            | cons h2 r2 =>
              cases r2
              refine hideG fun gG hG => ?_
              obtain ⟨t9, rfl⟩ := h
              obtain ⟨t10, rfl⟩ := h2
              refine hG ?_
              try clear hG gG
              exact ⟨_, _, rfl⟩
        refine hideG fun gG hG => ?_
        obtain ⟨a9, v9, k9, hk9, hm9, hi9⟩ := hkl3 _ he0
        refine hG ?_
        try clear hG gG
        rw [hk9] at hm0
        have zT := N18 _ (.tail _ hm0)
        refine assign_Tuple_tuple (items := #[.ref a9, .int o1 t9, .int e1 t10]) rfl ⟨_, zT.1, rfl, _, rfl⟩ (by rfl) (by rfl) fun h19 he19 => ?_
        have up19 := fun b o (x : h'.get? b = some o) => he19 b o (Nat.ne_of_lt (Heap.lt_size x)) x
        replace F18 := F18.keeps up19
        replace N18 := N18.grown up19
        clear k0 he0 hz0 hoe hi0 hm0 v9 k9 hm9 hi9 zT he19 up19
        k_steps
        rename Fr g1 L1 _ _ => F20
        rename News g1 L1 _ _ => N20
        refine hR _ _ ?_
        refine FE.mk [(D, listOf (its3.map tref).toArray q)] [(T, tupO [.ref ae, .int order t, .int e u] 0)] F20 N20 (fun p hp => hp) rfl (fun q hq p hp => ?_) (fun a ha p hp => ?_) ⟨its3, q, order + 1, _, ⟨rfl, congrArg some hk9.symm, rfl, rfl, trivial⟩, rfl, ?_, hl2, ?_⟩
        · rw [List.mem_singleton.mp hp]; exact allLt_get lT.2 q hq
        · rw [List.mem_singleton.mp hp, List.mem_singleton.mp ha]; exact lT.1
        · rw [take_snoc (by rw [List.getElem?_drop]; exact he), List.foldl_append, ← hst]
          show _ = nsStep fars _ e
          unfold nsStep
          rw [if_pos, hE2]
          show lexI (fars e) (fars ((its.map Prod.snd).getD 0 default).1) = true
          rw [getD_map Prod.snd rfl, hb]
        · intro p hp
          rcases htu5 p hp with rfl | h
          · exact ⟨⟨[.int order t, .int e u], 0, by show (T, tupO (kv e :: _) 0) ∈ _; rw [hke]; exact .head _, .cons ⟨t, rfl⟩ (.cons ⟨u, rfl⟩ .nil)⟩, hel, rfl⟩
          · exact ⟨(htu p h).1.mono fun _ h => .tail _ h, (htu p h).2⟩
    · rintro h9 tk9 m fr tl qG4 - F13 N13 off ab ab2
      refine hideG fun gG hG => ?_
      obtain ⟨its, q, order, t, hA, rfl, hst, hln, htu⟩ := qG4
      refine hG ?_
      try clear hG gG
      have hvl : (vs.drop n).length = (ns.drop n).length := by simp [hlv]
      rw [hvl, List.take_length] at hst
      have hoD := off D (.head _)
      replace N13 : News g1 L1 h9 ((D, listOf (its.map tref).toArray q) :: (tl ++ nx)) := N13
      have hsx : ∀ p ∈ news, p ∈ tl ++ nx := fun p hp => List.mem_append_right _ (hsub2 p hp)
      have hkl3 := hkl2.mono (fun p hp => List.mem_append_right tl hp)
      generalize tl ++ nx = rest at N13 hoD hsx hkl3 htu
      replace F13 := frOv F13 hA
      rename_i z6 z5 z4 z3 z2 z1 _
      clear a_1 vs k t1 oc od fd sl hi hr mE hlv t2 It hlt oI' hI' hDI nx hmP2 hmL2 hmF2 hkf2 hkl2 hsub2 hoffI hoffD h' z6 its2 hitsE2 hlen2 htup3 nn vs0 k0 hm0 hi0 he0 hz0 hvl0 z5 tkF z4 z3 z2 z1 F12 N12 tl off ab ab2 hvl
      k_steps
      refine Stop.mk ?_
      refine lsort_at (κ := tuples' true) (val := tref) (lt := ltT fars) (its := its) F13 N13 hoD (by lia) (by lia) (fun h' N' C hC => kind_tups N' hkl3 (fun p hp => ⟨(htu p hp).1, (htu p hp).2.1⟩) (by lia) hC) (fun h' N' x hx y hy C hC => klt_tups N' hkl3 ⟨(htu x hx).1, (htu x hx).2.1⟩ ⟨(htu y hy).1, (htu y hy).2.1⟩ (by show un + 3 + 1 < cLine; exact lim (d := un) (a := 3 + 1) hu rfl) hC) ?_
      intro h14 q14 F14 N14
      with_reducible first | refine k_flat (s := s) ?_ | (show wpAny _ _ _ _ _ _; refine k_flat (s := s) ?_)
      intro tkF
      have hp14 := sortBR_perm false (ltT fars) its
      have hE14 : (sortBR false (ltT fars) its).map Prod.snd = sortBR false (ltE fars) ((ns.drop n).foldl (nsStep fars) (nsInit fars ns n)).1 := by
        rw [← hst, ← sortBR_map false (ltT fars) Prod.snd rfl (ltE fars) (fun _ _ => rfl)]
      have htu14 : ∀ p ∈ sortBR false (ltT fars) its, TupIn rest kv p ∧ p.2.1 ∈ ns ∧ p.2.2.length = 2 := fun p hp => htu p (hp14.mem_iff.mp hp)
      have hl14 : (sortBR false (ltT fars) its).length = n := hp14.length_eq.trans hln
      generalize sortBR false (ltT fars) its = its2 at N14 hE14 htu14 hl14
      rename_i z1
      clear fa oP d1 z1 tkf h9 tk9 q hA hst hln N13 htu F13 hp14
      k_steps
      refine Stop.mk ?_
      rename Fr g1 L1 _ _ => F15
      rename News g1 L1 _ _ => N15
      refine ListComp_G (hs := by intro _; rfl) F15 (by with_unfolding_all rfl) (by decide) (by rfl) (by decide) ?_
      k_steps
      have hV : ∀ i, ∃ V : List Value, i < its2.length → (V.length = 3 ∧ ∃ k, ((its2.getD i default).1, tupO V k) ∈ rest) ∧ ∃ v1 v2 t, V = [v1, v2, .int ((its2.getD i default).2.2.getD 1 0) t] := fun i => by
        by_cases c : i < its2.length
        · refine hideG fun gG hG => ?_
          obtain ⟨⟨vs9, k9, hm9, hi9⟩, _, hz9⟩ := htu14 _ (getD_mem' c)
          refine hG ?_
          try clear hG gG
          refine ⟨_, fun _ => ⟨⟨?_, k9, hm9⟩, ?_⟩⟩
          · rw [List.length_cons, hi9.len, hz9]
          · match h : (its2.getD i default).2.2, hz9 with
            | [o1, e1], _ =>
              rw [h] at hi9
              cases hi9 with
              | cons ha r =>
                cases r with
                | cons hb r2 =>
                  cases r2
                  obtain ⟨t, rfl⟩ := hb
                  exact ⟨_, _, t, rfl⟩
        · exact ⟨[], fun h => absurd h c⟩
      obtain ⟨V, hV⟩ := Classical.skolem.mp hV
      have hg : ∀ i v, (its2.map tref)[i]? = some v → i < its2.length ∧ v = .ref (its2.getD i default).1 := fun i v hv => by
        rw [List.getElem?_map] at hv
        have hi : i < its2.length := by
          by_cases c : i < its2.length
          · exact c
          · rw [List.getElem?_eq_none (Nat.le_of_not_lt c)] at hv; cases hv
        refine ⟨hi, ?_⟩
        rw [List.getD_eq_getElem?_getD, List.getElem?_eq_getElem hi] at *
        simpa using hv.symm
      have hDr : ∀ p ∈ rest, p ∈ (D, listOf (its2.map tref).toArray q14) :: rest := fun p hp => .tail _ hp
      refine src_tups (hh := by rfl) (hkind := by rfl) (ps := [(Str.ofString "k", _), (Str.ofString "order", _), (Str.ofString "elem", _)]) (its := its2.map tref) (Ts := fun i => (its2.getD i default).1) (vals := V) _ F15 N15 (.head _) (fun i v hv => ⟨(hg i v hv).2, (hV i (hg i v hv).1).1.1, by obtain ⟨k, hk⟩ := (hV i (hg i v hv).1).1.2; exact ⟨k, hDr _ hk⟩⟩) (fit9 (by simp; lia)) (JT.nil rfl) (fun bad => turn_mapT its2 (fun vals x => ∃ v1 v2 t, vals = [v1, v2, .int (x.2.2.getD 1 0) t]) (fun x => x.2.2.getD 1 0) (fun _ v b => IsI v b) (fun _ _ _ _ _ h => h) ?_ ?_) ?_ ?_ ?_ ?_
      · rintro i vals hi rfl
        have hi' : i < its2.length := by simpa using hi
        refine ⟨its2[i], List.getElem?_eq_getElem hi', ?_⟩
        have := (hV i hi').2
        have e0 : its2.getD i default = its2[i] := by rw [List.getD_eq_getElem?_getD, List.getElem?_eq_getElem hi']; rfl
        rwa [e0] at this
      · rintro x vals hx qG5 h8 tk8 rest8 C8 oC8 m8 E8 hs8 hmC8 hC8 F8 N8
        refine hideG fun gG hG => ?_
        obtain ⟨v1, v2, t8, rfl⟩ := qG5
        refine hG ?_
        try clear hG gG
        have hx1 : putAll [Str.ofString "k", Str.ofString "order", Str.ofString "elem"] [v1, v2, .int (x.2.2.getD 1 0) t8] m8 (Str.ofString "elem") = some (.int (x.2.2.getD 1 0) t8) := rfl
        replace hC8 : NsObj oC8 (putAll [Str.ofString "k", Str.ofString "order", Str.ofString "elem"] [v1, v2, .int (x.2.2.getD 1 0) t8] m8) := hC8
        generalize putAll [Str.ofString "k", Str.ofString "order", Str.ofString "elem"] [v1, v2, .int (x.2.2.getD 1 0) t8] m8 = m9 at hC8 hx1
        generalize x.2.2.getD 1 0 = e8 at hx1
        rename_i z1
        clear ns fars news hd hu n hret hn2 rest hoD hsx hkl3 q14 F15 its2 N15 hE14 htu14 hl14 z1 V hV hg hDr bad x hx m8 hs8 v1 v2
        k_steps
        exact EE.pure F8 N8 ⟨_, rfl⟩
      · intro D9 h9 tk9 ys nw F9 N9 hnD hlD ⟨tl9, e9, ab9, hj9⟩
        have hj9 : Two IsI ys (its2.map fun x => x.2.2.getD 1 0) := by simpa using hj9
        refine hRq _ _ ?_
        k_steps
        refine leaveK_ F9 N9 fun kF kN => ?_
        have hss : ∀ p ∈ news, p ∈ (D, listOf (its2.map tref).toArray q14) :: rest := fun p hp => .tail _ (hsx p hp)
        refine hret (.ref D9) ((D9, lst ys) :: news) h9 tk9 kF (News.less kN fun p hp => ?_) ⟨D9, ys, _, rfl, rfl, ?_, fun p hp => hlD p (hss p hp)⟩
        · rcases List.mem_cons.mp hp with rfl | hp
          · exact .head _
          · exact .tail _ (by rw [e9]; exact List.mem_append_right _ (hss p hp))
        · have e : (its2.map fun x => x.2.2.getD 1 0) = nsGen fars ns n := by
            unfold nsGen; rw [← hE14, List.map_map]; rfl
          rw [e] at hj9
          exact hj9
      · intro p hp
        simp only [List.mem_cons, List.not_mem_nil, or_false] at hp
        rcases hp with rfl | rfl | rfl <;> rfl
      · intro e; rfl
      · intro e; rfl
end Mine
end
section
open PySem PySem.W PySem.Calls PyProof.Rows PyProof.Rows.LCg
set_option maxRecDepth 100000
set_option maxHeartbeats 8000000
namespace Mine
theorem kcall_of {w : World} {kv : Int → Value} {ns : List Int} {news : Led} {q : Addr} (hkf : KeyFn w (.ref q) kv ns news)
    {p : Program} {loose : List Str} {mean : ExcName → Option Value} {mg mb : Str → Option Value}
    {dp un : Nat} {gd : Option (List Code)} {cn : Str} {cs : Scope} {a : Addr} {ccd : Value} {cl : List (Str × Addr)} {outer : List Env} {A₀ : Around} {base h₀ : Heap} {L : Addr} {m : Str → Option Value} {s : Shared}
    (B : Below A₀ base outer h₀) (X : (Mine.hd.heap_1 w.params).In h₀) (T : Top p loose mean mg mb h₀) (hk : cs.kind = .function) (hd : dp + 5 < recursionLimit) (hu : un + 50 < cLine) :
    KCall PG w (ktrTop dp un gd cn cs L a ccd cl outer) (.ref q) kv ns h₀ L m s news := fun k hkn t h' tk nw hs F N Q' E' h =>
  Fn.use (s := { s with heap := h', toks := tk }) (hkf k hkn t nw hs) B F X N T hk hd hu fun r nw' h'' tk'' F'' N'' e => by
    obtain ⟨rfl, rfl⟩ := e
    exact h h'' tk'' F'' N''
theorem is_int_ref {M : Model} {A : Around} {E : Value → Shared → Prop} {s : Shared} {a : Int} {t : Tok} {x : Addr} {Q : Value → Shared → Prop} (h : Q (.bool false) s) : wpAny M A (compareOp .Is (.int a t) (.ref x)) Q E s :=
  wpAny_is_other rfl (by intro x; cases x) h
local macro_rules | `(tactic| walk_at "mine") => `(tactic| skip)
local macro_rules | `(tactic| walk_at $s:str) => Mine.stopAt ["call builtin:len cons nil", "call builtin:sorted", "call builtin:iter", "call builtin:min", "subscriptTail Name Slice ref ref", "call type:object"] s
theorem nsmall_sorted_spec (w : World) (a_1 fa : Addr) (vs : List Value) (ns : List Int) (k : Nat) (size : Int) (t1 : Tok) (oc : Value) (od : Option Addr) (fd : FuncData) (sl : Array (Option Value)) (kv : Int → Value) (fars : Int → List Int) (news : Led) (hm : (a_1, listOf vs.toArray k) ∈ news) (hi : Two IsI vs ns)
   (hfa : (fa, (⟨oc, od, .func fd, sl⟩ : Obj)) ∈ news) (hkf : KeyFn w (.ref fa) kv ns news) (hkl : KeyL news kv fars ns) (hs : size = 2 ∨ size = 3) (hr : 1 ≤ ns.length) (hge : size ≥ ns.length) :
   FnK w 60 600 (.ref 97) [.int size t1, .ref a_1] [(Str.ofString "key", .ref fa)] news (RetI news ((sortBy (ltK fars) ns).take size.toNat)) := by
  unfold FnK PG
  w_top off
  k_fill
  intro p loose mean mg mb dp un gd cn cs a ccd cl outer A₀ base h₀ L m s Q E B F X N T hk hd hu hret
  refine wpAny_call ?_
  k_dflt ((refine' code_defC ?k1 ?k2 ?k3 ?k4 ?k5 ?kA ?kF ?kK ?k6 ?k7 ?k8 ?k9 ?kB ?kD ?_ ?c2 ?c3 ?c4; (case kA => exact rfl); (case kF => exact rfl); (case kK => first | assumption | exact rfl); (case k1 => k_asm); (case k2 => k_asm); (case k3 => k_asm); (case k4 => k_asm); (case k5 => k_asm); (case k6 => k_is); (case k7 => k_is); (case k8 => ktr_room); (case k9 => first | exact BindsTo.of_eq rfl | exact binds_K (by k_in) rfl (by k_is) rfl rfl rfl); (case kB => exact rfl); (case kD => decide +kernel); (case c2 => exact rfl); (case c3 => exact rfl); (case c4 => exact rfl); k_whole; intro g1 L1 h1 tk1 cc1 FG1 F1 N1 Y1 B1 X1 T1 l1; k_cells Y1; (try simp only [List.cons_append, List.nil_append] at N1); (try dsimp only); (try k_fold)))
  refine noE ?_
  refine frG [(Str.ofString "n", .int size t1), (Str.ofString "iterable", .ref a_1)] F1 ⟨rfl, rfl, trivial⟩ fun mE hAE FE => ?_
  clear F1 hAE
  rename Fr g1 L1 _ _ => F1
  refine hideQ fun QR hRq => ?_
  rename_i oP d1
  replace d1 : oP.data = .cell (some (.ref fa)) := d1
  have hs1 : size ≠ 1 := by omega
  have hlv := hi.len
  clear A₀ B F X N T hk FG1 l1
  k_steps
  · exact absurd ‹size = 1› hs1
  rename_i hs1'
  refine lenv_at N1 (.tail _ hm) (by omega) ?_
  intro t2 tk2
  with_reducible refine k_flat (s := s) ?_
  intro tkF
  have hge' : size ≥ (vs.length : Int) := by omega
  k_steps
  rename Fr g1 L1 _ _ => F2
  rename News g1 L1 _ _ => N2
  have hmP : (L1 + 1, oP) ∈ (L1 + 1, oP) :: news := .head _
  have hmL : (a_1, listOf vs.toArray k) ∈ (L1 + 1, oP) :: news := .tail _ hm
  have hsub : ∀ p ∈ news, p ∈ (L1 + 1, oP) :: news := fun p hp => .tail _ hp
  have hkf' := hkf.mono hsub
  have hkl' := hkl.mono hsub
  generalize (L1 + 1, oP) :: news = r1 at hmP hmL hsub N2 hkf' hkl'
  refine Stop.mk ?_
  refine sorted_at F2 N2 hmL hi hkl' hr (by omega) (kcall_of hkf' B1 X1 T1 rfl (by show dp + 1 + 5 < _; exact lim (d := dp) (a := 1 + 5) hd rfl) (by show un + 3 + 1 + 1 + 50 < _; exact lim (d := un) (a := 3 + 1 + 1 + 50) hu rfl)) (by show un + 3 + 9 < _; exact lim (d := un) (a := 3 + 9) hu rfl) ?_
  intro D h9 tk9 n9 ys hys F9 N9 hlD
  with_reducible refine k_flat (s := s) ?_
  intro tkF
  rename_i z3 z2 z1
  clear fa k oc od fd sl kv hm hi hfa hkf hkl hr h1 tk1 oP d1 hs1 hlv hs1' z3 tk2 z2 hge' z1 F2 tk hmP hmL N2 hkf' hkl' tk9
  have hs0 : 0 ≤ size := by omega
  have hyl : ys.length < 1000 := by have := hys.len; rw [sortBy_len] at this; omega
  k_steps
  refine Stop.mk ?_
  refine upto_at (hs := by with_unfolding_all rfl) (ht := by intro _; with_unfolding_all rfl) (by k_asm) (by k_asm) (.head _) hs0 hyl ?_
  intro D2 h10 F10 N10 lD2
  refine hRq _ _ ?_
  k_steps
  refine leaveK_ F10 N10 fun kF kN => ?_
  refine hret (.ref D2) ((D2, listOf (ys.take size.toNat).toArray 0) :: news) _ _ kF (News.less kN fun p hp => ?_) ⟨D2, _, 0, rfl, rfl, Two.take _ hys, fun p hp => lD2 p (.tail _ (hsub p hp))⟩
  rcases List.mem_cons.mp hp with rfl | hp
  · exact .head _
  · exact .tail _ (.tail _ (hsub p hp))
theorem nsmall_one_spec (w : World) (a_1 fa : Addr) (vs : List Value) (ns : List Int) (k : Nat) (t1 : Tok) (oc : Value) (od : Option Addr) (fd : FuncData) (sl : Array (Option Value)) (kv : Int → Value) (fars : Int → List Int) (news : Led) (hm : (a_1, listOf vs.toArray k) ∈ news) (hi : Two IsI vs ns)
   (hfa : (fa, (⟨oc, od, .func fd, sl⟩ : Obj)) ∈ news) (hkf : KeyFn w (.ref fa) kv ns news) (hkl : KeyL news kv fars ns) (hr : 1 ≤ ns.length) :
   FnK w 60 600 (.ref 97) [.int 1 t1, .ref a_1] [(Str.ofString "key", .ref fa)] news (RetI news [bestF (ltK fars) (ns.getD 0 0) (ns.drop 1)]) := by
  unfold FnK PG
  w_top off
  k_fill
  intro p loose mean mg mb dp un gd cn cs a ccd cl outer A₀ base h₀ L m s Q E B F X N T hk hd hu hret
  refine wpAny_call ?_
  k_dflt ((refine' code_defC ?k1 ?k2 ?k3 ?k4 ?k5 ?kA ?kF ?kK ?k6 ?k7 ?k8 ?k9 ?kB ?kD ?_ ?c2 ?c3 ?c4; (case kA => exact rfl); (case kF => exact rfl); (case kK => first | assumption | exact rfl); (case k1 => k_asm); (case k2 => k_asm); (case k3 => k_asm); (case k4 => k_asm); (case k5 => k_asm); (case k6 => k_is); (case k7 => k_is); (case k8 => ktr_room); (case k9 => first | exact BindsTo.of_eq rfl | exact binds_K (by k_in) rfl (by k_is) rfl rfl rfl); (case kB => exact rfl); (case kD => decide +kernel); (case c2 => exact rfl); (case c3 => exact rfl); (case c4 => exact rfl); k_whole; intro g1 L1 h1 tk1 cc1 FG1 F1 N1 Y1 B1 X1 T1 l1; k_cells Y1; (try simp only [List.cons_append, List.nil_append] at N1); (try dsimp only); (try k_fold)))
  refine noE ?_
  refine frG [(Str.ofString "n", .int 1 t1), (Str.ofString "iterable", .ref a_1)] F1 ⟨rfl, rfl, trivial⟩ fun mE hAE FE => ?_
  clear F1 hAE
  rename Fr g1 L1 _ _ => F1
  refine hideQ fun QR hRq => ?_
  rename_i oP d1
  replace d1 : oP.data = .cell (some (.ref fa)) := d1
  have hlv := hi.len
  clear A₀ B F X N T hk FG1 l1
  k_steps
  refine Stop.mk ?_
  refine iter_at (by k_asm) (by assumption) (.tail _ hm) ?_
  intro It oI h3 F3 N3 lI hI
  with_reducible refine k_flat (s := s) ?_
  intro tkF
  have hoff : ∀ p ∈ (L1 + 1, oP) :: news, p.1 ≠ It := fun p hp => Nat.ne_of_lt (lI p hp)
  have hmP : (L1 + 1, oP) ∈ (L1 + 1, oP) :: news := .head _
  have hmL : (a_1, listOf vs.toArray k) ∈ (L1 + 1, oP) :: news := .tail _ hm
  have hsub : ∀ p ∈ news, p ∈ (L1 + 1, oP) :: news := fun p hp => .tail _ hp
  have hkf' := hkf.mono hsub
  have hmF := hsub _ hfa
  have hkl' := hkl.mono hsub
  generalize (L1 + 1, oP) :: news = r1 at hoff hmP hmL hmF hsub N3 hkf' hkl'
  clear hm hfa hkf hkl h1 tk1 N1 F1 tkf lI
  k_steps
  rename Fr g1 L1 _ _ => F4
  rename News g1 L1 _ _ => N4
  refine object_at F4 N4 ?_
  intro O h5 F5 N5 lO
  with_reducible refine k_flat (s := s) ?_
  intro tkF
  have hmP5 : (L1 + 1, oP) ∈ (O, ({ cls := .type "object", data := .plain } : Obj)) :: (It, oI) :: r1 := .tail _ (.tail _ hmP)
  rename_i z2 z1
  clear h3 z2 hmP z1 F4 N4 tkf
  k_steps
  refine Stop.mk ?_
  rename Fr g1 L1 _ _ => F6
  rename News g1 L1 _ _ => N6
  have hOr : ∀ p ∈ r1, p ∈ (O, ({ cls := .type "object", data := .plain } : Obj)) :: r1 := fun p hp => .tail _ hp
  have hoI : ∀ p ∈ (O, ({ cls := .type "object", data := .plain } : Obj)) :: r1, p.1 ≠ It := fun p hp => by
    rcases List.mem_cons.mp hp with rfl | hp
    · exact Nat.ne_of_gt (lO _ (.head _))
    · exact hoff p hp
  refine min_at (news := (O, { cls := .type "object", data := .plain }) :: r1) (ns := ns) rfl F6 (News.less N6 fun p hp => ?_) (hOr _ hmL) hI hoI hi (hkl'.mono hOr) (kcall_of (hkf'.mono hOr) B1 X1 T1 rfl (by show dp + 1 + 5 < _; exact lim (d := dp) (a := 1 + 5) hd rfl) (by show un + 3 + 1 + 50 < _; exact lim (d := un) (a := 3 + 1 + 50) hu rfl)) (by show un + 3 + 9 < _; exact lim (d := un) (a := 3 + 9) hu rfl) hr ?_
  · refine subE ?_ _ hp
    walk_at "sub"
  rintro v h9 tk9 ⟨t9, rfl⟩ F9 N9
  with_reducible refine k_flat (s := s) ?_
  intro tkF
  rename_i z2 z1
  clear fa vs k oc od fd sl kv hi hr oP d1 hlv hI hoff hmL hmF hkf' hkl' h5 z2 hmP5 z1 F6 N6 tkf hOr hoI tk9
  k_steps
  refine is_int_ref ?_
  k_steps
  rename Fr g1 L1 _ _ => F10
  rename News g1 L1 _ _ => N10
  rename _ ∧ AllLt _ r1 => lD
  rename_i D h10
  refine hRq _ _ ?_
  k_steps
  refine leaveK_ F10 N10 fun kF kN => ?_
  refine hret (.ref D) ((D, listOf [Value.int (bestF (ltK fars) (ns.getD 0 0) (ns.drop 1)) t9].toArray 0) :: news) _ _ kF (News.less kN fun p hp => ?_) ⟨D, _, 0, rfl, rfl, .cons ⟨t9, rfl⟩ .nil, fun p hp => allLt_get lD.2 p (hsub p hp)⟩
  rcases List.mem_cons.mp hp with rfl | hp
  · exact .head _
  · exact .tail _ (.tail _ (hsub p hp))
end Mine
end
section
open PySem PySem.W PySem.Calls PyProof.Rows PyProof.Rows.LCg
set_option maxRecDepth 100000
set_option maxHeartbeats 8000000
namespace Mine
local macro_rules | `(tactic| walk_at $s:str) => Mine.stopAt ["call builtin:iter", "call builtin:max", "call type:object"] s
theorem nlarge_one_spec (w : World) (a_1 fa : Addr) (vs : List Value) (ns : List Int) (k : Nat) (t1 : Tok) (oc : Value) (od : Option Addr) (fd : FuncData) (sl : Array (Option Value)) (kv : Int → Value) (fars : Int → List Int) (news : Led) (hm : (a_1, listOf vs.toArray k) ∈ news) (hi : Two IsI vs ns)
   (hfa : (fa, (⟨oc, od, .func fd, sl⟩ : Obj)) ∈ news) (hkf : KeyFn w (.ref fa) kv ns news) (hkl : KeyL news kv fars ns) (hr : 1 ≤ ns.length) :
   FnK w 60 600 (.ref 103) [.int 1 t1, .ref a_1] [(Str.ofString "key", .ref fa)] news (RetI news [bestF (gtK fars) (ns.getD 0 0) (ns.drop 1)]) := by
  unfold FnK PG
  w_top off
  k_fill
  intro p loose mean mg mb dp un gd cn cs a ccd cl outer A₀ base h₀ L m s Q E B F X N T hk hd hu hret
  refine wpAny_call ?_
  k_dflt ((refine' code_defC ?k1 ?k2 ?k3 ?k4 ?k5 ?kA ?kF ?kK ?k6 ?k7 ?k8 ?k9 ?kB ?kD ?_ ?c2 ?c3 ?c4; (case kA => exact rfl); (case kF => exact rfl); (case kK => first | assumption | exact rfl); (case k1 => k_asm); (case k2 => k_asm); (case k3 => k_asm); (case k4 => k_asm); (case k5 => k_asm); (case k6 => k_is); (case k7 => k_is); (case k8 => ktr_room); (case k9 => first | exact BindsTo.of_eq rfl | exact binds_K (by k_in) rfl (by k_is) rfl rfl rfl); (case kB => exact rfl); (case kD => decide +kernel); (case c2 => exact rfl); (case c3 => exact rfl); (case c4 => exact rfl); k_whole; intro g1 L1 h1 tk1 cc1 FG1 F1 N1 Y1 B1 X1 T1 l1; k_cells Y1; (try simp only [List.cons_append, List.nil_append] at N1); (try dsimp only); (try k_fold)))
  refine noE ?_
  refine frG [(Str.ofString "n", .int 1 t1), (Str.ofString "iterable", .ref a_1)] F1 ⟨rfl, rfl, trivial⟩ fun mE hAE FE => ?_
  clear F1 hAE
  rename Fr g1 L1 _ _ => F1
  refine hideQ fun QR hRq => ?_
  rename_i oP d1
  replace d1 : oP.data = .cell (some (.ref fa)) := d1
  have hlv := hi.len
  clear A₀ B F X N T hk FG1 l1
  k_steps
  refine Stop.mk ?_
  refine iter_at (by k_asm) (by assumption) (.tail _ hm) ?_
  intro It oI h3 F3 N3 lI hI
  with_reducible refine k_flat (s := s) ?_
  intro tkF
  have hoff : ∀ p ∈ (L1 + 1, oP) :: news, p.1 ≠ It := fun p hp => Nat.ne_of_lt (lI p hp)
  have hmP : (L1 + 1, oP) ∈ (L1 + 1, oP) :: news := .head _
  have hmL : (a_1, listOf vs.toArray k) ∈ (L1 + 1, oP) :: news := .tail _ hm
  have hsub : ∀ p ∈ news, p ∈ (L1 + 1, oP) :: news := fun p hp => .tail _ hp
  have hkf' := hkf.mono hsub
  have hmF := hsub _ hfa
  have hkl' := hkl.mono hsub
  generalize (L1 + 1, oP) :: news = r1 at hoff hmP hmL hmF hsub N3 hkf' hkl'
  clear hm hfa hkf hkl h1 tk1 N1 F1 tkf lI
  k_steps
  rename Fr g1 L1 _ _ => F4
  rename News g1 L1 _ _ => N4
  refine object_at F4 N4 ?_
  intro O h5 F5 N5 lO
  with_reducible refine k_flat (s := s) ?_
  intro tkF
  have hmP5 : (L1 + 1, oP) ∈ (O, ({ cls := .type "object", data := .plain } : Obj)) :: (It, oI) :: r1 := .tail _ (.tail _ hmP)
  rename_i z2 z1
  clear h3 z2 hmP z1 F4 N4 tkf
  k_steps
  refine Stop.mk ?_
  rename Fr g1 L1 _ _ => F6
  rename News g1 L1 _ _ => N6
  have hOr : ∀ p ∈ r1, p ∈ (O, ({ cls := .type "object", data := .plain } : Obj)) :: r1 := fun p hp => .tail _ hp
  have hoI : ∀ p ∈ (O, ({ cls := .type "object", data := .plain } : Obj)) :: r1, p.1 ≠ It := fun p hp => by
    rcases List.mem_cons.mp hp with rfl | hp
    · exact Nat.ne_of_gt (lO _ (.head _))
    · exact hoff p hp
  refine max_at (news := (O, { cls := .type "object", data := .plain }) :: r1) (ns := ns) rfl F6 (News.less N6 fun p hp => ?_) (hOr _ hmL) hI hoI hi (hkl'.mono hOr) (kcall_of (hkf'.mono hOr) B1 X1 T1 rfl (by show dp + 1 + 5 < _; exact lim (d := dp) (a := 1 + 5) hd rfl) (by show un + 3 + 1 + 50 < _; exact lim (d := un) (a := 3 + 1 + 50) hu rfl)) (by show un + 3 + 9 < _; exact lim (d := un) (a := 3 + 9) hu rfl) hr ?_
  · refine subE ?_ _ hp
    walk_at "sub"
  rintro v h9 tk9 ⟨t9, rfl⟩ F9 N9
  with_reducible refine k_flat (s := s) ?_
  intro tkF
  rename_i z2 z1
  clear fa vs k oc od fd sl kv hi hr oP d1 hlv hI hoff hmL hmF hkf' hkl' h5 z2 hmP5 z1 F6 N6 tkf hOr hoI tk9
  k_steps
  refine is_int_ref ?_
  k_steps
  rename Fr g1 L1 _ _ => F10
  rename News g1 L1 _ _ => N10
  rename _ ∧ AllLt _ r1 => lD
  rename_i D h10
  refine hRq _ _ ?_
  k_steps
  refine leaveK_ F10 N10 fun kF kN => ?_
  refine hret (.ref D) ((D, listOf [Value.int (bestF (gtK fars) (ns.getD 0 0) (ns.drop 1)) t9].toArray 0) :: news) _ _ kF (News.less kN fun p hp => ?_) ⟨D, _, 0, rfl, rfl, .cons ⟨t9, rfl⟩ .nil, fun p hp => allLt_get lD.2 p (hsub p hp)⟩
  rcases List.mem_cons.mp hp with rfl | hp
  · exact .head _
  · exact .tail _ (.tail _ (hsub p hp))
end Mine
end
section
open PySem PySem.W PySem.Calls PyProof.Rows PyProof.Rows.LCg
namespace Mine
noncomputable def nsOf (fars : Int → List Int) (size : Int) (ns : List Int) : List Int := (sortBy (ltK fars) ns).take size.toNat
theorem nsmall_spec (w : World) (a_1 fa : Addr) (vs : List Value) (ns : List Int) (k : Nat) (size : Int) (t1 : Tok) (oc : Value) (od : Option Addr) (fd : FuncData) (sl : Array (Option Value)) (kv : Int → Value) (fars : Int → List Int) (news : Led) (hm : (a_1, listOf vs.toArray k) ∈ news) (hi : Two IsI vs ns)
   (hfa : (fa, (⟨oc, od, .func fd, sl⟩ : Obj)) ∈ news) (hkf : KeyFn w (.ref fa) kv ns news) (hkl : KeyL news kv fars ns) (hs : size = 1 ∨ size = 2 ∨ size = 3) (hr : 1 ≤ ns.length) (hr2 : ns.length < 10) (hd : Dis fars ns) :
   FnK w 60 600 (.ref 97) [.int size t1, .ref a_1] [(Str.ofString "key", .ref fa)] news (RetI news (nsOf fars size ns)) := by
  unfold nsOf
  rcases hs with rfl | hs
  · have := nsmall_one_spec w a_1 fa vs ns k t1 oc od fd sl kv fars news hm hi hfa hkf hkl hr
    rw [best_eq hd hr] at this
    exact this
  · by_cases c : size ≥ ns.length
    · exact nsmall_sorted_spec w a_1 fa vs ns k size t1 oc od fd sl kv fars news hm hi hfa hkf hkl hs hr c
    · have := nsmallest_spec w a_1 fa vs ns k size t1 oc od fd sl kv fars news hm hi hfa hkf hkl hs hr2 (by lia)
      rw [nsGen_eq hd (by lia) (by lia)] at this
      exact this
theorem nlarge_spec (w : World) (a_1 fa : Addr) (vs : List Value) (ns : List Int) (k : Nat) (size : Int) (t1 : Tok) (oc : Value) (od : Option Addr) (fd : FuncData) (sl : Array (Option Value)) (kv : Int → Value) (fars : Int → List Int) (news : Led) (hm : (a_1, listOf vs.toArray k) ∈ news) (hi : Two IsI vs ns)
   (hfa : (fa, (⟨oc, od, .func fd, sl⟩ : Obj)) ∈ news) (hkf : KeyFn w (.ref fa) kv ns news) (hkl : KeyL news kv fars ns) (hs : size = 1 ∨ size = 2 ∨ size = 3) (hr : 3 < ns.length) (hr2 : ns.length < 10) (hd : Dis fars ns) :
   FnK w 60 600 (.ref 103) [.int size t1, .ref a_1] [(Str.ofString "key", .ref fa)] news (RetI news ((sortBy (ltK fars) ns).reverse.take size.toNat)) := by
  rcases hs with rfl | hs
  · have := nlarge_one_spec w a_1 fa vs ns k t1 oc od fd sl kv fars news hm hi hfa hkf hkl (by lia)
    rw [bestG_eq hd (by lia)] at this
    exact this
  · have := nlargest_spec w a_1 fa vs ns k size t1 oc od fd sl kv fars news hm hi hfa hkf hkl hs hr2 (by lia)
    rw [nlGen_eq hd (by lia) (by lia)] at this
    exact this
end Mine
end
section
open PySem PySem.W PySem.Calls PyProof.Rows PyProof.Rows.LCg
set_option maxRecDepth 100000
set_option maxHeartbeats 8000000
namespace Mine
local macro_rules | `(tactic| walk_at "mine") => `(tactic| skip)
local macro_rules | `(tactic| walk_at $s:str) => Mine.stopAt ["call ref", "eval ListComp", "exec For Name Name cons nil", "subscriptTail Name Constant ref int", "subscriptTail Name Slice ref ref", "binaryOp Add ref ref", "inplaceOp Add ref ref", "compareOp NotEq ref ref", "compareOp NotIn int ref", "call builtin:len cons nil", "exec Assign cons ListComp"] s
noncomputable def knownRow (place size total : Int) (fronts : List (List Int)) : List Int :=
  match fronts.filter (fun q => !decide (place ∈ q)) with
  | [] => []
  | a :: _ => (a.drop (total.fmod a.length).toNat ++ a.take (total.fmod a.length).toNat).take size.toNat
noncomputable def knownOf (place size total : Int) (rows : List (List (List Int))) : List Int := rows.flatMap (knownRow place size total)
theorem rot_len {α : Type} (l : List α) (c : Nat) : (l.drop c).length + (l.take c).length = l.length := by rw [Nat.add_comm, ← List.length_append, List.take_append_drop]
theorem known_len (place size total : Int) : ∀ (rows : List (List (List Int))), size ≤ 10 → (knownOf place size total rows).length ≤ 10 * rows.length
  | [], _ => Nat.le_refl _
  | r :: rs, h => by
    have ih := known_len place size total rs h
    have : (knownRow place size total r).length ≤ 10 := by
      unfold knownRow; split
      · exact Nat.zero_le _
      · rw [List.length_take]; exact Nat.le_trans (Nat.min_le_left _ _) (Int.toNat_le.mpr h)
    simp only [knownOf, List.flatMap_cons, List.length_append, List.length_cons] at ih ⊢
    exact Nat.le_trans (Nat.add_le_add this ih) (Nat.le_of_eq (by rw [Nat.mul_succ, Nat.add_comm]))
theorem law_known_spec (w : World) (a_1 : Addr) (vs : List Value) (rows : List (List (List Int))) (k : Nat) (place size total : Int) (t1 t2 t3 : Tok) (news : Led) (hm : (a_1, listOf vs.toArray k) ∈ news) (hi : Two (LIL news) vs rows)
   (hne : ∀ r ∈ rows, r.length < 10 ∧ ∀ q ∈ r, q ≠ [] ∧ q.length < 10) (hr : rows.length < 10) (hs0 : 0 ≤ size) (hs1 : size < 10) :
   Fn w 10 100 (.ref 220) [.ref a_1, .int place t1, .int size t2, .int total t3] news (RetI news (knownOf place size total rows)) := by
  unfold Fn PG
  w_top off
  k_fill
  intro p loose mean mg mb dp un gd cn cs a ccd cl outer A₀ base h₀ L m s Q E B F X N T hk hd hu hret
  refine wpAny_call ?_
  k_dflt ((refine' code_defC ?k1 ?k2 ?k3 ?k4 ?k5 ?kA ?kF ?kK ?k6 ?k7 ?k8 ?k9 ?kB ?kD ?_ ?c2 ?c3 ?c4; (case kA => exact rfl); (case kF => exact rfl); (case kK => first | assumption | exact rfl); (case k1 => k_asm); (case k2 => k_asm); (case k3 => k_asm); (case k4 => k_asm); (case k5 => k_asm); (case k6 => k_is); (case k7 => k_is); (case k8 => ktr_room); (case k9 => first | exact BindsTo.of_eq rfl | exact binds_K (by k_in) rfl (by k_is) rfl rfl rfl); (case kB => exact rfl); (case kD => decide +kernel); (case c2 => exact rfl); (case c3 => exact rfl); (case c4 => exact rfl); k_whole; intro g1 L1 h1 tk1 cc1 FG1 F1 N1 Y1 B1 X1 T1 l1; k_cells Y1; (try simp only [List.cons_append, List.nil_append] at N1); (try dsimp only); (try k_fold)))
  refine noE ?_
  refine frG [(Str.ofString "sorts", .ref a_1), (Str.ofString "size", .int size t2), (Str.ofString "total", .int total t3)] F1 ⟨rfl, rfl, rfl, trivial⟩ fun mE hAE FE => ?_
  clear F1 hAE
  rename Fr g1 L1 _ _ => F1
  refine hideQ fun QR hRq => ?_
  rename_i oP d1
  replace d1 : oP.data = .cell (some (.int place t1)) := d1
  k_steps
  rename Fr g1 L1 _ _ => F2
  rename News g1 L1 _ _ => N2
  rename _ ∧ _ => l2
  rename_i S tk2 h2
  refine Stop.mk ?_
  refine wpAny_For ?_
  k_steps
  have hnL : ∀ p ∈ news, p.1 < S := fun p hp => Nat.lt_trans (Nat.lt_succ_of_lt (l1 p hp)) l2.1
  refine for_A (hh := by rfl) (hE := by passes_own) (its := vs) (k := k) (fr₀ := [(S, listOf #[] 0)]) (news := (L1 + 1, oP) :: news) [S]
    (fun i m fr tl => ∃ (ys : List Value) (kk : Nat), AllAre m [(Str.ofString "known", .ref S), (Str.ofString "size", .int size t2), (Str.ofString "total", .int total t3)] ∧ fr = [(S, listOf ys.toArray kk)] ∧ Two IsI ys (knownOf place size total (rows.take i))) (by k_asm) N2 rfl ?_ (.tail _ hm) ⟨[], 0, ⟨rfl, rfl, rfl, trivial⟩, rfl, Two.nil⟩ ?_ ?_
  · intro a ha p hp
    simp only [List.mem_cons, List.not_mem_nil, or_false] at ha hp
    rcases ha with rfl; rcases hp with rfl | hp
    · exact Nat.ne_of_lt l2.1
    · exact Nat.ne_of_lt (hnL p hp)
  · rintro i v m fr tl rest h tk hi' hv qG1 - F3 N3 hsR off I R hR
    refine hideG fun gG hG => ?_
    obtain ⟨ys4, kk, hA, rfl, hys⟩ := qG1
    obtain ⟨fronts, hn, af, vf, kf, rfl, hmf, hif⟩ := hi.get hv
    refine hG ?_
    try clear hG gG
    refine wpAny_pure ?_
    have hnS := off S (.head _)
    replace N3 : News g1 L1 h ((S, listOf ys4.toArray kk) :: rest) := N3
    have hmF : (af, listOf vf.toArray kf) ∈ rest := hsR _ (List.mem_append_right _ (.tail _ hmf))
    have hmP : (L1 + 1, oP) ∈ rest := hsR _ (List.mem_append_right _ (.head _))
    have hif' : Two (LI rest) vf fronts := hif.imp fun v b => LI.mono fun p hp => hsR _ (List.mem_append_right _ (.tail _ hp))
    have hfr := hne fronts (List.mem_of_getElem? hn)
    replace F3 := frOv F3 hA
    clear a_1 k hm hne A₀ B F X N T hk hd hret h1 tk1 FG1 l1 mE tk2 l2 F2 N2 hnL tl hsR off I hmf hif hv
    k_steps
    rename Fr g1 L1 _ _ => F4
    rename News g1 L1 _ _ => N4
    rename_i h4
    refine Stop.mk ?_
    refine Assign_ListComp_G (hs := by intro _; rfl) F4 rfl (by with_unfolding_all rfl) (by with_unfolding_all rfl) (by decide) (by rfl) (by decide) (by with_unfolding_all rfl) (by with_unfolding_all rfl) ?_
    k_steps
    refine src_list (hh := by rfl) (hkind := by rfl) (hx := by rfl) (its := vf) (k := kf) _ F4 N4 (.tail _ hmF) (fit9 (by rw [hif'.len]; exact ltW hfr.1 rfl)) (JT.nil rfl) (turn_filterT fronts (fun vals q => ∃ v, vals = [v] ∧ LI rest v q) (fun q => !decide (place ∈ q)) (fun q => q) (fun _ v b => LI rest v b) (fun _ _ _ _ _ h => h) (fun i vals _ ⟨v, e, hv⟩ => let ⟨n, hn, hr⟩ := hif'.get hv; ⟨n, hn, v, e, hr⟩) ?_ ?_) ?_
    · rintro q vals hq qG2 h8 tk8 rest8 C8 oC8 m8 E8 hs8 hmC8 hC8 F8 N8
      refine hideG fun gG hG => ?_
      obtain ⟨v, rfl, aq, vq, kq, rfl, hmq, hiq⟩ := qG2
      refine hG ?_
      try clear hG gG
      have hx : putAll [Str.ofString "sort"] [.ref aq] m8 (Str.ofString "sort") = some (.ref aq) := rfl
      generalize putAll [Str.ofString "sort"] [.ref aq] m8 = m9 at hC8 hx
      have hbQ := hs8 _ (.tail _ hmq)
      have hbP := hs8 _ (.tail _ hmP)
      clear vs news hi hr hs0 hs1 hu h tk hi' ys4 kk hA hys fronts hn vf kf hnS hmF hmP hif' hfr F4 N4 hq m8 hs8 hmq
      k_steps
      refine notin_at N8 hbQ hiq ?_
      k_steps
      exact ⟨_, _, rfl, F8, N8, rfl⟩
    · rintro q vals hq hqt qG3 h8 tk8 rest8 C8 oC8 m8 E8 hs8 hmC8 hC8 F8 N8
      refine hideG fun gG hG => ?_
      obtain ⟨v, rfl, aq, vq, kq, rfl, hmq, hiq⟩ := qG3
      refine hG ?_
      try clear hG gG
      have hx : putAll [Str.ofString "sort"] [.ref aq] m8 (Str.ofString "sort") = some (.ref aq) := rfl
      generalize putAll [Str.ofString "sort"] [.ref aq] m8 = m9 at hC8 hx
      clear vs t1 news hi hr hs0 hs1 hu oP d1 h tk hi' ys4 kk hA hys fronts hn vf kf hnS hmF hmP hif' hfr F4 N4 hq hqt m8 hs8
      k_steps
      exact EE.pure F8 N8 ⟨aq, vq, kq, rfl, hmq, hiq⟩
    · intro D h9 tk9 ys nw F9 N9 o1 hlt ⟨tl9, e, ab, hj⟩
      have hj : Two (LI rest) ys (fronts.filter fun q => !decide (place ∈ q)) := by simpa [hif'.len] using hj
      have hDS : S < D := hlt _ (.head _)
      have N10 : News g1 L1 h9 ((S, listOf ys4.toArray kk) :: (D, lst ys) :: rest) := News.less N9 (by subst e; simp only [List.mem_cons, List.mem_append]; rintro p (h | h | h) <;> simp only [h, true_or, or_true])
      have hDr : ∀ p ∈ rest, p.1 < D := fun p hp => hlt p (.tail _ hp)
      have hnS' : ∀ p ∈ (D, lst ys) :: rest, p.1 ≠ S := fun p hp => by
        rcases List.mem_cons.mp hp with rfl | hp
        · exact Nat.ne_of_gt hDS
        · exact hnS p hp
      have hmD : (D, lst ys) ∈ (D, lst ys) :: rest := .head _
      have hjr : Two (LI ((D, lst ys) :: rest)) ys (fronts.filter fun q => !decide (place ∈ q)) := hj.imp fun v b => LI.mono fun p hp => .tail _ hp
      have hsub : ∀ p ∈ rest, p ∈ (D, lst ys) :: rest := fun p hp => .tail _ hp
      generalize (D, lst ys) :: rest = r10 at N10 hnS' hmD hjr hsub
      rename_i z1
      clear h tk vf kf hnS hmF hmP hif' F4 N4 nw N9 o1 hlt tl9 e ab z1 hj
      k_steps
      rename Fr g1 L1 _ _ => F11
      rename News g1 L1 _ _ => N11
      rename _ ∧ _ => l11
      rename_i Z h11
      refine ne_nil_at N11 (.tail _ (.tail _ hmD)) (.head _) (by show un + 3 < cLine; exact lim (d := un) (a := 3) hu rfl) ?_
      cases hjr' : fronts.filter (fun q => !decide (place ∈ q)) with
      | nil =>
        rw [hjr'] at hjr
        have hy0 : ys = [] := by cases hjr; rfl
        rw [show decide (ys ≠ []) = false by simp [hy0]]
        k_steps
        refine hR _ _ ?_
        exact FE.mk [(S, listOf ys4.toArray kk)] [] (by assumption) N11 (by
          simp only [List.mem_cons, List.mem_append, List.not_mem_nil, or_false]; rintro p (h | h | h)
          · simp [h]
          · exact h.elim
          · simp [hsub p h]) rfl Above.nil (fun _ _ _ h => nomatch h) ⟨ys4, kk, ⟨rfl, rfl, rfl, trivial⟩, rfl, by rw [take_snoc hn, knownOf, List.flatMap_append]; simpa [knownRow, hjr', knownOf] using hys⟩
      | cons q0 qr =>
        rw [hjr'] at hjr
        obtain ⟨v0, yr, hyv, hv0⟩ : ∃ v0 yr, ys = v0 :: yr ∧ LI r10 v0 q0 := by cases hjr with | cons h t => exact ⟨_, _, rfl, h⟩
        refine hideG fun gG hG => ?_
        obtain ⟨a0, vq, kq, rfl, hmq, hiq⟩ := hv0
        refine hG ?_
        try clear hG gG
        have hq0 : q0 ∈ fronts := by
          have : q0 ∈ fronts.filter (fun q => !decide (place ∈ q)) := by rw [hjr']; exact .head _
          exact (List.mem_filter.mp this).1
        have hql := (hfr.2 q0 hq0)
        have hql2 : 0 < vq.length ∧ vq.length < 10 := by
          rw [hiq.len]; exact ⟨List.length_pos_iff.mpr hql.1, hql.2⟩
        rw [show decide (ys ≠ []) = true by simp [hyv]]
        have hy0 : ys[(0 : Int).toNat]? = some (.ref a0) := by rw [hyv]; rfl
        clear h4 tkf l11 hjr yr hyv hq0 hql
        k_steps
        refine itv_at (hs := by with_unfolding_all rfl) (hg := by intro _; with_unfolding_all rfl) N11 (.tail _ (.tail _ hmD)) (by decide) (by decide) hy0 ?_
        k_steps
        refine lenv_at N11 (.tail _ (.tail _ hmq)) (ltW hql2.2 rfl) ?_
        intro t12 tk12
        with_reducible refine k_flat (s := s) ?_
        intro tkF
        k_steps
        have hc0 : 0 ≤ total.fmod (vq.length : Int) := by rw [Int.fmod_eq_emod_of_nonneg _ (Int.natCast_nonneg _)]; exact Int.emod_nonneg _ (Int.ne_of_gt (Int.ofNat_lt.mpr hql2.1))
        rename News g1 L1 _ _ => N12
        refine itv_at (hs := by with_unfolding_all rfl) (hg := by intro _; with_unfolding_all rfl) N12 (.tail _ (.tail _ hmD)) (by decide) (by decide) hy0 ?_
        k_steps
        refine from_at (hs := by with_unfolding_all rfl) (ht := by intro _; with_unfolding_all rfl) (by k_asm) N12 (.tail _ (.tail _ hmq)) hc0 (ltW hql2.2 rfl) ?_
        intro D1 h13 F13 N13 lD1
        with_reducible refine k_flat (s := s) ?_
        intro tkF
        k_steps
        refine itv_at (hs := by with_unfolding_all rfl) (hg := by intro _; with_unfolding_all rfl) N13 (.tail _ (.tail _ (.tail _ hmD))) (by decide) (by decide) hy0 ?_
        k_steps
        refine upto_at (hs := by with_unfolding_all rfl) (ht := by intro _; with_unfolding_all rfl) (by k_asm) N13 (.tail _ (.tail _ (.tail _ hmq))) hc0 (ltW hql2.2 rfl) ?_
        intro D2 h14 F14 N14 lD2
        with_reducible refine k_flat (s := s) ?_
        intro tkF
        k_steps
        refine addv_at (by k_asm) N14 (.tail _ (.head _)) (.head _) (by rw [rot_len]; exact ltW hql2.2 rfl) ?_
        intro D3 h15 F15 N15 lD3
        with_reducible refine k_flat (s := s) ?_
        intro tkF
        k_steps
        refine upto_at (hs := by with_unfolding_all rfl) (ht := by intro _; with_unfolding_all rfl) (by k_asm) N15 (.head _) hs0 (by rw [List.length_append, rot_len]; exact ltW hql2.2 rfl) ?_
        intro D4 h16 F16 N16 lD4
        with_reducible refine k_flat (s := s) ?_
        intro tkF
        k_steps
        have hys4 : ys4.length < 500 := by
          have h1 := known_len place size total (rows.take i) (Int.le_of_lt hs1)
          rw [hys.len]
          exact Nat.lt_of_le_of_lt (Nat.le_trans h1 (Nat.mul_le_mul_left 10 (Nat.le_trans (List.length_take_le' ..) (Nat.le_of_lt hr)))) (by decide)
        refine iaddv_at (ws := ((vq.drop (total.fmod vq.length).toNat ++ vq.take (total.fmod vq.length).toNat).take size.toNat)) (n := kk) (n2 := 0) (vs := ys4) (news := (D4, listOf ((vq.drop (total.fmod vq.length).toNat ++ vq.take (total.fmod vq.length).toNat).take size.toNat).toArray 0) :: r10) (by k_asm) (News.less N16 (by
          simp only [List.mem_cons]; rintro p (h | h | h) <;> simp only [h, true_or, or_true])) (fun p hp => by
          rcases List.mem_cons.mp hp with rfl | hp
          · exact Nat.ne_of_gt (lD4 (S, listOf ys4.toArray kk) (by simp))
          · exact hnS' p hp) (.head _) (Nat.lt_of_lt_of_le (Nat.add_lt_add_of_lt_of_le hys4 (Nat.le_trans (List.length_take_le ..) (Int.toNat_le.mpr (Int.le_of_lt hs1)))) (by decide)) ?_
        intro h17 n17 F17 N17
        with_reducible refine k_flat (s := s) ?_
        intro tkF
        k_steps
        have hcut : total.fmod (vq.length : Int) = total.fmod (q0.length : Int) := by rw [hiq.len]
        refine hR _ _ ?_
        refine FE.mk [(S, listOf (ys4 ++ (vq.drop (total.fmod vq.length).toNat ++ vq.take (total.fmod vq.length).toNat).take size.toNat).toArray n17)] [] (by assumption) (by assumption) (by
          simp only [List.mem_cons, List.mem_append, List.not_mem_nil, or_false]; rintro p (h | h | h)
          · simp [h]
          · exact h.elim
          · simp [hsub p h]) rfl Above.nil (fun _ _ _ h => nomatch h) ⟨_, n17, ⟨rfl, rfl, rfl, trivial⟩, rfl, ?_⟩
        rw [take_snoc hn, knownOf, List.flatMap_append]
        refine Two.app hys ?_
        have e : List.flatMap (knownRow place size total) [fronts] = (q0.drop (total.fmod q0.length).toNat ++ q0.take (total.fmod q0.length).toNat).take size.toNat := by
          simp [knownRow, hjr']
        rw [e, hcut]
        exact Two.take _ (Two.app (Two.drop _ hiq) (Two.take _ hiq))
  · rintro h9 tk9 m9 fr9 tl qG4 - F9 N9 off ab ab2
    refine hideG fun gG hG => ?_
    obtain ⟨ys, kk, hA, rfl, hys⟩ := qG4
    refine hG ?_
    try clear hG gG
    replace F9 := frOv F9 hA
    have hys : Two IsI ys (knownOf place size total rows) := by rw [hi.len, List.take_length] at hys; exact hys
    k_steps
    refine hRq _ _ ?_
    k_steps
    rename News h₀ L _ _ => N10
    exact hret _ ((S, listOf ys.toArray kk) :: news) _ _ (by assumption) (News.less N10 (by simp only [List.mem_cons, List.mem_append, List.not_mem_nil, or_false]; rintro p (h | h) <;> simp [h])) ⟨S, ys, kk, rfl, rfl, hys, hnL⟩
end Mine
end
section
open PySem PySem.W PySem.Calls PyProof.Rows PyProof.Rows.LCg
set_option maxRecDepth 100000
set_option maxHeartbeats 8000000
namespace Mine
noncomputable def codeD (o : Obj) : Array Value := match o.data with
  | .fields vs => vs
  | _ => #[]
noncomputable def isCd : Value → Bool
  | .type s => s == "code"
  | _ => false
noncomputable def isSt : Value → Bool
  | .str _ _ => true
  | _ => false
noncomputable def isIn : Value → Bool
  | .int _ _ => true
  | _ => false
noncomputable def isBo : Value → Bool
  | .bool _ => true
  | _ => false
noncomputable def isRf (P : Addr) : Value → Bool
  | .ref a => a == P
  | _ => false
theorem isCd_eq {v : Value} (h : isCd v = true) : v = .type "code" := by
  cases v with
  | type s => exact congrArg Value.type (eq_of_beq h)
  | _ => exact absurd h Bool.false_ne_true
theorem isSt_eq {v : Value} (h : isSt v = true) : ∃ f t, v = .str f t := by
  cases v with
  | str s t => exact ⟨s, t, rfl⟩
  | _ => exact absurd h Bool.false_ne_true
theorem isIn_eq {v : Value} (h : isIn v = true) : ∃ f t, v = .int f t := by
  cases v with
  | int s t => exact ⟨s, t, rfl⟩
  | _ => exact absurd h Bool.false_ne_true
theorem isBo_eq {v : Value} (h : isBo v = true) : ∃ f, v = .bool f := by
  cases v with
  | bool s => exact ⟨s, rfl⟩
  | _ => exact absurd h Bool.false_ne_true
theorem isRf_eq {P : Addr} {v : Value} (h : isRf P v = true) : v = .ref P := by
  cases v with
  | ref a => exact congrArg Value.ref (eq_of_beq h)
  | _ => exact absurd h Bool.false_ne_true
noncomputable def codeB (K : Frag) (c P : Addr) : Bool := match K.lookup c with
  | some o => isCd o.cls && isRf P ((codeD o).getD 11 .none) && isSt ((codeD o).getD 18 .none) && isIn ((codeD o).getD 7 .none) && isBo ((codeD o).getD 9 .none) && isIn ((codeD o).getD 10 .none) && c != P
  | none => false
theorem codeB_hd {K : Frag} {c P : Addr} {h : Heap} (X : K.In h) (e : codeB K c P = true) : CodeHd h c P := by
  unfold codeB at e
  cases hl : K.lookup c with
  | none => rw [hl] at e; exact absurd e Bool.false_ne_true
  | some o =>
    rw [hl] at e
    simp only [Bool.and_eq_true] at e
    have e1 := isRf_eq e.1.1.1.1.1.2
    have hd : o.data = .fields (codeD o) := by
      unfold codeD at e1 ⊢
      cases hd : o.data with
      | fields vs => rfl
      | _ => rw [hd] at e1; exact Value.noConfusion e1
    obtain ⟨f, t, e2⟩ := isSt_eq e.1.1.1.1.2
    obtain ⟨i, u, e3⟩ := isIn_eq e.1.1.1.2
    obtain ⟨b, e4⟩ := isBo_eq e.1.1.2
    obtain ⟨j, v, e5⟩ := isIn_eq e.1.2
    refine ⟨o, codeD o, f, t, i, u, b, j, v, X _ _ hl, isCd_eq e.1.1.1.1.1.1, hd, ?_, e1, e2, e3, e4, e5, ne_of_beq_false (by simpa using e.2)⟩
    rw [Array.getD_eq_getD_getElem?] at e1
    cases q : (codeD o)[11]? with
    | none => rw [q] at e1; exact Value.noConfusion e1
    | some x => rw [q] at e1; exact congrArg some e1
theorem code_found (P : Params) : codeB (Mine.hd.heap_1 P) 226 222 = true := by kernel_rfl
theorem code_law (P : Params) : codeB (Mine.hd.heap_1 P) 231 229 = true := by kernel_rfl
/-- a code object's table of codes made: each of the places is not in it, or its code stands in the ledger -/
noncomputable def TabOK (qual : Str) (poss : List Pos) (ps : Array Value) (news : Led) : Prop := TriplesOk ps.toList ∧ ∀ q ∈ poss, codeAmong q ps.toList = none ∨ ∃ (c' : Addr) (oc : Obj) (vs : Array Value) (t : Tok), codeAmong q ps.toList = some (.ref c') ∧ (c', oc) ∈ news ∧ oc.data = .fields vs ∧ vs[1]? = some (.str qual t)
theorem TabOK.mono {qual : Str} {poss : List Pos} {ps : Array Value} {news news' : Led} (h : TabOK qual poss ps news) (hs : ∀ p ∈ news, p ∈ news') : TabOK qual poss ps news' := ⟨h.1, fun q hq => (h.2 q hq).imp id fun ⟨c', oc, vs, t, h1, h2, h3⟩ => ⟨c', oc, vs, t, h1, hs _ h2, h3⟩⟩
theorem triples_snoc {pos : Pos} {c : Value} (l : List Value) (h : TriplesOk l) : TriplesOk (l ++ [rawInt pos.line, rawInt pos.col, c]) := by
  fun_induction TriplesOk l with
  | case1 => simp [TriplesOk, rawInt]
  | case2 a t b u x rest ih => exact ih h
  | case3 l h1 h2 => exact h.elim
theorem among_other {pos q : Pos} {c : Value} (l : List Value) (h : TriplesOk l) (hne : ¬ ((pos.line : Int) = q.line ∧ (pos.col : Int) = q.col)) : codeAmong q (l ++ [rawInt pos.line, rawInt pos.col, c]) = codeAmong q l := by
  fun_induction TriplesOk l with
  | case1 =>
    show (if ((pos.line : Int) == q.line && (pos.col : Int) == q.col) = true then some c else none) = none
    rw [if_neg (by simpa using hne)]
  | case2 a t b u x rest ih =>
    show (if (a == q.line && b == q.col) = true then some x else codeAmong q (rest ++ _)) = if (a == q.line && b == q.col) = true then some x else codeAmong q rest
    rw [ih h]
  | case3 l h1 h2 => exact h.elim
section
variable {M : Model} {A : Around} {E : Value → Shared → Prop} {s : Shared} {h₀ : Heap} {L a c P : Addr} {m mg mb : Str → Option Value} {cn : Str} {cs : Scope} {ccd : Value} {cl : List (Str × Addr)} {news : Led}
  {p : Program} {loose : List Str} {mean : ExcName → Option Value} {qual : Str} {params : Arguments} {body : Expr} {scope : Scope} {ps : Array Value} {pos : Pos} {clos : List (Str × Addr)}
theorem lam_at {Q : Value → Shared → Prop} {newsT : Led} (poss : List Pos) (F : Fr h₀ L s.heap m) (N : News h₀ L s.heap ((P, tabObj ps) :: news)) (hoff : ∀ p ∈ news, p.1 ≠ P) (T : Top p loose mean mg mb h₀) (C : CodeHd h₀ c P) (hcd : ccd = .ref c) (hq : qual = (envX cn cs L a ccd cl).qual ++ "<lambda>") (hsT : ∀ p ∈ newsT, p ∈ news) (ht : TabOK qual poss ps newsT) (hp : pos ∈ poss)
    (hne : ∀ q ∈ poss, q ≠ pos → ¬ ((pos.line : Int) = q.line ∧ (pos.col : Int) = q.col)) (hcl : closureFor scope (envX cn cs L a ccd cl) = pure clos) (hdef : defaultsOf params (envX cn cs L a ccd cl) = ([], []))
    (h : ∀ f c' oc vs t ctv ps' tl h' tk, Fr h₀ L h' m → News h₀ L h' ((f, kla_obj "<lambda>" qual params body scope clos ((mg "__name__").getD .none) c' ctv) :: (P, tabObj ps') :: (tl ++ news)) → (∀ p ∈ tl, ∀ q ∈ (P, tabObj ps) :: news, q.1 < p.1) →
      (c', oc) ∈ tl ++ newsT → oc.data = .fields vs → vs[1]? = some (.str qual t) → TabOK qual poss ps' (tl ++ newsT) → (∀ q ∈ (P, tabObj ps') :: (tl ++ news), q.1 < f) → Q (.ref f) { s with heap := h', toks := tk }) :
    wpAny M A (eval (.Lambda params body scope pos) (envX cn cs L a ccd cl)) Q E s := by
  refine kla_eval hdef ?_
  rw [← hq]
  rcases ht.2 pos hp with hn | ⟨c', oc, vs, t, h1, h2, h3, h4⟩
  · refine kla_nest F N T C hcd (.head hoff) ht.1 hn hcl fun f c' oc vs t ctv h' tk F' N' hd hv l1 l2 => ?_
    have hl : ∀ q ∈ news, q.1 < c' := fun q hq => l1 q (.tail _ hq)
    have hPc : P < c' := l1 _ (.head _)
    refine h f c' oc vs t ctv (ps ++ #[rawInt pos.line, rawInt pos.col, .ref c']) [(c', oc)] h' tk F' (fun p hp => N' p ?_) (fun p hp => ?_) (.head _) hd hv ⟨?_, fun q hqm => ?_⟩ (fun q hq => ?_)
    · refine subE ?_ _ hp
      walk_at "sub"
    · rw [List.mem_singleton.mp hp]; exact l1
    · rw [Array.toList_append]; exact triples_snoc _ ht.1
    · by_cases e : q = pos
      · subst e
        refine .inr ⟨c', oc, vs, t, ?_, .head _, hd, hv⟩
        rw [Array.toList_append]; exact codeAmong_snoc _ ht.1 hn
      · have e2 : codeAmong q (ps ++ #[rawInt pos.line, rawInt pos.col, .ref c']).toList = codeAmong q ps.toList := by
          rw [Array.toList_append]; exact among_other _ ht.1 (hne q hqm e)
        rw [e2]
        exact (ht.2 q hqm).imp id fun ⟨c2, oc2, vs2, t2, h1, h2, h3⟩ => ⟨c2, oc2, vs2, t2, h1, .tail _ h2, h3⟩
    · simp only [List.mem_cons, List.cons_append, List.nil_append] at hq
      rcases hq with rfl | rfl | hq
      · exact Nat.lt_trans hPc l2
      · exact l2
      · exact Nat.lt_trans (hl q hq) l2
  · refine kla_hit F N T C hcd (.head _) ht.1 h1 hcl fun f ctv h' tk F' N' l1 => ?_
    exact h f c' oc vs t ctv ps [] h' tk F' N' (fun _ h => nomatch h) h2 h3 h4 ht l1
end
end Mine
end
section
open PySem PySem.W PySem.Calls PyProof.Rows PyProof.Rows.LCg
set_option maxRecDepth 100000
set_option maxHeartbeats 1000000
namespace Mine
local macro_rules | `(tactic| walk_at $s:str) => Mine.stopAt ["subscriptTail Name Name ref int"] s
noncomputable def lamParams (p4 : Pos) : Arguments := { posonlyargs := [], args := [{ arg := Str.ofString "k", annotation := none, pos := p4 }], vararg := none, kwonlyargs := [], kw_defaults := [], kwarg := none, defaults := [] }
noncomputable def lamBody (p1 p2 p3 : Pos) : Expr := .Subscript (.Name (Str.ofString "fars") p1) (.Name (Str.ofString "k") p2) p3
noncomputable def lamScope : Scope := { kind := .function, names := [(Str.ofString "k", .local), (Str.ofString "fars", .free)], isGenerator := false, isCoroutine := false }
theorem lam_key (w : World) {f c' cellA aF : Addr} {oc oP : Obj} {vs : Array Value} {t : Tok} {qual : Str} {ctv pm : Value} {p1 p2 p3 p4 : Pos} {fv : List Value} {kF : Nat} {kv : Int → Value} {ns : List Int} {news : Led}
    (hf : (f, kla_obj (Str.ofString "<lambda>") qual (lamParams p4) (lamBody p1 p2 p3) lamScope [(Str.ofString "fars", cellA)] pm c' ctv) ∈ news) (hc : (c', oc) ∈ news) (hd : oc.data = .fields vs) (hv : vs[1]? = some (.str qual t))
    (hP : (cellA, oP) ∈ news) (hPd : oP.data = .cell (some (.ref aF))) (hF : (aF, listOf fv.toArray kF) ∈ news) (hkv : ∀ k ∈ ns, 0 ≤ k ∧ k < 1000 ∧ fv[k.toNat]? = some (kv k)) : KeyFn w (.ref f) kv ns news := by
  intro k hk t6 news' hn
  unfold Fn PG
  w_top off
  k_fill
  intro p loose mean mg mb dp un gd cn cs a ccd cl outer A₀ base h₀ L m s Q E B F X N T hkk hd' hu hret
  have hmf := hn _ hf
  have hmc := hn _ hc
  have hmP := hn _ hP
  have hmF := hn _ hF
  have hkk2 := hkv k hk
  refine wpAny_call ?_
  refine kla_code (binds := [(Str.ofString "k", .int k t6)]) B F X N T rfl rfl hkk hmf (codeRec_news N hmc hd hv) (by show dp < recursionLimit; omega) rfl (by intro y hy; rw [List.mem_singleton.mp hy]; rfl) ?_ rfl rfl rfl (by decide)
  intro g1 L1 h1 FG1 F1 N1 B1 X1 T1
  have C1 := codeB_hd X1 (code_found w.params)
  clear oc vs t ctv pm p4 ns news hf hc hd hv hP hF hkv hk hn A₀ B F X N T hkk hd' hmf hmc FG1
  unfold lamBody
  dsimp only
  k_steps
  refine itv_at (hs := by with_unfolding_all rfl) (hg := by intro _; with_unfolding_all rfl) N1 hmF hkk2.1 (by omega) hkk2.2.2 ?_
  exact leaveK_ F1 N1 fun kF kN => hret _ _ _ _ kF kN ⟨rfl, rfl⟩
end Mine
end
section
open PySem PySem.W PySem.Calls PyProof.Rows PyProof.Rows.LCg
set_option maxRecDepth 100000
set_option maxHeartbeats 8000000
namespace Mine
local macro_rules | `(tactic| walk_at "mine") => `(tactic| skip)
local macro_rules | `(tactic| walk_at $s:str) => Mine.stopAt ["call ref", "exec While Compare cons nil", "exec For Name Call cons nil", "subscriptTail Name Name ref int", "compareOp NotEq ref ref", "compareOp NotIn int ref", "call builtin:list.append"] s
/-- a heap's top, and what is left -/
noncomputable def popX {α : Type} [Inhabited α] (w : List α) : α := if w.dropLast = [] then w.getLastD default else w.dropLast.getD 0 default
noncomputable def popR {α : Type} [Inhabited α] (lt : α → α → Bool) (w : List α) : List α := if w.dropLast = [] then [] else siftupL lt (w.dropLast.set 0 (w.getLastD default)) 0
noncomputable def fStep (fars : Int → List Int) (st : List Int × List (Int × List Int)) (k : Int) : List Int × List (Int × List Int) :=
  if k ∈ st.1 then st else (st.1 ++ [k], heappushL (ltE fars) st.2 (k, [k]))
/-- the search, as a walk needs it -/
structure Search (fars : Int → List Int) (rows : List (List (List Int))) (N : Int) (start size total : Int) (goal : List Int) where
  Inv : List Int → List (Int × List Int) → Prop
  init : Inv [start] [(start, [start])]
  nod : ∀ h w, Inv h w → h.Nodup ∧ (∀ k ∈ h, 0 ≤ k ∧ k < N) ∧ h ≠ [] ∧ w.length < 10 ∧ ∀ p ∈ w, p.2 = [p.1] ∧ 0 ≤ p.1 ∧ p.1 < N
  known : ∀ k, ∀ j ∈ knownOf k size total rows, 0 ≤ j ∧ j < N
  rank : List Int → List (Int × List Int) → Nat
  step : ∀ h w, Inv h w → w ≠ [] → (popX w).1 ∈ nsOf fars size h →
    Inv ((knownOf (popX w).1 size total rows).foldl (fStep fars) (h, popR (ltE fars) w)).1 ((knownOf (popX w).1 size total rows).foldl (fStep fars) (h, popR (ltE fars) w)).2 ∧
    rank ((knownOf (popX w).1 size total rows).foldl (fStep fars) (h, popR (ltE fars) w)).1 ((knownOf (popX w).1 size total rows).foldl (fStep fars) (h, popR (ltE fars) w)).2 < rank h w
  over : ∀ h, Inv h [] → nsOf fars size h = goal
  far : ∀ h w, Inv h w → w ≠ [] → (popX w).1 ∉ nsOf fars size h → nsOf fars size h = goal
theorem pop_split {α : Type} [Inhabited α] {w : List α} (h : w ≠ []) : w.dropLast ++ [w.getLastD default] = w := by
  rw [List.getLastD_eq_getLast?, List.getLast?_eq_getLast h]; exact List.dropLast_concat_getLast h
theorem popX_mem {α : Type} [Inhabited α] {w : List α} (h : w ≠ []) : popX w ∈ w := by
  unfold popX
  have e := pop_split h
  split
  · rw [← e]; simp
  · rename_i c
    exact (List.dropLast_sublist w).subset (getD_mem' (List.length_pos_iff.mpr c))
theorem popR_mem {α : Type} [Inhabited α] {lt : α → α → Bool} {w : List α} : ∀ p ∈ popR lt w, p ∈ w := by
  intro p hp
  unfold popR at hp
  split at hp
  · cases hp
  · rename_i c
    have hw : w ≠ [] := by rintro rfl; exact c rfl
    have e := pop_split hw
    have hp := (siftupL_perm lt (by rw [List.length_set]; exact List.length_pos_iff.mpr c)).mem_iff.mp hp
    rcases List.mem_or_eq_of_mem_set hp with q | q
    · exact (List.dropLast_sublist w).subset q
    · rw [q, ← e]; simp
theorem popR_len {α : Type} [Inhabited α] {lt : α → α → Bool} (w : List α) : (popR lt w).length ≤ w.length := by
  unfold popR
  split
  · exact Nat.zero_le _
  · rename_i c
    have := (siftupL_perm lt (l := w.dropLast.set 0 (w.getLastD default)) (p := 0) (by rw [List.length_set]; exact List.length_pos_iff.mpr c)).length_eq
    rw [List.length_set, List.length_dropLast] at this
    rw [this]; exact Nat.sub_le _ _
theorem popX_map {α β : Type} [Inhabited α] [Inhabited β] (f : α → β) (hf : f default = default) (w : List α) : popX (w.map f) = f (popX w) := by
  unfold popX
  rw [show (w.map f).dropLast = w.dropLast.map f from (List.map_dropLast ..).symm, getD_map f hf]
  simp only [List.map_eq_nil_iff]
  split
  · rw [List.getLastD_eq_getLast?, List.getLastD_eq_getLast?, List.getLast?_map]
    cases w.getLast? <;> simp [hf]
  · rfl
theorem popR_map {α β : Type} [Inhabited α] [Inhabited β] (lt : α → α → Bool) (f : α → β) (hf : f default = default) (lt' : β → β → Bool) (hlt : ∀ a b, lt' (f a) (f b) = lt a b) (w : List α) : popR lt' (w.map f) = (popR lt w).map f := by
  unfold popR
  rw [show (w.map f).dropLast = w.dropLast.map f from (List.map_dropLast ..).symm]
  simp only [List.map_eq_nil_iff]
  split
  · rfl
  · rw [← siftupL_map lt f hf lt' hlt, List.map_set]
    congr 2
    rw [List.getLastD_eq_getLast?, List.getLastD_eq_getLast?, List.getLast?_map]
    cases w.getLast? <;> simp [hf]
/-- what the pushing loop keeps -/
structure FoldOK (N : Int) (h0 : List Int) (w0 : List (Int × List Int)) (st : List Int × List (Int × List Int)) : Prop where
  nod : st.1.Nodup
  rng : ∀ k ∈ st.1, 0 ≤ k ∧ k < N
  wok : ∀ p ∈ st.2, p.2 = [p.1] ∧ 0 ≤ p.1 ∧ p.1 < N
  len : st.2.length + h0.length = w0.length + st.1.length
theorem heappushL_len {α : Type} [Inhabited α] (lt : α → α → Bool) (l : List α) (x : α) : (heappushL lt l x).Perm (l ++ [x]) := siftdownL_perm lt (by simp)
theorem FoldOK.step {fars : Int → List Int} {N : Int} {h0 : List Int} {w0 : List (Int × List Int)} {st : List Int × List (Int × List Int)} (h : FoldOK N h0 w0 st) {k : Int} (hk : 0 ≤ k ∧ k < N) : FoldOK N h0 w0 (fStep fars st k) := by
  unfold fStep
  split
  · exact h
  · rename_i c
    refine ⟨?_, fun j hj => ?_, fun p hp => ?_, ?_⟩
    · show (st.1 ++ [k]).Nodup
      rw [List.nodup_append]
      refine ⟨h.nod, by simp, fun a ha b hb e => ?_⟩
      rw [List.mem_singleton.mp hb] at e; exact c (e ▸ ha)
    · rcases List.mem_append.mp hj with q | q
      · exact h.rng j q
      · rw [List.mem_singleton.mp q]; exact hk
    · rcases List.mem_append.mp ((heappushL_len _ _ _).mem_iff.mp hp) with q | q
      · exact h.wok p q
      · rw [List.mem_singleton.mp q]; exact ⟨rfl, hk⟩
    · have := (heappushL_len (ltE fars) st.2 (k, [k])).length_eq
      simp only [List.length_append, List.length_singleton] at this ⊢
      have := h.len; lia
theorem FoldOK.fold {fars : Int → List Int} {N : Int} {h0 : List Int} {w0 : List (Int × List Int)} : ∀ (l : List Int) {st : List Int × List (Int × List Int)}, FoldOK N h0 w0 st → (∀ k ∈ l, 0 ≤ k ∧ k < N) → FoldOK N h0 w0 (l.foldl (fStep fars) st)
  | [], _, h, _ => h
  | k :: l, _, h, hl => FoldOK.fold l (h.step (hl k (.head _))) fun j hj => hl j (.tail _ hj)
theorem nd_len {α : Type} [BEq α] [LawfulBEq α] : ∀ (l m : List α), l.Nodup → (∀ x ∈ l, x ∈ m) → l.length ≤ m.length
  | [], _, _, _ => Nat.zero_le _
  | x :: r, m, hn, hs => by
    have h1 := List.nodup_cons.mp hn
    have hx := hs x (.head _)
    have := nd_len r (m.erase x) h1.2 fun y hy => (List.mem_erase_of_ne (fun e : y = x => h1.1 (by rw [← e]; exact hy))).mpr (hs y (.tail _ hy))
    rw [List.length_erase_of_mem hx] at this
    have h9 := List.length_pos_of_mem hx
    rw [List.length_cons]; exact Nat.le_trans (Nat.succ_le_succ this) (Nat.le_of_eq (Nat.sub_add_cancel h9))
theorem nodup_len {l : List Int} {N : Nat} (hn : l.Nodup) (h : ∀ k ∈ l, 0 ≤ k ∧ k < N) : l.length ≤ N := by
  have h2 : (l.map Int.toNat).Nodup := by
    rw [List.nodup_iff_pairwise_ne] at hn ⊢
    rw [List.pairwise_map]
    exact hn.imp_of_mem fun {a b} ha hb hab e => hab ((Int.toNat_of_nonneg (h a ha).1).symm.trans ((congrArg Int.ofNat e).trans (Int.toNat_of_nonneg (h b hb).1)))
  have h3 : (l.map Int.toNat).length ≤ (List.range N).length := nd_len _ _ h2 fun x hx => by
    refine hideG fun gG hG => ?_
    obtain ⟨k, hk, rfl⟩ := List.mem_map.mp hx
    refine hG ?_
    try clear hG gG
    have := h k hk
    rw [List.mem_range]; exact toNat_lt this.1 this.2
  simpa using h3
noncomputable def foundQ : Str := (Str.ofString "_law_found" ++ ".<locals>.") ++ "<lambda>"
noncomputable def foundPos : List Pos := [{ line := 341, col := 51, endLine := 341, endCol := 68 }, { line := 347, col := 38, endLine := 347, endCol := 55 }]
inductive FoundEnd (g1 : Heap) (L1 H : Addr) (oP : Obj) (news newsT : Led) (size : Int) (t2 : Tok) (fars : Int → List Int) (N : Int) (goal : List Int) (s : Shared) (f : Flow) (s' : Shared) : Prop
  | mk0 : (f = .next) → ∀ (h' : Heap) (tk' : Nat) (m' : Str → Option Value) (hv : List Value) (heard : List Int) (kh : Nat) (ps2 : Array Value) (tl : Led), (s' = { s with heap := h', toks := tk' }) → (Fr g1 L1 h' m') → (News g1 L1 h' ((H, listOf hv.toArray kh) :: (L1 + 1, oP) :: (222, tabObj ps2) :: (tl ++ news))) → ((∀ p ∈ tl, L1 + 1 < p.1 ∧ p.1 ≠ H)) → ((∀ p ∈ (L1 + 1, oP) :: (222, tabObj ps2) :: (tl ++ news), p.1 ≠ H)) → (TabOK foundQ foundPos ps2 (tl ++ newsT)) → (AllAre m' [(Str.ofString "size", .int size t2), (Str.ofString "heard", .ref H)]) → (Two IsI hv heard) → (heard.Nodup) → ((∀ k ∈ heard, 0 ≤ k ∧ k < N)) → (heard ≠ []) → (nsOf fars size heard = goal) → FoundEnd g1 L1 H oP news newsT size t2 fars N goal s f s'
inductive FoundJ (H W L1 aS : Addr) (oP : Obj) (news newsT : Led) (size total : Int) (t2 t3 : Tok) (kv : Int → Value) (ZInv : List Int → List (Int × List Int) → Prop) (Zrank : List Int → List (Int × List Int) → Nat) (n : Nat) (m : Str → Option Value) (nw : Led) : Prop
  | mk0 (hv : List Value) (heard : List Int) (wits : List TI) (kh kw : Nat) (ps2 : Array Value) (tl : Led) : (nw = (H, listOf hv.toArray kh) :: (W, listOf (wits.map tref).toArray kw) :: (L1 + 1, oP) :: (222, tabObj ps2) :: (tl ++ news)) → ((∀ p ∈ tl, L1 + 1 < p.1 ∧ p.1 ≠ H ∧ p.1 ≠ W)) → (TabOK foundQ foundPos ps2 (tl ++ newsT)) → (AllAre m [(Str.ofString "sorts", .ref aS), (Str.ofString "size", .int size t2), (Str.ofString "total", .int total t3), (Str.ofString "heard", .ref H), (Str.ofString "waiting", .ref W)]) → (Two IsI hv heard) → (ZInv heard (wits.map Prod.snd)) → ((∀ p ∈ wits, TupIn (tl ++ news) kv p)) → (n = Zrank heard (wits.map Prod.snd)) → FoundJ H W L1 aS oP news newsT size total t2 t3 kv ZInv Zrank n m nw
inductive FoundPost (news newsT : Led) (ps : Array Value) (goal : List Int) (r : Value) (news' : Led) : Prop
  | mk0 (D : Addr) (ys : List Value) (k : Nat) (ps' : Array Value) (tl : Led) : (r = .ref D) → (news' = (D, listOf ys.toArray k) :: (222, tabObj ps') :: (tl ++ news)) → (Two IsI ys goal) → ((∀ p ∈ (222, tabObj ps') :: (tl ++ news), p.1 < D)) → (TabOK foundQ foundPos ps' (tl ++ newsT)) → (∀ p ∈ tl, ∀ q ∈ (222, tabObj ps) :: news, q.1 < p.1) → FoundPost news newsT ps goal r news'
theorem law_found_spec (w : World) (aS aF : Addr) (sv fv : List Value) (ps : Array Value) (kS kF : Nat) (rows : List (List (List Int))) (farsL : List (List Int)) (start size total : Int) (t1 t2 t3 : Tok) (news newsT : Led) (hsT : ∀ p ∈ newsT, p ∈ news)
   (hmS : (aS, listOf sv.toArray kS) ∈ news) (hiS : Two (LIL news) sv rows) (hmF : (aF, listOf fv.toArray kF) ∈ news) (hiF : Two (LI news) fv farsL) (hst : 0 ≤ start ∧ start < farsL.length) (hN : farsL.length < 10) (hs : size = 1 ∨ size = 2 ∨ size = 3) (hrows : (∀ r ∈ rows, r.length < 10 ∧ ∀ q ∈ r, q ≠ [] ∧ q.length < 10) ∧ rows.length < 10) (hTab : TabOK foundQ foundPos ps newsT) (oP0 : ∀ p ∈ news, p.1 ≠ 222) (hinj : ∀ i j : Int, 0 ≤ i → i < farsL.length → 0 ≤ j → j < farsL.length → farsL.getD i.toNat [] = farsL.getD j.toNat [] → i = j)
   (goal : List Int) (Z : Search (fun k => farsL.getD k.toNat []) rows farsL.length start size total goal) :
   Fn w 100 1000 (.ref 227) [.ref aS, .ref aF, .int start t1, .int size t2, .int total t3] ((222, tabObj ps) :: news) (FoundPost news newsT ps goal) := by
  unfold Fn PG
  w_top off
  k_fill
  intro p loose mean mg mb dp un gd cn cs a ccd cl outer A₀ base h₀ L m s Q E B F X N T hk hd hu hret
  refine wpAny_call ?_
  k_dflt ((refine' code_defC ?k1 ?k2 ?k3 ?k4 ?k5 ?kA ?kF ?kK ?k6 ?k7 ?k8 ?k9 ?kB ?kD ?_ ?c2 ?c3 ?c4; (case kA => exact rfl); (case kF => exact rfl); (case kK => first | assumption | exact rfl); (case k1 => k_asm); (case k2 => k_asm); (case k3 => k_asm); (case k4 => k_asm); (case k5 => k_asm); (case k6 => k_is); (case k7 => k_is); (case k8 => ktr_room); (case k9 => first | exact BindsTo.of_eq rfl | exact binds_K (by k_in) rfl (by k_is) rfl rfl rfl); (case kB => exact rfl); (case kD => decide +kernel); (case c2 => exact rfl); (case c3 => exact rfl); (case c4 => exact rfl); k_whole; intro g1 L1 h1 tk1 cc1 FG1 F1 N1 Y1 B1 X1 T1 l1; k_cells Y1; (try simp only [List.cons_append, List.nil_append] at N1); (try dsimp only); (try k_fold)))
  refine noE ?_
  refine frG [(Str.ofString "sorts", .ref aS), (Str.ofString "start", .int start t1), (Str.ofString "size", .int size t2), (Str.ofString "total", .int total t3)] F1 ⟨rfl, rfl, rfl, rfl, trivial⟩ fun mE hAE FE => ?_
  clear F1 hAE
  rename Fr g1 L1 _ _ => F1
  refine hideQ fun QR hRq => ?_
  rename_i oP d1
  replace d1 : oP.data = .cell (some (.ref aF)) := d1
  clear A₀ B F X N T hk FG1
  k_steps
  rename Fr g1 L1 _ _ => F2
  rename News g1 L1 _ _ => N2
  rename _ ∧ _ ∧ AllLt _ news => lH
  rename_i H h2a h2
  have hkv : ∀ k : Int, 0 ≤ k ∧ k < farsL.length → fv[k.toNat]? = some (fv.getD k.toNat .none) ∧ LI news (fv.getD k.toNat .none) (farsL.getD k.toNat []) := fun k hk => by
    have hl := hiF.len
    have hi : k.toNat < fv.length := by rw [hl]; exact toNat_lt hk.1 hk.2
    refine hideG fun gG hG => ?_
    obtain ⟨b, hb, hv⟩ := hiF.get (List.getElem?_eq_getElem hi)
    refine hG ?_
    try clear hG gG
    refine ⟨by rw [List.getD_eq_getElem?_getD, List.getElem?_eq_getElem hi]; rfl, ?_⟩
    rw [List.getD_eq_getElem?_getD, List.getD_eq_getElem?_getD, List.getElem?_eq_getElem hi, hb]
    exact hv
  refine hideG fun gG hG => ?_
  obtain ⟨kv, hkvd⟩ : ∃ kv : Int → Value, kv = fun k => fv.getD k.toNat .none := ⟨_, rfl⟩
  obtain ⟨fars, hfars⟩ : ∃ fars : Int → List Int, fars = fun k => farsL.getD k.toNat [] := ⟨_, rfl⟩
  refine hG ?_
  try clear hG gG
  rw [← hfars] at Z
  refine hideG fun gG hG => ?_
  obtain ⟨ZInv, Zinit, Znod, Zknown, Zrank, Zstep, Zover, Zfar⟩ := Z
  refine hG ?_
  try clear hG gG
  replace hinj : ∀ i j : Int, 0 ≤ i → i < farsL.length → 0 ≤ j → j < farsL.length → fars i = fars j → i = j := by rw [hfars]; exact hinj
  replace hkv : ∀ k : Int, 0 ≤ k ∧ k < farsL.length → fv[k.toNat]? = some (kv k) ∧ LI news (kv k) (fars k) := by rw [hkvd, hfars]; exact hkv
  clear hkvd hfars
  refine itv_at (hs := by with_unfolding_all rfl) (hg := by intro _; with_unfolding_all rfl) N2 (.tail _ (.tail _ (.tail _ hmF))) hst.1 (Int.lt_trans (Int.lt_trans hst.2 (Int.ofNat_lt.mpr hN)) (by decide)) (hkv start hst).1 ?_
  clear h1 tk1 h2a
  k_steps
  rename Fr g1 L1 _ _ => F3
  rename News g1 L1 _ _ => N3
  rename _ ∧ _ ∧ _ ∧ _ ∧ AllLt _ news => lW
  rename _ ∧ _ ∧ _ ∧ AllLt _ news => lT
  rename_i T h3a W h3b h3
  have aT := allLt_get lT.2.2.2
  have aW := allLt_get lW.2.2.2.2
  have aH := allLt_get lH.2.2
  refine Stop.mk ?_
  refine wpAny_mono (While_J (hE := by passes_own) (Q := FoundEnd g1 L1 H oP news newsT size t2 fars farsL.length goal s)
    (FoundJ H W L1 aS oP news newsT size total t2 t3 kv ZInv Zrank) (Zrank [start] [(start, [start])]) (news := (H, listOf [Value.int start t1].toArray 0) :: (W, listOf ([(T, (start, [start]))].map tref).toArray 0) :: (L1 + 1, oP) :: (222, tabObj ps) :: ([(T, tupO [kv start, .int start t1] 0)] ++ news)) F3 (News.less N3 fun p hp => ?_) ?_ ?_) ?_ fun _ _ e => e
  · simp only [List.mem_cons, List.cons_append, List.nil_append] at hp
    rcases hp with h | h | h | h | h | h
    · rw [h]; exact .tail _ (.tail _ (.head _))
    · rw [h]; exact .head _
    · rw [h]; exact .tail _ (.tail _ (.tail _ (.head _)))
    · rw [h]; exact .tail _ (.tail _ (.tail _ (.tail _ (.head _))))
    · rw [h]; exact .tail _ (.head _)
    · exact .tail _ (.tail _ (.tail _ (.tail _ (.tail _ h))))
  · refine ⟨[.int start t1], [start], [(T, (start, [start]))], 0, 0, ps, [(T, tupO [kv start, .int start t1] 0)], rfl, fun p hp => ?_, hTab.mono fun p hp => .tail _ hp, ⟨rfl, rfl, rfl, rfl, rfl, trivial⟩, .cons ⟨t1, rfl⟩ .nil, Zinit, fun p hp => ?_, rfl⟩
    · rw [List.mem_singleton.mp hp]; exact ⟨lT.2.1, Nat.ne_of_gt lT.1, Nat.ne_of_lt lW.1⟩
    · rw [List.mem_singleton.mp hp]; exact ⟨[.int start t1], 0, .head _, .cons ⟨t1, rfl⟩ .nil⟩
  · rintro n m4 nw4 h4 tk4 F4 N4 qG1 R R0 hR hR0
    refine hideG fun gG hG => ?_
    obtain ⟨hv, heard, wits, kh, kw, ps2, tl, rfl, htl, hTab2, hA, hhv, hInv, htu, rfl⟩ := qG1
    refine hG ?_
    try clear hG gG
    replace F4 := frOv F4 hA
    have hnod := Znod _ _ hInv
    have hL1 : L1 + 1 < H := lH.1
    have h222 : 222 < L1 := l1 _ (.head _)
    have oH : ∀ p ∈ (W, listOf (wits.map tref).toArray kw) :: (L1 + 1, oP) :: (222, tabObj ps2) :: (tl ++ news), p.1 ≠ H := fun p hp => by
      simp only [List.mem_cons, List.mem_append] at hp
      rcases hp with rfl | rfl | rfl | hp | hp
      · exact Nat.ne_of_gt lW.2.1
      · exact Nat.ne_of_lt lH.1
      · exact Nat.ne_of_lt lH.2.1
      · exact (htl p hp).2.1
      · exact Nat.ne_of_lt (aH p hp)
    have oW : ∀ p ∈ (L1 + 1, oP) :: (222, tabObj ps2) :: (tl ++ news), p.1 ≠ W := fun p hp => by
      simp only [List.mem_cons, List.mem_append] at hp
      rcases hp with rfl | rfl | hp | hp
      · exact Nat.ne_of_lt lW.2.2.1
      · exact Nat.ne_of_lt lW.2.2.2.1
      · exact (htl p hp).2.2
      · exact Nat.ne_of_lt (aW p hp)
    have o2 : ∀ p ∈ (L1 + 1, oP) :: (tl ++ news), p.1 ≠ 222 := fun p hp => by
      simp only [List.mem_cons, List.mem_append] at hp
      rcases hp with rfl | hp | hp
      · exact Nat.ne_of_gt (Nat.lt_succ_of_lt h222)
      · exact Nat.ne_of_gt (Nat.lt_trans (Nat.lt_succ_of_lt h222) (htl p hp).1)
      · exact oP0 p hp
    have hsr : ∀ p ∈ news, p ∈ tl ++ news := fun p hp => List.mem_append_right _ hp
    have hrest : ∃ rest, rest = tl ++ news := ⟨_, rfl⟩
    obtain ⟨rest, hrest⟩ := hrest
    have hrT : ∀ p ∈ tl ++ newsT, p ∈ rest := fun p hp => by
      rw [hrest]; exact (List.mem_append.mp hp).elim (List.mem_append_left _) fun q => List.mem_append_right _ (hsT p q)
    rw [← hrest] at N4 htu oH oW o2 hsr
    rename_i z1
    clear t1 hsT hTab oP0 mE lH h2 z1 T h3a lT h3b lW F3 N3 aT aW aH
    k_steps
    rename Fr g1 L1 _ _ => F5
    rename News g1 L1 _ _ => N5
    rename_i Y h5 lY
    refine ne_nil_at (vs := wits.map tref) N5 (.tail _ (.tail _ (.head _))) (.head _) (by show un + 3 < cLine; exact lim (d := un) (a := 3) hu rfl) ?_
    by_cases hw : wits = []
    · subst hw
      k_steps
      refine hR0 _ ?_
      refine ⟨rfl, _, _, _, hv, heard, kh, ps2, tl, rfl, F5, News.less N5 fun p hp => ?_, fun p hp => ⟨(htl p hp).1, (htl p hp).2.1⟩, fun p hp => oH p (.tail _ (by rw [hrest]; exact hp)), hTab2, ⟨rfl, rfl, trivial⟩, hhv, hnod.1, hnod.2.1, hnod.2.2.1, Zover _ hInv⟩
      rw [hrest]
      refine subE ?_ _ hp
      walk_at "sub"
    · rw [show decide (wits.map tref ≠ []) = true from decide_eq_true (by simpa using hw)]
      have hsp := pop_split hw
      have KR : ∀ k : Int, 0 ≤ k ∧ k < farsL.length → LI rest (kv k) (fars k) := fun k hk => (hkv k hk).2.mono hsr
      have hwr : ∀ p ∈ wits, p.2.2 = [p.2.1] ∧ 0 ≤ p.2.1 ∧ p.2.1 < farsL.length := fun p hp => hnod.2.2.2.2 _ (List.mem_map_of_mem hp)
      have hwl : wits.length < 10 := by simpa using hnod.2.2.2.1
      have hKL : KeyL rest kv fars (wits.map fun p => p.2.1) := fun k hk => by
        refine hideG fun gG hG => ?_
        obtain ⟨p, hp, rfl⟩ := List.mem_map.mp hk
        refine hG ?_
        try clear hG gG
        exact KR _ (hwr p hp).2
      clear lY
      k_steps
      refine Stop.mk ?_
      rename Fr g1 L1 _ _ => F6
      rename News g1 L1 _ _ => N6
      have hdl : wits.dropLast.length < 10 := by rw [List.length_dropLast]; exact Nat.lt_of_le_of_lt (Nat.sub_le _ _) hwl
      have N7 : News g1 L1 h5 ((W, listOf ((wits.dropLast ++ [wits.getLastD default]).map tref).toArray kw) :: (H, listOf hv.toArray kh) :: (L1 + 1, oP) :: (222, tabObj ps2) :: rest) := by
        rw [hsp]
        refine News.less N6 fun p hp => ?_
        refine subE ?_ _ hp
        walk_at "sub"
      have hrs : ∀ p ∈ rest, p ∈ (H, listOf hv.toArray kh) :: (L1 + 1, oP) :: (222, tabObj ps2) :: rest := fun p hp => .tail _ (.tail _ (.tail _ hp))
      refine Fn.use (heappop_spec tref (ltT fars) w W (wits.getLastD default) wits.dropLast kw ((H, listOf hv.toArray kh) :: (L1 + 1, oP) :: (222, tabObj ps2) :: rest) (cmp_tups (hKL.mono hrs) fun p hp => ?_) (fun p hp => ?_) (by lia)) B1 F6 X1 N7 T1 rfl (by show dp + 1 + 20 < _; exact lim (d := dp) (a := 1 + 20) hd rfl) (by show un + 3 + 200 < _; exact lim (d := un) (a := 3 + 200) hu rfl) ?_
      · rw [hsp] at hp
        exact ⟨(htu p hp).mono hrs, List.mem_map_of_mem hp⟩
      · rcases List.mem_cons.mp hp with rfl | hp
        · exact (oH (W, listOf (wits.map tref).toArray kw) (.head _)).symm
        · exact oW p hp
      rintro r news' h' tk' F8 N8 qG2
      refine hideG fun gG hG => ?_
      obtain ⟨kw2, hr2, rfl⟩ := qG2
      refine hG ?_
      try clear hG gG
      rw [show (if wits.dropLast = [] then wits.getLastD default else wits.dropLast.getD 0 default) = popX wits from rfl] at hr2
      rw [show (if wits.dropLast = [] then [] else siftupL (ltT fars) (wits.dropLast.set 0 (wits.getLastD default)) 0) = popR (ltT fars) wits from rfl] at N8
      replace N8 := N8
      subst hr2
      have hpx : popX wits ∈ wits := popX_mem hw
      have hpr : ∀ p ∈ popR (ltT fars) wits, p ∈ wits := popR_mem
      have hpxm : (popX wits).2 = popX (wits.map Prod.snd) := (popX_map Prod.snd rfl wits).symm
      have hprm : (popR (ltT fars) wits).map Prod.snd = popR (ltE fars) (wits.map Prod.snd) := (popR_map (ltT fars) Prod.snd rfl (ltE fars) (fun _ _ => rfl) wits).symm
      generalize popX wits = px at hpx hpxm
      generalize popR (ltT fars) wits = pr at N8 hpr hprm
      refine hideG fun gG hG => ?_
      obtain ⟨px1, pk, pl⟩ := px
      obtain ⟨rfl, hpk⟩ : pl = [pk] ∧ 0 ≤ pk ∧ pk < farsL.length := hwr _ hpx
      obtain ⟨vs0, k0, hm0, hi0⟩ := htu _ hpx
      refine hG ?_
      try clear hG gG
      obtain ⟨t5, rfl⟩ : ∃ t5, vs0 = [.int pk t5] := by
        cases hi0 with
        | cons h r => cases r; obtain ⟨t5, rfl⟩ := h; exact ⟨t5, rfl⟩
      clear h4 tk4 Y F6 N6 hsp hKL hdl N7 hrs hi0
      k_steps
      have zT := N8 _ (.tail _ (.tail _ (.tail _ (.tail _ hm0))))
      refine assign_Tuple_tuple (items := #[kv pk, .int pk t5]) rfl ⟨_, zT.1, rfl, _, rfl⟩ (by rfl) (by rfl) fun h9 he9 => ?_
      have up9 := fun b o (x : h'.get? b = some o) => he9 b o (Nat.ne_of_lt (Heap.lt_size x)) x
      replace F8 := F8.keeps up9
      replace N8 := N8.grown up9
      clear k0 hm0 zT he9 up9
      k_steps
      rename Fr g1 L1 _ _ => F9
      rename News g1 L1 _ _ => N9
      have C1 := codeB_hd X1 (code_found w.params)
      refine lam_at (news := (W, listOf (pr.map tref).toArray kw2) :: (H, listOf hv.toArray kh) :: (L1 + 1, oP) :: rest) foundPos F9 (News.less N9 fun p hp => ?_) (fun p hp => ?_) T1 C1 rfl (by rfl) (fun p hp => .tail _ (.tail _ (.tail _ (hrT p hp)))) hTab2 (.head _) (by decide) (by with_unfolding_all rfl) (by rfl) ?_
      · refine subE ?_ _ hp
        walk_at "sub"
      · simp only [List.mem_cons] at hp
        rcases hp with rfl | rfl | hp
        · exact (oW (222, tabObj ps2) (.tail _ (.head _))).symm
        · exact (oH (222, tabObj ps2) (.tail _ (.tail _ (.head _)))).symm
        · exact o2 p (by simp only [List.mem_cons]; exact hp)
      intro f c' oc vs t ctv ps3 tl3 h10 tk10 F10 N10 hlt3 hmc hcd hcv hTab3 hlf
      with_reducible first | refine k_flat (s := s) ?_ | (show wpAny _ _ _ _ _ _; refine k_flat (s := s) ?_)
      intro tkF
      have hTab4 := hTab3
      have hmc4 : (c', oc) ∈ tl3 ++ rest := (List.mem_append.mp hmc).elim (List.mem_append_left _) fun q => List.mem_append_right _ (hrT _ q)
      have htl3 : ∀ p ∈ tl3, L1 + 1 < p.1 ∧ p.1 ≠ H ∧ p.1 ≠ W ∧ p.1 ≠ 222 := fun p hp => ⟨hlt3 p hp (L1 + 1, oP) (.tail _ (.tail _ (.tail _ (.head _)))), Nat.ne_of_gt (hlt3 p hp (H, listOf hv.toArray kh) (.tail _ (.tail _ (.head _)))), Nat.ne_of_gt (hlt3 p hp (W, listOf (pr.map tref).toArray kw2) (.tail _ (.head _))), Nat.ne_of_gt (hlt3 p hp (222, tabObj ps2) (.head _))⟩
      have hfW : f ≠ W ∧ f ≠ H := ⟨Nat.ne_of_gt (hlf (W, listOf (pr.map tref).toArray kw2) (.tail _ (List.mem_append_right _ (.head _)))), Nat.ne_of_gt (hlf (H, listOf hv.toArray kh) (.tail _ (List.mem_append_right _ (.tail _ (.head _)))))⟩
      generalize (mg (Str.ofString "__name__")).getD Value.none = pm at N10
      refine hideG fun gG hG => ?_
      obtain ⟨fo, hfo⟩ : ∃ fo : Obj, fo = kla_obj (Str.ofString "<lambda>") foundQ (lamParams { line := 341, col := 58, endLine := 341, endCol := 59 }) (lamBody { line := 341, col := 61, endLine := 341, endCol := 65 } { line := 341, col := 66, endLine := 341, endCol := 67 } { line := 341, col := 61, endLine := 341, endCol := 68 }) lamScope [(Str.ofString "fars", L1 + 1)] pm c' ctv := ⟨_, rfl⟩
      refine hG ?_
      try clear hG gG
      replace N10 : News g1 L1 h10 ((f, kla_obj (Str.ofString "<lambda>") foundQ (lamParams { line := 341, col := 58, endLine := 341, endCol := 59 }) (lamBody { line := 341, col := 61, endLine := 341, endCol := 65 } { line := 341, col := 66, endLine := 341, endCol := 67 } { line := 341, col := 61, endLine := 341, endCol := 68 }) lamScope [(Str.ofString "fars", L1 + 1)] pm c' ctv) :: (222, tabObj ps3) :: (tl3 ++ (W, listOf (pr.map tref).toArray kw2) :: (H, listOf hv.toArray kh) :: (L1 + 1, oP) :: rest)) := N10
      have hrs4 : ∀ p ∈ rest, p ∈ tl3 ++ rest := fun p hp => List.mem_append_right _ hp
      refine hideG fun gG hG => ?_
      obtain ⟨rest4, hrest4⟩ : ∃ rest4, rest4 = tl3 ++ rest := ⟨_, rfl⟩
      refine hG ?_
      try clear hG gG
      have N11 : News g1 L1 h10 ((f, fo) :: (W, listOf (pr.map tref).toArray kw2) :: (H, listOf hv.toArray kh) :: (L1 + 1, oP) :: (222, tabObj ps3) :: rest4) := News.less N10 fun p hp => by
        rw [hrest4, hfo] at hp
        refine subE ?_ _ hp
        walk_at "sub"
      rw [← hrest4] at hmc4 hrs4
      have KR4 : ∀ k : Int, 0 ≤ k ∧ k < farsL.length → LI rest4 (kv k) (fars k) := fun k hk => (KR k hk).mono hrs4
      have hmF4 : (aF, listOf fv.toArray kF) ∈ rest4 := hrs4 _ (hsr _ hmF)
      have hmS4 : (aS, listOf sv.toArray kS) ∈ rest4 := hrs4 _ (hsr _ hmS)
      rename_i z2 z1
      clear hmS hmF hTab2 hrT h5 KR tk h' tk' h9 z2 z1 F9 N9 tkf C1 tk10 hlt3 hmc hTab3 hlf N10
      k_steps
      refine Stop.mk ?_
      rename Fr g1 L1 _ _ => F12
      have hKL5 : KeyL ((f, fo) :: (W, listOf (pr.map tref).toArray kw2) :: (H, listOf hv.toArray kh) :: (L1 + 1, oP) :: (222, tabObj ps3) :: rest4) kv fars heard := fun k hk => (KR4 k (hnod.2.1 k hk)).mono fun p hp => .tail _ (.tail _ (.tail _ (.tail _ (.tail _ hp))))
      have hkf5 : KeyFn w (.ref f) kv heard ((f, fo) :: (W, listOf (pr.map tref).toArray kw2) :: (H, listOf hv.toArray kh) :: (L1 + 1, oP) :: (222, tabObj ps3) :: rest4) :=
        lam_key w (by rw [hfo]; exact .head _) (.tail _ (.tail _ (.tail _ (.tail _ (.tail _ hmc4))))) hcd hcv (.tail _ (.tail _ (.tail _ (.head _)))) d1 (.tail _ (.tail _ (.tail _ (.tail _ (.tail _ hmF4))))) fun k hk => ⟨(hnod.2.1 k hk).1, by have := (hnod.2.1 k hk).2; lia, (hkv k (hnod.2.1 k hk)).1⟩
      have hdis : Dis fars heard := ⟨hnod.1, fun a ha b hb e => hinj a b (hnod.2.1 a ha).1 (hnod.2.1 a ha).2 (hnod.2.1 b hb).1 (hnod.2.1 b hb).2 e⟩
      have hhl : heard.length < 10 := Nat.lt_of_le_of_lt (nodup_len hnod.1 (N := farsL.length) hnod.2.1) hN
      refine FnK.use (nsmall_spec w H f hv heard kh size t2 _ _ _ _ kv fars _ (.tail _ (.tail _ (.head _))) hhv (by rw [hfo]; exact .head _) hkf5 hKL5 hs (List.length_pos_iff.mpr hnod.2.2.1) hhl hdis) B1 F12 X1 N11 T1 rfl (by show dp + 1 + 60 < _; exact lim (d := dp) (a := 1 + 60) hd rfl) (by show un + 3 + 600 < _; exact lim (d := un) (a := 3 + 600) hu rfl) ?_
      rintro r news' h13 tk13 F13 N13 qG3
      refine hideG fun gG hG => ?_
      obtain ⟨D, ys, k9, rfl, rfl, hys, hlD⟩ := qG3
      refine hG ?_
      try clear hG gG
      with_reducible first | refine k_flat (s := s) ?_ | (show wpAny _ _ _ _ _ _; refine k_flat (s := s) ?_)
      intro tkF
      k_steps
      refine notin_at N13 (.head _) hys ?_
      have hxpk : (popX (wits.map Prod.snd)).1 = pk := by rw [← hpxm]
      have N14 : News g1 L1 h13 ((H, listOf hv.toArray kh) :: (W, listOf (pr.map tref).toArray kw2) :: (L1 + 1, oP) :: (222, tabObj ps3) :: rest4) := News.less N13 fun p hp => by
        refine subE ?_ _ hp
        walk_at "sub"
      have htl4 : ∀ p ∈ tl3 ++ tl, L1 + 1 < p.1 ∧ p.1 ≠ H ∧ p.1 ≠ W := fun p hp => (List.mem_append.mp hp).elim (fun q => ⟨(htl3 p q).1, (htl3 p q).2.1, (htl3 p q).2.2.1⟩) (htl p)
      have hr4 : rest4 = (tl3 ++ tl) ++ news := by rw [hrest4, hrest, List.append_assoc]
      have hwne : wits.map Prod.snd ≠ [] := by simpa using hw
      have oHW4 : ∀ p ∈ (L1 + 1, oP) :: (222, tabObj ps3) :: rest4, p.1 ≠ H ∧ p.1 ≠ W := fun p hp => by
        rw [hrest4] at hp
        simp only [List.mem_cons, List.mem_append] at hp
        rcases hp with rfl | rfl | hp | hp
        · exact ⟨oH (L1 + 1, oP) (.tail _ (.head _)), oW (L1 + 1, oP) (.head _)⟩
        · exact ⟨oH (222, tabObj ps2) (.tail _ (.tail _ (.head _))), oW (222, tabObj ps2) (.tail _ (.head _))⟩
        · exact ⟨(htl3 p hp).2.1, (htl3 p hp).2.2.1⟩
        · exact ⟨oH p (.tail _ (.tail _ (.tail _ hp))), oW p (.tail _ (.tail _ hp))⟩
      by_cases hin : pk ∈ nsOf fars size heard
      · rw [show (!decide (pk ∈ nsOf fars size heard)) = false by rw [decide_eq_true hin]; rfl]
        rename_i z1
        clear htl hrest hw hpx f c' oc vs t ctv h10 F12 hcd hcv z1 htl3 hfW pm fo hfo hmc4 hrest4 N11 hKL5 hkf5 hdis tk13 D ys k9 hys hlD N13
        k_steps
        refine Stop.mk ?_
        refine wpAny_For ?_
        k_steps
        refine Stop.mk ?_
        rename Fr g1 L1 _ _ => F14
        have h45 : ∀ p ∈ rest4, p ∈ (H, listOf hv.toArray kh) :: (W, listOf (pr.map tref).toArray kw2) :: (L1 + 1, oP) :: (222, tabObj ps3) :: rest4 := fun p hp => .tail _ (.tail _ (.tail _ (.tail _ hp)))
        refine Fn.use (law_known_spec w aS sv rows kS pk size total t5 t2 t3 _ (h45 _ hmS4) (hiS.imp fun v b => LIL.mono fun p hp => h45 _ (hrs4 _ (hsr _ hp))) hrows.1 hrows.2 (by lia) (by lia)) B1 F14 X1 N14 T1 rfl (by show dp + 1 + 10 < _; exact lim (d := dp) (a := 1 + 10) hd rfl) (by show un + 3 + 100 < _; exact lim (d := un) (a := 3 + 100) hu rfl) ?_
        rintro r news' h15 tk15 F15 N15 qG4
        refine hideG fun gG hG => ?_
        obtain ⟨K, kys, kk, rfl, rfl, hkys, hlK⟩ := qG4
        refine hG ?_
        try clear hG gG
        with_reducible first | refine k_flat (s := s) ?_ | (show wpAny _ _ _ _ _ _; refine k_flat (s := s) ?_)
        intro tkF
        k_steps
        have N16 : News g1 L1 h15 ([(H, listOf hv.toArray kh), (W, listOf (pr.map tref).toArray kw2)] ++ ((K, listOf kys.toArray kk) :: (L1 + 1, oP) :: (222, tabObj ps3) :: rest4)) := News.less N15 fun p hp => by
          refine subE ?_ _ hp
          walk_at "sub"
        have hKH : K ≠ H ∧ K ≠ W := ⟨Nat.ne_of_gt (hlK (H, listOf hv.toArray kh) (.head _)), Nat.ne_of_gt (hlK (W, listOf (pr.map tref).toArray kw2) (.tail _ (.head _)))⟩
        have hok0 : FoldOK farsL.length heard (pr.map Prod.snd) (heard, pr.map Prod.snd) := ⟨hnod.1, hnod.2.1, fun p hp => by
          refine hideG fun gG hG => ?_
          obtain ⟨q, hq, rfl⟩ := List.mem_map.mp hp
          refine hG ?_
          try clear hG gG
          exact hwr q (hpr q hq), by simp⟩
        refine for_A (hh := by rfl) (hE := by passes_own) (its := kys) (k := kk) (fr₀ := [(H, listOf hv.toArray kh), (W, listOf (pr.map tref).toArray kw2)]) (news := (K, listOf kys.toArray kk) :: (L1 + 1, oP) :: (222, tabObj ps3) :: rest4) [H, W]
          (fun i m fr tl => ∃ (hv2 : List Value) (wt2 : List TI) (kh2 kw3 : Nat), AllAre m [(Str.ofString "sorts", .ref aS), (Str.ofString "size", .int size t2), (Str.ofString "total", .int total t3), (Str.ofString "heard", .ref H), (Str.ofString "waiting", .ref W)] ∧ fr = [(H, listOf hv2.toArray kh2), (W, listOf (wt2.map tref).toArray kw3)] ∧
            Two IsI hv2 (((knownOf pk size total rows).take i).foldl (fStep fars) (heard, pr.map Prod.snd)).1 ∧ wt2.map Prod.snd = (((knownOf pk size total rows).take i).foldl (fStep fars) (heard, pr.map Prod.snd)).2 ∧ ∀ p ∈ wt2, TupIn (tl ++ rest4) kv p) (by k_asm) N16 rfl ?_ (.head _) ⟨hv, pr, kh, kw2, ⟨rfl, rfl, rfl, rfl, rfl, trivial⟩, rfl, hhv, rfl, ?_⟩ ?_ ?_
        · intro x hx p hp
          have h2 : p.1 ≠ H ∧ p.1 ≠ W := by
            rcases List.mem_cons.mp hp with rfl | hp
            · exact hKH
            · exact oHW4 p hp
          simp only [List.mem_cons, List.not_mem_nil, or_false] at hx
          rcases hx with rfl | rfl
          · exact h2.1
          · exact h2.2
        · intro p hp
          exact (htu p (hpr p hp)).mono hrs4
        · rintro i v m fr tl2 rest5 h16 tk16 hi' hv' qG5 - F16 N17 hsR off I R hR
          refine hideG fun gG hG => ?_
          obtain ⟨hv2, wt2, kh2, kw3, hA2, rfl, hhv2, hwt2, htu2⟩ := qG5
          obtain ⟨e, he, u, rfl⟩ := hkys.get hv'
          refine hG ?_
          try clear hG gG
          refine wpAny_pure ?_
          replace F16 := frOv F16 hA2
          have hkn := Zknown pk e (List.mem_of_getElem? he)
          have hok : FoldOK farsL.length heard (pr.map Prod.snd) (((knownOf pk size total rows).take i).foldl (fStep fars) (heard, pr.map Prod.snd)) := FoldOK.fold _ hok0 fun k hk => Zknown pk k (List.mem_of_mem_take hk)
          have hst2 : ((knownOf pk size total rows).take (i + 1)).foldl (fStep fars) (heard, pr.map Prod.snd) = fStep fars (((knownOf pk size total rows).take i).foldl (fStep fars) (heard, pr.map Prod.snd)) e := by
            rw [take_snoc he, List.foldl_append]; rfl
          have hprl : pr.length < 10 := by
            have h1 := congrArg List.length hprm
            have h2 := popR_len (lt := ltE fars) (wits.map Prod.snd)
            rw [List.length_map] at h1 h2; rw [h1]; exact Nat.lt_of_le_of_lt h2 hwl
          rw [hst2] at hR
          replace hR := hR
          clear hst2
          generalize ((knownOf pk size total rows).take i).foldl (fStep fars) (heard, pr.map Prod.snd) = st at hhv2 hwt2 hok hR
          have hs4 : ∀ p ∈ rest4, p ∈ rest5 := fun p hp => hsR p (List.mem_append_right _ (.tail _ (.tail _ (.tail _ hp))))
          have hsL : ∀ p ∈ tl2 ++ rest4, p ∈ rest5 := fun p hp => (List.mem_append.mp hp).elim (fun q => hsR p (List.mem_append_left _ q)) (hs4 p)
          have hcP : (L1 + 1, oP) ∈ rest5 := hsR _ (List.mem_append_right _ (.tail _ (.head _)))
          have oH5 := off H (.head _)
          have oW5 := off W (.tail _ (.head _))
          replace N17 : News g1 L1 h16 ((H, listOf hv2.toArray kh2) :: (W, listOf (wt2.map tref).toArray kw3) :: rest5) := N17
          have hHW : W ≠ H := oH (W, listOf (wits.map tref).toArray kw) (.head _)
          have hl1 : st.1.length < 10 := Nat.lt_of_le_of_lt (nodup_len hok.nod (N := farsL.length) hok.rng) hN
          have hl2 : st.2.length < 30 := by have := hok.len; simp only [List.length_map] at this; exact Nat.lt_of_le_of_lt (Nat.le_trans (Nat.le_add_right _ heard.length) (Nat.le_of_eq this)) (Nat.lt_trans (Nat.add_lt_add hprl hl1) (by decide))
          have hlw : wt2.length = st.2.length := by rw [← hwt2, List.length_map]
          have hKL6 : ∀ k : Int, 0 ≤ k ∧ k < farsL.length → LI rest5 (kv k) (fars k) := fun k hk => (KR4 k hk).mono hs4
          have hfe := (hkv e hkn).1
          have hmF5 := hs4 _ hmF4
          rename_i z1
          clear sv ps kS rows start hiS hiF hst hs hrows hret l1 Zinit Znod Zknown Zstep Zover Zfar hinj hkv m4 hv kh kw ps2 tl hA hhv hInv hnod hL1 h222 rest hsr o2 oW oH htu hwr hwl kw2 hpr hprm px1 pk hpk hpxm t5 ps3 tl3 hTab4 hrs4 KR4 hmF4 hmS4 hhl h13 F14 z1 hxpk N14 htl4 hr4 hwne oHW4 hin h45 tk15 F15 K kys kk hkys hlK N15 N16 hKH hok0 i hi' hsR off I he hv' hprl
          k_steps
          refine Stop.mk ?_
          rename Fr g1 L1 _ _ => F18
          rename News g1 L1 _ _ => N18
          refine notin_at N18 (.head _) hhv2 ?_
          by_cases hes : e ∈ st.1
          · rw [show (!decide (e ∈ st.1)) = false by rw [decide_eq_true hes]; rfl]
            have hfs : fStep fars st e = st := by unfold fStep; rw [if_pos hes]
            k_steps
            refine hR _ _ ?_
            refine FE.mk [(H, listOf hv2.toArray kh2), (W, listOf (wt2.map tref).toArray kw3)] [] (by assumption) (by assumption) (fun p hp => hp) rfl Above.nil (fun _ _ _ h => nomatch h) ⟨hv2, wt2, kh2, kw3, ⟨rfl, rfl, rfl, rfl, rfl, trivial⟩, rfl, ?_, ?_, htu2⟩
            · rw [hfs]; exact hhv2
            · rw [hfs]; exact hwt2
          · rw [show (!decide (e ∈ st.1)) = true by rw [decide_eq_false hes]; rfl]
            have hfs : fStep fars st e = (st.1 ++ [e], heappushL (ltE fars) st.2 (e, [e])) := by unfold fStep; rw [if_neg hes]
            k_steps
            refine Stop.mk ?_
            refine appv_at (by k_asm) (by assumption) (fun p hp => ?_) (fit9 (by have := hhv2.len; lia)) ?_
            · rcases List.mem_cons.mp hp with rfl | hp
              · exact hHW
              · exact oH5 p hp
            intro h19 F19 N19
            with_reducible first | refine k_flat (s := s) ?_ | (show wpAny _ _ _ _ _ _; refine k_flat (s := s) ?_)
            intro tkF
            have hcP2 : (L1 + 1, oP) ∈ (H, listOf (hv2 ++ [Value.int e u]).toArray (kh2 + 1)) :: (W, listOf (wt2.map tref).toArray kw3) :: rest5 := .tail _ (.tail _ hcP)
            rename_i z1
            clear h16 tk16 hcP z1 F18 N18 tkf hes
            k_steps
            refine Stop.mk ?_
            refine itv_at (hs := by with_unfolding_all rfl) (hg := by intro _; with_unfolding_all rfl) N19 (.tail _ (.tail _ hmF5)) hkn.1 (by lia) hfe ?_
            k_steps
            refine Stop.mk ?_
            rename Fr g1 L1 _ _ => F20
            rename News g1 L1 _ _ => N20
            rename _ ∧ _ ∧ AllLt _ rest5 => lT9
            rename_i T9 h20
            have hx9 : TupIn ((T9, tupO [kv e, .int e u] 0) :: rest5) kv (T9, (e, [e])) := ⟨[.int e u], 0, .head _, .cons ⟨u, rfl⟩ .nil⟩
            have hwr9 : ∀ p ∈ wt2 ++ [(T9, (e, [e]))], 0 ≤ p.2.1 ∧ p.2.1 < farsL.length := fun p hp => by
              rcases List.mem_append.mp hp with q | q
              · exact (hok.wok p.2 (by rw [← hwt2]; exact List.mem_map_of_mem q)).2
              · rw [List.mem_singleton.mp q]; exact hkn
            have htu9 : ∀ p ∈ wt2 ++ [(T9, (e, [e]))], TupIn ((T9, tupO [kv e, .int e u] 0) :: rest5) kv p := fun p hp => by
              rcases List.mem_append.mp hp with q | q
              · exact (htu2 p q).mono fun y hy => .tail _ (hsL y hy)
              · rw [List.mem_singleton.mp q]; exact hx9
            have hKL9 : KeyL ((H, listOf (hv2 ++ [Value.int e u]).toArray (kh2 + 1)) :: (T9, tupO [kv e, .int e u] 0) :: rest5) kv fars ((wt2 ++ [(T9, (e, [e]))]).map fun p => p.2.1) := fun k hk => by
              refine hideG fun gG hG => ?_
              obtain ⟨p, hp, rfl⟩ := List.mem_map.mp hk
              refine hG ?_
              try clear hG gG
              exact (hKL6 _ (hwr9 p hp)).mono fun y hy => .tail _ (.tail _ hy)
            refine Fn.use2 (heappush_spec tref (ltT fars) w W (T9, (e, [e])) wt2 kw3 ((H, listOf (hv2 ++ [Value.int e u]).toArray (kh2 + 1)) :: (T9, tupO [kv e, .int e u] 0) :: rest5) (cmp_tups hKL9 fun p hp => ⟨(htu9 p hp).mono fun y hy => .tail _ hy, List.mem_map_of_mem hp⟩) (fun p hp => ?_) (by lia)) B1 F20 X1 (News.less N20 fun p hp => ?_) T1 rfl (by show dp + 1 + 20 < _; exact lim (d := dp) (a := 1 + 20) hd rfl) (by show un + 3 + 200 < _; exact lim (d := un) (a := 3 + 200) hu rfl) ?_
            · rcases List.mem_cons.mp hp with rfl | hp
              · exact hHW.symm
              · rcases List.mem_cons.mp hp with rfl | hp
                · exact Nat.ne_of_gt lT9.2.1
                · exact oW5 p hp
            · refine subE ?_ _ hp
              walk_at "sub"
            intro h21 tk21 F21 N21
            with_reducible first | refine k_flat (s := s) ?_ | (show wpAny _ _ _ _ _ _; refine k_flat (s := s) ?_)
            intro tkF
            have hp9 := heappushL_len (ltT fars) wt2 (T9, (e, [e]))
            have hm9 : (heappushL (ltT fars) wt2 (T9, (e, [e]))).map Prod.snd = heappushL (ltE fars) st.2 (e, [e]) := by rw [← hwt2, ← heappushL_map (ltT fars) Prod.snd rfl (ltE fars) (fun _ _ => rfl)]
            generalize heappushL (ltT fars) wt2 (T9, (e, [e])) = wt3 at N21 hp9 hm9
            rename_i z1
            clear aF fv kF hN p loose mean mg mb base hd hu B1 X1 T1 d1 pr hkn hwt2 hok hs4 hHW hl1 hl2 hlw hKL6 hfe hmF5 h19 z1 hcP2 h20 F20 N20 hx9 hwr9 htu9 hKL9 tk21
            k_steps
            refine hR _ _ ?_
            refine FE.mk [(H, listOf (hv2 ++ [Value.int e u]).toArray (kh2 + 1)), (W, listOf (wt3.map tref).toArray (kw3 + 1))] [(T9, tupO [kv e, .int e u] 0)] F21 N21 (fun p hp => ?_) rfl (fun q hq p hp => ?_) (fun a ha p hp => ?_) ⟨hv2 ++ [.int e u], wt3, kh2 + 1, kw3 + 1, ⟨rfl, rfl, rfl, rfl, rfl, trivial⟩, rfl, ?_, ?_, fun p hp => ?_⟩
            · refine subE ?_ _ hp
              walk_at "sub"
            · rw [List.mem_singleton.mp hp]; exact allLt_get lT9.2.2 q hq
            · rw [List.mem_singleton.mp hp]
              simp only [List.mem_cons, List.not_mem_nil, or_false] at ha
              rcases ha with rfl | rfl
              · exact lT9.1
              · exact lT9.2.1
            · rw [hfs]; exact hhv2.snoc ⟨u, rfl⟩
            · rw [hfs]; exact hm9
            · rcases List.mem_append.mp (hp9.mem_iff.mp hp) with q | q
              · exact (htu2 p q).mono fun y hy => .tail _ hy
              · rw [List.mem_singleton.mp q]; exact ⟨[.int e u], 0, .head _, .cons ⟨u, rfl⟩ .nil⟩
        · rintro h22 tk22 m22 fr tl5 qG6 - F22 N22 off5 ab5 ab6
          refine hideG fun gG hG => ?_
          obtain ⟨hv2, wt2, kh2, kw3, hA2, rfl, hhv2, hwt2, htu2⟩ := qG6
          refine hG ?_
          try clear hG gG
          have hkl : kys.length = (knownOf pk size total rows).length := hkys.len
          rw [hkl, List.take_length] at hhv2 hwt2
          have hstep := Zstep _ _ hInv hwne (by rw [hxpk]; exact hin)
          rw [hxpk, ← hprm] at hstep
          k_steps
          rw [← hwt2] at hstep
          refine hR _ _ ?_
          refine ⟨h22, tk22, m22, (H, listOf hv2.toArray kh2) :: (W, listOf (wt2.map tref).toArray kw3) :: (L1 + 1, oP) :: (222, tabObj ps3) :: ((tl5 ++ (tl3 ++ tl)) ++ news), _, rfl, F22, News.less N22 fun p hp => ?_, hstep.2, hv2, _, wt2, kh2, kw3, ps3, tl5 ++ (tl3 ++ tl), rfl, fun p hp => ?_, hTab4.mono fun p hp => ?_, hA2, hhv2, hstep.1, fun p hp => (htu2 p hp).mono fun y hy => ?_, rfl⟩
          · rw [hr4]
            refine subE ?_ _ hp
            walk_at "sub"
          · rcases List.mem_append.mp hp with q | q
            · exact ⟨ab5 (L1 + 1, oP) (.tail _ (.head _)) p q, off5 H (.head _) p (List.mem_append_left _ q), off5 W (.tail _ (.head _)) p (List.mem_append_left _ q)⟩
            · exact htl4 p q
          · simp only [List.append_assoc]; exact List.mem_append_right _ hp
          · rw [hr4] at hy
            rw [List.append_assoc]; exact hy
      · rw [show (!decide (pk ∈ nsOf fars size heard)) = true by rw [decide_eq_false hin]; rfl]
        k_steps
        refine hR _ _ ?_
        refine ⟨rfl, _, _, _, hv, heard, kh, ps3, tl3 ++ tl, rfl, by assumption, News.less N14 fun p hp => ?_, fun p hp => ⟨(htl4 p hp).1, (htl4 p hp).2.1⟩, fun p hp => ?_, by rw [List.append_assoc]; exact hTab4, ⟨rfl, rfl, trivial⟩, hhv, hnod.1, hnod.2.1, hnod.2.2.1, Zfar _ _ hInv hwne (by rw [hxpk]; exact hin)⟩
        · rw [hr4]
          refine subE ?_ _ hp
          walk_at "sub"
        · rw [← hr4] at hp; exact (oHW4 p hp).1
  · rintro fl s' qG7
    refine hideG fun gG hG => ?_
    obtain ⟨rfl, h23, tk23, m23, hv, heard, kh, ps2, tl, rfl, F23, N23, htl, oH, hTab2, hA, hhv, hnd, hrg, hne, hgoal⟩ := qG7
    refine hG ?_
    try clear hG gG
    replace F23 := frOv F23 hA
    dsimp only
    rename_i z1
    clear aS sv kS rows start total t1 t3 hmS hiS hiF hst hrows hTab mE lH h2 z1 ZInv Zinit Znod Zknown Zrank Zstep Zover Zfar T h3a lT W h3b lW h3 F3 N3 tkf aT aW aH
    have h222 : 222 < L1 := l1 _ (.head _)
    k_steps
    rename Fr g1 L1 _ _ => F24
    rename News g1 L1 _ _ => N24
    have C1 := codeB_hd X1 (code_found w.params)
    have o2 : ∀ p ∈ (H, listOf hv.toArray kh) :: (L1 + 1, oP) :: (tl ++ news), p.1 ≠ 222 := fun p hp => by
      simp only [List.mem_cons, List.mem_append] at hp
      rcases hp with rfl | rfl | hp | hp
      · exact (oH (222, tabObj ps2) (.tail _ (.head _))).symm
      · exact Nat.ne_of_gt (Nat.lt_succ_of_lt h222)
      · exact Nat.ne_of_gt (Nat.lt_trans (Nat.lt_succ_of_lt h222) (htl p hp).1)
      · exact oP0 p hp
    have hrT : ∀ p ∈ tl ++ newsT, p ∈ tl ++ news := fun p hp => (List.mem_append.mp hp).elim (List.mem_append_left _) fun q => List.mem_append_right _ (hsT p q)
    refine lam_at (news := (H, listOf hv.toArray kh) :: (L1 + 1, oP) :: (tl ++ news)) foundPos F24 (News.less N24 fun p hp => ?_) o2 T1 C1 rfl (by rfl) (fun p hp => .tail _ (.tail _ (hrT p hp))) hTab2 (.tail _ (.head _)) (by decide) (by with_unfolding_all rfl) (by rfl) ?_
    · refine subE ?_ _ hp
      walk_at "sub"
    intro f c' oc vs t ctv ps3 tl3 h10 tk10 F10 N10 hlt3 hmc hcd hcv hTab3 hlf
    with_reducible first | refine k_flat (s := s) ?_ | (show wpAny _ _ _ _ _ _; refine k_flat (s := s) ?_)
    intro tkF
    have hTab4 : TabOK foundQ foundPos ps3 ((tl3 ++ tl) ++ newsT) := by rw [List.append_assoc]; exact hTab3
    have hmc4 : (c', oc) ∈ tl3 ++ (tl ++ news) := (List.mem_append.mp hmc).elim (List.mem_append_left _) fun q => List.mem_append_right _ (hrT _ q)
    generalize (mg (Str.ofString "__name__")).getD Value.none = pm at N10
    refine hideG fun gG hG => ?_
    obtain ⟨fo, hfo⟩ : ∃ fo : Obj, fo = kla_obj (Str.ofString "<lambda>") foundQ (lamParams { line := 347, col := 45, endLine := 347, endCol := 46 }) (lamBody { line := 347, col := 48, endLine := 347, endCol := 52 } { line := 347, col := 53, endLine := 347, endCol := 54 } { line := 347, col := 48, endLine := 347, endCol := 55 }) lamScope [(Str.ofString "fars", L1 + 1)] pm c' ctv := ⟨_, rfl⟩
    refine hG ?_
    try clear hG gG
    replace N10 : News g1 L1 h10 ((f, kla_obj (Str.ofString "<lambda>") foundQ (lamParams { line := 347, col := 45, endLine := 347, endCol := 46 }) (lamBody { line := 347, col := 48, endLine := 347, endCol := 52 } { line := 347, col := 53, endLine := 347, endCol := 54 } { line := 347, col := 48, endLine := 347, endCol := 55 }) lamScope [(Str.ofString "fars", L1 + 1)] pm c' ctv) :: (222, tabObj ps3) :: (tl3 ++ (H, listOf hv.toArray kh) :: (L1 + 1, oP) :: (tl ++ news))) := N10
    have hrl : ∀ p ∈ tl3 ++ tl, L1 < p.1 := fun p hp => (List.mem_append.mp hp).elim (fun q => Nat.lt_trans (Nat.lt_succ_self _) (hlt3 p q (L1 + 1, oP) (.tail _ (.tail _ (.head _))))) (fun q => Nat.lt_trans (Nat.lt_succ_self _) (htl p q).1)
    refine hideG fun gG hG => ?_
    obtain ⟨rest4, hrest4⟩ : ∃ rest4, rest4 = (tl3 ++ tl) ++ news := ⟨_, rfl⟩
    refine hG ?_
    try clear hG gG
    have N11 : News g1 L1 h10 ((f, fo) :: (H, listOf hv.toArray kh) :: (L1 + 1, oP) :: (222, tabObj ps3) :: rest4) := News.less N10 fun p hp => by
      rw [hrest4, hfo] at hp
      refine subE ?_ _ hp
      walk_at "sub"
    rw [← List.append_assoc, ← hrest4] at hmc4
    have hrs4 : ∀ p ∈ news, p ∈ rest4 := fun p hp => by rw [hrest4]; exact List.mem_append_right _ hp
    have KR4 : ∀ k : Int, 0 ≤ k ∧ k < farsL.length → LI rest4 (kv k) (fars k) := fun k hk => (hkv k hk).2.mono hrs4
    have hmF4 : (aF, listOf fv.toArray kF) ∈ rest4 := hrs4 _ hmF
    clear hsT hmF oP0 h23 tk23 ps2 N24 htl oH hTab2 hA F24 h222 C1 o2 hrT tk10 hlt3 hmc hTab3 hlf N10 hrs4
    k_steps
    refine Stop.mk ?_
    rename Fr g1 L1 _ _ => F12
    have hup : ∀ p ∈ rest4, p ∈ (f, fo) :: (H, listOf hv.toArray kh) :: (L1 + 1, oP) :: (222, tabObj ps3) :: rest4 := fun p hp => .tail _ (.tail _ (.tail _ (.tail _ hp)))
    have hKL5 : KeyL ((f, fo) :: (H, listOf hv.toArray kh) :: (L1 + 1, oP) :: (222, tabObj ps3) :: rest4) kv fars heard := fun k hk => (KR4 k (hrg k hk)).mono hup
    have hkf5 : KeyFn w (.ref f) kv heard ((f, fo) :: (H, listOf hv.toArray kh) :: (L1 + 1, oP) :: (222, tabObj ps3) :: rest4) :=
      lam_key w (by rw [hfo]; exact .head _) (hup _ hmc4) hcd hcv (.tail _ (.tail _ (.head _))) d1 (hup _ hmF4) fun k hk => ⟨(hrg k hk).1, by have := (hrg k hk).2; lia, (hkv k (hrg k hk)).1⟩
    have hdis : Dis fars heard := ⟨hnd, fun a ha b hb e => hinj a b (hrg a ha).1 (hrg a ha).2 (hrg b hb).1 (hrg b hb).2 e⟩
    have hhl : heard.length < 10 := Nat.lt_of_le_of_lt (nodup_len hnd (N := farsL.length) hrg) hN
    refine FnK.use (nsmall_spec w H f hv heard kh size t2 _ _ _ _ kv fars _ (.tail _ (.head _)) hhv (by rw [hfo]; exact .head _) hkf5 hKL5 hs (List.length_pos_iff.mpr hne) hhl hdis) B1 F12 X1 N11 T1 rfl (by show dp + 1 + 60 < _; exact lim (d := dp) (a := 1 + 60) hd rfl) (by show un + 3 + 600 < _; exact lim (d := un) (a := 3 + 600) hu rfl) ?_
    rintro r news' h13 tk13 F13 N13 qG8
    refine hideG fun gG hG => ?_
    obtain ⟨D, ys, k9, rfl, rfl, hys, hlD⟩ := qG8
    refine hG ?_
    try clear hG gG
    refine hRq _ _ ?_
    k_steps
    refine leaveK_ F13 N13 fun kF kN => ?_
    rw [hgoal] at hys
    have hsd : ∀ p ∈ (222, tabObj ps3) :: ((tl3 ++ tl) ++ news), p ∈ (f, fo) :: (H, listOf hv.toArray kh) :: (L1 + 1, oP) :: (222, tabObj ps3) :: rest4 := fun p hp => by
      rw [hrest4]; exact .tail _ (.tail _ (.tail _ hp))
    refine hret (.ref D) ((D, listOf ys.toArray k9) :: (222, tabObj ps3) :: ((tl3 ++ tl) ++ news)) _ _ kF (News.less kN fun p hp => ?_) ⟨D, ys, k9, ps3, tl3 ++ tl, rfl, rfl, hys, fun p hp => hlD p (hsd p hp), hTab4, fun p hp q hq => Nat.lt_trans (l1 q hq) (hrl p hp)⟩
    rcases List.mem_cons.mp hp with rfl | hp
    · exact .head _
    · exact .tail _ (hsd p hp)
end Mine
end
section
open PySem PySem.W PySem.Calls PyProof.Rows PyProof.Rows.LCg
namespace Mine
section
variable {A : Around} {s : Shared} {h₀ : Heap} {L : Addr} {news : Led}
/-- lists of values that are alike pair by pair -/
theorem all_alike {va vb : List Value} (hz : va.length = vb.length) (he : ∀ (j : Nat) (x y : Value), va[j]? = some x → vb[j]? = some y → SeqAt.EqAt A.in1 s x y true) :
    ∀ j (h1 : j < va.toArray.size) (h2 : j < vb.toArray.size), SeqAt.EqAt A.in1 s va.toArray[j] vb.toArray[j] ((fun _ => true) j) := fun j h1 h2 => by
  have h1' : j < va.length := by simpa using h1
  have h2' : j < vb.length := by simpa using h2
  have e1 : va.toArray[j] = va[j] := by simp
  have e2 : vb.toArray[j] = vb[j] := by simp
  rw [e1, e2]
  exact he j _ _ (List.getElem?_eq_getElem h1') (List.getElem?_eq_getElem h2')
theorem all_true (n : Nat) : ((List.range n).all fun _ => true) = true := by simp
theorem eq_alike {l b : Addr} {va vb : List Value} {k k2 : Nat} (N : News h₀ L s.heap news) (hl : (l, listOf va.toArray k) ∈ news) (hb : (b, listOf vb.toArray k2) ∈ news) (hz : va.length = vb.length) (hu : A.units < cLine) (he : ∀ (j : Nat) (x y : Value), va[j]? = some x → vb[j]? = some y → SeqAt.EqAt A.in1 s x y true) :
    SeqAt.EqAt A s (.ref l) (.ref b) true := by
  by_cases c : l = b
  · subst c; exact SeqAt.EqAt.same _
  · refine SeqAt.EqAt.of_refs c ?_
    have := SeqAt.RcAt.lists (A := A) (s := s) (e := fun _ => true) ⟨_, (N _ hl).1, rfl, _, rfl⟩ ⟨_, (N _ hb).1, rfl, _, rfl⟩ (by simpa using hz) hu (all_alike hz he)
    rwa [all_true] at this
theorem two_len {α : Type} {R S : Value → α → Prop} {va vb : List Value} {xs : List α} (ha : Two R va xs) (hb : Two S vb xs) : va.length = vb.length := ha.len.trans hb.len.symm
theorem two_two {α : Type} {R S : Value → α → Prop} {va vb : List Value} {xs : List α} (ha : Two R va xs) (hb : Two S vb xs) {j : Nat} {x y : Value} (hx : va[j]? = some x) (hy : vb[j]? = some y) : ∃ a, R x a ∧ S y a := by
  refine hideG fun gG hG => ?_
  obtain ⟨a, h1, h2⟩ := ha.get hx
  obtain ⟨b, h3, h4⟩ := hb.get hy
  refine hG ?_
  try clear hG gG
  rw [h1] at h3; injection h3 with e; exact ⟨a, h2, e ▸ h4⟩
theorem eq_LI {x y : Value} {a : List Int} (N : News h₀ L s.heap news) (hx : LI news x a) (hy : LI news y a) (hu : A.units < cLine) : SeqAt.EqAt A s x y true := by
  have := key_eq (A := A) N hx hy hu
  rwa [decide_eq_true rfl] at this
theorem eq_LIL {x y : Value} {a : List (List Int)} (N : News h₀ L s.heap news) (hx : LIL news x a) (hy : LIL news y a) (hu : A.units + 1 < cLine) : SeqAt.EqAt A s x y true := by
  refine hideG fun gG hG => ?_
  obtain ⟨l, va, k, rfl, hm, hi⟩ := hx
  obtain ⟨l2, vb, k2, rfl, hm2, hi2⟩ := hy
  refine hG ?_
  try clear hG gG
  refine eq_alike N hm hm2 (two_len hi hi2) (by omega) fun j u v hu' hv => ?_
  refine hideG fun gG hG => ?_
  obtain ⟨a, h1, h2⟩ := two_two hi hi2 hu' hv
  refine hG ?_
  try clear hG gG
  exact eq_LI N h1 h2 (by show A.units + 1 < cLine; omega)
/-- two alike lists are not unequal -/
theorem ne_alike {α : Type} {R S : Value → α → Prop} {prog : Program} {w : World} {E Q : Value → Shared → Prop} {l b : Addr} {va vb : List Value} {xs : List α} {k k2 : Nat} (N : News h₀ L s.heap news) (hl : (l, listOf va.toArray k) ∈ news) (hb : (b, listOf vb.toArray k2) ∈ news) (ha : Two R va xs) (hb2 : Two S vb xs) (hu : A.units < cLine)
    (he : ∀ x y a, R x a → S y a → SeqAt.EqAt A.in1 s x y true) (h : Q (.bool false) s) : wpAny (model prog w) A (compareOp .NotEq (.ref l) (.ref b)) Q E s := by
  have := SeqAt.RcNeAt.lists (A := A) (s := s) (e := fun _ => true) ⟨_, (N _ hl).1, rfl, _, rfl⟩ ⟨_, (N _ hb).1, rfl, _, rfl⟩ (by simpa using two_len ha hb2) hu (all_alike (two_len ha hb2) fun j x y hx hy => by
    refine hideG fun gG hG => ?_
    obtain ⟨a, h1, h2⟩ := two_two ha hb2 hx hy
    refine hG ?_
    try clear hG gG
    exact he x y a h1 h2) prog w E Q
  rw [all_true] at this
  exact this h
theorem eqv_alike {α : Type} {R S : Value → α → Prop} {prog : Program} {w : World} {E Q : Value → Shared → Prop} {l b : Addr} {va vb : List Value} {xs : List α} {k k2 : Nat} (N : News h₀ L s.heap news) (hl : (l, listOf va.toArray k) ∈ news) (hb : (b, listOf vb.toArray k2) ∈ news) (ha : Two R va xs) (hb2 : Two S vb xs) (hu : A.units < cLine)
    (he : ∀ x y a, R x a → S y a → SeqAt.EqAt A.in1 s x y true) (h : Q (.bool true) s) : wpAny (model prog w) A (compareOp .Eq (.ref l) (.ref b)) Q E s := by
  have := SeqAt.RcAt.lists (A := A) (s := s) (e := fun _ => true) ⟨_, (N _ hl).1, rfl, _, rfl⟩ ⟨_, (N _ hb).1, rfl, _, rfl⟩ (by simpa using two_len ha hb2) hu (all_alike (two_len ha hb2) fun j x y hx hy => by
    refine hideG fun gG hG => ?_
    obtain ⟨a, h1, h2⟩ := two_two ha hb2 hx hy
    refine hG ?_
    try clear hG gG
    exact he x y a h1 h2) prog w E Q
  rw [all_true] at this
  exact this h
theorem eq_int (n : Int) {x y : Value} (hx : IsI x n) (hy : IsI y n) : SeqAt.EqAt A s x y true := by
  refine hideG fun gG hG => ?_
  obtain ⟨t, rfl⟩ := hx
  obtain ⟨u, rfl⟩ := hy
  refine hG ?_
  try clear hG gG
  have := eqAt_int (A := A) (s := s) (a := n) (b := n) (t := t) (u := u)
  rwa [decide_eq_true rfl] at this
end
end Mine
end
section
open PySem PySem.W PySem.Calls PyProof.Rows PyProof.Rows.LCg
set_option maxRecDepth 100000
set_option maxHeartbeats 8000000
namespace Mine
local macro_rules | `(tactic| walk_at $s:str) => Mine.stopAt ["compareOp In str ref", "exec For Name Attribute cons nil", "pyIter ref", "setItem ref str int"] s
/-- the fields of a reader -/
noncomputable abbrev igD (w : World) (Sm Di Ig : Addr) (t1 t2 t3 : Tok) : Obj := dictOf [{ hash := PyData.keyHash w.params (Str.ofString "_mods"), key := .str (Str.ofString "_mods") t1, val := .ref Sm }, { hash := PyData.keyHash w.params (Str.ofString "_dirs"), key := .str (Str.ofString "_dirs") t2, val := .ref Di }, { hash := PyData.keyHash w.params (Str.ofString "_ignore"), key := .str (Str.ofString "_ignore") t3, val := .ref Ig }] 3
theorem names_spec (w : World) (R d Sm Di Ig : Addr) (t1 t2 t3 t4 : Tok) (oI : Obj) (x lab : Str) (ta tb : Tok) (rest : Led) (n : Nat) (lo : (Ig == sysModules) = false) (hMemo : Memo w x n oI) (hn : n < 50) (hxl : x.length < 100) (hlab : lab ≠ Str.ofString "<string>")
   (h1 : (R, instObj 191 d) ∈ rest) (h2 : (d, igD w Sm Di Ig t1 t2 t3) ∈ rest) (h3 : (Sm, oneSet w x t4) ∈ rest) (h4 : (Di, listOf #[] 0) ∈ rest) (hoff : ∀ p ∈ rest, p.1 ≠ Ig) :
   Fn w 10 100 (.ref 188) [.ref R, .str (Str.ofString "") ta, .str lab tb] ((Ig, oI) :: rest) (fun r news' => ∃ t oI', r = .int (hit x lab) t ∧ news' = (Ig, oI') :: rest ∧ Memo w x (n + 1) oI') := by
  refine hideG fun gG hG => ?_
  obtain ⟨kvs, D, hdo, hfp, hDl, hM⟩ := hMemo
  refine hG ?_
  try clear hG gG
  unfold Fn PG
  w_top off
  k_fill
  intro p loose mean mg mb dp un gd cn cs a ccd cl outer A₀ base h₀ L m s Q E B F X N T hk hd hu hret
  refine wpAny_call ?_
  k_dflt ((refine' code_def ?k1 ?k2 ?k3 ?k4 ?k5 ?kA ?kF ?kK ?k6 ?k7 ?k8 ?k9 ?kB ?_ ?c2 ?c3 ?c4 ?c5; (case kA => exact rfl); (case kF => exact rfl); (case kK => first | assumption | exact rfl); (case k1 => k_asm); (case k2 => k_asm); (case k3 => k_asm); (case k4 => k_asm); (case k5 => k_asm); (case k6 => k_is); (case k7 => k_is); (case k8 => ktr_room); (case k9 => first | exact BindsTo.of_eq rfl | exact binds_K (by k_in) rfl (by k_is) rfl rfl rfl); (case c5 => decide); (case kB => exact locs rfl); (case c2 => exact rfl); (case c3 => exact rfl); (case c4 => exact rfl); k_whole; intro g1 L1 h1' FG1 F1 N1 B1 X1 T1; (try dsimp only); (try k_fold)))
  refine noE ?_
  refine frG [(Str.ofString "self", .ref R), (Str.ofString "filename", .str (Str.ofString "") ta), (Str.ofString "modulename", .str lab tb)] F1 ⟨rfl, rfl, rfl, trivial⟩ fun mE hAE FE => ?_
  clear F1 hAE
  rename Fr g1 L1 _ _ => F1
  refine hideQ fun QR hRq => ?_
  have l1 : R ≠ Ig ∧ d ≠ Ig ∧ Sm ≠ Ig ∧ Di ≠ Ig := ⟨hoff _ h1, hoff _ h2, hoff _ h3, hoff _ h4⟩
  replace N1 := News.less (nw' := (Ig, oI) :: (R, instObj 191 d) :: (d, igD w Sm Di Ig t1 t2 t3) :: (Sm, oneSet w x t4) :: (Di, listOf #[] 0) :: rest) N1 (by
    simp only [List.mem_cons]
    rintro p (rfl | rfl | rfl | rfl | rfl | h)
    · exact .inl rfl
    · exact .inr h1
    · exact .inr h2
    · exact .inr h3
    · exact .inr h4
    · exact .inr h)
  have hoff' : ∀ p ∈ ((R, instObj 191 d) :: (d, igD w Sm Di Ig t1 t2 t3) :: (Sm, oneSet w x t4) :: (Di, listOf #[] 0) :: rest : Led), p.1 ≠ Ig := by
    simp only [List.mem_cons]
    rintro p (rfl | rfl | rfl | rfl | h)
    · exact l1.1
    · exact l1.2.1
    · exact l1.2.2.1
    · exact l1.2.2.2
    · exact hoff p h
  have back : ∀ {h : Heap} {o : Obj}, News h₀ L h ((Ig, o) :: (R, instObj 191 d) :: (d, igD w Sm Di Ig t1 t2 t3) :: (Sm, oneSet w x t4) :: (Di, listOf #[] 0) :: rest) → News h₀ L h ((Ig, o) :: rest) := fun N => News.less N fun p hp => by
    rcases List.mem_cons.mp hp with rfl | hp
    · exact .head _
    · exact .tail _ (.tail _ (.tail _ (.tail _ (.tail _ hp))))
  clear h1 h2 h3 h4 F N hd hu ek
  k_steps
  refine in_strTab (TabAt.ofNews N1 (.head _) lo hdo hfp) ?_
  cases hl : PySem.Spec.lookup (.str lab) D with
  | some dv =>
    rw [show (some dv).isSome = true from rfl]
    k_steps
    rename PyProof.V.Flat _ dv => hv
    obtain rfl : dv = .int (hit x lab) := (hM _ _ hl).resolve_left hlab
    have hv1 := hv s.heap
    cases hv1
    refine hRq _ _ ?_
    k_steps
    exact hret _ _ _ _ (by assumption) (back (by assumption)) ⟨_, oI, rfl, rfl, kvs, D, hdo, hfp, Nat.le_succ_of_le hDl, hM⟩
  | none =>
    rw [show (none : Option PyData).isSome = false from rfl]
    k_steps
    refine in_one (by assumption) (.tail _ (.tail _ (.tail _ (.head _)))) ?_
    by_cases hx : lab = x
    · rw [decide_eq_true hx]
      k_steps
      refine memo_set (by assumption) N1 hoff' hdo hfp hDl hM (by rw [hit, if_pos (.inl hx)]) (by omega) ?_
      intro h2 o2 F2 N2 hM2

      with_reducible first | refine k_flat (s := s) ?_ | (show wpAny _ _ _ _ _ _; refine k_flat (s := s) ?_)
      intro tkF
      k_steps
      refine hRq _ _ ?_
      k_steps
      exact hret _ _ _ _ (by assumption) (back (by assumption)) ⟨_, o2, by rw [hit, if_pos (.inl hx)], rfl, hM2⟩
    · rw [decide_eq_false hx]
      k_steps
      refine Stop.mk ?_
      refine wpAny_For ?_
      k_steps
      refine for_one (hh := by rfl) (hE := by passes_own) (w := w) (x := x) (t := t4) (fun i m nw => AllAre m [(Str.ofString "self", .ref R), (Str.ofString "filename", .str (Str.ofString "") ta), (Str.ofString "modulename", .str lab tb)] ∧ nw = ((Ig, oI) :: (R, instObj 191 d) :: (d, igD w Sm Di Ig t1 t2 t3) :: (Sm, oneSet w x t4) :: (Di, listOf #[] 0) :: rest) ∧ (i = 1 → Txt.startswith lab (x ++ Str.ofString ".") = false)) F1 N1 (.tail _ (.tail _ (.tail _ (.head _)))) ⟨⟨rfl, rfl, rfl, trivial⟩, rfl, nofun⟩ ?_ ?_
      · rintro m2 nw2 h2 tk2 own I hown hI qG1 F2 N2
        refine hideG fun gG hG => ?_
        obtain ⟨hA, rfl, -⟩ := qG1
        refine hG ?_
        try clear hG gG
        refine wpAny_pure ?_
        replace F2 := frOv F2 hA
        k_steps
        · rename Txt.startswith lab _ = true => hst
          rename Fr g1 L1 _ _ => F3
          rename News g1 L1 _ _ => N3
          have hh1 : (1 : Int) = hit x lab := by rw [hit, if_pos (.inr hst)]
          have hIo : ∀ p ∈ own ++ ((R, instObj 191 d) :: (d, igD w Sm Di Ig t1 t2 t3) :: (Sm, oneSet w x t4) :: (Di, listOf #[] 0) :: rest), p.1 ≠ Ig := fun p hp e => by
            rcases List.mem_append.mp hp with hp | hp
            · rcases hown p hp with q | q
              · exact hI _ (.head _) (e.symm.trans q)
              · exact l1.2.2.1 (q.symm.trans e)
            · exact hoff' p hp e
          refine memo_set F3 (News.less N3 (fun p hp => by
            rcases List.mem_cons.mp hp with rfl | hp
            · exact List.mem_append_right _ (.head _)
            · rcases List.mem_append.mp hp with hp | hp
              · exact List.mem_append_left _ hp
              · exact List.mem_append_right _ (.tail _ hp))) hIo hdo hfp hDl hM hh1 (by omega) ?_
          intro h4 o4 F4 N4 hM4

          with_reducible first | refine k_flat (s := s) ?_ | (show wpAny _ _ _ _ _ _; refine k_flat (s := s) ?_)
          intro tkF
          replace N4 := News.less (nw' := (Ig, o4) :: (R, instObj 191 d) :: (d, igD w Sm Di Ig t1 t2 t3) :: (Sm, oneSet w x t4) :: (Di, listOf #[] 0) :: rest) N4 (fun p hp => by
            rcases List.mem_cons.mp hp with rfl | hp
            · exact .head _
            · exact .tail _ (List.mem_append_right _ hp))
          rename_i z6 z5 z4 z3 z2 z1
          clear lo hn hxl hlab hoff kvs D hdo hfp hDl hM mE l1 hoff' z6 hl z5 hx h2 tk2 I hown hA hI z4 F3 N3 tkf z3 z2 z1 hst hIo
          k_steps
          dsimp only [FEnd]
          k_steps
          refine hRq _ _ ?_
          k_steps
          exact hret _ _ _ _ (by assumption) (back (by assumption)) ⟨_, o4, by rw [← hh1], rfl, hM4⟩
        · rename Txt.startswith lab _ = false => hst
          exact ⟨_, _, _, _, rfl, by assumption, by assumption, fun p hp => .inl ⟨p, hp, rfl⟩, ⟨rfl, rfl, rfl, trivial⟩, rfl, fun _ => hst⟩
      · rintro h2 tk2 m2 nw2 qG2 F2 N2
        refine hideG fun gG hG => ?_
        obtain ⟨hA, rfl, hst⟩ := qG2
        refine hG ?_
        try clear hG gG
        replace F2 := frOv F2 hA
        have hh0 : (0 : Int) = hit x lab := by rw [hit, if_neg (by rintro (q | q); exact hx q; rw [hst rfl] at q; exact Bool.noConfusion q)]
        k_steps
        refine Stop.mk ?_
        refine wpAny_For ?_
        k_steps
        refine for_list (hh := by rfl) (hE := by passes_own) (its := []) (k := 0) (ax := Di) (fun i m nw => AllAre m [(Str.ofString "self", .ref R), (Str.ofString "filename", .str (Str.ofString "") ta), (Str.ofString "modulename", .str lab tb)] ∧ nw = ((Ig, oI) :: (R, instObj 191 d) :: (d, igD w Sm Di Ig t1 t2 t3) :: (Sm, oneSet w x t4) :: (Di, listOf #[] 0) :: rest)) F2 N2 (.tail _ (.tail _ (.tail _ (.tail _ (.head _))))) ⟨⟨rfl, rfl, rfl, trivial⟩, rfl⟩ ?_ ?_
        · rintro i v m3 nw3 h3 tk3 own I _ _ hi
          exact absurd hi (Nat.not_lt_zero _)
        · rintro h3 tk3 m3 nw3 ⟨hA3, rfl⟩ F3 N3
          replace F3 := frOv F3 hA3
          k_steps
          refine memo_set (by assumption) (by assumption) hoff' hdo hfp hDl hM hh0 (by omega) ?_
          intro h4 o4 F4 N4 hM4

          with_reducible first | refine k_flat (s := s) ?_ | (show wpAny _ _ _ _ _ _; refine k_flat (s := s) ?_)
          intro tkF
          rename_i z1
          clear oI lo hn hxl hlab hoff kvs D hdo hfp hDl hM h1' mE F1 l1 N1 hoff' tkf hl z1 hx tk h2 tk2 m2 hA hst N2 F2 h3 tk3 hA3 N3 F3
          k_steps
          refine hRq _ _ ?_
          k_steps
          exact hret _ _ _ _ (by assumption) (back (by assumption)) ⟨_, o4, by rw [← hh0], rfl, hM4⟩
end Mine
end
section
open PySem PySem.W PySem.Calls PyProof.Rows PyProof.Rows.LCg
set_option maxRecDepth 100000
set_option maxHeartbeats 8000000
namespace Mine
theorem truthyv_at {prog : Program} {w : World} {A : Around} {E : Value → Shared → Prop} {s : Shared} {h₀ : Heap} {L a : Addr} {news : Led} {n : Nat} {vs : List Value} {Q : Bool → Shared → Prop} (N : News h₀ L s.heap news) (hm : (a, listOf vs.toArray n) ∈ news) (hf : vs.length < 2 ^ 62)
    (h : ∀ tk, Q (decide (0 < vs.length)) { s with toks := tk }) : wpAny (model prog w) A (truthy (.ref a)) Q E s :=
  truthy_at (its := vs) (val := fun x => x) N (by simpa using hm) hf h
theorem memo_key {y k : Str} {a b : Tok} {v : PyData} (h : PySem.Spec.lookup (.str k) (strData [(.str y a, .int 1 b)]) = some v) : k = y := by
  have e : strData [(Value.str y a, Value.int 1 b)] = [(PyData.str y, PyData.int 1)] := rfl
  rw [e] at h
  by_cases q : k = y
  · exact q
  · exfalso
    have : PySem.Spec.same (PyData.str y) (PyData.str k) = false := by rw [PyProof.V.same_str]; exact decide_eq_false (Ne.symm q)
    simp [PySem.Spec.lookup, this] at h
inductive IgPost (w : World) (x : Str) (t : Tok) (news : Led) (r : Value) (news' : Led) : Prop
  | mk0 (R d Ig : Addr) (oI : Obj) (Sm Di : Addr) (t1 t2 t3 : Tok) : (r = .ref R) → (news' = (Ig, oI) :: (Di, listOf #[] 0) :: (Sm, oneSet w x t) :: (R, instObj 191 d) :: (d, igD w Sm Di Ig t1 t2 t3) :: news) → (Memo w x 1 oI) → ((Ig == sysModules) = false) → ((∀ p ∈ news, p.1 < d)) → (d < R) → (R < Sm) → (Sm < Di) → (Di < Ig) → IgPost w x t news r news'
theorem ignore_spec (w : World) (a_1 : Addr) (x : Str) (t : Tok) (k : Nat) (news : Led) (hm : (a_1, listOf #[.str x t] k) ∈ news) :
   Fn w 10 100 (.ref 191) [.ref a_1] news (IgPost w x t news) := by
  unfold Fn PG
  w_top off
  k_fill
  intro p loose mean mg mb dp un gd cn cs a ccd cl outer A₀ base h₀ L m s Q E B F X N T hk hd hu hret
  refine' call_cls ?k1 ?k2 ?k3 ?k4 ?k5 ?k6 ?_; (case k1 => k_asm); (case k2 => k_asm); (case k3 => k_asm); (case k4 => k_is); (case k5 => k_is); (case k6 => k_is); k_whole; intro x' d' h' F' N' l1 l2; (try k_lt l1); (try k_lt2 l2); (try k_sweep)
  ((refine' code_def ?k1 ?k2 ?k3 ?k4 ?k5 ?kA ?kF ?kK ?k6 ?k7 ?k8 ?k9 ?kB ?_ ?c2 ?c3 ?c4 ?c5; (case kA => exact rfl); (case kF => exact rfl); (case kK => first | assumption | exact rfl); (case k1 => k_asm); (case k2 => k_asm); (case k3 => k_asm); (case k4 => k_asm); (case k5 => k_asm); (case k6 => k_is); (case k7 => k_is); (case k8 => ktr_room); (case k9 => first | exact BindsTo.of_eq rfl | exact binds_K (by k_in) rfl (by k_is) rfl rfl rfl); (case c5 => decide); (case kB => exact locs rfl); (case c2 => exact rfl); (case c3 => exact rfl); (case c4 => exact rfl); k_whole; intro g1 L1 h1 FG1 F1 N1 B1 X1 T1; (try dsimp only); (try k_fold)))
  refine noE ?_
  refine frG [(Str.ofString "self", .ref x'), (Str.ofString "modules", .ref a_1), (Str.ofString "dirs", .none)] F1 ⟨rfl, rfl, rfl, trivial⟩ fun mE hAE FE => ?_
  clear F1 hAE
  rename Fr g1 L1 _ _ => F1
  k_steps
  refine truthyv_at (vs := [.str x t]) N1 (.tail _ (.tail _ hm)) (Nat.le_of_ble_eq_true rfl) ?_
  intro tk1
  rw [show decide (0 < [Value.str x t].length) = true from rfl]
  k_steps
  refine set_one_at rfl F1 N1 (.tail _ (.tail _ hm)) ?_
  intro D h2 tk2 F2 N2 lD
  with_reducible refine k_flat (s := s) ?_
  intro tkF
  k_lt lD
  clear hd hu h' F' N' h1 N1 ek F1 tk tk1 tk2
  k_steps
  rename _ = false => lo
  rename Obj.IsDictOf _ _ _ => hdo
  rename PyProof.V.FlatPairs _ _ _ => hfp
  rename _ ∧ _ ∧ _ ∧ _ ∧ _ => l5
  rename News h₀ L _ _ => N9
  obtain ⟨l4, -⟩ := ‹_ < _ ∧ _ < _ ∧ _ < _ ∧ AllLt _ _›
  refine hret _ _ _ _ (by assumption) N9 ⟨_, _, _, _, _, _, _, _, _, rfl, rfl, ⟨_, _, hdo, hfp, Nat.le_refl _, fun k v hk => .inl ?_⟩, lo, l1, l2, lD.1, l4, l5.1⟩
  exact memo_key hk
end Mine
end
section
open PySem PySem.W PySem.Calls PyProof.Rows PyProof.Rows.LCg
set_option maxRecDepth 100000
set_option maxHeartbeats 8000000
namespace Mine
local macro_rules | `(tactic| walk_at "mine") => `(tactic| skip)
local macro_rules | `(tactic| walk_at $s:str) => Mine.stopAt ["call ref", "eval ListComp"] s
theorem fitLine' {k : Nat} (h : k < 10) : k ≤ sizeLine := by rw [sizeLine_eq]; lia
noncomputable def IsS (v : Value) (x : Str) : Prop := ∃ t, v = .str x t
noncomputable def figS (n : Int) : Str := toString n
noncomputable def nameL (ns : List Int) : Str := Txt.join (Str.ofString ".") (ns.map figS)
theorem figS_len {n : Int} (h0 : 0 ≤ n) (h1 : n < 64) : (figS n).length ≤ 2 := by
  have H : ∀ k, k < 64 → (figS (k : Nat)).length ≤ 2 := by decide +kernel
  obtain ⟨k, rfl⟩ := Int.eq_ofNat_of_zero_le h0
  exact H k (by lia)
theorem strsAre_of : ∀ {vs : List Value} {xs : List Str}, Two IsS vs xs → StrsAre vs xs
 := by
  intro vs xs h
  induction h with
  | nil => exact .nil
  | cons hx _ ih => obtain ⟨t, rfl⟩ := hx; exact .cons _ t ih
theorem names_len : ∀ {ns : List Int}, (∀ n ∈ ns, 0 ≤ n ∧ n < 64) → ((ns.map figS).map (·.length)).sum ≤ 2 * ns.length
  | [], _ => Nat.le_refl _
  | n :: r, h => by
    have h1 := figS_len (h n (.head _)).1 (h n (.head _)).2
    have h2 := names_len fun x hx => h x (.tail _ hx)
    simp only [List.map_cons, List.sum_cons, List.length_cons]; lia
theorem law_name_spec (w : World) (a_1 : Addr) (vs : List Value) (ns : List Int) (k : Nat) (news : Led) (hm : (a_1, listOf vs.toArray k) ∈ news) (hi : Two IsI vs ns) (hr : ∀ n ∈ ns, 0 ≤ n ∧ n < 64) (hf : vs.length < 10) :
   Fn w 10 100 (.ref 205) [.ref a_1] news (fun r news' => IsS r (nameL ns) ∧ news' = news) := by
  unfold Fn PG
  w_top off
  k_fill
  intro p loose mean mg mb dp un gd cn cs a ccd cl outer A₀ base h₀ L m s Q E B F X N T hk hd hu hret
  refine wpAny_call ?_
  k_dflt ktr_enter
  refine noE ?_
  rename_i g1 L1 h1 FG1 F1 N1 B1 X1 T1
  refine frG [(Str.ofString "figures", .ref a_1)] F1 ⟨rfl, trivial⟩ fun mE hAE FE => ?_
  clear F1 hAE
  rename Fr g1 L1 _ _ => F1
  k_steps
  refine Stop.mk ?_
  refine ListComp_G (hs := by intro _; rfl) (by k_asm) (by with_unfolding_all rfl) (by decide) (by rfl) (by decide) ?_
  k_steps
  refine src_list (hh := by rfl) (hkind := by rfl) (hx := by rfl) (its := vs) _ F1 N1 hm (fitLine' hf) ⟨[], rfl, Above.nil, .nil⟩ (turn_map ns (fun vals n => ∃ v, vals = [v] ∧ IsI v n) figS (fun _ v b => IsS v b) (fun _ _ _ _ _ h => h) (fun i vals _ ⟨v, e, hv⟩ => let ⟨n, hn, hr⟩ := hi.get hv; ⟨n, hn, v, e, hr⟩) ?_) ?_
  · rintro n vals hn qG1 h tk tl own C oC D' ys m₂ E' ab hC F2 N2
    refine hideG fun gG hG => ?_
    obtain ⟨v, rfl, t, rfl⟩ := qG1
    refine hG ?_
    try clear hG gG
    have hx : putAll [Str.ofString "figure"] [.int n t] m₂ (Str.ofString "figure") = some (.int n t) := rfl
    generalize putAll [Str.ofString "figure"] [.int n t] m₂ = m₃ at hC hx
    k_steps
    refine P.str_of_int ?_ ?_
    · have := hr n hn
      have : n.natAbs < 64 := by lia
      exact Nat.lt_of_le_of_lt (Nat.log2_le_self _) (by lia)
    · exact ⟨_, _, [], rfl, F2, by rw [List.nil_append]; simpa using N2, Above.nil, _, rfl⟩
  · intro D h tk' ys nw F2 N2 o1 hlt ⟨tl, e, ab, hj⟩
    have hj : Two IsS ys (ns.map figS) := by simpa [hi.len] using hj
    k_steps
    have hz := N2 _ (.head _)
    refine join_list ⟨_, hz.1, rfl, _, rfl⟩ (by simpa using strsAre_of hj) ?_ ?_
    · have h1 := names_len hr
      have h2 := hi.len
      rw [List.length_map]
      show _ + _ * 1 ≤ _
      lia
    · intro t' tk''
      k_steps
      exact hret _ _ _ _ (by assumption) (News.less (by assumption) fun p hp => .tail _ (e ▸ List.mem_append_right _ hp)) ⟨⟨_, rfl⟩, rfl⟩
end Mine
end
section
open PySem PySem.W PySem.Calls PyProof.Rows PyProof.Rows.LCg
set_option maxRecDepth 100000
set_option maxHeartbeats 8000000
namespace Mine
local macro_rules | `(tactic| walk_at $s:str) => Mine.stopAt ["call ref", "eval ListComp"] s
theorem b64_spec (w : World) (b : Array UInt8) (c0 c1 c2 : Int) (t : Tok) (news : Led) (hb : KBw.bInts b = [c0, c1, c2]) :
   Fn w 27 270 (.ref 133) [.bytes b t] news (fun r news' => ∃ b' t', r = .bytes b' t' ∧ ∃ k0 k1 k2 k3, KBw.bInts b' = [k0, k1, k2, k3] ∧ B64 c0 c1 c2 k0 k1 k2 k3 ∧ news' = news) := by
  unfold Fn PG
  w_top off
  k_fill
  intro p loose mean mg mb dp un gd cn cs a ccd cl outer A₀ base h₀ L m s Q E B F X N T hk hd hu hret
  refine wpAny_call ?_
  k_dflt ((refine' code_def ?k1 ?k2 ?k3 ?k4 ?k5 ?kA ?kF ?kK ?k6 ?k7 ?k8 ?k9 ?kB ?_ ?c2 ?c3 ?c4 ?c5; (case kA => exact rfl); (case kF => exact rfl); (case kK => first | assumption | exact rfl); (case k1 => k_asm); (case k2 => k_asm); (case k3 => k_asm); (case k4 => k_asm); (case k5 => k_asm); (case k6 => k_is); (case k7 => k_is); (case k8 => ktr_room); (case k9 => first | exact BindsTo.of_eq rfl | exact binds_K (by k_in) rfl (by k_is) rfl rfl rfl); (case c5 => decide); (case kB => exact locs rfl); (case c2 => exact rfl); (case c3 => exact rfl); (case c4 => exact rfl); k_whole; intro g1 L1 h1 FG1 F1 N1 B1 X1 T1; (try dsimp only); (try k_fold)))
  refine noE ?_
  refine frG [(Str.ofString "s", .bytes b t), (Str.ofString "altchars", .none)] F1 ⟨rfl, rfl, trivial⟩ fun mE hAE FE => ?_
  clear F1 hAE
  rename Fr g1 L1 _ _ => F1
  k_steps
  refine Stop.mk ?_
  refine FnK.use (b2a_spec w b c0 c1 c2 t news hb) B1 F1 X1 N1 T1 rfl (by show dp + 1 + 25 < _; exact lim (d := dp) (a := 1 + 25) hd rfl) (by show un + 3 + 250 < _; exact lim (d := un) (a := 3 + 250) hu rfl) ?_
  rintro r news' h' tk' F5 N5 qG1
  refine hideG fun gG hG => ?_
  obtain ⟨b', t', rfl, k0, k1, k2, k3, hb', hB, rfl⟩ := qG1
  refine hG ?_
  try clear hG gG
  k_steps
  exact hret _ _ _ _ (by assumption) (by assumption) ⟨_, _, rfl, _, _, _, _, hb', hB, rfl⟩
noncomputable def figOf (n : Int) : Int := Txt.find (Str.ofString "ABCDEFGHIJKLMNOPQRSTUVWXYZabcdefghijklmnopqrstuvwxyz0123456789+/") ⟨#[n.toNat]⟩
theorem figOf_b64 {d : Int} (h0 : 0 ≤ d) (h1 : d < 64) : figOf (b64 d) = d := by
  have H : ∀ k, k < 64 → figOf (b64 (k : Nat)) = (k : Nat) := by decide +kernel
  obtain ⟨k, rfl⟩ := Int.eq_ofNat_of_zero_le h0
  exact H k (by omega)
/-- the four figures of a number -/
noncomputable def figs (n : Int) : List Int := [n / 262144, n / 4096 % 64, n / 64 % 64, n % 64]
theorem figs_of {n k0 k1 k2 k3 : Int} (h0 : 0 ≤ n) (h1 : n < 16777216) (h : B64 (n.fdiv 65536) ((n.fdiv 256).fmod 256) (n.fmod 256) k0 k1 k2 k3) : [k0, k1, k2, k3].map figOf = figs n := by
  have e2 : n.fdiv 65536 = n / 65536 := Int.fdiv_eq_ediv_of_nonneg _ (by decide)
  have e1 : (n.fdiv 256).fmod 256 = n / 256 % 256 := by rw [Int.fdiv_eq_ediv_of_nonneg _ (by decide), Int.fmod_eq_emod_of_nonneg _ (by decide)]
  have e0 : n.fmod 256 = n % 256 := Int.fmod_eq_emod_of_nonneg _ (by decide)
  rw [e2, e1, e0] at h
  have f : ∀ {k d e : Int}, k = b64 d → d = e → 0 ≤ e → e < 64 → figOf k = e := fun g h a b => by rw [g, h]; exact figOf_b64 a b
  have dd : ∀ {c d : Int}, 0 ≤ c → n / c / d = n / (c * d) := fun h => Int.ediv_ediv_of_nonneg h
  have g1 : n / 65536 / 4 = n / 262144 := dd (by decide)
  have g2 : n / 65536 % 4 * 16 + n / 256 % 256 / 16 = n / 4096 % 64 := by
    have a : n / 4096 / 16 = n / 65536 := dd (by decide)
    have b : n / 256 / 16 = n / 4096 := dd (by decide)
    rw [show n / 256 % 256 / 16 = n / 256 / 16 % 16 from ee (c := 16) (d := 16) (by decide), b, ← a]
    exact mm2 (c := 16) (d := 4) (by decide) (by decide)
  have g3 : n / 256 % 256 % 16 * 4 + n % 256 / 64 = n / 64 % 64 := by
    have a : n / 64 / 4 = n / 256 := dd (by decide)
    rw [show n % 256 / 64 = n / 64 % 4 from ee (c := 64) (d := 4) (by decide), ← a, Int.emod_emod_of_dvd _ (by decide : (16 : Int) ∣ 256)]
    exact mm2 (c := 4) (d := 16) (by decide) (by decide)
  have g4 : n % 256 % 64 = n % 64 := Int.emod_emod_of_dvd n (by decide)
  show [_, _, _, _] = [_, _, _, _]
  rw [f h.1 g1 (Int.ediv_nonneg h0 (by decide)) (Int.ediv_lt_of_lt_mul (by decide) h1), f h.2.1 g2 (Int.emod_nonneg _ (by decide)) (Int.emod_lt_of_pos _ (by decide)), f h.2.2.1 g3 (Int.emod_nonneg _ (by decide)) (Int.emod_lt_of_pos _ (by decide)), f h.2.2.2 g4 (Int.emod_nonneg _ (by decide)) (Int.emod_lt_of_pos _ (by decide))]
theorem News.up {g h₀ h : Heap} {L L1 : Addr} {m : Str → Option Value} {nw : Led} (FG : Fr h₀ L g m) (N : News g L1 h nw) : News h₀ L h nw := fun p hp => by
  have z := N p hp
  refine ⟨z.1, fun e => ?_, ?_⟩
  · refine hideG fun gG hG => ?_
    obtain ⟨o, es, ep, a, r⟩ := FG.ns
    refine hG ?_
    try clear hG gG
    rw [e, a] at z; exact nomatch z.2.2
  · cases q : h₀.get? p.1 with
    | none => rfl
    | some o => rw [FG.keep _ _ q] at z; exact nomatch z.2.2
theorem News.both {h₀ h : Heap} {L : Addr} {a b : Led} (x : News h₀ L h a) (y : News h₀ L h b) : News h₀ L h (a ++ b) := fun p hp => (List.mem_append.mp hp).elim (x p) (y p)
theorem below_new {g h₀ h h1 : Heap} {L L1 D : Addr} {m1 : Str → Option Value} {news : Led} (N : News h₀ L h news) (hg : ∀ b o, h.get? b = some o → g.get? b = some o) (F1 : Fr g L1 h1 m1) (hD : L1 < D) : ∀ p ∈ news, p.1 < D := fun p hp =>
  Nat.lt_trans (Nat.lt_of_lt_of_le (Heap.lt_size (hg _ _ (N p hp).1)) F1.above) hD
theorem law_figures_spec (w : World) (n : Int) (t : Tok) (news : Led) (h0 : 0 ≤ n) (hn1 : n < 16777216) :
   Fn w 30 300 (.ref 200) [.int n t] news (fun r news' => ∃ D ys, r = .ref D ∧ news' = (D, lst ys) :: news ∧ Two IsI ys (figs n) ∧ ∀ p ∈ news, p.1 < D) := by
  unfold Fn PG
  w_top off
  k_fill
  intro p loose mean mg mb dp un gd cn cs a ccd cl outer A₀ base h₀ L m s Q E B F X N T hk hd hu hret
  refine wpAny_call ?_
  k_dflt ((refine' Mine.codeH_defC ?k1 ?k2 ?k3 ?k5 ?kA ?kF ?kK ?k6 ?k7 ?k8 ?k9 ?kB ?kD ?_ ?c2 ?c3 ?c4; (case kA => exact rfl); (case kF => exact rfl); (case kK => first | assumption | exact rfl); (case k1 => k_asm); (case k2 => k_asm); (case k3 => k_asm); (case k5 => k_asm); (case k6 => k_is); (case k7 => k_is); (case k8 => ktr_room); (case k9 => first | exact BindsTo.of_eq rfl | exact binds_K (by k_in) rfl (by k_is) rfl rfl rfl); (case kB => exact rfl); (case kD => decide +kernel); (case c2 => exact rfl); (case c3 => exact rfl); (case c4 => exact rfl); k_whole; intro g1 L1 h1 tk1 cc1 FG1 F1 N1 Y1 B1 X1 T1 hg1; k_cells Y1; (try simp only [List.cons_append, List.nil_append] at N1); (try dsimp only); (try k_fold)))
  refine noE ?_
  refine frG [(Str.ofString "number", .int n t)] F1 ⟨rfl, trivial⟩ fun mE hAE FE => ?_
  clear F1 hAE
  rename Fr g1 L1 _ _ => F1
  rename_i oc d1
  k_steps
  rename Obj => oc2
  rename _ = Data.cell _ => dc2
  have e2 : n.fdiv 65536 = n / 65536 := Int.fdiv_eq_ediv_of_nonneg _ (by decide)
  have e1 : (n.fdiv 256).fmod 256 = n / 256 % 256 := by rw [Int.fdiv_eq_ediv_of_nonneg _ (by decide), Int.fmod_eq_emod_of_nonneg _ (by decide)]
  have e0 : n.fmod 256 = n % 256 := Int.fmod_eq_emod_of_nonneg _ (by decide)
  refine KBa.make_K (by k_asm) (by k_asm) rfl ⟨_, (News.get (by k_asm) (by k_mem)), rfl, _, rfl⟩ (.cons _ _ (.cons _ _ (.cons _ _ .nil))) ?_ (Nat.le_of_ble_eq_true rfl) ?_
  · intro x hx
    rcases List.mem_cons.mp hx with rfl | hx
    · lia
    · rcases List.mem_cons.mp hx with rfl | hx
      · lia
      · rw [List.mem_singleton.mp hx]; lia
  · intro h2 t2 k2 F2 N2 hin
    k_steps
    refine Stop.mk ?_
    refine Fn.use (b64_spec w _ _ _ _ _ _ (KBa.ints_make hin)) B1 (by k_asm) X1 (by k_asm) T1 rfl (by show dp + 1 + 27 < _; exact lim (d := dp) (a := 1 + 27) hd rfl) (by show un + 3 + 270 < _; exact lim (d := un) (a := 3 + 270) hu rfl) ?_
    rintro r news' h' tk' F5 N5 qG2
    refine hideG fun gG hG => ?_
    obtain ⟨b', t', rfl, k0, k1, k2, k3, hb', hB, rfl⟩ := qG2
    refine hG ?_
    try clear hG gG
    k_steps
    rename Fr g1 L1 _ _ => F6
    rename News g1 L1 _ _ => N6
    refine Stop.mk ?_
    refine ListComp_G (hs := by intro _; rfl) (by k_asm) (by with_unfolding_all rfl) (by decide) (by rfl) (by decide) ?_
    k_steps
    refine hideG fun gG hG => ?_
    obtain ⟨nw0, N7, hm0⟩ : ∃ nw0, News g1 L1 _ nw0 ∧ (L1 + 1, oc2) ∈ nw0 := ⟨_, N6, .tail _ (.head _)⟩
    refine hG ?_
    try clear hG gG
    refine src_bytes (hh := by rfl) (hkind := by rfl) (hx := by rfl) _ F6 N7 ?_ ⟨[], rfl, Above.nil, .nil⟩ (turn_map (KBw.bInts b') (fun vals n => ∃ v, vals = [v] ∧ IsI v n) figOf (fun _ v b => IsI v b) (fun _ _ _ _ _ h => h) (fun i vals _ ⟨v, e, c, u, hc, hv⟩ => ⟨_, KBw.ints_get hc, v, e, u, hv⟩) ?_) ?_
    · have := KBw.ints_length b'; rw [hb'] at this; rw [← this, sizeLine_eq]; exact Nat.le_of_ble_eq_true rfl
    · rintro x vals hn qG3 h tk tl own C oC D' ys m₂ E' ab hC F2 N2
      refine hideG fun gG hG => ?_
      obtain ⟨v, rfl, t, rfl⟩ := qG3
      refine hG ?_
      try clear hG gG
      have hx : putAll [Str.ofString "octet"] [.int x t] m₂ (Str.ofString "octet") = some (.int x t) := rfl
      generalize putAll [Str.ofString "octet"] [.int x t] m₂ = m₃ at hC hx
      have hmc : (L1 + 1, oc2) ∈ own ++ ((C, oC) :: (D', lst ys) :: (tl ++ nw0)) := List.mem_append_right _ (.tail _ (.tail _ (List.mem_append_right _ hm0)))
      have hr := KBw.ints_in hn
      have hr0 := hr.1
      have hr1 := hr.2
      rename_i z6 z5 z4 z3 z2 z1 _
      clear news h0 hn1 A₀ h₀ m Q E B F X N T hk hd hu hret FG1 hg1 oc d1 z6 z5 z4 z3 z2 e2 e1 e0 h2 t2 z1 hin h' tk' k0 k1 k2 k3 hb' hB F6 N6 N7 hm0 m₂ ab hr
      k_steps
      exact ⟨_, _, [], rfl, F2, by rw [List.nil_append, List.append_assoc]; exact N2, Above.nil, _, rfl⟩
    · intro D h tk' ys nw F2 N2 o1 hlt ⟨tl, e, ab, hj⟩
      have hj : Two IsI ys ((KBw.bInts b').map figOf) := by simpa [← KBw.ints_length b'] using hj
      rw [hb', figs_of h0 hn1 hB] at hj
      have hD : L1 < D := Nat.lt_trans (Nat.lt_succ_self _) (hlt _ hm0)
      k_steps
      refine hret _ ((D, lst ys) :: news) _ _ (by assumption) ?_ ⟨D, ys, rfl, rfl, hj, below_new N hg1 F6 hD⟩
      exact News.both (a := [(D, lst ys)]) (News.up FG1 (News.less N2 fun p hp => (List.mem_singleton.mp hp) ▸ .head _)) (News.stay N hg1 F2)
end Mine
end
section
open PySem PySem.W PySem.Calls PyProof.Rows PyProof.Rows.LCg
set_option maxRecDepth 100000
set_option maxHeartbeats 8000000
namespace Mine
local macro_rules | `(tactic| walk_at "mine") => `(tactic| skip)
local macro_rules | `(tactic| walk_at $s:str) => Mine.stopAt ["call ref", "eval ListComp", "exec For Name Name cons nil"] s
noncomputable def sameQ (ns : List Int) (n tail : Int) : List Int := ((List.range ns.length).filter fun k => decide ((ns.getD k 0).fdiv tail = n.fdiv tail)).map Int.ofNat
noncomputable def alikeRow (ns : List Int) (n : Int) : List (List Int) := [262144, 4096, 64, 1].map (sameQ ns n)
theorem pw1 {k : Int} (h : k < 1 + (((5 : Int) - 1).toNat : Int)) : 0 ≤ 4 - k := Int.sub_nonneg_of_le (Int.lt_add_one_iff.mp (show k < 4 + 1 from h))
theorem pw2 {k : Int} (h : 1 ≤ k) : 4 - k ≤ 1000000 := Int.le_trans (Int.sub_le_sub_left h 4) (by decide)
local macro_rules | `(tactic| l_bnd) => `(tactic| first | exact Mine.pw1 (by assumption) | exact Mine.pw2 (by assumption))
theorem law_alike_spec (w : World) (a_1 : Addr) (vs : List Value) (ns : List Int) (k : Nat) (news : Led) (hm : (a_1, listOf vs.toArray k) ∈ news) (hi : Two IsI vs ns) (hr : ∀ n ∈ ns, 0 ≤ n ∧ n < 16777216) (hf : vs.length < 10) :
   Fn w 10 100 (.ref 215) [.ref a_1] news (fun r news' => ∃ tl, news' = tl ++ news ∧ Above news tl ∧ LILL tl r (ns.map (alikeRow ns))) := by
  unfold Fn PG
  w_top off
  k_fill
  intro p loose mean mg mb dp un gd cn cs a ccd cl outer A₀ base h₀ L m s Q E B F X N T hk hd hu hret
  refine wpAny_call ?_
  k_dflt ((refine' code_defC ?k1 ?k2 ?k3 ?k4 ?k5 ?kA ?kF ?kK ?k6 ?k7 ?k8 ?k9 ?kB ?kD ?_ ?c2 ?c3 ?c4; (case kA => exact rfl); (case kF => exact rfl); (case kK => first | assumption | exact rfl); (case k1 => k_asm); (case k2 => k_asm); (case k3 => k_asm); (case k4 => k_asm); (case k5 => k_asm); (case k6 => k_is); (case k7 => k_is); (case k8 => ktr_room); (case k9 => first | exact BindsTo.of_eq rfl | exact binds_K (by k_in) rfl (by k_is) rfl rfl rfl); (case kB => exact rfl); (case kD => decide +kernel); (case c2 => exact rfl); (case c3 => exact rfl); (case c4 => exact rfl); k_whole; intro g1 L1 h1 tk1 cc1 FG1 F1 N1 Y1 B1 X1 T1 l1; k_cells Y1; (try simp only [List.cons_append, List.nil_append] at N1); (try dsimp only); (try k_fold)))
  refine noE ?_
  refine frG [] F1 trivial fun mE hAE FE => ?_
  clear F1 hAE
  rename Fr g1 L1 _ _ => F1
  refine hideQ fun QR hRq => ?_
  rename_i oN oS d1 d2
  replace d2 : oS.data = .cell (some (.ref a_1)) := d2
  k_steps
  rename Fr g1 L1 _ _ => F2
  rename News g1 L1 _ _ => N2
  rename _ ∧ _ ∧ _ => l2
  rename_i S tk2 h2
  refine Stop.mk ?_
  refine wpAny_For ?_
  k_steps
  have hnL : ∀ p ∈ news, p.1 < S := fun p hp => Nat.lt_trans (Nat.lt_succ_of_lt (l1 p hp)) l2.2.1
  refine for_A (hh := by rfl) (hE := by passes_own) (its := vs) (k := k) (fr₀ := [(S, listOf #[] 0), (L1 + 1 + 1, oN)]) (news := (L1 + 1, oS) :: news) [S, L1 + 1 + 1]
    (fun i m fr tl => ∃ (ys : List Value) (kk : Nat) (oNi : Obj), AllAre m [(Str.ofString "sorts", .ref S)] ∧ fr = [(S, listOf ys.toArray kk), (L1 + 1 + 1, oNi)] ∧ (∃ v, oNi.data = .cell v) ∧ Two (LIL tl) ys ((ns.take i).map (alikeRow ns))) (by k_asm) N2 rfl ?_ (.tail _ hm) ⟨[], 0, oN, ⟨rfl, trivial⟩, rfl, ⟨_, d1⟩, Two.nil⟩ ?_ ?_
  · intro a ha p hp
    simp only [List.mem_cons, List.not_mem_nil, or_false] at ha hp
    rcases ha with rfl | rfl <;> rcases hp with rfl | hp
    · exact Nat.ne_of_lt l2.2.1
    · exact Nat.ne_of_lt (hnL p hp)
    · exact Nat.ne_of_lt (Nat.lt_succ_self _)
    · exact lt2_ne (l1 p hp)
  · rintro i v m fr tl rest h tk hi' hv qG1 - F3 N3 hsR off I R hR
    refine hideG fun gG hG => ?_
    obtain ⟨ys4, kk, oNi, hA, rfl, ⟨v0, hv0⟩, hys⟩ := qG1
    obtain ⟨n, hn, t, rfl⟩ := hi.get hv
    refine hG ?_
    try clear hG gG
    refine wpAny_pure ?_
    have hnS := off S (.head _)
    have hnN := off (L1 + 1 + 1) (.tail _ (.head _))
    replace N3 : News g1 L1 h ((S, listOf ys4.toArray kk) :: (L1 + 1 + 1, oNi) :: rest) := N3
    have hmr : (a_1, listOf vs.toArray k) ∈ rest := hsR _ (List.mem_append_right _ (.tail _ hm))
    have hmS : (L1 + 1, oS) ∈ rest := hsR _ (List.mem_append_right _ (.head _))
    have hrn := hr n (List.mem_of_getElem? hn)
    have l22 := l2.1
    replace F3 := frOv F3 hA
    clear news hm A₀ B F X N T hk hd hu hret h1 tk1 FG1 l1 oN d1 mE tk2 l2 F2 N2 hnL hsR off I hv
    k_steps
    rename IntsAre _ _ => hty
    rename Fr g1 L1 _ _ => F4
    rename News g1 L1 _ _ => N5
    rename _ ∧ _ ∧ _ => hoD
    rename _ = Data.cell (some (.int n t)) => hcN
    rename Obj => oNj
    rename_i ys hlenT T h4 tk4
    refine Stop.mk ?_
    refine ListComp_C (hs := by intro _; rfl) F4 (by with_unfolding_all rfl) (by intro _; with_unfolding_all rfl) (by intro _; with_unfolding_all rfl) (by intro _ _; with_unfolding_all rfl) (by decide) (by decide) ?_
    k_steps
    have hty2 := two_ints hty
    have hts : (List.map (fun k' => (64 : Int) ^ (4 - k').toNat) (rangeKs 1 ((5 : Int) - 1).toNat)) = [262144, 4096, 64, 1] := by decide +kernel
    rw [hts] at hty2
    refine srcC_list (hh := by rfl) (its := ys) (k := ys.length) _ F4 N5 (.head _) (by rw [hty2.len]; exact fit9 (by decide)) (JT.nil rfl) (turnC_mapT [262144, 4096, 64, 1] IsI (sameQ ns n) LI (fun _ _ _ _ h => LI.mono h) (fun i v _ hv => hty2.get hv) ?_) ?_
    · rintro tail v htl ⟨tt, rfl⟩ h5 tk5 rest5 C oC c oc E5 hs5 hmC hmc hcc F5 N6
      have ht0 : 0 < tail ∧ tail < 1000000 := by
        simp only [List.mem_cons, List.not_mem_nil, or_false] at htl
        rcases htl with rfl | rfl | rfl | rfl <;> decide
      have hmA : (a_1, listOf vs.toArray k) ∈ rest5 := hs5 _ (by simp [hmr])
      have hmN : (L1 + 1 + 1, oNj) ∈ rest5 := hs5 _ (by simp)
      have hmS' : (L1 + 1, oS) ∈ rest5 := hs5 _ (by simp [hmS])
      rename_i z12 z11 z10 z9 z8 z7 z6 z5 z4 z3 z2 z1
      clear h z12 hi' ys4 kk oNi hA hys v0 hv0 hn hnS hnN hmr hmS l22 z11 tk z10 z9 z8 z7 z6 z5 z4 z3 z2 z1 ys hty hlenT F4 N5 hoD hty2 hts htl oC hs5 hmC
      refine ListComp_G (hs := by intro _; rfl) F5 (by with_unfolding_all rfl) (by decide) (by rfl) (by decide) ?_
      k_steps
      refine lenv_at N6 hmA (by omega) ?_
      intro t6 tk6
      k_steps
      rename IsRange _ _ _ _ _ _ _ _ => hrg
      rename Fr g1 L1 _ _ => F7
      rename News g1 L1 _ _ => N7
      refine src_range (hh := by rfl) (hkind := by rfl) (hx := by rfl) (n := vs.length) _ F7 N7 hrg (small_len (by omega)) (size_len _) (fit9 (by omega)) (JT.nil rfl) (turn_filterT (List.range ns.length) (fun vals (q : Nat) => ∃ v, vals = [v] ∧ IsI v (q : Int)) (fun q => decide ((ns.getD q 0).fdiv tail = n.fdiv tail)) Int.ofNat (fun _ v b => IsI v b) (fun _ _ _ _ _ h => h) (hPt_range hi.len) ?_ ?_) ?_
      · rintro q vals hq qG2 h8 tk8 rest8 C8 oC8 m8 E8 hs8 hmC8 hC8 F8 N8
        refine hideG fun gG hG => ?_
        obtain ⟨v, rfl, tq, rfl⟩ := qG2
        refine hG ?_
        try clear hG gG
        have hx : putAll [Str.ofString "k"] [.int q tq] m8 (Str.ofString "k") = some (.int q tq) := rfl
        generalize putAll [Str.ofString "k"] [.int q tq] m8 = m9 at hC8 hx
        have hbA := hs8 _ hmA
        have hbC := hs8 _ hmc
        have hbN := hs8 _ hmN
        have hbS := hs8 _ hmS'
        rename_i z8 z7 z6 z5 z4 z3 z2 z1
        clear h4 tk4 rest5 E5 hmc z8 z7 hmA hmN hmS' t6 tk6 z6 z5 z4 z3 z2 hrg F7 N7 z1 m8 hs8
        k_steps
        have hq' : q < ns.length := List.mem_range.mp hq
        refine hideG fun gG hG => ?_
        obtain ⟨v9, hv9, t9, rfl⟩ := hi.get' (i := q) (b := ns.getD q 0) (by rw [List.getD_eq_getElem?_getD, List.getElem?_eq_getElem hq']; rfl)
        refine hG ?_
        try clear hG gG
        refine itv_at (hs := by with_unfolding_all rfl) (hg := by intro _; with_unfolding_all rfl) N8 hbA (Int.natCast_nonneg _) (by have := hi.len; omega) (by rw [Int.toNat_natCast]; exact hv9) ?_
        have b9 := hr _ (getD_mem' (d := 0) hq')
        k_steps
        exact ⟨_, _, rfl, F8, N8, Bool.eq_iff_iff.mpr (by simp)⟩
      · rintro q vals hq htq qG3 h8 tk8 rest8 C8 oC8 m8 E8 hs8 hmC8 hC8 F8 N8
        refine hideG fun gG hG => ?_
        obtain ⟨v, rfl, tq, rfl⟩ := qG3
        refine hG ?_
        try clear hG gG
        have hx : putAll [Str.ofString "k"] [.int q tq] m8 (Str.ofString "k") = some (.int q tq) := rfl
        generalize putAll [Str.ofString "k"] [.int q tq] m8 = m9 at hC8 hx
        rename_i z8 z7 z6 z5 z4 z3 z2 z1
        clear a_1 vs k hi hr hf oS d2 n t hrn oNj hcN h4 tk4 tail tt rest5 oc E5 hmc hcc z8 z7 ht0 hmA hmN hmS' t6 tk6 z6 z5 z4 z3 z2 hrg F7 N7 z1 hq htq m8 hs8
        k_steps
        exact EE.pure F8 N8 ⟨tq, rfl⟩
      · intro D h9 tk9 ys nw F9 N9 o1 hlt ⟨tl, e, ab, hj⟩
        have hj : Two IsI ys (sameQ ns n tail) := by simpa [hi.len, sameQ] using hj
        exact EE.mk [(D, lst ys)] F9 N9 (by subst e; simp only [List.cons_append, List.nil_append, List.mem_cons, List.mem_append]; rintro p (h | h) <;> simp only [h, true_or, or_true]) (fun q hq p hp => (List.mem_singleton.mp hp) ▸ hlt q hq) ⟨D, ys, _, rfl, .head _, hj⟩
    · intro D h9 tk9 ys9 nw9 F9 N9 o9 hlt9 ⟨tl9, e9, ab9, hj9⟩
      have hj9 : Two (LI tl9) ys9 (alikeRow ns n) := by simpa [hty2.len, alikeRow] using hj9
      k_steps
      obtain ⟨r9, N10, hr9⟩ : ∃ r9, News g1 L1 h9 ((S, listOf ys4.toArray kk) :: r9) ∧ r9 = (D, lst ys9) :: (L1 + 1 + 1, oNj) :: (tl9 ++ rest) :=
        ⟨_, News.less N9 (by subst e9; simp only [List.mem_cons, List.mem_append]; rintro p (h | h | h | h | h) <;> simp only [h, true_or, or_true]), rfl⟩
      have hS9 : S < D := hlt9 _ (.tail _ (.head _))
      have hN9 : L1 + 1 + 1 < D := hlt9 _ (.tail _ (.tail _ (.head _)))
      have hoff : ∀ p ∈ r9, p.1 ≠ S := by
        subst hr9
        intro p hp
        rcases List.mem_cons.mp hp with rfl | hp
        · exact Nat.ne_of_gt hS9
        rcases List.mem_cons.mp hp with rfl | hp
        · exact Nat.ne_of_lt l22
        rcases List.mem_append.mp hp with hp | hp
        · exact Nat.ne_of_gt (ab9 _ (.tail _ (.head _)) p hp)
        · exact hnS p hp
      refine appv_at F9 N10 hoff (by have := hys.len; simp only [List.length_map, List.length_take] at this; exact fit9 (by omega)) ?_
      intro h10 F10 N11
      k_steps
      refine hR _ _ ?_
      refine FE.mk [(S, listOf (ys4 ++ [Value.ref D]).toArray (kk + 1)), (L1 + 1 + 1, oNj)] ((D, lst ys9) :: tl9) F10 N11 ?_ rfl ?_ ?_ ⟨ys4 ++ [Value.ref D], kk + 1, oNj, ⟨rfl, trivial⟩, rfl, ⟨_, hcN⟩, ?_⟩
      · subst hr9
        simp only [List.mem_cons, List.mem_append, List.not_mem_nil, or_false]
        rintro p ((h | h) | (h | h) | h) <;> simp only [h, true_or, or_true]
      · intro q hq p hp
        rcases List.mem_cons.mp hp with rfl | hp
        · exact hlt9 q (by simp [hq])
        · exact ab9 q (by simp [hq]) p hp
      · intro a ha p hp
        simp only [List.mem_cons, List.not_mem_nil, or_false] at ha hp
        rcases ha with rfl | rfl <;> rcases hp with rfl | hp
        · exact hS9
        · exact ab9 _ (.tail _ (.head _)) p hp
        · exact hN9
        · exact ab9 _ (.tail _ (.tail _ (.head _))) p hp
      · rw [take_snoc hn, List.map_append]
        exact (hys.imp fun v b => LIL.mono fun p hp => List.mem_append_right _ hp).snoc ⟨D, ys9, _, rfl, .head _, hj9.imp fun v b => LI.mono fun p hp => .tail _ (List.mem_append_left _ hp)⟩
  · rintro h9 tk9 m9 fr9 tl qG4 - F9 N9 off ab ab2
    refine hideG fun gG hG => ?_
    obtain ⟨ys, kk, oNi, hA, rfl, ⟨v0, hv0⟩, hys⟩ := qG4
    refine hG ?_
    try clear hG gG
    replace F9 := frOv F9 hA
    have hys : Two (LIL tl) ys (ns.map (alikeRow ns)) := by simpa [hi.len] using hys
    k_steps
    refine hRq _ _ ?_
    k_steps
    rename News h₀ L _ _ => N10
    exact hret _ ((S, listOf ys.toArray kk) :: (tl ++ news)) _ _ (by assumption) (News.less N10 (by simp only [List.mem_cons, List.mem_append, List.not_mem_nil, or_false]; rintro p (h | h | h) <;> simp [h])) ⟨(S, listOf ys.toArray kk) :: tl, rfl, fun q hq p hp => by
        rcases List.mem_cons.mp hp with rfl | hp
        · exact hnL q hq
        · exact ab q (.tail _ hq) p hp, S, ys, kk, rfl, .head _, hys.imp fun v b => LIL.mono fun p hp => .tail _ hp⟩
end Mine
end
section
open PySem PySem.W PySem.Calls PyProof.Rows PyProof.Rows.LCg
set_option maxRecDepth 100000
set_option maxHeartbeats 8000000
namespace Mine
local macro_rules | `(tactic| walk_at $s:str) => Mine.stopAt ["call ref", "eval ListComp", "exec For Name Name cons nil", "exec Assign cons ListComp", "subscriptTail Name Constant ref int", "subscriptTail Name Name ref int", "subscriptTail Name Slice ref ref", "call builtin:len cons nil"] s
noncomputable def sortOf (rows : List (List Int)) (x : Str) : List Int := ((List.range rows.length).filter fun j => decide (hit x (nameL (rows.getD j [])) = 1)).map Int.ofNat
noncomputable def sortsRow (rows : List (List Int)) (row : List Int) : List (List Int) := [1, 2, 3, 4].map fun k => sortOf rows (nameL (row.take k))
theorem of_allLt {d : Addr} : ∀ {l : Led}, AllLt d l → ∀ p ∈ l, p.1 < d
  | [], _, _, hp => by cases hp
  | q :: r, h, p, hp => by
    rcases List.mem_cons.mp hp with rfl | hp
    · exact h.1
    · exact of_allLt h.2 p hp
/-- one reader's objects -/
inductive Blk (w : World) (v : Value) (b : Led) (x : Str) : Prop
  | mk0 (R : Addr) (d : Addr) (Ig : Addr) (oI : Obj) (Sm : Addr) (Di : Addr) (t1 : Tok) (t2 : Tok) (t3 : Tok) (t4 : Tok) : (v = .ref R) → (b = [(Ig, oI), (Di, listOf #[] 0), (Sm, oneSet w x t4), (R, instObj 191 d), (d, igD w Sm Di Ig t1 t2 t3)]) → (Memo w x 1 oI) → ((Ig == sysModules) = false) → (d < R) → (R < Sm) → (Sm < Di) → (Di < Ig) → Blk w v b x
/-- the readers made so far -/
inductive JB (w : World) (xs : Nat → Str) (news : Led) (i : Nat) (ys : List Value) (nw : Led) : Prop
  | mk0 (bs : List Led) : (nw = bs.flatten ++ news) → (ys.length = i) → (bs.length = i) → (∀ j, j < i → ∃ v b, ys[j]? = some v ∧ bs[j]? = some b ∧ Blk w v b (xs j)) → (∀ b ∈ bs, Above news b) → (bs.Pairwise Above) → JB w xs news i ys nw
theorem fsum_mem {p : Addr × Obj} {bs : List Led} {b : Led} (h : b ∈ bs) (hp : p ∈ b) : p ∈ bs.flatten := List.mem_flatten.mpr ⟨b, h, hp⟩
theorem JB.snoc {w : World} {xs : Nat → Str} {news b : Led} {i : Nat} {ys : List Value} {bs : List Led} {v : Value} (h1 : ys.length = i) (h2 : bs.length = i) (h3 : ∀ j, j < i → ∃ v b, ys[j]? = some v ∧ bs[j]? = some b ∧ Blk w v b (xs j)) (h4 : ∀ b ∈ bs, Above news b) (h5 : bs.Pairwise Above)
    (hb : Blk w v b (xs i)) (ab : Above (bs.flatten ++ news) b) : JB w xs news (i + 1) (ys ++ [v]) ((bs ++ [b]).flatten ++ news) := by
  refine ⟨bs ++ [b], rfl, by simp [h1], by simp [h2], fun j hj => ?_, fun c hc => ?_, ?_⟩
  · rcases Nat.lt_succ_iff_lt_or_eq.mp hj with hj | rfl
    · refine hideG fun gG hG => ?_
      obtain ⟨v', b', e1, e2, e3⟩ := h3 j hj
      refine hG ?_
      try clear hG gG
      exact ⟨v', b', by rw [List.getElem?_append_left (by lia)]; exact e1, by rw [List.getElem?_append_left (by lia)]; exact e2, e3⟩
    · exact ⟨v, b, by rw [← h1]; simp, by rw [← h2]; simp, hb⟩
  · rcases List.mem_append.mp hc with hc | hc
    · exact h4 c hc
    · rw [List.mem_singleton.mp hc]; exact ab.sub fun p hp => List.mem_append_right _ hp
  · rw [List.pairwise_append]
    refine ⟨h5, List.pairwise_singleton .., fun a ha c hc => ?_⟩
    rw [List.mem_singleton.mp hc]
    exact ab.sub fun p hp => List.mem_append_left _ (fsum_mem ha hp)
theorem filter_yes {p : Nat → Bool} {q : Nat} (h : p q = true) : [q].filter p = [q] := by simp [h]
theorem filter_no {p : Nat → Bool} {q : Nat} (h : p q = false) : [q].filter p = [] := by simp [h]
inductive TEmI (h₀ : Heap) (L : Addr) (m : Str → Option Value) (gn : Array GenState) (dr : Drawn) (os : OsState) (Ig : Addr) (front : Led) (w : World) (x : Str) (n : Nat) (b ok : Bool) (s' : Shared) : Prop
  | mk0 (h' : Heap) (tk' : Nat) (o' : Obj) : s' = { heap := h', gens := gn, drawn := dr, toks := tk', os := os } → ok = b → Fr h₀ L h' m → News h₀ L h' ((Ig, o') :: front) → Memo w x n o' → TEmI h₀ L m gn dr os Ig front w x n b ok s'
noncomputable def TEm (h₀ : Heap) (L : Addr) (m : Str → Option Value) (s : Shared) (Ig : Addr) (front : Led) (w : World) (x : Str) (n : Nat) (b ok : Bool) (s' : Shared) : Prop := TEmI h₀ L m s.gens s.drawn s.os Ig front w x n b ok s'
theorem off_app {a b : Led} {d : Addr} (h : ∀ p ∈ a, p.1 ≠ d) (t : ∀ p ∈ b, p.1 ≠ d) : ∀ p ∈ a ++ b, p.1 ≠ d := fun p hp => (List.mem_append.mp hp).elim (h p) (t p)
theorem off_two {a b : Addr} {r : Led} (h1 : ∀ p ∈ r, p.1 ≠ a) (h2 : ∀ p ∈ r, p.1 ≠ b) : ∀ x ∈ [a, b], ∀ p ∈ r, p.1 ≠ x := fun x hx p hp => by
  rcases List.mem_cons.mp hx with rfl | hx
  · exact h1 p hp
  · rw [List.mem_singleton.mp hx]; exact h2 p hp
theorem lt_two {a b : Addr} {r : Led} (h1 : ∀ p ∈ r, a < p.1) (h2 : ∀ p ∈ r, b < p.1) : ∀ x ∈ [a, b], ∀ p ∈ r, x < p.1 := fun x hx p hp => by
  rcases List.mem_cons.mp hx with rfl | hx
  · exact h1 p hp
  · rw [List.mem_singleton.mp hx]; exact h2 p hp
theorem above5 {r5 : Led} {d R Sm Di Ig : Addr} {a b c e f : Obj} (h : ∀ q ∈ r5, q.1 < d) (o2 : d < R) (o3 : R < Sm) (o4 : Sm < Di) (o5 : Di < Ig) : Above r5 [(Ig, a), (Di, b), (Sm, c), (R, e), (d, f)] := fun q hq p hp => by
  have hqd := h q hq
  simp only [List.mem_cons, List.not_mem_nil, or_false] at hp
  rcases hp with rfl | rfl | rfl | rfl | rfl
  · exact Nat.lt_trans hqd (Nat.lt_trans o2 (Nat.lt_trans o3 (Nat.lt_trans o4 o5)))
  · exact Nat.lt_trans hqd (Nat.lt_trans o2 (Nat.lt_trans o3 o4))
  · exact Nat.lt_trans hqd (Nat.lt_trans o2 o3)
  · exact Nat.lt_trans hqd o2
  · exact hqd
theorem flat_snoc {bs : List Led} {b : Led} : (bs ++ [b]).flatten = bs.flatten ++ b := by simp
theorem jb_mem {front X blk r5 : Led} {bs : List Led} {z : Addr × Obj} (h : ∀ p ∈ front ++ (bs.flatten ++ X), p ∈ r5) : ∀ p ∈ front ++ ((bs ++ [blk]).flatten ++ X), p ∈ blk ++ (z :: r5) := fun p hp => by
  rw [flat_snoc] at hp
  rcases List.mem_append.mp hp with q | q
  · exact List.mem_append_right _ (.tail _ (h p (List.mem_append_left _ q)))
  · rcases List.mem_append.mp q with q | q
    · rcases List.mem_append.mp q with q | q
      · exact List.mem_append_right _ (.tail _ (h p (List.mem_append_right _ (List.mem_append_left _ q))))
      · exact List.mem_append_left _ q
    · exact List.mem_append_right _ (.tail _ (h p (List.mem_append_right _ (List.mem_append_right _ q))))
theorem jb_fresh {front X blk r5 : Led} {bs : List Led} (h : ∀ p ∈ front ++ (bs.flatten ++ X), p ∈ r5) (ab : Above r5 blk) : Fresh (front ++ (bs.flatten ++ X)) (bs.flatten ++ X) ((bs ++ [blk]).flatten ++ X) := fun p hp => by
  rw [flat_snoc] at hp
  rcases List.mem_append.mp hp with q | q
  · rcases List.mem_append.mp q with q | q
    · exact .inl ⟨p, List.mem_append_left _ q, rfl⟩
    · exact .inr fun x hx => ab x (h x hx) p q
  · exact .inl ⟨p, List.mem_append_right _ q, rfl⟩
theorem three_of (T S R : Addr) (oT oS oR : Obj) (rest : Led) : ∃ b9, b9 = (T, oT) :: (S, oS) :: (R, oR) :: rest ∧ (T, oT) ∈ b9 ∧ (S, oS) ∈ b9 ∧ (R, oR) ∈ b9 ∧ (∀ p ∈ rest, p ∈ b9) ∧ (∀ p ∈ b9, p.1 = S ∨ p.1 = R ∨ p.1 = T ∨ p ∈ rest) :=
  ⟨_, rfl, .head _, .tail _ (.head _), .tail _ (.tail _ (.head _)), fun p hp => .tail _ (.tail _ (.tail _ hp)), fun p hp => by
    simp only [List.mem_cons] at hp
    rcases hp with rfl | rfl | rfl | h
    · exact .inr (.inr (.inl rfl))
    · exact .inl rfl
    · exact .inr (.inl rfl)
    · exact .inr (.inr (.inr h))⟩
theorem bA_of {bs : List Led} {T : Addr} {oT : Obj} {b9 r : Led} (e : b9 = (T, oT) :: r) (h : ∀ b ∈ bs, Above r b) : ∀ b ∈ bs, ∀ p ∈ b, ∀ q ∈ b9, q.1 ≠ T → q.1 < p.1 := fun b hb p hp q hq hqT => by
  rw [e] at hq
  rcases List.mem_cons.mp hq with rfl | hq
  · exact absurd rfl hqT
  · exact h b hb q hq p hp
theorem later_of {b : Led} {l : List Led} {q : Addr × Obj} (h : ∀ c ∈ l, Above b c) (hq : q ∈ b) : ∀ p ∈ l.flatten, q.1 < p.1 := fun p hp => by
  obtain ⟨c, hc, hpc⟩ := List.mem_flatten.mp hp
  exact h c hc q hq p hpc
theorem offT_of {b9 : Led} {T Ig : Addr} (h : ∀ q ∈ b9, q.1 ≠ T → q.1 < Ig) (ne : Ig ≠ T) : ∀ p ∈ b9, p.1 ≠ Ig := fun p hp e =>
  if q : p.1 = T then ne (e.symm.trans q) else Nat.ne_of_lt (h p hp q) e
theorem drop_next {bs : List Led} {j : Nat} {b : Led} (e : bs[j]? = some b) : bs.drop j = b :: bs.drop (j + 1) := by
  have hlt : j < bs.length := (List.getElem?_eq_some_iff.mp e).1
  rw [List.drop_eq_getElem_cons hlt, (List.getElem?_eq_some_iff.mp e).2]
theorem drop_pair {bs : List Led} {j : Nat} {b : Led} (e : bs.drop j = b :: bs.drop (j + 1)) (h : bs.Pairwise Above) : ∀ c ∈ bs.drop (j + 1), Above b c := by
  have h9 : (bs.drop j).Pairwise Above := h.sublist (List.drop_sublist j bs)
  rw [e] at h9
  exact (List.pairwise_cons.mp h9).1
/-- the reader's object in front, the rest behind -/
theorem rA_of {g h : Heap} {L Ig Di Sm R d C c D5 : Addr} {oI oDi oSm oR od oC oc oD : Obj} {own tl fl0 fl b9 : Led}
    (N : News g L h (own ++ ((C, oC) :: (c, oc) :: (D5, oD) :: (tl ++ (fl0 ++ b9))))) (e : fl0 = (Ig, oI) :: (Di, oDi) :: (Sm, oSm) :: (R, oR) :: (d, od) :: fl)
    (hof : ∀ p ∈ own ++ [(C, oC), (c, oc), (D5, oD)], p.1 ≠ Ig) (ab : Above (fl0 ++ b9) tl) (o3 : Sm < Di) (o4 : Di < Ig) (hl : ∀ p ∈ fl, Ig < p.1) (hb : ∀ p ∈ b9, p.1 ≠ Ig) :
    ∃ rA, News g L h ((Ig, oI) :: (R, oR) :: (d, od) :: rA) ∧ (∀ p ∈ rA, p.1 ≠ Ig) ∧ (Di, oDi) ∈ rA ∧ (Sm, oSm) ∈ rA ∧ (c, oc) ∈ rA ∧ (∀ p ∈ b9, p ∈ rA) ∧
      (∀ p ∈ (own ++ [(C, oC), (c, oc), (D5, oD)]) ++ (tl ++ (fl ++ b9)), p ∈ rA) ∧ (∀ p ∈ (own ++ [(C, oC), (c, oc), (D5, oD)]) ++ (tl ++ (fl0 ++ b9)), p ∈ (Ig, oI) :: (R, oR) :: (d, od) :: rA) := by
  subst e
  refine ⟨own ++ ((C, oC) :: (c, oc) :: (D5, oD) :: (tl ++ ((Di, oDi) :: (Sm, oSm) :: (fl ++ b9)))), News.less N ?_, ?_, ?_, ?_, ?_, ?_, ?_, ?_⟩
  · walk_at "sub"
  · refine off_app (fun p hp => hof p (List.mem_append_left _ hp)) (off_cons (hof _ (List.mem_append_right _ (.head _))) (off_cons (hof _ (List.mem_append_right _ (.tail _ (.head _)))) (off_cons (hof _ (List.mem_append_right _ (.tail _ (.tail _ (.head _))))) (off_app (fun p hp => Nat.ne_of_gt (ab (Ig, oI) (List.mem_append_left _ (.head _)) p hp)) (off_cons (Nat.ne_of_lt o4) (off_cons (Nat.ne_of_lt (Nat.lt_trans o3 o4)) (off_app (fun p hp => Nat.ne_of_gt (hl p hp)) hb)))))))
  · walk_at "sub"
  · walk_at "sub"
  · walk_at "sub"
  · walk_at "sub"
  · walk_at "sub"
  · walk_at "sub"
theorem rB_of {g h : Heap} {L Ig R d C D : Addr} {o oR od oC oD : Obj} {own rA : Led}
    (N : News g L h (own ++ ((C, oC) :: (D, oD) :: (Ig, o) :: (R, oR) :: (d, od) :: rA))) (hof : ∀ p ∈ own ++ [(C, oC), (D, oD)], p.1 ≠ Ig) (hR : R ≠ Ig) (hd : d ≠ Ig) (hA : ∀ p ∈ rA, p.1 ≠ Ig) :
    ∃ rB, News g L h ((Ig, o) :: (R, oR) :: (d, od) :: rB) ∧ (∀ p ∈ (R, oR) :: (d, od) :: rB, p.1 ≠ Ig) ∧ (∀ p ∈ rA, p ∈ rB) ∧ (C, oC) ∈ rB ∧ (∀ o', ∀ p ∈ (own ++ [(C, oC), (D, oD)]) ++ ((Ig, o') :: (R, oR) :: (d, od) :: rA), p ∈ (Ig, o') :: (R, oR) :: (d, od) :: rB) := by
  refine ⟨own ++ ((C, oC) :: (D, oD) :: rA), News.less N ?_, ?_, ?_, ?_, fun o' => ?_⟩
  · walk_at "sub"
  · exact off_cons hR (off_cons hd (off_app (fun p hp => hof p (List.mem_append_left _ hp)) (off_cons (hof _ (List.mem_append_right _ (.head _))) (off_cons (hof _ (List.mem_append_right _ (.tail _ (.head _)))) hA))))
  · walk_at "sub"
  · walk_at "sub"
  · walk_at "sub"
theorem fresh_head {W r : Led} {I : Addr} {o o' : Obj} : Fresh W ((I, o) :: r) ((I, o') :: r) := fun p hp => by
  rcases List.mem_cons.mp hp with rfl | hp
  · exact .inl ⟨_, .head _, rfl⟩
  · exact .inl ⟨p, .tail _ hp, rfl⟩
theorem fin_mem {X tl fl b9 rA : Led} {z y1 y2 y3 : Addr × Obj} (h : ∀ p ∈ X ++ (tl ++ (fl ++ b9)), p ∈ rA) : ∀ p ∈ X ++ ((z :: tl) ++ (fl ++ b9)), p ∈ z :: y1 :: y2 :: y3 :: rA := fun p hp => by
  rcases List.mem_append.mp hp with hp | hp
  · exact .tail _ (.tail _ (.tail _ (.tail _ (h p (List.mem_append_left _ hp)))))
  · rcases List.mem_cons.mp hp with rfl | hp
    · exact .head _
    · exact .tail _ (.tail _ (.tail _ (.tail _ (h p (List.mem_append_right _ hp)))))
theorem fin_fresh {X tl fl0 fl b9 B : Led} {D9 : Addr} {o9 : Obj} (h : ∀ p ∈ X ++ (tl ++ (fl0 ++ b9)), p ∈ B) (lt : ∀ q ∈ B, q.1 < D9) (s : ∀ p ∈ fl, p ∈ fl0) : Fresh (X ++ (tl ++ (fl0 ++ b9))) (tl ++ (fl0 ++ b9)) (((D9, o9) :: tl) ++ (fl ++ b9)) := fun p hp => by
  rcases List.mem_cons.mp hp with rfl | hp
  · exact .inr fun q hq => lt q (h q hq)
  · refine .inl ⟨p, ?_, rfl⟩
    rcases List.mem_append.mp hp with q | q
    · exact List.mem_append_left _ q
    · rcases List.mem_append.mp q with q | q
      · exact List.mem_append_right _ (List.mem_append_left _ (s p q))
      · exact List.mem_append_right _ (List.mem_append_right _ q)
theorem fin_above {X tl fl0 fl b9 rA : Led} {D9 : Addr} {o9 : Obj} (ab : Above (fl0 ++ b9) tl) (s : ∀ p ∈ fl, p ∈ fl0) (h : ∀ p ∈ X ++ (tl ++ (fl ++ b9)), p ∈ rA) (lt : ∀ q ∈ rA, q.1 < D9) : Above (fl ++ b9) ((D9, o9) :: tl) := fun q hq p hp => by
  rcases List.mem_cons.mp hp with rfl | hp
  · exact lt q (h q (List.mem_append_right _ (List.mem_append_right _ hq)))
  · refine ab q ?_ p hp
    rcases List.mem_append.mp hq with q | q
    · exact List.mem_append_left _ (s _ q)
    · exact List.mem_append_right _ q
theorem hit_01 (x y : Str) : hit x y = 0 ∨ hit x y = 1 := by unfold hit; split <;> simp
theorem law_sorts_spec (w : World) (a_1 : Addr) (vs : List Value) (rows : List (List Int)) (k : Nat) (news : Led) (hm : (a_1, listOf vs.toArray k) ∈ news) (hi : Two (LI news) vs rows) (hr : ∀ r ∈ rows, r.length = 4 ∧ ∀ n ∈ r, 0 ≤ n ∧ n < 64) (hl : rows.length < 10)
   (hlab : ∀ r ∈ rows, nameL r ≠ Str.ofString "<string>") (hxl : ∀ r ∈ rows, ∀ k, (nameL (r.take k)).length < 100) :
   Fn w 40 400 (.ref 210) [.ref a_1] news (fun r news' => ∃ tl, news' = tl ++ news ∧ Above news tl ∧ LILL tl r (rows.map (sortsRow rows))) := by
  unfold Fn PG
  w_top off
  k_fill
  intro p loose mean mg mb dp un gd cn cs a ccd cl outer A₀ base h₀ L m s Q E B F X N T hk hd hu hret
  refine wpAny_call ?_
  k_dflt ((refine' code_defC ?k1 ?k2 ?k3 ?k4 ?k5 ?kA ?kF ?kK ?k6 ?k7 ?k8 ?k9 ?kB ?kD ?_ ?c2 ?c3 ?c4; (case kA => exact rfl); (case kF => exact rfl); (case kK => first | assumption | exact rfl); (case k1 => k_asm); (case k2 => k_asm); (case k3 => k_asm); (case k4 => k_asm); (case k5 => k_asm); (case k6 => k_is); (case k7 => k_is); (case k8 => ktr_room); (case k9 => first | exact BindsTo.of_eq rfl | exact binds_K (by k_in) rfl (by k_is) rfl rfl rfl); (case kB => exact rfl); (case kD => decide +kernel); (case c2 => exact rfl); (case c3 => exact rfl); (case c4 => exact rfl); k_whole; intro g1 L1 h1 tk1 cc1 FG1 F1 N1 Y1 B1 X1 T1 l1; k_cells Y1; (try simp only [List.cons_append, List.nil_append] at N1); (try dsimp only); (try k_fold)))
  refine noE ?_
  refine frG [] F1 trivial fun mE hAE FE => ?_
  clear F1 hAE
  rename Fr g1 L1 _ _ => F1
  refine hideQ fun QR hRq => ?_
  rename_i oLab oRow oRows dLab dRow dRows
  replace dRows : oRows.data = .cell (some (.ref a_1)) := dRows
  k_steps
  refine Stop.mk ?_
  refine wpAny_Assign_Name (hs := by with_unfolding_all rfl) ?_
  refine ListComp_G (hs := by intro _; rfl) F1 (by with_unfolding_all rfl) (by decide) (by rfl) (by decide) ?_
  k_steps
  have hm1 : (a_1, listOf vs.toArray k) ∈ (L1 + 1 + 1 + 1, oLab) :: (L1 + 1 + 1, oRow) :: (L1 + 1, oRows) :: news := .tail _ (.tail _ (.tail _ hm))
  refine src_list (hh := by rfl) (hkind := by rfl) (hx := by rfl) (its := vs) _ F1 N1 hm1 (fit9 (by have := hi.len; lia)) (JT.nil rfl) (turn_mapT rows (fun vals q => ∃ v, vals = [v] ∧ LI news v q) nameL (fun _ v b => IsS v b) (fun _ _ _ _ _ h => h) (fun i vals _ ⟨v, e, hv⟩ => let ⟨n, hn, hr⟩ := hi.get hv; ⟨n, hn, v, e, hr⟩) ?_) ?_
  · rintro q vals hq qG1 h8 tk8 rest8 C8 oC8 m8 E8 hs8 hmC8 hC8 F8 N8
    refine hideG fun gG hG => ?_
    obtain ⟨v, rfl, aq, vq, kq, rfl, hmq, hiq⟩ := qG1
    refine hG ?_
    try clear hG gG
    have hx : putAll [Str.ofString "row"] [.ref aq] m8 (Str.ofString "row") = some (.ref aq) := rfl
    generalize putAll [Str.ofString "row"] [.ref aq] m8 = m9 at hC8 hx
    have hbQ : (aq, listOf vq.toArray kq) ∈ rest8 := hs8 _ (.tail _ (.tail _ (.tail _ hmq)))
    have hrq := hr q hq
    clear a_1 vs rows k news hm hi hr hl hlab hxl A₀ B F X N T hk hret FG1 l1 oLab oRow oRows dLab dRow N1 F1 dRows hm1 hq m8 hs8 hmq
    k_steps
    refine Stop.mk ?_
    refine Fn.use (law_name_spec w aq vq q kq rest8 hbQ hiq hrq.2 (by have := hiq.len; lia)) B1 F8 X1 N8 T1 rfl (by show dp + 1 + 10 < _; exact lim (d := dp) (a := 1 + 10) hd rfl) (by show un + 3 + 100 < _; exact lim (d := un) (a := 3 + 100) hu rfl) ?_
    rintro r news' h' tk' F5 N5 ⟨hr5, rfl⟩
    exact EE.pure F5 N5 hr5
  · intro D h9 tk9 ys nw F9 N9 o1 hlt ⟨tl9, e, ab, hj⟩
    have hjL : Two IsS ys (rows.map nameL) := by simpa [hi.len] using hj
    have hLa : ∀ p ∈ news, p.1 < D := fun p hp => hlt p (.tail _ (.tail _ (.tail _ hp)))
    have hD3 : L1 + 1 + 1 + 1 < D := hlt _ (.head _)
    have N10 : News g1 L1 h9 ((L1 + 1 + 1 + 1, oLab) :: (L1 + 1 + 1, oRow) :: (L1 + 1, oRows) :: (D, lst ys) :: news) := News.less N9 (by rw [e]; walk_at "sub")
    have dLab' : oLab.data = .cell none := dLab
    have dRow' : oRow.data = .cell none := dRow
    clear dLab dRow
    have hnL : ∀ p ∈ (D, lst ys) :: news, p.1 ≠ L1 + 1 + 1 + 1 := off_cons (Nat.ne_of_gt hD3) fun p hp => Nat.ne_of_lt (Nat.lt_succ_of_lt (Nat.lt_succ_of_lt (Nat.lt_succ_of_lt (l1 p hp))))
    have hmD : (D, lst ys) ∈ (D, lst ys) :: news := .head _
    have hmA : (a_1, listOf vs.toArray k) ∈ (D, lst ys) :: news := .tail _ hm
    have hsub : ∀ p ∈ news, p ∈ (D, lst ys) :: news := fun p hp => .tail _ hp
    have hn2 : ∀ p ∈ (D, lst ys) :: news, p.1 ≠ L1 + 1 + 1 := off_cons (Nat.ne_of_gt (Nat.lt_trans (Nat.lt_succ_self _) hD3)) fun p hp => lt2_ne (l1 p hp)
    have hD10 : ∀ p ∈ (D, lst ys) :: news, p.1 < D + 1 := fun p hp => by
      rcases List.mem_cons.mp hp with rfl | hp
      · exact Nat.lt_succ_self _
      · exact Nat.lt_succ_of_lt (hLa p hp)
    refine hideG fun gG hG => ?_
    obtain ⟨r10, hr10⟩ : ∃ r10, r10 = (D, lst ys) :: news := ⟨_, rfl⟩
    refine hG ?_
    try clear hG gG
    rw [← hr10] at N10 hnL hmD hmA hsub hD10 hn2
    k_steps
    rename Fr g1 L1 _ _ => F11
    rename News g1 L1 _ _ => N11
    rename _ ∧ _ ∧ _ ∧ _ => l2
    rename_i hc2 oLb dLb S hc3 hc4
    refine Stop.mk ?_
    refine wpAny_For ?_
    k_steps
    have hnS : ∀ p ∈ r10, p.1 < S := of_allLt l2.2.2.2
    refine for_A (hh := by rfl) (hE := by passes_own) (its := vs) (k := k) (fr₀ := [(S, listOf #[] 0), (L1 + 1 + 1, oRow)]) (news := (L1 + 1 + 1 + 1, oLb) :: (L1 + 1, oRows) :: r10) [S, L1 + 1 + 1]
      (fun i m fr tl => ∃ (ys : List Value) (kk : Nat) (oNi : Obj), AllAre m [(Str.ofString "sorts", .ref S)] ∧ fr = [(S, listOf ys.toArray kk), (L1 + 1 + 1, oNi)] ∧ (∃ v, oNi.data = .cell v) ∧ Two (LIL tl) ys ((rows.take i).map (sortsRow rows))) (by k_asm) (News.less N11 ?_) rfl ?_ (.tail _ (.tail _ hmA)) ⟨[], 0, oRow, ⟨rfl, trivial⟩, rfl, ⟨_, dRow'⟩, Two.nil⟩ ?_ ?_
    · walk_at "sub"
    · exact off_two (off_cons (Nat.ne_of_lt l2.1) (off_cons (Nat.ne_of_lt l2.2.2.1) fun p hp => Nat.ne_of_lt (hnS p hp))) (off_cons (Nat.ne_of_gt (Nat.lt_succ_self _)) (off_cons (Nat.ne_of_lt (Nat.lt_succ_self _)) hn2))
    · rintro i v m fr tl rest h tk hi' hv qG2 - F3 N3 hsR off I R hR
      refine hideG fun gG hG => ?_
      obtain ⟨ys4, kk, oNi, hA, rfl, ⟨v0, hv0⟩, hys⟩ := qG2
      obtain ⟨row, hn, af, vf, kf, rfl, hmf, hif⟩ := hi.get hv
      refine hG ?_
      try clear hG gG
      have hrow := hr row (List.mem_of_getElem? hn)
      refine wpAny_pure ?_
      have hnS' := off S (.head _)
      have hnN := off (L1 + 1 + 1) (.tail _ (.head _))
      replace N3 : News g1 L1 h ((S, listOf ys4.toArray kk) :: (L1 + 1 + 1, oNi) :: rest) := N3
      have hmF : (af, listOf vf.toArray kf) ∈ rest := hsR _ (List.mem_append_right _ (.tail _ (.tail _ (hsub _ hmf))))
      have hmL : (L1 + 1 + 1 + 1, oLb) ∈ rest := hsR _ (List.mem_append_right _ (.head _))
      have hmR : (L1 + 1, oRows) ∈ rest := hsR _ (List.mem_append_right _ (.tail _ (.head _)))
      have hmLab : (D, lst ys) ∈ rest := hsR _ (List.mem_append_right _ (.tail _ (.tail _ hmD)))
      have hmAr : (a_1, listOf vs.toArray k) ∈ rest := hsR _ (List.mem_append_right _ (.tail _ (.tail _ hmA)))
      have hvl : vs.length = rows.length := hi.len
      have hxr := hxl row (List.mem_of_getElem? hn)
      have l22 := l2.2.1
      replace F3 := frOv F3 hA
      clear news hm hi hxl A₀ B F X N T hk hret h1 tk1 FG1 l1 oLab oRow mE hm1 h9 tk9 nw o1 hlt tl9 e ab hj hLa hD3 dLab' dRow' r10 hn2 hD10 hsub hmA hmD hnL hr10 hc2 hc3 l2 F11 N11 hnS hsR off I hmf hv
      k_steps
      rename Fr g1 L1 _ _ => F4
      rename News g1 L1 _ _ => N4
      rename_i h4 oRw dRw
      refine Stop.mk ?_
      refine Assign_ListComp_G (hs := by intro _; rfl) F4 rfl (by with_unfolding_all rfl) (by with_unfolding_all rfl) (by decide) (by rfl) (by decide) (by with_unfolding_all rfl) (by with_unfolding_all rfl) ?_
      k_steps
      rename IsRange _ _ _ _ _ _ _ _ => hrg
      rename Fr g1 L1 _ _ => F5
      rename News g1 L1 _ _ => N5
      refine src_range (hh := by rfl) (hkind := by rfl) (hx := by rfl) (n := 4) (JB w (fun j => nameL (row.take (j + 1))) ((S, listOf ys4.toArray kk) :: (L1 + 1 + 1, oRw) :: rest)) F5 N5 hrg (by decide) (by decide) (fit9 (by decide)) ⟨[], rfl, rfl, rfl, fun j hj => absurd hj (Nat.not_lt_zero _), fun _ h => (nomatch h), List.Pairwise.nil⟩ ?_ ?_
      · rintro j vals ys5 nw5 h5 tk5 own5 C5 oC5 D5 m5 E5 - hj qG3 hyl qG4 hC5 F6 N6
        refine hideT fun Y Z hTY hTZ => ?_
        refine hideG fun gG hG => ?_
        obtain ⟨v, rfl, u5, rfl⟩ := qG3
        obtain ⟨bs, rfl, hb1, hb2, hb3, hb4, hb5⟩ := qG4
        refine hG ?_
        try clear hG gG
        refine wpAny_tests_nil ?_
        simp only [if_true]
        have hx : putAll [Str.ofString "k"] [.int (1 + (j : Int) * 1) u5] m5 (Str.ofString "k") = some (.int (1 + (j : Int) * 1) u5) := rfl
        generalize putAll [Str.ofString "k"] [.int (1 + (j : Int) * 1) u5] m5 = m9 at hC5 hx
        obtain ⟨r5, N7, hr5⟩ : ∃ r5, News g1 L1 h5 r5 ∧ (∀ p ∈ (own5 ++ [(C5, oC5), (D5, lst ys5)]) ++ (bs.flatten ++ ((S, listOf ys4.toArray kk) :: (L1 + 1 + 1, oRw) :: rest)), p ∈ r5) :=
          ⟨_, N6, by walk_at "sub"⟩
        have m1 : (C5, oC5) ∈ r5 := hr5 _ (by walk_at "sub")
        have m2 : (L1 + 1 + 1, oRw) ∈ r5 := hr5 _ (by walk_at "sub")
        have m3 : (af, listOf vf.toArray kf) ∈ r5 := hr5 _ (List.mem_append_right _ (List.mem_append_right _ (.tail _ (.tail _ hmF))))
        have hvf : vf.length = 4 := hif.len.trans hrow.1
        have hyn : (1 + (j : Int) * 1).toNat = j + 1 := by lia
        rename_i z9 z8 z7 z6 z5 z4 z3 z2 z1
        clear a_1 vs k hr hl hlab oRows dRows D ys hjL oLb dLb h z9 hi' oNi hA hys v0 hv0 hn hnS' hnN hmF hmL hmR hmLab hmAr hvl l22 z8 z7 z6 z5 z4 z3 z2 hrg F5 N5 z1 m5 hyl N6
        k_steps
        refine upto_at (hs := by with_unfolding_all rfl) (ht := by intro _; with_unfolding_all rfl) (by k_asm) (by k_asm) m3 (by lia) (by lia) ?_
        intro D6 h7 F7 N8 lD6
        with_reducible first | refine k_flat (s := s) ?_ | (show wpAny _ _ _ _ _ _; refine k_flat (s := s) ?_)
        intro tkF
        rw [hyn] at N8
        replace N8 := N8
        k_steps
        refine Stop.mk ?_
        refine Fn.use (law_name_spec w D6 (vf.take (j + 1)) (row.take (j + 1)) 0 _ (.head _) (Two.take _ hif) (fun n hn => hrow.2 n (List.mem_of_mem_take hn)) (by rw [List.length_take]; lia)) B1 (by k_asm) X1 (by k_asm) T1 rfl (by show dp + 1 + 10 < _; exact lim (d := dp) (a := 1 + 10) hd rfl) (by show un + 3 + 100 < _; exact lim (d := un) (a := 3 + 100) hu rfl) ?_
        rintro r news' h' tk' F8 N9 qG5
        refine hideG fun gG hG => ?_
        obtain ⟨⟨tx, rfl⟩, rfl⟩ := qG5
        refine hG ?_
        try clear hG gG
        with_reducible first | refine k_flat (s := s) ?_ | (show wpAny _ _ _ _ _ _; refine k_flat (s := s) ?_)
        intro tkF
        replace N9 := News.less N9 fun p hp => .tail _ hp
        have lD7 : ∀ p ∈ r5, p.1 < D6 := lD6
        rename_i z2 z1
        clear F6 N7 hyn z2 D6 h7 F7 lD6 z1 N8 tk' lD7
        k_steps
        refine Stop.mk ?_
        rename News g1 L1 _ _ => N10
        rename ∀ p ∈ r5, p.1 < _ => l5
        refine Fn.use (ignore_spec w _ (nameL (row.take (j + 1))) tx 0 _ (.head _)) B1 (by k_asm) X1 N10 T1 rfl (by show dp + 1 + 10 < _; exact lim (d := dp) (a := 1 + 10) hd rfl) (by show un + 3 + 100 < _; exact lim (d := un) (a := 3 + 100) hu rfl) ?_
        rintro r news' h' tk' F12 N12 qG6
        refine hideG fun gG hG => ?_
        obtain ⟨R, d, Ig, oI, Sm, Di, t1, t2, t3, rfl, rfl, hMe, lo, o1, o2, o3, o4, o5⟩ := qG6
        refine hG ?_
        try clear hG gG
        have ab : Above r5 [(Ig, oI), (Di, listOf #[] 0), (Sm, oneSet w (nameL (row.take (j + 1))) tx), (R, instObj 191 d), (d, igD w Sm Di Ig t1 t2 t3)] := above5 (fun q hq => o1 q (.tail _ hq)) o2 o3 o4 o5
        refine hTY _ _ ?_
        exact ⟨_, _, _, rfl, F12, News.less N12 (jb_mem hr5), jb_fresh hr5 ab, JB.snoc hb1 hb2 hb3 hb4 hb5 ⟨R, d, Ig, oI, Sm, Di, t1, t2, t3, tx, rfl, rfl, hMe, lo, o2, o3, o4, o5⟩ (ab.sub fun p hp => hr5 p (List.mem_append_right _ hp))⟩
      · intro T h9 tk9 ys9 nw9 F9 N9 o9 hlt9 ⟨bs, e9, hb1, hb2, hb3, hb4, hb5⟩
        refine hideG fun gG hG => ?_
        obtain ⟨b9, hb9, bT, bS, bRw, bR, bOff⟩ := three_of T S (L1 + 1 + 1) (lst ys9) (listOf ys4.toArray kk) oRw rest
        refine hG ?_
        try clear hG gG
        have N10 : News g1 L1 h9 (bs.flatten ++ b9) := News.less N9 (by rw [e9, hb9]; walk_at "sub")
        have hTb : ∀ b ∈ bs, ∀ p ∈ b, p.1 ≠ T := fun b hb p hp => o9 p (by rw [e9]; exact List.mem_append_left _ (fsum_mem hb hp))
        have bA := bA_of hb9 hb4
        rename_i z9 z8 z7 z6 z5 z4 z3 z2 z1
        clear h z9 oNi v0 hv0 hif z8 z7 z6 z5 z4 z3 z2 hrg F5 N5 z1 nw9 N9 o9 e9 hb4
        k_steps
        refine Stop.mk ?_
        refine ListComp_C (hs := by intro _; rfl) F9 (by with_unfolding_all rfl) (by intro _; with_unfolding_all rfl) (by intro _; with_unfolding_all rfl) (by intro _ _; with_unfolding_all rfl) (by decide) (by decide) ?_
        k_steps
        refine srcC_list (hh := by rfl) (its := ys9) (k := ys9.length) (fun i ys nw => ∃ tl', nw = tl' ++ ((bs.drop i).flatten ++ b9) ∧ Above ((bs.drop i).flatten ++ b9) tl' ∧ Two (LI tl') ys (((List.range 4).take i).map fun j => sortOf rows (nameL (row.take (j + 1))))) F9 N10 (List.mem_append_right _ bT) (by rw [hb1]; exact fit9 (by decide)) ⟨[], rfl, Above.nil, Two.nil⟩ ?_ ?_
        · rintro j v ys5 nw5 h5 tk5 own5 C oC c oc D5 E5 offT hj hv hyl qG7 hcc F5 N5
          refine hideT fun Y Z hTY hTZ => ?_
          refine hideG fun gG hG => ?_
          obtain ⟨tl5, rfl, ab5, hj5⟩ := qG7
          obtain ⟨v', b, e1, e2, hBlk⟩ := hb3 j (by lia)
          refine hG ?_
          try clear hG gG
          obtain rfl : v = v' := by rw [hv] at e1; injection e1
          have hbm : b ∈ bs := List.mem_of_getElem? e2
          have hdr := drop_next e2
          have hlater := drop_pair hdr hb5
          refine hideG fun gG hG => ?_
          obtain ⟨R, d, Ig, oI, Sm, Di, t1, t2, t3, t4, rfl, hbe, hMe, lo, o1, o2, o3, o4⟩ := hBlk
          refine hG ?_
          try clear hG gG
          have hIgb : (Ig, oI) ∈ b := by rw [hbe]; exact .head _
          have hfl : (bs.drop j).flatten = (Ig, oI) :: (Di, listOf #[] 0) :: (Sm, oneSet w (nameL (row.take (j + 1))) t4) :: (R, instObj 191 d) :: (d, igD w Sm Di Ig t1 t2 t3) :: (bs.drop (j + 1)).flatten := by rw [hdr, hbe]; rfl
          have hIgT : Ig ≠ T := hTb b hbm (Ig, oI) hIgb
          refine hideG fun gG hG => ?_
          obtain ⟨rA, N6, hoA, aDi, aSm, ac, aB, hsA, hall⟩ := rA_of N5 hfl (offT (Ig, oI) (List.mem_append_right _ (List.mem_append_left _ (hfl ▸ .head _))) (by simpa using hIgT)) ab5 o3 o4 (later_of hlater hIgb) (offT_of (bA b hbm (Ig, oI) hIgb) hIgT)
          refine hG ?_
          try clear hG gG
          have hR1 : R ≠ Ig := Nat.ne_of_lt (Nat.lt_trans o2 (Nat.lt_trans o3 o4))
          have hd1 : d ≠ Ig := Nat.ne_of_lt (Nat.lt_trans o1 (Nat.lt_trans o2 (Nat.lt_trans o3 o4)))
          have aLb := aB _ (bR _ hmL)
          have aRs := aB _ (bR _ hmR)
          have aLab := aB _ (bR _ hmLab)
          have aAr := aB _ (bR _ hmAr)
          have hxj := hxr (j + 1)
          replace hMe : Memo w (nameL (row.take (j + 1))) 1 oI := hMe
          refine wpAny_tests_nil ?_
          simp only [if_true]
          clear hr hi' ys4 kk hA hys hn af vf kf hrow hnS' hnN hmF hmL hmR hmLab hmAr hxr l22 h4 oRw dRw tk F9 hlt9 hb2 hb3 hb5 hb9 bT bS bRw bR bOff N10 hTb bA hyl offT N5 e2 hbe o1 o2 o3 o4 hv e1 hIgb hfl hIgT aB
          have lRs : (L1 + 1, oRows) ∈ (Ig, oI) :: (R, instObj 191 d) :: (d, igD w Sm Di Ig t1 t2 t3) :: rA := .tail _ (.tail _ (.tail _ aRs))
          have lAr : (a_1, listOf vs.toArray k) ∈ (Ig, oI) :: (R, instObj 191 d) :: (d, igD w Sm Di Ig t1 t2 t3) :: rA := .tail _ (.tail _ (.tail _ aAr))
          refine ListComp_G (hs := by intro _; rfl) F5 (by with_unfolding_all rfl) (by decide) (by rfl) (by decide) ?_
          k_steps
          refine lenv_at N6 lAr (by lia) ?_
          intro t6 tk6
          with_reducible first | refine k_flat (s := s) ?_ | (show wpAny _ _ _ _ _ _; refine k_flat (s := s) ?_)
          intro tkF
          k_steps
          rename IsRange _ _ _ _ _ _ _ _ => hrg
          rename Fr g1 L1 _ _ => F7
          rename News g1 L1 _ _ => N7
          refine src_range (hh := by rfl) (hkind := by rfl) (hx := by rfl) (n := vs.length) (fun i ys nw => ∃ o, nw = (Ig, o) :: (R, instObj 191 d) :: (d, igD w Sm Di Ig t1 t2 t3) :: rA ∧ Memo w (nameL (row.take (j + 1))) (1 + i) o ∧ Two IsI ys ((((List.range rows.length).take i).filter fun q => decide (hit (nameL (row.take (j + 1))) (nameL (rows.getD q [])) = 1)).map Int.ofNat)) F7 N7 hrg (small_len (by lia)) (size_len _) (fit9 (by lia)) ⟨oI, rfl, hMe, Two.nil⟩ ?_ ?_
          · rintro q vals ys8 nw8 h8 tk8 own8 C8 oC8 D8 m8 E8 off8 hq qG8 hyl8 qG9 hC8 F8 N8
            refine hideT fun Y Z hTY hTZ => ?_
            refine hideG fun gG hG => ?_
            obtain ⟨v, rfl, tq, rfl⟩ := qG8
            obtain ⟨o, rfl, hMo, hj8⟩ := qG9
            refine hG ?_
            try clear hG gG
            have hx : putAll [Str.ofString "k"] [.int (0 + (q : Int) * 1) tq] m8 (Str.ofString "k") = some (.int (0 + (q : Int) * 1) tq) := rfl
            generalize putAll [Str.ofString "k"] [.int (0 + (q : Int) * 1) tq] m8 = m9 at hC8 hx
            refine hideG fun gG hG => ?_
            obtain ⟨rB, N9, hoB, bA0, bC0, hsB⟩ := rB_of N8 (off8 (Ig, o) (.head _) (by simp)) hR1 hd1 hoA
            refine hG ?_
            try clear hG gG
            have bA : ∀ p ∈ rA, p ∈ (Ig, o) :: (R, instObj 191 d) :: (d, igD w Sm Di Ig t1 t2 t3) :: rB := fun p hp => .tail _ (.tail _ (.tail _ (bA0 p hp)))
            have bC8 : (C8, oC8) ∈ (Ig, o) :: (R, instObj 191 d) :: (d, igD w Sm Di Ig t1 t2 t3) :: rB := .tail _ (.tail _ (.tail _ bC0))
            have bc := bA _ ac
            have bLb := bA _ aLb
            have bLab := bA _ aLab
            have gDi := bA0 _ aDi
            have gSm := bA0 _ aSm
            have hq' : q < rows.length := by lia
            refine hideG fun gG hG => ?_
            obtain ⟨vl, hvl9, tl9, rfl⟩ := hjL.get' (i := q) (b := nameL (rows.getD q [])) (by rw [List.getElem?_map, List.getElem?_eq_getElem hq', List.getD_eq_getElem?_getD, List.getElem?_eq_getElem hq']; rfl)
            refine hG ?_
            try clear hG gG
            have hqm : rows.getD q [] ∈ rows := getD_mem' hq'
            have hlq := hlab _ hqm
            have hq0 : (0 + (q : Int) * 1).toNat = q := by lia
            refine wpAny_tests_one (wpAny_mono (Q := TEm g1 L1 (fun z => if z = Str.ofString "readers" then some (Value.ref T) else ovr [(Str.ofString "sorts", Value.ref S)] m z) { heap := h8, gens := s.gens, drawn := s.drawn, toks := tk8, os := s.os } Ig ((R, instObj 191 d) :: (d, igD w Sm Di Ig t1 t2 t3) :: rB) w (nameL (row.take (j + 1))) (1 + q + 1) (decide (hit (nameL (row.take (j + 1))) (nameL (rows.getD q [])) = 1))) ?_ (fun ok s₁ h₁ => ?_) fun _ _ e => e)
            · rename_i z8 _ _ _ _ z7 z6 z5 z4 z3 z2 z1
              clear a_1 k hlab oRows dRows hjL ys9 hb1 E5 hj z8 ab5 hj5 b hbm hdr hlater oI z7 hoA aDi aSm ac hsA hall hR1 hd1 aLb aRs aLab aAr hMe lRs lAr t6 tk6 tkF z6 z5 z4 z3 z2 hrg F7 N7 z1 m8 hyl8 off8 N8 hj8 bA0 bC0 hsB bA hq' hqm
              k_steps
              refine itv_at (hs := by with_unfolding_all rfl) (hg := by intro _; with_unfolding_all rfl) N9 bLab (by lia) (by lia) (by rw [hq0]; exact hvl9) ?_
              k_steps
              refine Stop.mk ?_
              refine Fn.use (names_spec w R d Sm Di Ig t1 t2 t3 t4 o (nameL (row.take (j + 1))) (nameL (rows.getD q [])) _ _ ((R, instObj 191 d) :: (d, igD w Sm Di Ig t1 t2 t3) :: rB) (1 + q) lo hMo (by lia) hxj hlq (.head _) (.tail _ (.head _)) (.tail _ (.tail _ gSm)) (.tail _ (.tail _ gDi)) hoB) B1 F8 X1 N9 T1 rfl (by show dp + 1 + 10 < _; exact lim (d := dp) (a := 1 + 10) hd rfl) (by show un + 3 + 100 < _; exact lim (d := un) (a := 3 + 100) hu rfl) ?_
              rintro r news' h' tk' F10 N10 qG10
              refine hideG fun gG hG => ?_
              obtain ⟨tr, oI', rfl, rfl, hM2⟩ := qG10
              refine hG ?_
              try clear hG gG
              with_reducible first | refine k_flat (s := s) ?_ | (show wpAny _ _ _ _ _ _; refine k_flat (s := s) ?_)
              intro tkF
              rcases hit_01 (nameL (row.take (j + 1))) (nameL (rows.getD q [])) with hh | hh
              · rw [hh]
                rename_i z1
                clear vs hl hd hu D ys oLb dLb hvl t4 lo hcc hxj hq F8 tq hMo m9 hC8 hx N9 hoB bC8 bc bLb bLab gDi gSm tl9 hvl9 hlq hq0 z1 tk'
                k_steps
                exact ⟨_, _, _, rfl, by rw [hh]; rfl, by assumption, by assumption, hM2⟩
              · rw [hh]
                rename_i z1
                clear vs hl hd hu D ys oLb dLb hvl t4 lo hcc hxj hq F8 tq hMo m9 hC8 hx N9 hoB bC8 bc bLb bLab gDi gSm tl9 hvl9 hlq hq0 z1 tk'
                k_steps
                exact ⟨_, _, _, rfl, by rw [hh]; rfl, by assumption, by assumption, hM2⟩
            · refine hideG fun gG hG => ?_
              obtain ⟨h', tk', o', rfl, hok, F10, N10, hM2⟩ := h₁
              refine hG ?_
              try clear hG gG
              subst hok
              have hqr : (List.range rows.length)[q]? = some q := by rw [List.getElem?_range hq']
              have hM3 : Memo w (nameL (row.take (j + 1))) (1 + (q + 1)) o' := (Nat.add_assoc 1 q 1) ▸ hM2
              have hsC := hsB o'
              have hfr : Fresh ((own8 ++ [(C8, oC8), (D8, lst ys8)]) ++ ((Ig, o) :: (R, instObj 191 d) :: (d, igD w Sm Di Ig t1 t2 t3) :: rA)) ((Ig, o) :: (R, instObj 191 d) :: (d, igD w Sm Di Ig t1 t2 t3) :: rA) ((Ig, o') :: (R, instObj 191 d) :: (d, igD w Sm Di Ig t1 t2 t3) :: rA) := fresh_head
              by_cases hc : hit (nameL (row.take (j + 1))) (nameL (rows.getD q [])) = 1
              · rw [decide_eq_true hc]
                simp only [if_true]
                have bC8' : (C8, oC8) ∈ (Ig, o') :: (R, instObj 191 d) :: (d, igD w Sm Di Ig t1 t2 t3) :: rB := .tail _ (.tail _ (.tail _ bC0))
                rename_i z8 _ _ _ _ z7 z6 z5 z4 z3 z2 z1
                clear a_1 vs k hl hlab hd hu oRows dRows D ys hjL oLb dLb hvl ys9 hb1 E5 hj z8 ab5 hj5 b hbm hdr hlater oI t4 lo hcc z7 hoA aDi aSm ac hsA hall hR1 hd1 aLb aRs aLab aAr hxj hMe lRs lAr t6 tk6 tkF z6 z5 z4 z3 z2 hrg F7 N7 z1 m8 hq hyl8 F8 off8 N8 hMo N9 hoB bA0 bC0 hsB bA bC8 bc bLb bLab gDi gSm hq' tl9 hvl9 hqm hlq hq0 hM2
                k_steps
                refine hTY _ _ ?_
                refine ⟨_, _, _, rfl, F10, News.less N10 hsC, hfr, o', rfl, hM3, ?_⟩
                rw [take_snoc hqr, List.filter_append, List.map_append]
                rw [filter_yes (decide_eq_true hc)]
                exact hj8.snoc (a := Value.int (0 + (q : Int) * 1) tq) (b := Int.ofNat q) ⟨tq, by simp⟩
              · rw [decide_eq_false hc]
                simp only [Bool.false_eq_true, if_false]
                refine hTZ _ ?_
                refine ⟨_, _, _, rfl, F10, News.less N10 hsC, hfr, o', rfl, hM3, ?_⟩
                rw [take_snoc hqr, List.filter_append, List.map_append, filter_no (decide_eq_false hc), List.map_nil, List.append_nil]
                exact hj8
          · intro D9 h9' tk9' ys9' nw9 F10 N10 o10 hlt10 ⟨o, e, hMo, hj9⟩
            have hj9 : Two IsI ys9' (sortOf rows (nameL (row.take (j + 1)))) := by rw [hvl, List.take_of_length_le (Nat.le_of_eq List.length_range)] at hj9; exact hj9
            refine hTY _ _ ?_
            have hfs : ∀ p ∈ (bs.drop (j + 1)).flatten, p ∈ (bs.drop j).flatten := fun p hp => by rw [hdr]; exact List.mem_append_right b hp
            refine ⟨h9', tk9', ((D9, lst ys9') :: tl5) ++ ((bs.drop (j + 1)).flatten ++ b9), rfl, F10, News.less N10 (by rw [e]; exact fin_mem hsA), fin_fresh hall hlt10 hfs, (D9, lst ys9') :: tl5, rfl, fin_above ab5 hfs hsA (fun q hq => hlt10 q (.tail _ (.tail _ (.tail _ hq)))), ?_⟩
            · have hr4 : (List.range 4)[j]? = some j := by rw [List.getElem?_range (by lia)]
              rw [take_snoc hr4, List.map_append]
              exact (hj5.imp fun v b => LI.mono fun p hp => .tail _ hp).snoc ⟨D9, ys9', _, rfl, .head _, hj9⟩
        · intro Z h9' tk9' ysZ nwZ F10 N10 oZ hltZ ⟨tlZ, eZ, abZ, hjZ⟩
          have hjZ : Two (LI tlZ) ysZ (sortsRow rows row) := by rw [hb1] at hjZ; exact hjZ
          rw [hb1, List.drop_eq_nil_of_le (Nat.le_of_eq hb2)] at eZ abZ
          simp only [List.flatten_nil, List.nil_append] at eZ abZ
          have hZb : ∀ p ∈ b9, p.1 < Z := fun p hp => hltZ p (List.mem_append_right _ hp)
          obtain ⟨r9, N11, hr9⟩ : ∃ r9, News g1 L1 h9' ((S, listOf ys4.toArray kk) :: r9) ∧ r9 = (Z, lst ysZ) :: (L1 + 1 + 1, oRw) :: (tlZ ++ rest) :=
            ⟨_, News.less N10 (by rw [eZ, hb9]; walk_at "sub"), rfl⟩
          have hoff : ∀ p ∈ r9, p.1 ≠ S := by rw [hr9]; exact off_cons (Nat.ne_of_gt (hZb _ bS)) (off_cons (Nat.ne_of_lt l22) (off_app (fun p hp => Nat.ne_of_gt (abZ _ bS p hp)) hnS'))
          rename_i z2 z1
          clear a_1 k hr hlab oRows dRows D ys hjL oLb dLb vf kf hrow hnS' hnN hmF hmL hmR hmLab hmAr hxr l22 h4 tk ys9 F9 hlt9 bs hb1 hb2 hb3 hb5 hb9 bT bOff z2 hTb bA nwZ N10 oZ hltZ eZ z1
          k_steps
          refine appv_at F10 N11 hoff (by have := hys.len; simp only [List.length_map, List.length_take] at this; exact fit9 (by lia)) ?_
          intro h12 F12 N12
          with_reducible first | refine k_flat (s := s) ?_ | (show wpAny _ _ _ _ _ _; refine k_flat (s := s) ?_)
          intro tkF
          k_steps
          refine hR _ _ ?_
          refine FE.mk [(S, listOf (ys4 ++ [Value.ref Z]).toArray (kk + 1)), (L1 + 1 + 1, oRw)] ((Z, lst ysZ) :: tlZ) F12 N12 ?_ rfl ?_ ?_ ⟨ys4 ++ [Value.ref Z], kk + 1, oRw, ⟨rfl, trivial⟩, rfl, ⟨_, dRw⟩, ?_⟩
          · rw [hr9]; walk_at "sub"
          · intro q hq p hp
            rcases List.mem_cons.mp hp with rfl | hp
            · exact hZb q (bR q hq)
            · exact abZ q (bR q hq) p hp
          · exact lt_two (List.forall_mem_cons.mpr ⟨hZb _ bS, abZ _ bS⟩) (List.forall_mem_cons.mpr ⟨hZb _ bRw, abZ _ bRw⟩)
          · rw [take_snoc hn, List.map_append]
            exact (hys.imp fun v b => LIL.mono fun p hp => List.mem_append_right _ hp).snoc ⟨Z, ysZ, _, rfl, .head _, hjZ.imp fun v b => LI.mono fun p hp => .tail _ (List.mem_append_left _ hp)⟩
    · rintro h9 tk9 m9 fr9 tl qG11 - F9 N9 off ab ab2
      refine hideG fun gG hG => ?_
      obtain ⟨ys, kk, oNi, hA, rfl, ⟨v0, hv0⟩, hys⟩ := qG11
      refine hG ?_
      try clear hG gG
      replace F9 := frOv F9 hA
      have hys : Two (LIL tl) ys (rows.map (sortsRow rows)) := by rw [hi.len, List.take_length] at hys; exact hys
      have hnw : ∀ p ∈ news, p.1 < S := fun p hp => hnS p (hsub p hp)
      have habn : Above news tl := ab.sub fun p hp => .tail _ (.tail _ (hsub p hp))
      rename_i z5 z4 z3 z2 z1
      clear a_1 vs k hm hi hr hl hlab hxl F N hd hu h1 tk1 l1 oLab oRow mE dRows hm1 D z5 z4 z3 nw o1 hlt tl9 e z2 hj hjL hLa hD3 dLab' dRow' hn2 hD10 hmA hmD hnL hr10 hc2 dLb hc3 l2 F11 N11 hnS off ab ab2 hA z1 v0 hv0
      k_steps
      refine hRq _ _ ?_
      k_steps
      rename News h₀ L _ _ => N10
      exact hret _ ((S, listOf ys.toArray kk) :: (tl ++ news)) _ _ (by assumption) (News.less N10 (by
        simp only [List.mem_cons, List.mem_append, List.not_mem_nil, or_false]
        rintro p (h | h | h)
        · simp [h]
        · simp [h]
        · simp [hsub p h])) ⟨(S, listOf ys.toArray kk) :: tl, rfl, fun q hq p hp => by
          rcases List.mem_cons.mp hp with rfl | hp
          · exact hnw q hq
          · exact habn q hq p hp, S, ys, kk, rfl, .head _, hys.imp fun v b => LIL.mono fun p hp => .tail _ hp⟩
end Mine
end
section
open PySem PySem.W PySem.Calls PyProof.Rows PyProof.Rows.LCg
set_option maxRecDepth 100000
set_option maxHeartbeats 1000000
namespace Mine
local macro_rules | `(tactic| walk_at "mine") => `(tactic| skip)
local macro_rules | `(tactic| walk_at $s:str) => Mine.stopAt ["call ref", "eval ListComp", "exec Assign cons ListComp", "pyIter ref", "exec For Name Subscript cons nil", "compareOp NotIn int ref", "call builtin:list.append"] s
noncomputable def num0 : List Int := [282624, 3310023, 3161993, 3162049, 467074]
noncomputable def numStep (ns : List Int) (x : Int) : List Int := if x.fmod 16777216 ∈ ns then ns else ns ++ [x.fmod 16777216]
theorem numStep_len (ns : List Int) (x : Int) : (numStep ns x).length ≤ ns.length + 1 := by unfold numStep; split <;> simp
theorem numFold_len : ∀ (l ns : List Int), (l.foldl numStep ns).length ≤ ns.length + l.length
  | [], ns => Nat.le_refl _
  | x :: l, ns => by have := numFold_len l (numStep ns x); have := numStep_len ns x; simp only [List.foldl_cons, List.length_cons]; lia
theorem execs_app (a b : List Stmt) (env : Env) : execs (a ++ b) env = (execs a env >>= fun f => match f with | .next => execs b env | f => pure f) := by
  induction a with
  | nil => rw [List.nil_append]; show _ = (pure Flow.next >>= _); rw [pure_bind]
  | cons st r ih =>
    rw [List.cons_append, execs_cons, execs_cons, bind_assoc]
    congr 1
    funext f
    cases f with
    | next => exact ih
    | brk => rw [pure_bind]
    | cont => rw [pure_bind]
    | ret v => rw [pure_bind]
theorem execs_cut {M : Model} {A : Around} {E : Value → Shared → Prop} {s : Shared} {env : Env} {Q : Flow → Shared → Prop} (n : Nat) (body : List Stmt)
    (h : wpAny M A (execs (body.take n) env) (fun f s' => match f with | .next => wpAny M A (execs (body.drop n) env) Q E s' | f => Q f s') E s) : wpAny M A (execs body env) Q E s := by
  rw [← List.take_append_drop n body, execs_app]
  refine wpAny_bind (wpAny_mono h (fun f s' hf => ?_) fun _ _ e => e)
  cases f with
  | next => exact hf
  | brk => exact wpAny_pure hf
  | cont => exact wpAny_pure hf
  | ret v => exact wpAny_pure hf
/-- the law's cells and tables of codes stand in the ledger's front -/
noncomputable abbrev lawLed (L : Nat) (c5 c4 c3 c2 c1 : Obj) (pa pb : Array Value) (rest : Led) : Led := (L + 1 + 1 + 1 + 1 + 1, c5) :: (L + 1 + 1 + 1 + 1, c4) :: (L + 1 + 1 + 1, c3) :: (L + 1 + 1, c2) :: (L + 1, c1) :: (222, tabObj pa) :: (229, tabObj pb) :: rest
noncomputable abbrev lawEnv (L : Nat) (fa : Addr) : Env := envOfC (Str.ofString "law") Mine2.lawD.scope L fa (.ref 231)
theorem off5 {L : Nat} {r : Led} (h : ∀ p ∈ r, L + 1 + 1 + 1 + 1 + 1 < p.1) : ∀ p ∈ r, p.1 ≠ L + 1 + 1 + 1 + 1 + 1 := fun p hp => Nat.ne_of_gt (h p hp)
theorem off4 {L : Nat} {r : Led} (h : ∀ p ∈ r, L + 1 + 1 + 1 + 1 + 1 < p.1) : ∀ p ∈ r, p.1 ≠ L + 1 + 1 + 1 + 1 := fun p hp => Nat.ne_of_gt (Nat.lt_trans (Nat.lt_succ_self _) (h p hp))
theorem off3 {L : Nat} {r : Led} (h : ∀ p ∈ r, L + 1 + 1 + 1 + 1 + 1 < p.1) : ∀ p ∈ r, p.1 ≠ L + 1 + 1 + 1 := fun p hp => Nat.ne_of_gt (Nat.lt_trans (Nat.lt_succ_of_lt (Nat.lt_succ_self _)) (h p hp))
theorem off2 {L : Nat} {r : Led} (h : ∀ p ∈ r, L + 1 + 1 + 1 + 1 + 1 < p.1) : ∀ p ∈ r, p.1 ≠ L + 1 + 1 := fun p hp => Nat.ne_of_gt (Nat.lt_trans (Nat.lt_succ_of_lt (Nat.lt_succ_of_lt (Nat.lt_succ_self _))) (h p hp))
theorem law_A (w : World) (g0 : Heap) (L : Nat) (fa aS : Addr) (vs : List Value) (script : List Int) (p : Program) (loose : List Str) (mean : ExcName → Option Value) (mg mb : Str → Option Value) (h : Heap) (tk : Nat) (s : Shared) (m : Str → Option Value) (c1 c2 c3 c4 c5 : Obj)
    (X1 : (hd.heap_1 w.params).In g0) (T1 : Top p loose mean mg mb g0) (B1 : Below callerA g0 [] g0) (F1 : Fr g0 L h m) (hA : AllAre m [(Str.ofString "script", .ref aS)])
    (N1 : News g0 L h (lawLed L c5 c4 c3 c2 c1 #[] #[] []))
    (d1 : c1.data = .cell none) (d2 : c2.data = .cell none) (d3 : c3.data = .cell none)
    (hL : g0.IsList aS vs.toArray) (hI : IntsAre vs script) (h63 : script.length ≤ 63) (l222 : 222 < L ∧ 229 < L)
    {Q : Flow → Shared → Prop} {QE : Value → Shared → Prop}
    (next : ∀ h' tk' m' c1 c2 c3 NB nv k rest t1 t2 t3, Fr g0 L h' m' → AllAre m' [(Str.ofString "numbers", .ref NB)] → News g0 L h' (lawLed L c5 c4 c3 c2 c1 #[] #[] rest) → (∀ p ∈ rest, L + 1 + 1 + 1 + 1 + 1 < p.1) → (NB, listOf nv.toArray k) ∈ rest → Two IsI nv ((script.take 2).foldl numStep num0) →
      c1.data = .cell (some (.int (script.take 2).sum t1)) → c2.data = .cell (some (.int ((3161920 + (script.take 2).sum).fmod 16777216) t2)) → c3.data = .cell (some (.int (1 + (script.take 2).sum.fmod 3) t3)) → Q .next { s with heap := h', toks := tk' }) :
    wpAny (model PG w) (callerA.deeper (lawEnv L fa)) (execs (Mine2.lawD.body.take 5) (lawEnv L fa)) Q (fun e s' => wpAny (model PG w) (callerA.deeper (lawEnv L fa)) (leaving (lawEnv L fa) e) (fun _ s'' => QE e s'') (fun e' s'' => QE e' s'') s') { s with heap := h, toks := tk } := by
  unfold PG lawEnv
  conv => pattern (Mine2.lawD.body); whnf
  simp only [List.take_succ_cons, List.take_zero]
  conv => pattern (occs := *) (Mine2.lawD.scope); all_goals whnf
  revert X1
  w_top off
  k_fill
  intro X1
  refine noE ?_
  replace F1 := frOv F1 hA
  k_steps
  refine Stop.mk ?_
  refine wpAny_For ?_
  k_steps
  rename Fr g0 L _ _ => F2
  rename News g0 L _ _ => N2
  rename IntsAre _ (List.take 2 script) => hI2
  rename Obj => ct
  rename ct.data = _ => dt
  rename_i tT0 hh1 hh2 _ _ NB hh3 lNB hh4 D2 w2 hh5 _ _ lD2
  refine Stop.mk ?_
  with_reducible refine k_flat (s := s) ?_
  intro tkF
  have hxs : Two IsI w2 (script.take 2) := two_ints hI2
  obtain ⟨nv0, hnv0, N3⟩ : ∃ nv0, Two IsI nv0 num0 ∧ News g0 L hh5 ([(NB, listOf nv0.toArray 0)] ++ ((D2, listOf w2.toArray 0) :: (L + 1 + 1 + 1 + 1 + 1, c5) :: (L + 1 + 1 + 1 + 1, c4) :: (L + 1 + 1 + 1, c3) :: (L + 1 + 1, c2) :: (L + 1, ct) :: (222, tabObj #[]) :: [(229, tabObj #[])])) :=
    ⟨_, .cons ⟨_, rfl⟩ (.cons ⟨_, rfl⟩ (.cons ⟨_, rfl⟩ (.cons ⟨_, rfl⟩ (.cons ⟨_, rfl⟩ .nil)))), News.less N2 fun p hp => by
      rcases List.mem_cons.mp hp with h | hp
      · exact .tail _ (h ▸ .head _)
      · rcases List.mem_cons.mp hp with h | hp
        · exact h ▸ .head _
        · exact .tail _ (.tail _ (.tail _ hp))⟩
  refine hideG fun gG hG => ?_
  obtain ⟨tot, htot⟩ : ∃ tot, tot = (script.take 2).sum := ⟨_, rfl⟩
  refine hG ?_
  try clear hG gG
  rw [← htot] at dt
  have hlz : L + 1 + 1 + 1 + 1 + 1 < NB ∧ L + 1 + 1 + 1 + 1 < NB ∧ L + 1 + 1 + 1 < NB ∧ L + 1 + 1 < NB ∧ L + 1 < NB ∧ 222 < NB ∧ 229 < NB := lNB.2
  rename_i z9 _ z8 z7 z6 z5 z4 _ z3 z2 z1
  clear vs h z9 c1 hA d1 hL hI QE z8 z7 z6 z5 z4 tT0 hh1 hh2 z3 tk hh3 lNB hh4 tkf N2 hI2 z2 z1
  refine for_A (hh := by rfl) (hE := by passes_own) (its := w2) (k := 0) (fr₀ := [(NB, listOf nv0.toArray 0)]) [NB]
    (fun i m fr tl => ∃ (nv : List Value) (k : Nat), AllAre m [(Str.ofString "numbers", .ref NB)] ∧ fr = [(NB, listOf nv.toArray k)] ∧ Two IsI nv (((script.take 2).take i).foldl numStep num0) ∧ tl = []) F2 N3 rfl ?_ (.head _) ⟨nv0, 0, ⟨rfl, trivial⟩, rfl, hnv0, rfl⟩ ?_ ?_
  · intro a ha p hp
    rw [List.mem_singleton.mp ha]
    simp only [List.mem_cons, List.not_mem_nil, or_false] at hp
    rcases hp with rfl | rfl | rfl | rfl | rfl | rfl | rfl | rfl
    · exact Nat.ne_of_gt lD2.1
    · exact Nat.ne_of_lt hlz.1
    · exact Nat.ne_of_lt hlz.2.1
    · exact Nat.ne_of_lt hlz.2.2.1
    · exact Nat.ne_of_lt hlz.2.2.2.1
    · exact Nat.ne_of_lt hlz.2.2.2.2.1
    · exact Nat.ne_of_lt hlz.2.2.2.2.2.1
    · exact Nat.ne_of_lt hlz.2.2.2.2.2.2
  · rintro i v m4 fr tl rest h4 tk4 hi' hv qG1 - F4 N4 hsR off I R hR
    refine hideG fun gG hG => ?_
    obtain ⟨nv, k, hA4, rfl, hnv, rfl⟩ := qG1
    obtain ⟨x, hx, u, rfl⟩ := hxs.get hv
    refine hG ?_
    try clear hG gG
    refine wpAny_pure ?_
    have oNB := off NB (.head _)
    replace N4 : News g0 L h4 ((NB, listOf nv.toArray k) :: rest) := N4
    replace F4 := frOv F4 hA4
    have hst : (((script.take 2).take (i + 1)).foldl numStep num0) = numStep (((script.take 2).take i).foldl numStep num0) x := by
      rw [take_snoc hx, List.foldl_append]; rfl
    rw [hst] at hR
    replace hR := hR
    clear hst
    have hil : i < 2 := by
      have h1 := (List.getElem?_eq_some_iff.mp hx).1
      rw [List.length_take] at h1; lia
    have hl4 : ((((script.take 2).take i).foldl numStep num0)).length < 100 := by
      have := numFold_len ((script.take 2).take i) num0
      have h5 : num0.length = 5 := rfl
      rw [List.length_take] at this; lia
    generalize (((script.take 2).take i).foldl numStep num0) = ns at hnv hl4 hR
    rename_i z2 z1
    clear aS script m c2 c3 c4 c5 d2 d3 h63 l222 next z2 z1 ct D2 w2 F2 lD2 hxs nv0 hnv0 N3 tot dt htot hlz i hi' off I hsR hx hv hil
    k_steps
    refine Stop.mk ?_
    rename Fr g0 L _ _ => F5
    rename News g0 L _ _ => N5
    refine notin_at N5 (.head _) hnv ?_
    by_cases hin : x.fmod 16777216 ∈ ns
    · have hs : numStep ns x = ns := if_pos hin
      rw [show (!decide (x.fmod 16777216 ∈ ns)) = false by rw [decide_eq_true hin]; rfl]
      rw [hs] at hR
      k_steps
      refine hR _ _ ?_
      refine FE.mk [(NB, listOf nv.toArray k)] [] (by assumption) (by assumption) (fun p hp => hp) rfl Above.nil (fun _ _ _ h => nomatch h) ⟨nv, k, ⟨rfl, trivial⟩, rfl, hnv, rfl⟩
    · have hs : numStep ns x = ns ++ [x.fmod 16777216] := if_neg hin
      rw [show (!decide (x.fmod 16777216 ∈ ns)) = true by rw [decide_eq_false hin]; rfl]
      rw [hs] at hR
      k_steps
      refine Stop.mk ?_
      refine appv_at (by k_asm) (by assumption) oNB (fit9 (by have := hnv.len; lia)) ?_
      intro h6 F6 N6
      with_reducible refine k_flat (s := s) ?_
      intro tkF
      k_steps
      refine hR _ _ ?_
      refine FE.mk [(NB, listOf (nv ++ [Value.int (x.fmod 16777216) _]).toArray (k + 1))] [] (by assumption) (by assumption) (fun p hp => hp) rfl Above.nil (fun _ _ _ h => nomatch h) ⟨_, k + 1, ⟨rfl, trivial⟩, rfl, hnv.snoc ⟨_, rfl⟩, rfl⟩
  · rintro h4 tk4 m4 fr tl qG2 - F4 N4 off ab ab2
    refine hideG fun gG hG => ?_
    obtain ⟨nv, k, hA4, rfl, hnv, rfl⟩ := qG2
    refine hG ?_
    try clear hG gG
    have hxl : w2.length = (script.take 2).length := hxs.len
    rw [hxl, List.take_length] at hnv
    replace N4 : News g0 L h4 ((L + 1 + 1 + 1 + 1 + 1, c5) :: (L + 1 + 1 + 1 + 1, c4) :: (L + 1 + 1 + 1, c3) :: (L + 1 + 1, c2) :: (L + 1, ct) :: (222, tabObj #[]) :: (229, tabObj #[]) :: [(NB, listOf nv.toArray k)]) := News.less N4 fun p hp => by
      simp only [List.mem_cons, List.not_mem_nil, or_false] at hp
      simp only [List.mem_cons, List.cons_append, List.nil_append, List.not_mem_nil, or_false]
      rcases hp with h | h | h | h | h | h | h | h <;> simp only [h, true_or, or_true]
    have hmB : (NB, listOf nv.toArray k) ∈ [(NB, listOf nv.toArray k)] := .head _
    have hrl : ∀ p ∈ [(NB, listOf nv.toArray k)], L + 1 + 1 + 1 + 1 + 1 < p.1 := fun p hp => by rw [List.mem_singleton.mp hp]; exact hlz.1
    generalize [(NB, listOf nv.toArray k)] = rest at N4 hmB hrl
    replace F4 := frOv F4 hA4
    have q3 := off3 hrl
    have q2 := off2 hrl
    rename_i z1 _
    clear aS m h63 z1 D2 w2 F2 lD2 hxs nv0 hnv0 N3 hlz off ab ab2 hxl
    k_steps
    rename Fr g0 L _ _ => F5
    rename News g0 L _ _ => N5
    rename_i h5a c2' d2' h5b c3' d3'
    subst htot
    exact next _ _ _ ct c2' c3' NB nv k rest _ _ _ F5 ⟨rfl, trivial⟩ N5 hrl hmB hnv dt d2' d3'
end Mine
end
section
open PySem PySem.W PySem.Calls PyProof.Rows PyProof.Rows.LCg
set_option maxRecDepth 100000
set_option maxHeartbeats 1000000
namespace Mine
local macro_rules | `(tactic| walk_at $s:str) => Mine.stopAt ["call ref", "eval ListComp", "exec Assign cons ListComp", "pyIter ref", "compareOp NotEq ref ref"] s
theorem law_B (w : World) (g0 : Heap) (L : Nat) (fa : Addr) (nums : List Int) (p : Program) (loose : List Str) (mean : ExcName → Option Value) (mg mb : Str → Option Value) (h : Heap) (tk : Nat) (s : Shared) (m : Str → Option Value) (c1 c2 c3 c4 c5 : Obj)
    (NB : Addr) (nv : List Value) (k : Nat) (rest : Led)
    (X1 : (hd.heap_1 w.params).In g0) (T1 : Top p loose mean mg mb g0) (B1 : Below callerA g0 [] g0) (F1 : Fr g0 L h m) (hA : AllAre m [(Str.ofString "numbers", .ref NB)])
    (N1 : News g0 L h (lawLed L c5 c4 c3 c2 c1 #[] #[] rest)) (hrl : ∀ p ∈ rest, L + 1 + 1 + 1 + 1 + 1 < p.1) (hmB : (NB, listOf nv.toArray k) ∈ rest) (hnv : Two IsI nv nums)
    (d4 : c4.data = .cell none) (l222 : 222 < L ∧ 229 < L) (hlen : nums.length < 10) (hnr : ∀ n ∈ nums, 0 ≤ n ∧ n < 16777216)
    (hlab : ∀ r ∈ nums.map figs, nameL r ≠ Str.ofString "<string>") (hxl : ∀ r ∈ nums.map figs, ∀ k, (nameL (r.take k)).length < 100) (hf64 : ∀ r ∈ nums.map figs, r.length = 4 ∧ ∀ n ∈ r, 0 ≤ n ∧ n < 64)
    (hsame : (nums.map figs).map (sortsRow (nums.map figs)) = nums.map (alikeRow nums))
    {Q : Flow → Shared → Prop} {QE : Value → Shared → Prop}
    (next : ∀ h' tk' m' c4 aR vR kR vS rest', Fr g0 L h' m' → AllAre m' [(Str.ofString "numbers", .ref NB), (Str.ofString "rows", .ref aR)] → News g0 L h' (lawLed L c5 c4 c3 c2 c1 #[] #[] rest') → (∀ p ∈ rest', L + 1 + 1 + 1 + 1 + 1 < p.1) → (∀ p ∈ rest, p ∈ rest') →
      (aR, listOf vR.toArray kR) ∈ rest' → Two (LI rest') vR (nums.map figs) → c4.data = .cell (some vS) → LILL rest' vS (nums.map (alikeRow nums)) → Q .next { s with heap := h', toks := tk' }) :
    wpAny (model PG w) (callerA.deeper (lawEnv L fa)) (execs ((Mine2.lawD.body.drop 5).take 3) (lawEnv L fa)) Q (fun e s' => wpAny (model PG w) (callerA.deeper (lawEnv L fa)) (leaving (lawEnv L fa) e) (fun _ s'' => QE e s'') (fun e' s'' => QE e' s'') s') { s with heap := h, toks := tk } := by
  unfold PG lawEnv
  conv => pattern (Mine2.lawD.body); whnf
  simp only [List.drop_succ_cons, List.drop_zero, List.take_succ_cons, List.take_zero]
  conv => pattern (occs := *) (Mine2.lawD.scope); all_goals whnf
  revert X1
  w_top off
  k_fill
  intro X1
  refine noE ?_
  replace F1 := frOv F1 hA
  have hvl := hnv.len
  k_steps
  refine Stop.mk ?_
  refine Assign_ListComp_G (hs := by intro _; rfl) F1 rfl (by with_unfolding_all rfl) (by with_unfolding_all rfl) (by decide) (by rfl) (by decide) (by with_unfolding_all rfl) (by with_unfolding_all rfl) ?_
  k_steps
  refine Stop.mk ?_
  refine src_list (hh := by rfl) (hkind := by rfl) (hx := by rfl) (its := nv) (k := k) _ F1 N1 (.tail _ (.tail _ (.tail _ (.tail _ (.tail _ (.tail _ (.tail _ hmB))))))) (fit9 (by omega)) (JT.nil rfl) (turn_mapT nums (fun vals n => ∃ v, vals = [v] ∧ IsI v n) figs LI (fun _ _ _ _ hp => LI.mono hp) (fun i vals _ ⟨v, e, hv⟩ => let ⟨n, hn, hr⟩ := hnv.get hv; ⟨n, hn, v, e, hr⟩) ?_) ?_
  · rintro n vals hn qG1 h8 tk8 rest8 C8 oC8 m8 E8 hs8 hmC8 hC8 F8 N8
    refine hideG fun gG hG => ?_
    obtain ⟨v, rfl, t, rfl⟩ := qG1
    refine hG ?_
    try clear hG gG
    have hx : putAll [Str.ofString "number"] [.int n t] m8 (Str.ofString "number") = some (.int n t) := rfl
    generalize putAll [Str.ofString "number"] [.int n t] m8 = m9 at hC8 hx
    have hnn := hnr n hn
    clear nums c1 c2 c3 c4 c5 nv k rest hA N1 hrl hmB hnv d4 l222 hlen hnr hlab hxl hf64 hsame Q QE next F1 hvl hn m8 hs8
    k_steps
    refine Stop.mk ?_
    refine Fn.use (law_figures_spec w n t rest8 hnn.1 hnn.2) B1 F8 X1 N8 T1 rfl (by decide) (by decide) ?_
    rintro r news' h' tk' F5 N5 qG2
    refine hideG fun gG hG => ?_
    obtain ⟨D, ys, rfl, rfl, hys, hlD⟩ := qG2
    refine hG ?_
    try clear hG gG
    exact EE.mk [(D, lst ys)] F5 N5 (fun p hp => hp) (fun q hq p hp => by rw [List.mem_singleton.mp hp]; exact hlD q hq) ⟨D, ys, _, rfl, .head _, hys⟩
  · intro D h9 tk9 ys nw F9 N9 o1 hlt ⟨tl9, e, ab, hj⟩
    have hj : Two (LI tl9) ys (nums.map figs) := by simpa [hvl] using hj
    subst e
    have N10 : News g0 L h9 (lawLed L c5 c4 c3 c2 c1 #[] #[] ((D, lst ys) :: (tl9 ++ rest))) := News.less N9 fun p hp => by
      refine subE ?_ _ hp
      walk_at "sub"
    have hD5 : L + 1 + 1 + 1 + 1 + 1 < D := hlt _ (.head _)
    have hrl2 : ∀ p ∈ (D, lst ys) :: (tl9 ++ rest), L + 1 + 1 + 1 + 1 + 1 < p.1 := fun p hp => by
      rcases List.mem_cons.mp hp with rfl | hp
      · exact hD5
      · rcases List.mem_append.mp hp with hp | hp
        · exact ab _ (.head _) p hp
        · exact hrl p hp
    have hmR : (D, lst ys) ∈ (D, lst ys) :: (tl9 ++ rest) := .head _
    have hiR : Two (LI ((D, lst ys) :: (tl9 ++ rest))) ys (nums.map figs) := hj.imp fun v b => LI.mono fun p hp => .tail _ (List.mem_append_left _ hp)
    have hsb : ∀ p ∈ rest, p ∈ (D, lst ys) :: (tl9 ++ rest) := fun p hp => .tail _ (List.mem_append_right _ hp)
    have hmB2 := hsb _ hmB
    generalize (D, lst ys) :: (tl9 ++ rest) = r2 at N10 hrl2 hmR hiR hsb hmB2
    have q4 := off4 hrl2
    rename_i z1
    clear N1 hrl hmB QE F1 hlt tl9 ab z1 hj N9 o1 hD5
    k_steps
    refine Stop.mk ?_
    have hup : ∀ p ∈ r2, p ∈ lawLed L c5 c4 c3 c2 c1 #[] #[] r2 := fun p hp => .tail _ (.tail _ (.tail _ (.tail _ (.tail _ (.tail _ (.tail _ hp))))))
    refine Fn.use (law_sorts_spec w D ys (nums.map figs) _ _ (hup _ hmR) (hiR.imp fun v b => LI.mono hup) hf64 (by rw [List.length_map]; exact hlen) hlab hxl) B1 (by k_asm) X1 N10 T1 rfl (by decide) (by decide) ?_
    rintro r news' h11 tk11 F11 N11 qG3
    refine hideG fun gG hG => ?_
    obtain ⟨tl11, rfl, ab11, hS⟩ := qG3
    refine hG ?_
    try clear hG gG
    with_reducible refine k_flat (s := s) ?_
    intro tkF
    have N12 : News g0 L h11 (lawLed L c5 c4 c3 c2 c1 #[] #[] (tl11 ++ r2)) := News.less N11 fun p hp => by
      refine subE ?_ _ hp
      walk_at "sub"
    have hrl3 : ∀ p ∈ tl11 ++ r2, L + 1 + 1 + 1 + 1 + 1 < p.1 := fun p hp => by
      rcases List.mem_append.mp hp with hp | hp
      · exact ab11 _ (.head _) p hp
      · exact hrl2 p hp
    have hs3 : ∀ p ∈ r2, p ∈ tl11 ++ r2 := fun p hp => List.mem_append_right _ hp
    have hS3 : LILL (tl11 ++ r2) r ((nums.map figs).map (sortsRow (nums.map figs))) := hS.mono fun p hp => List.mem_append_left _ hp
    have hmR3 := hs3 _ hmR
    have hiR3 := hiR.imp fun v b => LI.mono hs3
    have hmB3 := hs3 _ hmB2
    have hsb3 : ∀ p ∈ rest, p ∈ tl11 ++ r2 := fun p hp => hs3 p (hsb p hp)
    generalize tl11 ++ r2 = r3 at N12 hrl3 hS3 hmR3 hiR3 hmB3 hsb3
    rw [hsame] at hS3
    have q4 := off4 hrl3
    rename_i z1
    clear h tk hlab hxl hf64 hsame h9 tk9 F9 r2 N10 hrl2 hmR hiR hsb hmB2 z1 hup tk11 tl11 N11 ab11 hS hs3
    k_steps
    refine Stop.mk ?_
    clear q4
    rename Fr g0 L _ _ => F13
    rename News g0 L _ _ => N13
    rename_i h13 c4' d4'
    have hup : ∀ p ∈ r3, p ∈ lawLed L c5 c4' c3 c2 c1 #[] #[] r3 := fun p hp => .tail _ (.tail _ (.tail _ (.tail _ (.tail _ (.tail _ (.tail _ hp))))))
    refine Fn.use (law_alike_spec w NB nv nums _ _ (hup _ hmB3) hnv hnr (by omega)) B1 F13 X1 N13 T1 rfl (by decide) (by decide) ?_
    rintro r' news' h14 tk14 F14 N14 qG4
    refine hideG fun gG hG => ?_
    obtain ⟨tl14, rfl, ab14, hS'⟩ := qG4
    refine hG ?_
    try clear hG gG
    with_reducible refine k_flat (s := s) ?_
    intro tkF
    refine hideG fun gG hG => ?_
    obtain ⟨l1, v1, k1, rfl, hm1, hi1⟩ := hS3
    obtain ⟨l2, v2, k2, rfl, hm2, hi2⟩ := hS'
    refine hG ?_
    try clear hG gG
    k_steps
    refine Stop.mk ?_
    refine ne_alike N14 (List.mem_append_right _ (hup _ hm1)) (List.mem_append_left _ hm2) hi1 hi2 (show 7 < cLine by decide) (fun x y a hx hy => eq_LIL N14 (hx.mono fun p hp => List.mem_append_right _ (hup p hp)) (hy.mono fun p hp => List.mem_append_left _ hp) (show 7 + 1 + 1 < cLine by decide)) ?_
    k_steps
    refine next _ _ _ c4' D ys _ (.ref l1) r3 (by assumption) ⟨rfl, rfl, trivial⟩ (News.less N14 fun p hp => List.mem_append_right _ hp) hrl3 hsb3 hmR3 hiR3 d4' ⟨l1, v1, k1, rfl, hm1, hi1⟩
end Mine
end
section
open PySem PySem.W PySem.Calls PyProof.Rows PyProof.Rows.LCg
set_option maxRecDepth 100000
set_option maxHeartbeats 8000000
namespace Mine
section
variable {prog : Program} {w : World} {A : Around} {E : Value → Shared → Prop} {s : Shared} {h₀ : Heap} {L : Addr} {m : Str → Option Value} {env : Env} {elt : Expr} {ifs : List Expr} {scope : Scope} {cl : List (Str × Addr)} {mD : Addr → Str → Option Value} {Q : Addr → Shared → Prop} {news : Led}
theorem src_zip2 {p1 p2 : Str × Pos} {ctx : Nat} {tp : Pos} {l1 l2 : Addr} {k1 k2 : Nat} {xs ys : List Value} {g : Heap} {t : Nat} (J : Nat → List Value → Led → Prop) (F : Fr h₀ L g m) (N : News h₀ L g news)
    (hm1 : (l1, listOf xs.toArray k1) ∈ news) (hm2 : (l2, listOf ys.toArray k2) ∈ news) (hz : xs.length = ys.length) (hsz : xs.length ≤ sizeLine) (hJ : J 0 [] news)
    (turn : ∀ bad, Turn prog w A h₀ L m elt ifs scope cl env [p1.1, p2.1] s bad xs.length (fun i vals => ∃ x y, xs[i]? = some x ∧ ys[i]? = some y ∧ vals = [x, y]) J)
    (fin : ∀ D h tk zs nw, Fr h₀ L h (mD D) → News h₀ L h ((D, lst zs) :: nw) → (∀ p ∈ nw, p.1 ≠ D) → (∀ p ∈ news, p.1 < D) → J xs.length zs nw → Q D { s with heap := h, toks := tk })
    (hh : A.handled = none) (hkind : scope.kind = .function) (hx1 : scope.names.lookup p1.1 = some .local) (hx2 : scope.names.lookup p2.1 = some .local) :
    wpAny (model prog w) A (call (.type "zip") [.ref l1, .ref l2]) (fun xv s₁ => wpAny (model prog w) A (pyIter xv) (SrcOf prog w A h₀ L m elt (.Tuple ([p1, p2].map nmE) ctx tp) ifs scope cl env s mD Q) E s₁) E { s with heap := g, toks := t } := by
  have z1 := N _ hm1
  have z2 := N _ hm2
  have q1 : l1 < g.objs.size := Heap.lt_size z1.1
  have q2 : l2 < g.objs.size := Heap.lt_size z2.1
  have hL : L < g.objs.size := F.ns.lt
  refine call_zip_2 (xs := xs.toArray) (ys := ys.toArray) ⟨_, z1.1, rfl, _, rfl⟩ ⟨_, z2.1, rfl, _, rfl⟩ fun h' hz' hTI hTO h1 h2 _ hk => ?_
  refine wpAny_pyIter_zip hz' ?_
  have D : ZipApart (g.objs.size + 4) (g.objs.size + 2) (g.objs.size + 3) g.objs.size (g.objs.size + 1) l1 l2 := by
    constructor <;> first | exact Nat.ne_of_lt (ltk q1) | exact Nat.ne_of_lt (ltk q2) | exact Nat.ne_of_lt q1 | exact Nat.ne_of_lt q2 | exact Nat.ne_of_lt (by lia) | exact Nat.ne_of_gt (by lia)
  have F' : Fr h₀ L h' m := F.keeps hk
  have N' : News h₀ L h' news := N.grown hk
  have fresh : ∀ b, g.objs.size ≤ b → h₀.get? b = none := fun b hb => Heap.get?_none_of_le (Nat.le_trans F.above (Nat.le_trans (Nat.le_of_lt hL) hb))
  have W := (WalksT.zip2 (prog := prog) (w := w) (A := A) hh _ _ _ _ _ _ _ D xs.toArray ys.toArray).toU
  have hn : min xs.toArray.size ys.toArray.size = xs.length := by simp [hz]
  rw [hn] at W
  have has : ∀ (i : Nat) (h : Heap), (IsZip h (g.objs.size + 4) (g.objs.size + 2) (g.objs.size + 3) .none ∧ IsPair h (g.objs.size + 2) (.ref g.objs.size) (.ref (g.objs.size + 1)) ∧ (∃ a b, IsPair h (g.objs.size + 3) a b) ∧ h.IsListIter g.objs.size l1 i ∧ h.IsListIter (g.objs.size + 1) l2 i ∧ h.IsList l1 xs.toArray ∧ h.IsList l2 ys.toArray) →
      ∀ b ∈ [g.objs.size + 4, g.objs.size + 2, g.objs.size + 3, g.objs.size, g.objs.size + 1, l1, l2], ∃ o, h.get? b = some o := by
    rintro i h qG1 b hb
    refine hideG fun gG hG => ?_
    obtain ⟨a1, a2, ⟨a, b, a3⟩, ⟨o4, a4, _⟩, ⟨o5, a5, _⟩, ⟨o6, a6, _⟩, ⟨o7, a7, _⟩⟩ := qG1
    refine hG ?_
    try clear hG gG
    simp only [List.mem_cons, List.not_mem_nil, or_false] at hb
    rcases hb with rfl | rfl | rfl | rfl | rfl | rfl | rfl
    · exact ⟨_, a1⟩
    · exact ⟨_, a2⟩
    · exact ⟨_, a3⟩
    · exact ⟨_, a4⟩
    · exact ⟨_, a5⟩
    · exact ⟨_, a6⟩
    · exact ⟨_, a7⟩
  refine ⟨_, [g.objs.size + 4, g.objs.size + 2, g.objs.size + 3, g.objs.size, g.objs.size + 1, l1, l2], [g.objs.size + 4, g.objs.size + 3, g.objs.size, g.objs.size + 1], xs.length, _, _, fun _ => True, news, J, _, h', t, [g.objs.size + 2, l1, l2], ?_, rfl, rfl,
    draw_U (ps := [p1, p2]) hh hkind ?_ (fun _ => rfl) (fun _ => rfl) W ?_ has (fun _ _ _ _ => trivial) (fun s Q E hst hQ => W.done s Q E hst fun h' tk hk => hQ h' tk hk trivial), hsz, ?_, ?_, F', N', ?_, hJ, ?_, fun D h tk zs nw F N o1 lt _ hj => fin D h tk zs nw F N o1 lt hj⟩
  · intro b hb; simp only [List.mem_cons, List.not_mem_nil, or_false] at hb ⊢; rcases hb with h | h | h | h | h | h | h <;> simp [h]
  · intro p hp; simp only [List.mem_cons, List.not_mem_nil, or_false] at hp; rcases hp with rfl | rfl
    · exact hx1
    · exact hx2
  · rintro i vals ⟨x, y, _, _, rfl⟩; rfl
  · exact ⟨hz', hTI, ⟨_, _, hTO⟩, h1, h2, ⟨_, (N' _ hm1).1, rfl, _, rfl⟩, ⟨_, (N' _ hm2).1, rfl, _, rfl⟩⟩
  · intro b hb
    simp only [List.mem_cons, List.not_mem_nil, or_false] at hb
    rcases hb with rfl | rfl | rfl | rfl | rfl | rfl | rfl
    · exact ⟨fresh _ (Nat.le_add_right _ _), Nat.ne_of_gt (ltk hL)⟩
    · exact ⟨fresh _ (Nat.le_add_right _ _), Nat.ne_of_gt (ltk hL)⟩
    · exact ⟨fresh _ (Nat.le_add_right _ _), Nat.ne_of_gt (ltk hL)⟩
    · exact ⟨fresh _ (Nat.le_refl _), Nat.ne_of_gt hL⟩
    · exact ⟨fresh _ (Nat.le_add_right _ _), Nat.ne_of_gt (ltk hL)⟩
    · exact ⟨z1.2.2, z1.2.1⟩
    · exact ⟨z2.2.2, z2.2.1⟩
  · intro p hp q
    have hlt : p.1 < g.objs.size := Heap.lt_size (N p hp).1
    simp only [List.mem_cons, List.not_mem_nil, or_false] at q
    rcases q with q | q | q | q
    · exact Nat.ne_of_lt (ltk hlt) q
    · exact Nat.ne_of_lt (ltk hlt) q
    · exact Nat.ne_of_lt hlt q
    · exact Nat.ne_of_lt (ltk hlt) q
  · have ht := turn [g.objs.size + 2, l1, l2]
    have e : (fun (i : Nat) (vals : List Value) => ∃ x y, xs[i]? = some x ∧ ys[i]? = some y ∧ vals = [x, y]) = (fun i vals => ∃ x y, xs.toArray[i]? = some x ∧ ys.toArray[i]? = some y ∧ vals.toArray = #[x, y]) := by
      funext i vals
      apply propext
      constructor
      · rintro ⟨x, y, a1, a2, rfl⟩; exact ⟨x, y, by simpa using a1, by simpa using a2, rfl⟩
      · rintro ⟨x, y, a1, a2, a3⟩; exact ⟨x, y, by simpa using a1, by simpa using a2, by simpa using a3⟩
    rw [← e]
    exact ht
theorem src_enum {p1 p2 : Str × Pos} {ctx : Nat} {tp : Pos} {l : Addr} {k : Nat} {xs : List Value} {g : Heap} {t : Nat} (J : Nat → List Value → Led → Prop) (F : Fr h₀ L g m) (N : News h₀ L g news)
    (hm : (l, listOf xs.toArray k) ∈ news) (hsz : xs.length ≤ sizeLine) (hJ : J 0 [] news)
    (turn : ∀ bad, Turn prog w A h₀ L m elt ifs scope cl env [p1.1, p2.1] s bad xs.length (fun i vals => ∃ t x, xs[i]? = some x ∧ vals = [.int i t, x]) J)
    (fin : ∀ D h tk zs nw, Fr h₀ L h (mD D) → News h₀ L h ((D, lst zs) :: nw) → (∀ p ∈ nw, p.1 ≠ D) → (∀ p ∈ news, p.1 < D) → J xs.length zs nw → Q D { s with heap := h, toks := tk })
    (hh : A.handled = none) (hkind : scope.kind = .function) (hx1 : scope.names.lookup p1.1 = some .local) (hx2 : scope.names.lookup p2.1 = some .local) :
    wpAny (model prog w) A (call (.type "enumerate") [.ref l]) (fun xv s₁ => wpAny (model prog w) A (pyIter xv) (SrcOf prog w A h₀ L m elt (.Tuple ([p1, p2].map nmE) ctx tp) ifs scope cl env s mD Q) E s₁) E { s with heap := g, toks := t } := by
  have z := N _ hm
  have q1 : l < g.objs.size := Heap.lt_size z.1
  have hL : L < g.objs.size := F.ns.lt
  refine call_enumerate_list (items := xs.toArray) ⟨_, z.1, rfl, _, rfl⟩ fun h' he hit _ hk => ?_
  refine wpAny_pyIter_enum he ?_
  have F' : Fr h₀ L h' m := F.keeps hk
  have N' : News h₀ L h' news := N.grown hk
  have fresh : ∀ b, g.objs.size ≤ b → h₀.get? b = none := fun b hb => Heap.get?_none_of_le (Nat.le_trans F.above (Nat.le_trans (Nat.le_of_lt hL) hb))
  have W := (WalksT.enumerate (prog := prog) (w := w) (A := A) hh (g.objs.size + 1) g.objs.size l (Nat.ne_of_gt (Nat.lt_succ_self _)) (Nat.ne_of_lt (ltk q1)) (Nat.ne_of_lt q1) xs.toArray).toU
  have hn : xs.toArray.size = xs.length := by simp
  rw [hn] at W
  refine ⟨_, [g.objs.size + 1, g.objs.size, l], [g.objs.size + 1, g.objs.size], xs.length, _, _, fun _ => True, news, J, _, h', t, [l], ?_, rfl, rfl,
    draw_U (ps := [p1, p2]) hh hkind ?_ (fun _ => rfl) (fun _ => rfl) W ?_ ?_ (fun _ _ _ _ => trivial) (fun s Q E hst hQ => W.done s Q E hst fun h' tk hk => hQ h' tk hk trivial), hsz, ?_, ?_, F', N', ?_, hJ, ?_, fun D h tk zs nw F N o1 lt _ hj => fin D h tk zs nw F N o1 lt hj⟩
  · intro b hb; simp only [List.mem_cons, List.not_mem_nil, or_false] at hb ⊢; rcases hb with h | h | h <;> simp [h]
  · intro p hp; simp only [List.mem_cons, List.not_mem_nil, or_false] at hp; rcases hp with rfl | rfl
    · exact hx1
    · exact hx2
  · rintro i vals ⟨x, y, _, rfl⟩; rfl
  · rintro i h qG2 b hb
    refine hideG fun gG hG => ?_
    obtain ⟨⟨old, a1⟩, ⟨o2, a2, _⟩, ⟨o3, a3, _⟩⟩ := qG2
    refine hG ?_
    try clear hG gG
    simp only [List.mem_cons, List.not_mem_nil, or_false] at hb
    rcases hb with rfl | rfl | rfl
    · exact ⟨_, a1⟩
    · exact ⟨_, a2⟩
    · exact ⟨_, a3⟩
  · exact ⟨⟨_, he⟩, hit, ⟨_, (N' _ hm).1, rfl, _, rfl⟩⟩
  · intro b hb
    simp only [List.mem_cons, List.not_mem_nil, or_false] at hb
    rcases hb with rfl | rfl | rfl
    · exact ⟨fresh _ (Nat.le_add_right _ _), Nat.ne_of_gt (ltk hL)⟩
    · exact ⟨fresh _ (Nat.le_refl _), Nat.ne_of_gt hL⟩
    · exact ⟨z.2.2, z.2.1⟩
  · intro p hp q
    have hlt : p.1 < g.objs.size := Heap.lt_size (N p hp).1
    simp only [List.mem_cons, List.not_mem_nil, or_false] at q
    rcases q with q | q
    · exact Nat.ne_of_lt (ltk hlt) q
    · exact Nat.ne_of_lt hlt q
  · have ht := turn [l]
    have e : (fun (i : Nat) (vals : List Value) => ∃ t x, xs[i]? = some x ∧ vals = [.int i t, x]) = (fun i vals => ∃ t x, xs.toArray[i]? = some x ∧ vals.toArray = #[.int i t, x]) := by
      funext i vals
      apply propext
      constructor
      · rintro ⟨t, x, a1, rfl⟩; exact ⟨t, x, by simpa using a1, rfl⟩
      · rintro ⟨t, x, a1, a2⟩; exact ⟨t, x, by simpa using a1, by simpa using a2⟩
    rw [← e]
    exact ht
end
end Mine
end
section
open PySem PySem.W PySem.Calls PyProof.Rows PyProof.Rows.LCg
set_option maxRecDepth 100000
namespace Mine
theorem two_zip {α : Type} {R : Value → α → Prop} : ∀ {vs : List Value} {xs : List α}, Two R vs xs → (vs.zip xs).map Prod.fst = vs ∧ (vs.zip xs).map Prod.snd = xs ∧ ∀ p ∈ vs.zip xs, R p.1 p.2
 := by
  intro vs xs h
  induction h with
  | nil => exact ⟨rfl, rfl, fun _ h => by cases h⟩
  | @cons v x vs xs h t ih =>
    refine hideG fun gG hG => ?_
    obtain ⟨h1, h2, h3⟩ := ih
    refine hG ?_
    try clear hG gG
    refine ⟨congrArg (v :: ·) h1, congrArg (x :: ·) h2, fun p hp => ?_⟩
    rcases List.mem_cons.mp hp with rfl | hp
    · exact h
    · exact h3 p hp
theorem zip_two {α : Type} {R : Value → α → Prop} : ∀ {l : List (Value × α)}, (∀ p ∈ l, R p.1 p.2) → Two R (l.map Prod.fst) (l.map Prod.snd)
  | [], _ => .nil
  | p :: r, h => .cons (h p (.head _)) (zip_two fun q hq => h q (.tail _ hq))
section
variable {prog : Program} {w : World} {A : Around} {E : Value → Shared → Prop} {s : Shared} {h₀ : Heap} {L l : Addr} {m : Str → Option Value} {news : Led} {vs : List Value} {xs : List (List Int)} {n : Nat}
theorem sortedT_at {Q : Value → Shared → Prop} (F : Fr h₀ L s.heap m) (N : News h₀ L s.heap news) (hm : (l, listOf vs.toArray n) ∈ news) (hi : Two (IT news) vs xs) (hne : ∀ x ∈ xs, x ≠ []) (h2 : 2 ≤ vs.length) (h64 : vs.length < 64)
    (h : ∀ D h' n' ys, Two (IT news) ys (sortBy lexI xs) → Fr h₀ L h' m → News h₀ L h' ((D, listOf ys.toArray n') :: news) → (∀ p ∈ news, p.1 < D) → Q (.ref D) { s with heap := h' }) :
    wpAny (model prog w) A (call (.builtin "sorted") [.ref l]) Q E s := by
  refine hideG fun gG hG => ?_
  obtain ⟨z1, z2, z3⟩ := two_zip hi
  refine hG ?_
  try clear hG gG
  refine kat_sorted (vs := vs) F N ⟨_, (N _ hm).1, rfl, _, rfl⟩ h2 h64 fun D e1 h' F' N' l1 => ?_
  have Nn : News h₀ L h' news := fun p hp => N' p (.tail _ hp)
  have hoD : ∀ p ∈ news, p.1 ≠ D := fun p hp => Nat.ne_of_lt (l1 p hp)
  refine kind_ints (s := { s with heap := h' }) Nn hi hne (by lia) ?_
  have hlen : (vs.zip xs).length = vs.length := by have := congrArg List.length z1; simpa using this
  rw [← hlen]
  have hask := sort_ask (prog := prog) (w := w) (A := A.in1.in1) (s := { s with heap := h' }) (κ := tuples' true) (val := Prod.fst) (lt := fun a b : Value × List Int => lexI a.2 b.2) (its := vs.zip xs)
    (G := fun p s'' => KasFin h₀ L m D e1 (p.toList.map fun i => vs.getD i Value.none) (fun s3 => Q (.ref D) s3) s'') (by lia) (fun x hx y hy C hC => klt_ints (s := { s with heap := h' }) Nn (z3 x hx) (z3 y hy) hC)
  rw [z1] at hask
  refine hask ?_
  have ho := sort_outs (val := Prod.fst) (lt := fun a b : Value × List Int => lexI a.2 b.2) (its := vs.zip xs)
  rw [z1] at ho
  refine ⟨_, _, F', N', UpdF.head hoD, fun h2 c2 F2 N2 => ?_⟩
  refine h D h2 c2 _ ?_ F2 N2 l1
  rw [ho, ← z2, sortBy_map (fun a b : Value × List Int => lexI a.2 b.2) Prod.snd rfl lexI (fun _ _ => rfl), z2]
  exact zip_two fun p hp => z3 p ((sortBy_perm _).mem_iff.mp hp)
end
end Mine
end
section
open PySem PySem.W PySem.Calls PyProof.Rows PyProof.Rows.LCg
set_option maxRecDepth 100000
set_option maxHeartbeats 1000000
namespace Mine
local macro_rules | `(tactic| walk_at "mine") => `(tactic| skip)
local macro_rules | `(tactic| walk_at $s:str) => Mine.stopAt ["call ref", "eval ListComp", "exec Assign cons ListComp", "pyIter ref", "call type:zip", "call type:enumerate", "call builtin:sorted"] s
noncomputable def farRow (aim : Int) (r : List Int) : List Int := (r.zip (figs aim)).map fun q => Builtin.bitXor q.1 q.2
theorem IT_fun {news : Led} {ys : List Value} {xs : List (List Int)} (h : Two (IT news) ys xs) : ∃ (Ts : Nat → Addr) (V : Nat → List Value), ∀ i v, ys[i]? = some v → v = .ref (Ts i) ∧ (∃ k, (Ts i, tupO (V i) k) ∈ news) ∧ ∃ x, xs[i]? = some x ∧ Two IsI (V i) x := by
  have h1 : ∀ i : Nat, ∃ q : Addr × List Value, ∀ v, ys[i]? = some v → v = .ref q.1 ∧ (∃ k, (q.1, tupO q.2 k) ∈ news) ∧ ∃ x, xs[i]? = some x ∧ Two IsI q.2 x := fun i => by
    cases hv : ys[i]? with
    | none => exact ⟨(0, []), fun v e => nomatch e⟩
    | some v =>
      refine hideG fun gG hG => ?_
      obtain ⟨x, hx, l, va, k, rfl, hm, hi⟩ := h.get hv
      refine hG ?_
      try clear hG gG
      exact ⟨(l, va), fun v e => by cases e; exact ⟨rfl, ⟨k, hm⟩, x, hx, hi⟩⟩
  obtain ⟨f, hf⟩ := Classical.axiomOfChoice h1
  exact ⟨fun i => (f i).1, fun i => (f i).2, hf⟩
/-- what is sorted for the order -/
noncomputable def ordIn (aim : Int) (nums : List Int) : List (List Int) := (List.range nums.length).map fun i => [Builtin.bitXor (nums.getD i 0) aim, (i : Int)]
theorem law_C (w : World) (g0 : Heap) (L : Nat) (fa : Addr) (nums : List Int) (aim : Int) (p : Program) (loose : List Str) (mean : ExcName → Option Value) (mg mb : Str → Option Value) (h : Heap) (tk : Nat) (s : Shared) (m : Str → Option Value) (c1 c2 c3 c4 c5 : Obj) (ta : Tok)
    (NB aR : Addr) (nv vR : List Value) (k kR : Nat) (rest : Led)
    (X1 : (hd.heap_1 w.params).In g0) (T1 : Top p loose mean mg mb g0) (B1 : Below callerA g0 [] g0) (F1 : Fr g0 L h m) (hA : AllAre m [(Str.ofString "numbers", .ref NB), (Str.ofString "rows", .ref aR)])
    (N1 : News g0 L h (lawLed L c5 c4 c3 c2 c1 #[] #[] rest)) (hrl : ∀ p ∈ rest, L + 1 + 1 + 1 + 1 + 1 < p.1) (hmB : (NB, listOf nv.toArray k) ∈ rest) (hnv : Two IsI nv nums) (hmR : (aR, listOf vR.toArray kR) ∈ rest) (hiR : Two (LI rest) vR (nums.map figs))
    (d2 : c2.data = .cell (some (.int aim ta))) (d5 : c5.data = .cell none) (l222 : 222 < L ∧ 229 < L) (hlen : nums.length < 10) (hl2 : 2 ≤ nums.length) (hnr : ∀ n ∈ nums, 0 ≤ n ∧ n < 16777216) (haim : 0 ≤ aim ∧ aim < 16777216)
    {Q : Flow → Shared → Prop} {QE : Value → Shared → Prop}
    (next : ∀ h' tk' m' c5 aO vO kO aF vF kF rest', Fr g0 L h' m' → AllAre m' [(Str.ofString "numbers", .ref NB), (Str.ofString "order", .ref aO)] → News g0 L h' (lawLed L c5 c4 c3 c2 c1 #[] #[] rest') → (∀ p ∈ rest', L + 1 + 1 + 1 + 1 + 1 < p.1) → (∀ p ∈ rest, p ∈ rest') →
      c5.data = .cell (some (.ref aF)) → (aF, listOf vF.toArray kF) ∈ rest' → Two (LI rest') vF ((nums.map figs).map (farRow aim)) → (aO, listOf vO.toArray kO) ∈ rest' → Two IsI vO ((sortBy lexI (ordIn aim nums)).map fun x => x.getD 1 0) → Q .next { s with heap := h', toks := tk' }) :
    wpAny (model PG w) (callerA.deeper (lawEnv L fa)) (execs ((Mine2.lawD.body.drop 8).take 2) (lawEnv L fa)) Q (fun e s' => wpAny (model PG w) (callerA.deeper (lawEnv L fa)) (leaving (lawEnv L fa) e) (fun _ s'' => QE e s'') (fun e' s'' => QE e' s'') s') { s with heap := h, toks := tk } := by
  unfold PG lawEnv
  conv => pattern (Mine2.lawD.body); whnf
  simp only [List.drop_succ_cons, List.drop_zero, List.take_succ_cons, List.take_zero]
  conv => pattern (occs := *) (Mine2.lawD.scope); all_goals whnf
  revert X1
  w_top off
  k_fill
  intro X1
  refine noE ?_
  replace F1 := frOv F1 hA
  have hvl := hnv.len
  have hRl := hiR.len
  rw [List.length_map] at hRl
  k_steps
  refine Stop.mk ?_
  refine wpAny_Assign_Name (hs := by with_unfolding_all rfl) ?_
  refine ListComp_G (hs := by intro _; rfl) F1 (by with_unfolding_all rfl) (by decide) (by rfl) (by decide) ?_
  k_steps
  refine Stop.mk ?_
  have hup : ∀ p ∈ rest, p ∈ lawLed L c5 c4 c3 c2 c1 #[] #[] rest := fun p hp => .tail _ (.tail _ (.tail _ (.tail _ (.tail _ (.tail _ (.tail _ hp))))))
  refine src_list (hh := by rfl) (hkind := by rfl) (hx := by rfl) (its := vR) (k := kR) _ F1 N1 (hup _ hmR) (fit9 (by lia)) (JT.nil rfl) (turn_mapT (nums.map figs) (fun vals r => ∃ v, vals = [v] ∧ LI rest v r) (farRow aim) LI (fun _ _ _ _ hp => LI.mono hp) (fun i vals _ ⟨v, e, hv⟩ => let ⟨n, hn, hr⟩ := hiR.get hv; ⟨n, hn, v, e, hr⟩) ?_) ?_
  · rintro r vals hr qG1 h8 tk8 rest8 C8 oC8 m8 E8 hs8 hmC8 hC8 F8 N8
    refine hideG fun gG hG => ?_
    obtain ⟨v, rfl, ar, vr, kr, rfl, hmr, hir⟩ := qG1
    refine hG ?_
    try clear hG gG
    have hx : putAll [Str.ofString "row"] [.ref ar] m8 (Str.ofString "row") = some (.ref ar) := rfl
    generalize putAll [Str.ofString "row"] [.ref ar] m8 = m9 at hC8 hx
    have hmA8 : (L + 1 + 1, c2) ∈ rest8 := hs8 _ (.tail _ (.tail _ (.tail _ (.head _))))
    have hmr8 : (ar, listOf vr.toArray kr) ∈ rest8 := hs8 _ (hup _ hmr)
    have hrl4 : r.length = 4 := by obtain ⟨n, _, rfl⟩ := List.mem_map.mp hr; rfl
    clear nums c1 c3 c4 c5 nv vR k kR rest hA N1 hrl hmB hnv hmR hiR d5 l222 hlen hl2 hnr Q QE next F1 hvl hRl hup hr m8 hs8 hmr
    k_steps
    refine Stop.mk ?_
    refine ListComp_G (hs := by intro _; rfl) F8 (by with_unfolding_all rfl) (by decide) (by rfl) (by decide) ?_
    k_steps
    refine Stop.mk ?_
    refine Fn.use (law_figures_spec w aim ta rest8 haim.1 haim.2) B1 F8 X1 N8 T1 rfl (by decide) (by decide) ?_
    rintro r2 news' h10 tk10 F10 N10 qG2
    refine hideG fun gG hG => ?_
    obtain ⟨D, ys, rfl, rfl, hys, hlD⟩ := qG2
    refine hG ?_
    try clear hG gG
    with_reducible refine k_flat (s := s) ?_
    intro tkF
    k_steps
    refine Stop.mk ?_
    have hzz : vr.length = ys.length := by rw [hir.len, hys.len, hrl4]; rfl
    refine src_zip2 (hh := by rfl) (hkind := by rfl) (hx1 := by rfl) (hx2 := by rfl) (p1 := (Str.ofString "figure", _)) (p2 := (Str.ofString "other", _)) (xs := vr) (ys := ys) _ F10 N10 (.tail _ hmr8) (.head _) hzz (fit9 (by rw [hir.len, hrl4]; decide)) (JT.nil rfl) (fun bad => turn_mapT (r.zip (figs aim)) (fun vals q => ∃ t u, vals = [.int q.1 t, .int q.2 u]) (fun q => Builtin.bitXor q.1 q.2) (fun _ v b => IsI v b) (fun _ _ _ _ _ h => h) ?_ ?_) ?_
    · rintro i vals hi qG3
      refine hideG fun gG hG => ?_
      obtain ⟨x, y, hx1, hy1, rfl⟩ := qG3
      obtain ⟨a, ha, t, rfl⟩ := hir.get hx1
      obtain ⟨b, hb, u, rfl⟩ := hys.get hy1
      refine hG ?_
      try clear hG gG
      exact ⟨(a, b), by rw [List.getElem?_zip_eq_some]; exact ⟨ha, hb⟩, t, u, rfl⟩
    · rintro qG4 vals hq qG5 h11 tk11 rest11 C11 oC11 m11 E11 hs11 hmC11 hC11 F11 N11
      refine hideG fun gG hG => ?_
      obtain ⟨a, b⟩ := qG4
      obtain ⟨t, u, rfl⟩ := qG5
      refine hG ?_
      try clear hG gG
      have hx1 : putAll [Str.ofString "figure", Str.ofString "other"] [.int a t, .int b u] m11 (Str.ofString "figure") = some (.int a t) := rfl
      have hx2 : putAll [Str.ofString "figure", Str.ofString "other"] [.int a t, .int b u] m11 (Str.ofString "other") = some (.int b u) := rfl
      replace hC11 : NsObj oC11 (putAll [Str.ofString "figure", Str.ofString "other"] [.int a t, .int b u] m11) := hC11
      generalize putAll [Str.ofString "figure", Str.ofString "other"] [.int a t, .int b u] m11 = m12 at hC11 hx1 hx2
      rename_i z1
      clear c2 ta d2 haim rest8 oC8 E8 hmC8 F8 N8 ar vr kr hir m9 hC8 hx hmA8 hmr8 hrl4 z1 qk ek h10 tk10 F10 D ys N10 hys hlD tkF hzz bad m11 hs11
      k_steps
      exact EE.pure F11 N11 ⟨_, rfl⟩
    · intro D2 h9 tk9 zs nw F9 N9 o1 hlt ⟨tl, e, ab, hj⟩
      have hzl : vr.length = (r.zip (figs aim)).length := by rw [hir.len, List.length_zip, hrl4]; rfl
      have hj : Two IsI zs (((r.zip (figs aim)).take vr.length).map fun q => Builtin.bitXor q.1 q.2) := hj
      rw [hzl, List.take_length] at hj
      change Two IsI zs (farRow aim r) at hj
      refine EE.mk [(D2, lst zs)] F9 N9 (fun p hp => ?_) (fun q hq p hp => (List.mem_singleton.mp hp) ▸ hlt q (.tail _ hq)) ⟨D2, zs, _, rfl, .head _, hj⟩
      rcases List.mem_cons.mp hp with rfl | hp
      · exact .head _
      · exact .tail _ (by subst e; exact List.mem_append_right _ (.tail _ hp))
  · intro D h9 tk9 ys nw F9 N9 o1 hlt ⟨tl9, e, ab, hj⟩
    have hvl2 : vR.length = (nums.map figs).length := hiR.len
    have hj : Two (LI tl9) ys (((nums.map figs).take vR.length).map (farRow aim)) := hj
    rw [hvl2, List.take_length] at hj
    subst e
    have N10 : News g0 L h9 (lawLed L c5 c4 c3 c2 c1 #[] #[] ((D, lst ys) :: (tl9 ++ rest))) := News.less N9 fun p hp => by
      refine subE ?_ _ hp
      walk_at "sub"
    have hD5 : L + 1 + 1 + 1 + 1 + 1 < D := hlt _ (.head _)
    have hrl2 : ∀ p ∈ (D, lst ys) :: (tl9 ++ rest), L + 1 + 1 + 1 + 1 + 1 < p.1 := fun p hp => by
      rcases List.mem_cons.mp hp with rfl | hp
      · exact hD5
      · rcases List.mem_append.mp hp with hp | hp
        · exact ab _ (.head _) p hp
        · exact hrl p hp
    have hmF : (D, lst ys) ∈ (D, lst ys) :: (tl9 ++ rest) := .head _
    have hiF : Two (LI ((D, lst ys) :: (tl9 ++ rest))) ys ((nums.map figs).map (farRow aim)) := hj.imp fun v b => LI.mono fun p hp => .tail _ (List.mem_append_left _ hp)
    have hsb : ∀ p ∈ rest, p ∈ (D, lst ys) :: (tl9 ++ rest) := fun p hp => .tail _ (List.mem_append_right _ hp)
    have hmB2 := hsb _ hmB
    generalize (D, lst ys) :: (tl9 ++ rest) = r2 at N10 hrl2 hmF hiF hsb hmB2
    have q5 := off5 hrl2
    rename_i z1
    clear vR kR N1 hrl hmB hmR hiR QE F1 hRl hup hlt tl9 ab z1 hvl2 hj N9 o1 hD5
    k_steps
    clear q5
    refine Stop.mk ?_
    rename Fr g0 L _ _ => F11
    rename News g0 L _ _ => N11
    rename_i h11 c5' d5'
    refine Assign_ListComp_G (hs := by intro _; rfl) F11 rfl (by with_unfolding_all rfl) (by with_unfolding_all rfl) (by decide) (by rfl) (by decide) (by with_unfolding_all rfl) (by with_unfolding_all rfl) ?_
    k_steps
    refine Stop.mk ?_
    refine ListComp_G (hs := by intro _; rfl) F11 (by with_unfolding_all rfl) (by decide) (by rfl) (by decide) ?_
    k_steps
    refine Stop.mk ?_
    have hmB3 : (NB, listOf nv.toArray k) ∈ lawLed L c5' c4 c3 c2 c1 #[] #[] r2 := .tail _ (.tail _ (.tail _ (.tail _ (.tail _ (.tail _ (.tail _ hmB2))))))
    refine src_enum (hh := by rfl) (hkind := by rfl) (hx1 := by rfl) (hx2 := by rfl) (p1 := (Str.ofString "k", _)) (p2 := (Str.ofString "number", _)) (xs := nv) (k := k) _ F11 N11 hmB3 (fit9 (by lia)) (JT.nil rfl) (fun bad => turn_mapT (List.range nums.length) (fun vals i => ∃ t u, vals = [.int (i : Int) t, .int (nums.getD i 0) u]) (fun i => [Builtin.bitXor (nums.getD i 0) aim, (i : Int)]) IT (fun _ _ _ _ hp ⟨l, va, k, e, hm, hi⟩ => ⟨l, va, k, e, hp _ hm, hi⟩) ?_ ?_) ?_
    · rintro i vals hi qG6
      refine hideG fun gG hG => ?_
      obtain ⟨t, x, hx1, rfl⟩ := qG6
      obtain ⟨b, hb, u, rfl⟩ := hnv.get hx1
      refine hG ?_
      try clear hG gG
      exact ⟨i, by rw [List.getElem?_range (by lia)], t, u, by rw [List.getD_eq_getElem?_getD, hb]; rfl⟩
    · rintro i vals hi qG7 h12 tk12 rest12 C12 oC12 m12 E12 hs12 hmC12 hC12 F12 N12
      refine hideG fun gG hG => ?_
      obtain ⟨t, u, rfl⟩ := qG7
      refine hG ?_
      try clear hG gG
      have hb : 0 ≤ nums.getD i 0 ∧ nums.getD i 0 < 16777216 := by
        rw [List.getD_eq_getElem?_getD, List.getElem?_eq_getElem (List.mem_range.mp hi)]
        exact hnr _ (List.getElem_mem _)
      have hx1 : putAll [Str.ofString "k", Str.ofString "number"] [.int (i : Int) t, .int (nums.getD i 0) u] m12 (Str.ofString "k") = some (.int (i : Int) t) := rfl
      have hx2 : putAll [Str.ofString "k", Str.ofString "number"] [.int (i : Int) t, .int (nums.getD i 0) u] m12 (Str.ofString "number") = some (.int (nums.getD i 0) u) := rfl
      replace hC12 : NsObj oC12 (putAll [Str.ofString "k", Str.ofString "number"] [.int (i : Int) t, .int (nums.getD i 0) u] m12) := hC12
      generalize putAll [Str.ofString "k", Str.ofString "number"] [.int (i : Int) t, .int (nums.getD i 0) u] m12 = m13 at hC12 hx1 hx2
      have hmA12 : (L + 1 + 1, c2) ∈ rest12 := hs12 _ (.tail _ (.tail _ (.tail _ (.head _))))
      clear h tk c1 c3 c4 c5 nv k rest hA hnv d5 l222 hlen hl2 hnr Q next hvl D h9 ys r2 hrl2 hmF hiF hsb hmB2 c5' F11 N11 d5' hmB3 bad hi m12 hs12
      k_steps
      refine EE.mk [_] ‹Fr g0 L _ _› ‹News g0 L _ _› (fun p hp => hp) (fun q hq p hp => by rw [List.mem_singleton.mp hp]; exact ‹∀ (p : Addr × Obj), p ∈ rest12 → p.fst < _› q hq) ⟨_, _, _, rfl, .head _, .cons ⟨_, rfl⟩ (.cons ⟨_, rfl⟩ .nil)⟩
    · intro D2 h9 tk9 zs nw F12 N12 o1 hlt ⟨tl9, e, ab, hj⟩
      have hj : Two (IT tl9) zs (((List.range nums.length).take nv.length).map fun i => [Builtin.bitXor (nums.getD i 0) aim, (i : Int)]) := hj
      rw [hvl, List.take_of_length_le (by simp)] at hj
      change Two (IT tl9) zs (ordIn aim nums) at hj
      subst e
      have N13 : News g0 L h9 (lawLed L c5' c4 c3 c2 c1 #[] #[] ((D2, lst zs) :: (tl9 ++ r2))) := News.less N12 fun p hp => by
        refine subE ?_ _ hp
        walk_at "sub"
      have hD5 : L + 1 + 1 + 1 + 1 + 1 < D2 := hlt _ (.head _)
      have hrl3 : ∀ p ∈ (D2, lst zs) :: (tl9 ++ r2), L + 1 + 1 + 1 + 1 + 1 < p.1 := fun p hp => by
        rcases List.mem_cons.mp hp with rfl | hp
        · exact hD5
        · rcases List.mem_append.mp hp with hp | hp
          · exact ab _ (.head _) p hp
          · exact hrl2 p hp
      have hmZ : (D2, lst zs) ∈ (D2, lst zs) :: (tl9 ++ r2) := .head _
      have hiZ : Two (IT ((D2, lst zs) :: (tl9 ++ r2))) zs (ordIn aim nums) := hj.imp fun v b ⟨l, va, k, e, hm, hi⟩ => ⟨l, va, k, e, .tail _ (List.mem_append_left _ hm), hi⟩
      have hsb3 : ∀ p ∈ r2, p ∈ (D2, lst zs) :: (tl9 ++ r2) := fun p hp => .tail _ (List.mem_append_right _ hp)
      generalize (D2, lst zs) :: (tl9 ++ r2) = r3 at N13 hrl3 hmZ hiZ hsb3
      with_reducible refine k_flat (s := s) ?_
      intro tkF
      k_steps
      clear hj N12 o1 hlt ab
      refine Stop.mk ?_
      have ho0 : (ordIn aim nums).length = nums.length := by unfold ordIn; rw [List.length_map, List.length_range]
      have hlz : zs.length = nums.length := by rw [hiZ.len, ho0]
      refine sortedT_at (vs := zs) F12 N13 (.tail _ (.tail _ (.tail _ (.tail _ (.tail _ (.tail _ (.tail _ hmZ))))))) (hiZ.imp fun v b ⟨l, va, k, e, hm, hi⟩ => ⟨l, va, k, e, .tail _ (.tail _ (.tail _ (.tail _ (.tail _ (.tail _ (.tail _ hm)))))), hi⟩) (fun x hx => by obtain ⟨i, _, rfl⟩ := List.mem_map.mp hx; exact List.cons_ne_nil _ _) (by lia) (by lia) ?_
      intro D3 h14 n14 ws hiW F14 N14 l14
      refine hideG fun gG hG => ?_
      obtain ⟨Ts, V, hTV⟩ := IT_fun hiW
      refine hG ?_
      try clear hG gG
      have hlw : ws.length = nums.length := by rw [hiW.len, (sortBy_perm _).length_eq, ho0]
      refine src_tups (hh := by rfl) (hkind := by rfl) (ps := [(Str.ofString "far", _), (Str.ofString "k", _)]) (its := ws) Ts V _ F14 N14 (.head _) (fun i v hv => ⟨(hTV i v hv).1, ?_, (hTV i v hv).2.1.imp fun k h => .tail _ h⟩) (fit9 (by lia)) (JT.nil rfl) (fun bad => turn_mapT (sortBy lexI (ordIn aim nums)) (fun vals x => ∃ v0 t, vals = [v0, .int (x.getD 1 0) t]) (fun x => x.getD 1 0) (fun _ v b => IsI v b) (fun _ _ _ _ _ h => h) ?_ ?_) ?_ ?_ ?_ ?_
      · refine hideG fun gG hG => ?_
        obtain ⟨x, hx, hx2⟩ := (hTV i v hv).2.2
        refine hG ?_
        try clear hG gG
        have hx3 := (sortBy_perm _).mem_iff.mp (List.mem_of_getElem? hx)
        refine hideG fun gG hG => ?_
        obtain ⟨j, _, rfl⟩ := List.mem_map.mp hx3
        refine hG ?_
        try clear hG gG
        exact hx2.len
      · rintro i vals hi rfl
        refine hideG fun gG hG => ?_
        obtain ⟨x, hx, hx2⟩ := (hTV i (ws[i]'hi) (List.getElem?_eq_getElem hi)).2.2
        refine hG ?_
        try clear hG gG
        have hx3 := (sortBy_perm _).mem_iff.mp (List.mem_of_getElem? hx)
        refine hideG fun gG hG => ?_
        obtain ⟨j, _, rfl⟩ := List.mem_map.mp hx3
        refine hG ?_
        try clear hG gG
        refine ⟨_, hx, ?_⟩
        generalize V i = Vi at hx2
        cases hx2 with
        | cons h1 r1 =>
          cases r1 with
          | cons h2 r2 =>
            cases r2
            obtain ⟨t2, e2⟩ := h2
            exact ⟨_, t2, by rw [e2]; rfl⟩
      · rintro x vals hx qG8 h12 tk12 rest12 C12 oC12 m12 E12 hs12 hmC12 hC12 F15 N15
        refine hideG fun gG hG => ?_
        obtain ⟨v0, t, rfl⟩ := qG8
        refine hG ?_
        try clear hG gG
        have hx2 : putAll [Str.ofString "far", Str.ofString "k"] [v0, .int (x.getD 1 0) t] m12 (Str.ofString "k") = some (.int (x.getD 1 0) t) := rfl
        replace hC12 : NsObj oC12 (putAll [Str.ofString "far", Str.ofString "k"] [v0, .int (x.getD 1 0) t] m12) := hC12
        generalize putAll [Str.ofString "far", Str.ofString "k"] [v0, .int (x.getD 1 0) t] m12 = m13 at hC12 hx2
        rename_i z1 _
        clear nums aim h tk c1 c2 c3 c4 c5 ta nv k rest hA hnv d2 d5 l222 hlen hl2 hnr haim Q next hvl D z1 ys r2 hrl2 hmF hiF hsb hmB2 c5' F11 N11 d5' hmB3 D2 h9 tk9 zs F12 tl9 hj hD5 r3 N13 hrl3 hmZ hiZ hsb3 tkF ho0 hlz D3 h14 n14 ws hiW F14 N14 l14 Ts V hTV hlw bad hx m12 hs12 v0
        k_steps
        exact EE.pure F15 N15 ⟨_, rfl⟩
      · intro D4 h16 tk16 us nw F16 N16 o16 lt16 ⟨tl16, e, ab16, hj⟩
        have hj : Two IsI us (((sortBy lexI (ordIn aim nums)).take ws.length).map fun x => x.getD 1 0) := hj
        rw [List.take_of_length_le (by rw [(sortBy_perm _).length_eq, ho0, hlw]; exact Nat.le_refl _)] at hj
        subst e
        have N17 : News g0 L h16 (lawLed L c5' c4 c3 c2 c1 #[] #[] ((D4, lst us) :: r3)) := News.less N16 fun p hp => by
          refine subE ?_ _ hp
          walk_at "sub"
        have hD4 : L + 1 + 1 + 1 + 1 + 1 < D4 := lt16 _ (.tail _ (.head _))
        with_reducible refine k_flat (s := s) ?_
        intro tkF
        rename_i z5 z4 z3 z2 z1
        clear p loose mean mg mb h tk c5 ta nv k T1 B1 hA hnv d2 d5 l222 hlen hl2 hnr haim X1 hvl z5 z4 hrl2 hmB2 h11 F11 N11 hmB3 D2 h9 tk9 zs F12 tl9 z3 hD5 N13 hmZ hiZ z2 ho0 hlz D3 h14 n14 ws hiW F14 N14 l14 Ts V hTV hlw tk16 lt16 tl16 ab16 z1 N16 o16
        k_steps
        refine next h16 _ _ c5' D4 us _ D ys _ ((D4, lst us) :: r3) F16 ?_ N17 ?_ (fun p hp => .tail _ (hsb3 p (hsb p hp))) d5' (.tail _ (hsb3 _ hmF)) (hiF.imp fun v b => LI.mono fun p hp => .tail _ (hsb3 p hp)) (.head _) hj
        · exact ⟨rfl, rfl, trivial⟩
        · intro p hp
          rcases List.mem_cons.mp hp with rfl | hp
          · exact hD4
          · exact hrl3 p hp
      · decide
      · intro e; rfl
      · intro e; rfl
end Mine
end
section
open PySem PySem.W PySem.Calls PyProof.Rows PyProof.Rows.LCg
set_option maxRecDepth 100000
set_option maxHeartbeats 1000000
namespace Mine
local macro_rules | `(tactic| walk_at $s:str) => Mine.stopAt ["call ref", "eval ListComp", "pyIter ref", "eval Lambda", "subscriptTail Name Slice ref ref", "subscriptTail Subscript Slice ref ref", "subscriptTail Name Constant ref int", "call type:list", "compareOp NotEq ref ref", "compareOp Eq ref ref"] s
noncomputable def lawQ : Str := (Str.ofString "law" ++ ".<locals>.") ++ "<lambda>"
noncomputable def lawPos : List Pos := [{ line := 362, col := 61, endLine := 362, endCol := 78 }]
noncomputable def idx (n : Nat) : List Int := (List.range n).map Int.ofNat
theorem Two.rev {α : Type} {R : Value → α → Prop} : ∀ {vs : List Value} {xs : List α}, Two R vs xs → Two R vs.reverse xs.reverse
 := by
  intro vs xs h
  induction h with
  | nil => exact .nil
  | cons h _ ih => rw [List.reverse_cons, List.reverse_cons]; exact ih.app (.cons h .nil)
theorem Two.tk {α : Type} {R : Value → α → Prop} {vs : List Value} {xs : List α} (h : Two R vs xs) (n : Nat) : Two R (vs.take n) (xs.take n) := h.take n
theorem law_D (w : World) (g0 : Heap) (L : Nat) (fa : Addr) (nums ord : List Int) (size total : Int) (p : Program) (loose : List Str) (mean : ExcName → Option Value) (mg mb : Str → Option Value) (h : Heap) (tk : Nat) (s : Shared) (m : Str → Option Value) (c1 c2 c3 c4 c5 : Obj) (aim : Int) (t1 t2 t3 : Tok)
    (NB aO aS aF : Addr) (nv vO sv fv : List Value) (k kO kS kF : Nat) (rest : Led) (rows : List (List (List Int))) (farsL : List (List Int))
    (X1 : (hd.heap_1 w.params).In g0) (T1 : Top p loose mean mg mb g0) (B1 : Below callerA g0 [] g0) (F1 : Fr g0 L h m) (hA : AllAre m [(Str.ofString "numbers", .ref NB), (Str.ofString "order", .ref aO)])
    (N1 : News g0 L h (lawLed L c5 c4 c3 c2 c1 #[] #[] rest)) (hrl : ∀ p ∈ rest, L + 1 + 1 + 1 + 1 + 1 < p.1) (hmB : (NB, listOf nv.toArray k) ∈ rest) (hnv : Two IsI nv nums)
    (hmO : (aO, listOf vO.toArray kO) ∈ rest) (hiO : Two IsI vO ord) (hmS : (aS, listOf sv.toArray kS) ∈ rest) (hiS : Two (LIL rest) sv rows) (hmF : (aF, listOf fv.toArray kF) ∈ rest) (hiF : Two (LI rest) fv farsL)
    (d1 : c1.data = .cell (some (.int total t1))) (d2 : c2.data = .cell (some (.int aim t2))) (d3 : c3.data = .cell (some (.int size t3))) (d4 : c4.data = .cell (some (.ref aS))) (d5 : c5.data = .cell (some (.ref aF))) (l222 : 222 < L ∧ 229 < L)
    (hlen : nums.length < 10) (hl2 : 3 < nums.length) (hfl : farsL.length = nums.length) (hs : size = 1 ∨ size = 2 ∨ size = 3) (hrows : (∀ r ∈ rows, r.length < 10 ∧ ∀ q ∈ r, q ≠ [] ∧ q.length < 10) ∧ rows.length < 10)
    (hinj : ∀ i j : Int, 0 ≤ i → i < farsL.length → 0 ≤ j → j < farsL.length → farsL.getD i.toNat [] = farsL.getD j.toNat [] → i = j)
    (hord : ord = sortBy (ltK fun k => farsL.getD k.toNat []) (idx nums.length))
    (Z : ∀ start : Int, 0 ≤ start ∧ start < farsL.length → Search (fun k => farsL.getD k.toNat []) rows farsL.length start size total (ord.take size.toNat))
    {Q : Flow → Shared → Prop} {QE : Value → Shared → Prop}
    (next : ∀ h' tk' m' pa pb, Fr g0 L h' m' → News g0 L h' [(222, tabObj pa), (229, tabObj pb)] → Q (.ret (.bool true)) { s with heap := h', toks := tk' }) :
    wpAny (model PG w) (callerA.deeper (lawEnv L fa)) (execs (Mine2.lawD.body.drop 10) (lawEnv L fa)) Q (fun e s' => wpAny (model PG w) (callerA.deeper (lawEnv L fa)) (leaving (lawEnv L fa) e) (fun _ s'' => QE e s'') (fun e' s'' => QE e' s'') s') { s with heap := h, toks := tk } := by
  unfold PG lawEnv
  conv => pattern (Mine2.lawD.body); whnf
  simp only [List.drop_succ_cons, List.drop_zero, List.take_succ_cons, List.take_zero]
  conv => pattern (occs := *) (Mine2.lawD.scope); all_goals whnf
  revert X1
  w_top off
  k_fill
  intro X1
  refine noE ?_
  replace F1 := frOv F1 hA
  have hvl := hnv.len
  have q3 := off3 hrl
  k_steps
  refine len_at (val := id) (its := nv) (n := k) N1 (by rw [List.map_id]; exact .tail _ (.tail _ (.tail _ (.tail _ (.tail _ (.tail _ (.tail _ hmB))))))) (by lia) ?_
  intro t9 tk9
  with_reducible refine k_flat (s := s) ?_
  intro tkF
  k_steps
  refine Stop.mk ?_
  rename IsRange _ _ _ _ _ _ _ _ => rgX
  refine kll_range (n := nums.length) rfl (by k_asm) (by assumption) rgX (small_one (by decide) (by decide) (by lia) (by lia)) (by rw [rangeSize_nat]; lia) (by lia) ?_
  intro D us c h3 tk3 F3 N3 lD hIu
  replace hIu : Two IsI us (idx nums.length) := by
    have e : rangeKs 0 nums.length = idx nums.length := by unfold rangeKs idx; exact List.map_congr_left fun i _ => Int.zero_add _
    rw [← e]; exact two_ints hIu
  clear rgX
  have hkv : ∀ k : Int, 0 ≤ k ∧ k < farsL.length → fv[k.toNat]? = some (fv.getD k.toNat .none) ∧ LI rest (fv.getD k.toNat .none) (farsL.getD k.toNat []) := fun k hk => by
    have hl := hiF.len
    have hi : k.toNat < fv.length := by lia
    refine hideG fun gG hG => ?_
    obtain ⟨b, hb, hv⟩ := hiF.get (List.getElem?_eq_getElem hi)
    refine hG ?_
    try clear hG gG
    refine ⟨by rw [List.getD_eq_getElem?_getD, List.getElem?_eq_getElem hi]; rfl, ?_⟩
    rw [List.getD_eq_getElem?_getD, List.getD_eq_getElem?_getD, List.getElem?_eq_getElem hi, hb]
    exact hv
  have hix : ∀ k ∈ idx nums.length, 0 ≤ k ∧ k < farsL.length := fun k hk => by
    refine hideG fun gG hG => ?_
    obtain ⟨i, hi, rfl⟩ := List.mem_map.mp hk
    refine hG ?_
    try clear hG gG
    have := List.mem_range.mp hi
    exact ⟨Int.natCast_nonneg i, by rw [hfl]; exact Int.ofNat_lt.mpr this⟩
  have hdis : Dis (fun k => farsL.getD k.toNat []) (idx nums.length) := ⟨by unfold idx; exact List.Pairwise.map _ (fun a b h e => h (by injection e)) List.nodup_range, fun a ha b hb e => hinj a b (hix a ha).1 (hix a ha).2 (hix b hb).1 (hix b hb).2 e⟩
  refine hideG fun gG hG => ?_
  obtain ⟨kv, hkvd⟩ : ∃ kv : Int → Value, kv = fun k => fv.getD k.toNat .none := ⟨_, rfl⟩
  refine hG ?_
  try clear hG gG
  replace hkv : ∀ k : Int, 0 ≤ k ∧ k < farsL.length → fv[k.toNat]? = some (kv k) ∧ LI rest (kv k) (farsL.getD k.toNat []) := by rw [hkvd]; exact hkv
  have hil : (idx nums.length).length = nums.length := by unfold idx; simp
  clear hkvd
  rename_i z8 z7 _ _ z6 z5 z4 z3 z2 z1
  clear h tk z8 hnv QE z7 hvl q3 t9 tk9 tkF z6 z5 z4 z3 z2 z1
  k_steps
  have C1 := codeB_hd X1 (code_law w.params)
  refine lam_at (news := (D, listOf us.toArray c) :: (L + 1 + 1 + 1 + 1 + 1, c5) :: (L + 1 + 1 + 1 + 1, c4) :: (L + 1 + 1 + 1, c3) :: (L + 1 + 1, c2) :: (L + 1, c1) :: (222, tabObj #[]) :: rest) lawPos F3 (News.less N3 fun p hp => ?_) (fun p hp => ?_) T1 C1 rfl (by rfl) (newsT := []) (fun p hp => nomatch hp) (show TabOK lawQ lawPos #[] [] from ⟨trivial, fun q hq => .inl rfl⟩) (.head _) (by decide) (by with_unfolding_all rfl) (by rfl) ?_
  · refine subE ?_ _ hp
    walk_at "sub"
  · simp only [List.mem_cons] at hp
    rcases hp with rfl | rfl | rfl | rfl | rfl | rfl | rfl | hp
    · exact (Nat.ne_of_lt (lD (229, tabObj #[]) (.tail _ (.tail _ (.tail _ (.tail _ (.tail _ (.tail _ (.head _))))))))).symm
    · show L + 1 + 1 + 1 + 1 + 1 ≠ 229; lia
    · show L + 1 + 1 + 1 + 1 ≠ 229; lia
    · show L + 1 + 1 + 1 ≠ 229; lia
    · show L + 1 + 1 ≠ 229; lia
    · show L + 1 ≠ 229; lia
    · show (222 : Nat) ≠ 229; decide
    · have h1 := hrl p hp; have h2 := l222.2; exact Nat.ne_of_gt (by lia)
  intro f c' oc vs t ctv ps3 tl3 h10 tk10 F10 N10 hlt3 hmc hcd hcv hTab3 hlf
  with_reducible refine k_flat (s := s) ?_
  intro tkF
  generalize (mg (Str.ofString "__name__")).getD Value.none = pm at N10
  refine hideG fun gG hG => ?_
  obtain ⟨fo, hfo⟩ : ∃ fo : Obj, fo = kla_obj (Str.ofString "<lambda>") lawQ (lamParams { line := 362, col := 68, endLine := 362, endCol := 69 }) (lamBody { line := 362, col := 71, endLine := 362, endCol := 75 } { line := 362, col := 76, endLine := 362, endCol := 77 } { line := 362, col := 71, endLine := 362, endCol := 78 }) lamScope [(Str.ofString "fars", L + 1 + 1 + 1 + 1 + 1)] pm c' ctv := ⟨_, rfl⟩
  refine hG ?_
  try clear hG gG
  replace N10 : News g0 L h10 ((f, kla_obj (Str.ofString "<lambda>") lawQ (lamParams { line := 362, col := 68, endLine := 362, endCol := 69 }) (lamBody { line := 362, col := 71, endLine := 362, endCol := 75 } { line := 362, col := 76, endLine := 362, endCol := 77 } { line := 362, col := 71, endLine := 362, endCol := 78 }) lamScope [(Str.ofString "fars", L + 1 + 1 + 1 + 1 + 1)] pm c' ctv) :: (229, tabObj ps3) :: (tl3 ++ (D, listOf us.toArray c) :: (L + 1 + 1 + 1 + 1 + 1, c5) :: (L + 1 + 1 + 1 + 1, c4) :: (L + 1 + 1 + 1, c3) :: (L + 1 + 1, c2) :: (L + 1, c1) :: (222, tabObj #[]) :: rest)) := N10
  rw [← hfo] at N10
  replace N10 := N10
  have hmc2 : (c', oc) ∈ tl3 ++ rest := List.mem_append_left _ (by simpa using hmc)
  refine hideG fun gG hG => ?_
  obtain ⟨r2, hr2⟩ : ∃ r2, r2 = (f, fo) :: (D, listOf us.toArray c) :: (229, tabObj ps3) :: (tl3 ++ rest) := ⟨_, rfl⟩
  refine hG ?_
  try clear hG gG
  have N11 : News g0 L h10 ((L + 1 + 1 + 1 + 1 + 1, c5) :: (L + 1 + 1 + 1 + 1, c4) :: (L + 1 + 1 + 1, c3) :: (L + 1 + 1, c2) :: (L + 1, c1) :: (222, tabObj #[]) :: r2) := News.less N10 fun p hp => by
    rw [hr2] at hp
    refine subE ?_ _ hp
    walk_at "sub"
  have hL5 : ∀ p ∈ r2, L + 1 + 1 + 1 + 1 + 1 < p.1 ∨ p.1 = 229 := fun p hp => by
    rw [hr2] at hp
    simp only [List.mem_cons, List.mem_append] at hp
    rcases hp with rfl | rfl | rfl | hp | hp
    · exact .inl (hlf (L + 1 + 1 + 1 + 1 + 1, c5) (.tail _ (List.mem_append_right _ (.tail _ (.head _)))))
    · exact .inl (lD (L + 1 + 1 + 1 + 1 + 1, c5) (.head _))
    · exact .inr rfl
    · exact .inl (hlt3 p hp (L + 1 + 1 + 1 + 1 + 1, c5) (.tail _ (.tail _ (.head _))))
    · exact .inl (hrl p hp)
  have hsb : ∀ p ∈ rest, p ∈ r2 := fun p hp => by rw [hr2]; exact .tail _ (.tail _ (.tail _ (List.mem_append_right _ hp)))
  have hmf : (f, fo) ∈ r2 := by rw [hr2]; exact .head _
  have hmD : (D, listOf us.toArray c) ∈ r2 := by rw [hr2]; exact .tail _ (.head _)
  have hmT : (229, tabObj ps3) ∈ r2 := by rw [hr2]; exact .tail _ (.tail _ (.head _))
  have hmc3 : (c', oc) ∈ r2 := by rw [hr2]; exact .tail _ (.tail _ (.tail _ hmc2))
  clear hr2 hmc2 hmc hTab3 hlf hlt3 lD hrl N10
  rename_i z2 z1
  clear z2 z1 h3 tk3 F3 N3 C1 tl3 tk10
  k_steps
  refine Stop.mk ?_
  rename Fr g0 L _ _ => F12
  rename News g0 L _ _ => N12
  have hup : ∀ p ∈ r2, p ∈ (L + 1 + 1 + 1 + 1 + 1, c5) :: (L + 1 + 1 + 1 + 1, c4) :: (L + 1 + 1 + 1, c3) :: (L + 1 + 1, c2) :: (L + 1, c1) :: (222, tabObj #[]) :: r2 := fun p hp => .tail _ (.tail _ (.tail _ (.tail _ (.tail _ (.tail _ hp)))))
  have hKL : KeyL ((L + 1 + 1 + 1 + 1 + 1, c5) :: (L + 1 + 1 + 1 + 1, c4) :: (L + 1 + 1 + 1, c3) :: (L + 1 + 1, c2) :: (L + 1, c1) :: (222, tabObj #[]) :: r2) kv (fun k => farsL.getD k.toNat []) (idx nums.length) := fun k hk => (hkv k (hix k hk)).2.mono fun p hp => hup p (hsb p hp)
  have hkf : KeyFn w (.ref f) kv (idx nums.length) ((L + 1 + 1 + 1 + 1 + 1, c5) :: (L + 1 + 1 + 1 + 1, c4) :: (L + 1 + 1 + 1, c3) :: (L + 1 + 1, c2) :: (L + 1, c1) :: (222, tabObj #[]) :: r2) :=
    lam_key w (hfo ▸ hup _ hmf) (hup _ hmc3) hcd hcv (.head _) d5 (hup _ (hsb _ hmF)) fun k hk => ⟨(hix k hk).1, by have := (hix k hk).2; lia, (hkv k (hix k hk)).1⟩
  refine FnK.use (nlarge_spec w D f us (idx nums.length) c size t3 _ _ _ _ kv (fun k => farsL.getD k.toNat []) _ (hup _ hmD) hIu (hfo ▸ hup _ hmf) hkf hKL hs (by lia) (by lia) hdis) B1 F12 X1 N12 T1 rfl (by decide) (by decide) ?_
  rintro r news' h13 tk13 F13 N13 qG1
  refine hideG fun gG hG => ?_
  obtain ⟨D2, ys, k9, rfl, rfl, hys, hlD⟩ := qG1
  refine hG ?_
  try clear hG gG
  with_reducible refine k_flat (s := s) ?_
  intro tkF
  rw [← hord] at hys
  have hlo : ord.length = nums.length := by rw [hord, (sortBy_perm _).length_eq, hil]
  rename_i z1
  clear D us c hIu hix hdis kv hkv hil f c' oc vs t ctv h10 F12 hcd hcv z1 pm fo hfo N12 hmf hmD hmc3 hup hKL hkf tk13
  k_steps
  refine Stop.mk ?_
  have hup : ∀ p ∈ rest, p ∈ (D2, listOf ys.toArray k9) :: (L + 1 + 1 + 1 + 1 + 1, c5) :: (L + 1 + 1 + 1 + 1, c4) :: (L + 1 + 1 + 1, c3) :: (L + 1 + 1, c2) :: (L + 1, c1) :: (222, tabObj #[]) :: r2 := fun p hp => .tail _ (.tail _ (.tail _ (.tail _ (.tail _ (.tail _ (.tail _ (hsb p hp)))))))
  rename Fr g0 L _ _ => F14
  rename News g0 L _ _ => N14
  refine kmk_slice3_lit (its := vO.toArray) F14 N14 ⟨_, (N14 _ (hup _ hmO)).1, rfl, _, rfl⟩ IsPart.none IsPart.none (IsPart.int (-1) _) (by decide) (by rw [krv_pick]) ?_ (by with_unfolding_all rfl) (by intro _; with_unfolding_all rfl) (by rw [List.size_toArray, sizeLine_eq, hiO.len]; lia)
  intro D3 h15 F15 N15 l15
  with_reducible refine k_flat (s := s) ?_
  intro tkF
  k_steps
  refine Stop.mk ?_
  have N16 : News g0 L h15 ((D3, listOf vO.reverse.toArray 0) :: (D2, listOf ys.toArray k9) :: (L + 1 + 1 + 1 + 1 + 1, c5) :: (L + 1 + 1 + 1 + 1, c4) :: (L + 1 + 1 + 1, c3) :: (L + 1 + 1, c2) :: (L + 1, c1) :: (222, tabObj #[]) :: r2) := by
    have e : vO.toArray.toList.reverse.toArray.toList.toArray = vO.reverse.toArray := by simp
    rw [← e]; exact N15
  clear N15
  have hvo := hiO.len
  have hs0 : 0 ≤ size := by lia
  refine upto_at (hs := by with_unfolding_all rfl) (ht := by intro _; with_unfolding_all rfl) (vs := vO.reverse) (n := 0) (by k_asm) N16 (.head _) hs0 (by rw [List.length_reverse]; lia) ?_
  intro D4 h16 F16 N17 l16
  with_reducible refine k_flat (s := s) ?_
  intro tz
  k_steps
  refine Stop.mk ?_
  have hiR : Two IsI (vO.reverse.take size.toNat) (ord.reverse.take size.toNat) := (hiO.rev).tk _
  refine ne_alike N17 (.tail _ (.tail _ (.head _))) (.head _) hys hiR (show 7 < cLine by decide) (fun x y a hx hy => eq_int a hx hy) ?_
  have N18 : News g0 L h16 ((D2, listOf ys.toArray k9) :: (L + 1 + 1 + 1 + 1 + 1, c5) :: (L + 1 + 1 + 1 + 1, c4) :: (L + 1 + 1 + 1, c3) :: (L + 1 + 1, c2) :: (L + 1, c1) :: (222, tabObj #[]) :: r2) := News.less N17 fun p hp => .tail _ (.tail _ hp)
  clear l15 l16 N16 N17 hiR
  rename Fr g0 L h16 _ => F16
  rename_i z2 z1
  clear h13 z2 z1 F14 N14 tkf D3 h15 F15 tkF D4
  k_steps
  refine Stop.mk ?_
  obtain ⟨far0, t0, hy0, hf0⟩ : ∃ (far0 : Int) (t0 : Tok), ys[0]? = some (.int far0 t0) ∧ 0 ≤ far0 ∧ far0 < farsL.length := by
    have hyl := hys.len
    rw [List.length_take, List.length_reverse] at hyl
    have h0 : 0 < ys.length := by lia
    refine hideG fun gG hG => ?_
    obtain ⟨b, hb, t, e⟩ := hys.get (List.getElem?_eq_getElem h0)
    refine hG ?_
    try clear hG gG
    have h1 : b ∈ ord := by
      have := List.mem_of_getElem? hb
      exact List.mem_reverse.mp (List.mem_of_mem_take this)
    rw [hord] at h1
    have h2 := (sortBy_perm _).mem_iff.mp h1
    refine hideG fun gG hG => ?_
    obtain ⟨j, hj, rfl⟩ := List.mem_map.mp h2
    refine hG ?_
    try clear hG gG
    have := List.mem_range.mp hj
    exact ⟨_, t, by rw [List.getElem?_eq_getElem h0, e]; rfl, Int.natCast_nonneg j, by rw [hfl]; exact Int.ofNat_lt.mpr this⟩
  refine ListComp_G (hs := by intro _; rfl) (by assumption) (by with_unfolding_all rfl) (by decide) (by rfl) (by decide) ?_
  k_steps
  refine Stop.mk ?_
  refine itv_at (hs := by with_unfolding_all rfl) (hg := by intro _; with_unfolding_all rfl) N18 (.head _) (by decide) (by decide) hy0 ?_
  k_steps
  refine Stop.mk ?_
  rename Fr g0 L _ _ => F20
  rename News g0 L _ _ => N20
  rename _ ∧ _ => lT
  rename_i T h20
  replace N20 : News g0 L h20 ((T, tupO [.int 0 tz, .int far0 t0] 0) :: (D2, listOf ys.toArray k9) :: (L + 1 + 1 + 1 + 1 + 1, c5) :: (L + 1 + 1 + 1 + 1, c4) :: (L + 1 + 1 + 1, c3) :: (L + 1 + 1, c2) :: (L + 1, c1) :: (222, tabObj #[]) :: r2) := N20
  refine hideG fun gG hG => ?_
  obtain ⟨r3, hr3⟩ : ∃ r3, r3 = (T, tupO [.int 0 tz, .int far0 t0] 0) :: (D2, listOf ys.toArray k9) :: (L + 1 + 1 + 1 + 1 + 1, c5) :: (L + 1 + 1 + 1 + 1, c4) :: (L + 1 + 1 + 1, c3) :: (L + 1 + 1, c2) :: (L + 1, c1) :: r2 := ⟨_, rfl⟩
  refine hG ?_
  try clear hG gG
  have N21 : News g0 L h20 ((222, tabObj #[]) :: ([] ++ r3)) := News.less N20 fun p hp => by
    rw [hr3] at hp
    refine subE ?_ _ hp
    walk_at "sub"
  have o3 : ∀ p ∈ r3, p.1 ≠ 222 := fun p hp => by
    rw [hr3] at hp
    simp only [List.mem_cons] at hp
    have hD2 := hlD (222, tabObj #[]) (.tail _ (.tail _ (.tail _ (.tail _ (.tail _ (.head _))))))
    have hlL := l222.1
    rcases hp with rfl | rfl | rfl | rfl | rfl | rfl | rfl | hp
    · exact Nat.ne_of_gt lT.2.2.2.2.2.2.1
    · exact Nat.ne_of_gt hD2
    · exact Nat.ne_of_gt (show 222 < L + 1 + 1 + 1 + 1 + 1 by lia)
    · exact Nat.ne_of_gt (show 222 < L + 1 + 1 + 1 + 1 by lia)
    · exact Nat.ne_of_gt (show 222 < L + 1 + 1 + 1 by lia)
    · exact Nat.ne_of_gt (show 222 < L + 1 + 1 by lia)
    · exact Nat.ne_of_gt (show 222 < L + 1 by lia)
    · rcases hL5 p hp with h1 | h1
      · exact Nat.ne_of_gt (Nat.lt_trans (show 222 < L + 1 + 1 + 1 + 1 + 1 by lia) h1)
      · rw [h1]; decide
  have mT : (T, tupO [.int 0 tz, .int far0 t0] 0) ∈ r3 := by rw [hr3]; exact .head _
  have m5 : (L + 1 + 1 + 1 + 1 + 1, c5) ∈ r3 := by rw [hr3]; exact .tail _ (.tail _ (.head _))
  have m4 : (L + 1 + 1 + 1 + 1, c4) ∈ r3 := by rw [hr3]; exact .tail _ (.tail _ (.tail _ (.head _)))
  have m3 : (L + 1 + 1 + 1, c3) ∈ r3 := by rw [hr3]; exact .tail _ (.tail _ (.tail _ (.tail _ (.head _))))
  have m1 : (L + 1, c1) ∈ r3 := by rw [hr3]; exact .tail _ (.tail _ (.tail _ (.tail _ (.tail _ (.tail _ (.head _))))))
  have hs3 : ∀ p ∈ rest, p ∈ r3 := fun p hp => by rw [hr3]; exact .tail _ (.tail _ (.tail _ (.tail _ (.tail _ (.tail _ (.tail _ (hsb p hp)))))))
  have hmT3 : (229, tabObj ps3) ∈ r3 := by rw [hr3]; exact .tail _ (.tail _ (.tail _ (.tail _ (.tail _ (.tail _ (.tail _ hmT))))))
  clear hr3 N20
  refine src_tuple (hh := by rfl) (hkind := by rfl) (hx := by rfl) (its := [.int 0 tz, .int far0 t0]) (k := 0) (fun i zs nw => ∃ (ps : Array Value) (tl : Led), nw = (222, tabObj ps) :: (tl ++ r3) ∧ (∀ p ∈ tl, 222 < p.1) ∧ TabOK foundQ foundPos ps tl ∧ Two (LI tl) zs (List.replicate i (ord.take size.toNat))) F20 N21 (.tail _ mT) (fit9 (show 2 < 100 by decide)) ⟨#[], [], rfl, (fun p hp => by cases hp), ⟨trivial, fun q hq => .inl rfl⟩, .nil⟩ ?_ ?_
  · rintro i vals zs nw h22 tk22 own C oC D' m2 E2 off hi qG2 hzl qG3 hC F22 N22
    refine hideG fun gG hG => ?_
    obtain ⟨v, rfl, hv⟩ := qG2
    obtain ⟨ps, tl, rfl, htl, hT, hj⟩ := qG3
    refine hG ?_
    try clear hG gG
    obtain ⟨x, tx, rfl, hx⟩ : ∃ (x : Int) (tx : Tok), v = .int x tx ∧ 0 ≤ x ∧ x < farsL.length := by
      match i, hi, hv with
      | 0, _, e => exact ⟨0, tz, (Option.some.inj e).symm, Int.le_refl _, by lia⟩
      | 1, _, e => exact ⟨far0, t0, (Option.some.inj e).symm, hf0⟩
    refine wpAny_tests_nil ?_
    simp only [if_true]
    refine hideG fun gG hG => ?_
    obtain ⟨big, hbig⟩ : ∃ big, big = own ++ (C, oC) :: (D', lst zs) :: (tl ++ r3) := ⟨_, rfl⟩
    refine hG ?_
    try clear hG gG
    have N23 : News g0 L h22 ((222, tabObj ps) :: big) := News.less N22 fun p hp => by
      rw [hbig] at hp
      refine subE ?_ _ hp
      walk_at "sub"
    have hT222 : (222 : Nat) ∉ [T] := fun h => o3 _ mT (List.mem_singleton.mp h).symm
    have ob : ∀ p ∈ big, p.1 ≠ 222 := fun p hp => by
      rw [hbig] at hp
      have q := off (222, tabObj ps) (.head _) hT222 p
      simp only [List.mem_cons, List.mem_append] at hp q
      rcases hp with h | h | h | h | h
      · exact q (.inl h)
      · exact q (.inr (.inl h))
      · exact q (.inr (.inr (.inl h)))
      · exact Nat.ne_of_gt (htl p h)
      · exact o3 p h
    have hb3 : ∀ p ∈ tl ++ r3, p ∈ big := fun p hp => by rw [hbig]; exact List.mem_append_right _ (.tail _ (.tail _ hp))
    have hbr : ∀ p ∈ r3, p ∈ big := fun p hp => hb3 p (List.mem_append_right _ hp)
    have hbt : ∀ p ∈ tl, p ∈ big := fun p hp => hb3 p (List.mem_append_left _ hp)
    have hmC : (C, oC) ∈ big := by rw [hbig]; exact List.mem_append_right _ (.head _)
    have hx1 : putAll [Str.ofString "start"] [.int x tx] m2 (Str.ofString "start") = some (.int x tx) := rfl
    generalize putAll [Str.ofString "start"] [.int x tx] m2 = m9 at hC hx1
    have b5 := hbr _ m5
    have b4 := hbr _ m4
    have b3 := hbr _ m3
    have b1 := hbr _ m1
    have bS := hbr _ (hs3 _ hmS)
    have bF := hbr _ (hs3 _ hmF)
    have iS := hiS.imp fun v b => LIL.mono fun p hp => hbr _ (hs3 p hp)
    have iF := hiF.imp fun v b => LI.mono fun p hp => hbr _ (hs3 p hp)
    have hN10 : farsL.length < 10 := by lia
    refine hideG fun gG hG => ?_
    obtain ⟨all, hall⟩ : ∃ all, all = (222, tabObj ps) :: big := ⟨_, rfl⟩
    refine hG ?_
    try clear hG gG
    have hba : ∀ p ∈ big, p ∈ all := fun p hp => by rw [hall]; exact .tail _ hp
    rw [← hall] at N23
    replace N23 := N23
    replace hmC := hba _ hmC
    replace b5 := hba _ b5
    replace b4 := hba _ b4
    replace b3 := hba _ b3
    replace b1 := hba _ b1
    clear nums c2 aim t2 nv vO k kO rest hA hmB hmO hiO hmS hiS hmF hiF d2 l222 hlen hl2 hfl hord Q next ps3 r2 hL5 hsb hmT ys k9 hys hlD hlo hup hvo hs0 h16 tz far0 t0 hy0 hf0 T h20 F20 lT N21 o3 mT m5 m4 m3 m1 hs3 hmT3 m2 hi hzl off N22 hv hT222 hba
    k_steps
    refine Stop.mk ?_
    have hbT : ∀ p ∈ tl, p ∈ big := hbt
    rw [hall] at N23
    replace N23 := N23
    refine Fn.use (law_found_spec w aS aF sv fv ps kS kF rows farsL x size total tx t3 t1 big tl hbT bS iS bF iF hx hN10 hs hrows hT ob hinj _ (Z x hx)) B1 F22 X1 N23 T1 rfl (by decide) (by decide) ?_
    rintro r news' h25 tk25 F25 N25 qG4
    refine hideG fun gG hG => ?_
    obtain ⟨D, us, k', ps', tl', rfl, rfl, hus, hlD', hT', htl'⟩ := qG4
    refine hG ?_
    try clear hG gG
    refine ⟨h25, tk25, (222, tabObj ps') :: (((D, listOf us.toArray k') :: (tl' ++ tl)) ++ r3), rfl, F25, News.less N25 fun p hp => ?_, fun p hp => ?_, ps', (D, listOf us.toArray k') :: (tl' ++ tl), rfl, fun p hp => ?_, hT'.mono fun p hp => .tail _ hp, ?_⟩
    · rw [hbig]
      refine subE ?_ _ hp
      walk_at "sub"
    · have hw : ∀ q ∈ (own ++ [(C, oC), (D', lst zs)]) ++ (222, tabObj ps) :: (tl ++ r3), q ∈ (222, tabObj ps) :: big := fun q hq => by
        rw [hbig]
        refine subE ?_ _ hq
        walk_at "sub"
      simp only [List.mem_cons, List.mem_append] at hp
      rcases hp with rfl | (rfl | hp | hp) | hp
      · exact .inl ⟨(222, tabObj ps), .head _, rfl⟩
      · refine .inr fun q hq => ?_
        rcases List.mem_cons.mp (hw q hq) with rfl | h
        · exact hlD' (222, tabObj ps') (.head _)
        · exact hlD' q (.tail _ (List.mem_append_right _ h))
      · exact .inr fun q hq => htl' p hp q (hw q hq)
      · exact .inl ⟨p, .tail _ (List.mem_append_left _ hp), rfl⟩
      · exact .inl ⟨p, .tail _ (List.mem_append_right _ hp), rfl⟩
    · simp only [List.mem_cons, List.mem_append] at hp
      rcases hp with rfl | hp | hp
      · exact hlD' (222, tabObj ps') (.head _) |> fun h => h
      · exact htl' p hp (222, tabObj ps) (.head _)
      · exact htl p hp
    · rw [List.replicate_succ']
      exact (hj.imp fun v b => LI.mono fun p hp => .tail _ (List.mem_append_right _ hp)).app (.cons ⟨D, us, k', rfl, .head _, hus⟩ .nil)
  · intro D5 h24 tk24 zs nw F24 N24 o24 lt24 ⟨ps, tl, e, htl, hT, hj⟩
    subst e
    replace hj : Two (LI tl) zs [ord.take size.toNat, ord.take size.toNat] := hj
    have hmO3 := hs3 _ hmO
    refine hideG fun gG hG => ?_
    obtain ⟨all, hall⟩ : ∃ all, all = (222, tabObj ps) :: (tl ++ r3) := ⟨_, rfl⟩
    refine hG ?_
    try clear hG gG
    have ha3 : ∀ p ∈ r3, p ∈ all := fun p hp => by rw [hall]; exact .tail _ (List.mem_append_right _ hp)
    have hjA := hj.imp fun v b => LI.mono (nw' := all) fun p hp => by rw [hall]; exact .tail _ (List.mem_append_left _ hp)
    have hm22 : (222, tabObj ps) ∈ all := by rw [hall]; exact .head _
    have hm29 := ha3 _ hmT3
    have b3 : (L + 1 + 1 + 1, c3) ∈ (D5, lst zs) :: all := .tail _ (ha3 _ m3)
    have bO : (aO, listOf vO.toArray kO) ∈ (D5, lst zs) :: all := .tail _ (ha3 _ hmO3)
    have lA : ∀ p ∈ all, p.1 ≠ D5 := by rw [hall]; exact o24
    rw [← hall] at N24
    replace N24 := N24
    have hvo10 : vO.length < 10 := by lia
    clear nums total c1 c2 c4 c5 aim t1 t2 aS aF nv sv fv k kS kF rest rows farsL hmB hmO hmS hiS hmF hiF d1 d2 d4 d5 l222 hlen hl2 hfl hs hrows hinj hord Z r2 hL5 hsb hmT ys k9 hys hlD hlo hup hvo far0 t0 hy0 hf0 T h20 F20 lT r3 N21 o3 mT m5 m4 m3 m1 hs3 hmT3 lt24 tl htl hT o24 hj hmO3 hall ha3
    k_steps
    refine Stop.mk ?_
    refine upto_at (hs := by with_unfolding_all rfl) (ht := by intro _; with_unfolding_all rfl) (vs := vO) (n := kO) (by k_asm) N24 bO hs0 (by lia) ?_
    intro D6 h26 F26 N26 l26
    with_reducible refine k_flat (s := s) ?_
    intro tkF
    k_steps
    rename Fr g0 L _ _ => F27
    rename News g0 L _ _ => N27
    rename_i G h27 l27
    refine KMa.mul (vs := [.ref D6]) (ws := [.ref D6, .ref D6]) (x := 2) F27 N27 ⟨_, (N27 _ (.head _)).1, rfl, _, rfl⟩ (by decide) (by decide) (show 1 * 2 ≤ 256 by decide) rfl ?_
    intro G2 h28 F28 N28 l28
    with_reducible refine k_flat (s := s) ?_
    intro tkF
    k_steps
    refine Stop.mk ?_
    have hiD : Two IsI (vO.take size.toNat) (ord.take size.toNat) := hiO.tk _
    have hD6 : LI ((G2, listOf [Value.ref D6, .ref D6].toArray 0) :: (G, listOf [Value.ref D6].toArray 0) :: (D6, listOf (vO.take size.toNat).toArray 0) :: (D5, lst zs) :: all) (.ref D6) (ord.take size.toNat) := ⟨D6, _, _, rfl, .tail _ (.tail _ (.head _)), hiD⟩
    refine eqv_alike N28 (.tail _ (.tail _ (.tail _ (.head _)))) (.head _) hjA (.cons hD6 (.cons hD6 .nil)) (show 7 < cLine by decide) (fun x y a hx hy => eq_LI N28 (hx.mono fun p hp => .tail _ (.tail _ (.tail _ (.tail _ hp)))) hy (show 7 + 1 < cLine by decide)) ?_
    k_steps
    exact next _ _ _ ps ps3 F28 (fun p hp => by
      rcases List.mem_cons.mp hp with rfl | hp
      · exact N28 _ (.tail _ (.tail _ (.tail _ (.tail _ hm22))))
      · rw [List.mem_singleton.mp hp]; exact N28 _ (.tail _ (.tail _ (.tail _ (.tail _ hm29)))))
end Mine
end
section
open PySem PySem.W PySem.Calls PyProof.Rows PyProof.Rows.LCg
set_option maxRecDepth 100000
set_option maxHeartbeats 4000000
namespace Mine
noncomputable def numsOf (script : List Int) : List Int := (script.take 2).foldl numStep num0
noncomputable def totalOf (script : List Int) : Int := (script.take 2).sum
noncomputable def aimOf (script : List Int) : Int := (3161920 + totalOf script).fmod 16777216
noncomputable def sizeOf' (script : List Int) : Int := 1 + (totalOf script).fmod 3
noncomputable def farsOf (aim : Int) (nums : List Int) : List (List Int) := (nums.map figs).map (farRow aim)
/-- what the law says in plain words: of the numbers, without a program -/
structure Plain (nums : List Int) (aim size total : Int) : Prop where
  hnr : ∀ n ∈ nums, 0 ≤ n ∧ n < 16777216
  hlen : nums.length < 10
  haim : 0 ≤ aim ∧ aim < 16777216
  hs : size = 1 ∨ size = 2 ∨ size = 3
  hl2 : 3 < nums.length
  hlab : ∀ r ∈ nums.map figs, nameL r ≠ Str.ofString "<string>"
  hxl : ∀ r ∈ nums.map figs, ∀ k, (nameL (r.take k)).length < 100
  hf64 : ∀ r ∈ nums.map figs, r.length = 4 ∧ ∀ n ∈ r, 0 ≤ n ∧ n < 64
  hsame : (nums.map figs).map (sortsRow (nums.map figs)) = nums.map (alikeRow nums)
  hrows : (∀ r ∈ nums.map (alikeRow nums), r.length < 10 ∧ ∀ q ∈ r, q ≠ [] ∧ q.length < 10) ∧ (nums.map (alikeRow nums)).length < 10
  hinj : ∀ i j : Int, 0 ≤ i → i < (farsOf aim nums).length → 0 ≤ j → j < (farsOf aim nums).length → (farsOf aim nums).getD i.toNat [] = (farsOf aim nums).getD j.toNat [] → i = j
  hord : (sortBy lexI (ordIn aim nums)).map (fun x => x.getD 1 0) = sortBy (ltK fun k => (farsOf aim nums).getD k.toNat []) (idx nums.length)
  hZ : ∀ start : Int, 0 ≤ start ∧ start < (farsOf aim nums).length → Nonempty (Search (fun k => (farsOf aim nums).getD k.toNat []) (nums.map (alikeRow nums)) (farsOf aim nums).length start size total (((sortBy lexI (ordIn aim nums)).map fun x => x.getD 1 0).take size.toNat))
theorem law_holds (pl : ∀ script, Plain (numsOf script) (aimOf script) (sizeOf' script) (totalOf script)) : PySem.Challenge.rw_rt0054_01.Holds := by
  refine Mine2.hd ?_
  unfold Mine2.H
  w_top off
  k_fill
  intro w s₀ s₁ mg mb G Y fa o pm cd doc dV kV ho hd hcd hD hmg hg args vals as hpre hlay hrd hwl hlo
  have KX := km_in_of Y
  km_tabs Y
  have X := (Ground.X G).1
  have V := (Ground.X G).2
  refine Ground.open G ?_
  intro T B D TE TW
  try (refine guard_noD D (by decide +kernel) ?_; clear D)
  km_lay T hmg ho hd cd
  clear hmg
  wrow_args hpre hlay hrd hwl hlo
  all_goals (first | refine callC_kw (enter_call ?_) | refine enter_call ?_; w_top on; kn_posts; w_call any ho hd hcd hD T F; clear hd; kn_ghosts F T; k_drop; skip)
  rename IntsAre _ _ => hI
  rename ¬ _ < _ => h63
  rename_i h1 tk1 c5 c4 c3 c2 c1 d5 d4 d3 d2 d1 CA X' T' K' F' CH N' l0
  refine hideG fun gG hG => ?_
  obtain ⟨g0, hg0⟩ : ∃ g0, g0 = ghostOf s₁.heap [(226, 222), (231, 229)] := ⟨_, rfl⟩
  obtain ⟨L, hL0⟩ : ∃ L : Nat, L = s₁.heap.objs.size := ⟨_, rfl⟩
  refine hG ?_
  try clear hG gG
  rw [← hg0, ← hL0] at F' N'
  rw [← hg0] at X' T' K' lifted
  rw [← hL0] at l0
  rw [← hg0, ← hL0]
  have e5 : c5.data = .cell none := d5
  have e4 : c4.data = .cell none := d4
  have e3 : c3.data = .cell none := d3
  have e2 : c2.data = .cell none := d2
  have e1 : c1.data = .cell none := d1
  clear d5 d4 d3 d2 d1 CA
  refine hideG fun gG hG => ?_
  obtain ⟨m0, F0, hA0⟩ : ∃ m0, Fr g0 L h1 m0 ∧ AllAre m0 [(Str.ofString "script", .ref _)] := ⟨_, F', rfl, trivial⟩
  refine hG ?_
  try clear hG gG
  clear F'
  rename List Int => script
  rename List Value => vs
  have P := pl script
  refine wpAny_mono (M := model PG w) (execs_cut 5 Mine2.lawD.body ?_) (fun _ _ h => h) (fun _ _ h => h)
  refine law_A w g0 L fa _ _ _ _ _ _ _ _ h1 tk1 _ m0 c1 c2 c3 c4 c5 X' T' K' F0 hA0 N' e1 e2 e3 lifted hI (by omega) l0 ?_
  intro h2 tk2 m2 b1 b2 b3 NB nv k r2 t1 t2 t3 F2 A2 N2 rl2 mB2 i2 f1 f2 f3
  refine execs_cut 3 _ ?_
  rw [List.drop_drop]
  refine law_B w g0 L fa _ _ _ _ _ _ h2 tk2 _ m2 b1 b2 b3 c4 c5 NB nv k r2 X' T' K' F2 A2 N2 rl2 mB2 i2 e4 l0 P.hlen P.hnr P.hlab P.hxl P.hf64 P.hsame ?_
  intro h3 tk3 m3 b4 aR vR kR vS r3 F3 A3 N3 rl3 s3 mR3 iR3 f4 S3
  refine execs_cut 2 _ ?_
  rw [List.drop_drop]
  refine law_C w g0 L fa _ _ _ _ _ _ _ h3 tk3 _ m3 b1 b2 b3 b4 c5 t2 NB aR nv vR k kR r3 X' T' K' F3 A3 N3 rl3 (s3 _ mB2) i2 mR3 iR3 f2 e5 l0 P.hlen (Nat.le_of_lt (Nat.lt_of_succ_lt P.hl2)) P.hnr P.haim ?_
  intro h4 tk4 m4 b5 aO vO kO aF vF kF r4 F4 A4 N4 rl4 s4 f5 mF4 iF4 mO4 iO4
  refine hideG fun gG hG => ?_
  obtain ⟨aS, sv, kS, rfl, mS, iS⟩ := S3
  refine hG ?_
  try clear hG gG
  have hfl : ((( (numsOf script)).map figs).map (farRow (aimOf script))).length = (numsOf script).length := by rw [List.length_map, List.length_map]
  refine law_D w g0 L fa _ _ (sizeOf' script) (totalOf script) _ _ _ _ _ h4 tk4 _ m4 b1 b2 b3 b4 b5 _ t1 t2 t3 NB aO aS aF nv vO sv vF k kO kS kF r4 _ _ X' T' K' F4 A4 N4 rl4 (s4 _ (s3 _ mB2)) i2 mO4 iO4 (s4 _ mS) (iS.imp fun v b => LIL.mono s4) mF4 iF4 f1 f2 f3 f4 f5 l0 P.hlen P.hl2 hfl P.hs P.hrows P.hinj P.hord (fun start h => Classical.choice (P.hZ start h)) ?_
  intro h5 tk5 m5 pa pb F5 N5
  k_steps
end Mine
end
section
open PySem PySem.W PySem.Calls PyProof.Rows PyProof.Rows.LCg
set_option maxRecDepth 100000
namespace Mine
/-- words with full stops between them -/
noncomputable def joinC : List (List Nat) → List Nat
  | [] => []
  | [x] => x
  | x :: y :: r => x ++ 46 :: joinC (y :: r)
theorem dot_split : ∀ {u v s t : List Nat}, 46 ∉ u → 46 ∉ v → u ++ 46 :: s = v ++ 46 :: t → u = v ∧ s = t
  | [], [], s, t, _, _, h => ⟨rfl, by injection h⟩
  | [], c :: v, s, t, _, hv, h => by
    injection h with h1 _
    exact absurd (h1 ▸ List.mem_cons_self) hv
  | c :: u, [], s, t, hu, _, h => by
    injection h with h1 _
    exact absurd (h1 ▸ List.mem_cons_self) hu
  | c :: u, d :: v, s, t, hu, hv, h => by
    injection h with h1 h2
    obtain ⟨h3, h4⟩ := dot_split (fun q => hu (.tail _ q)) (fun q => hv (.tail _ q)) h2
    exact ⟨by rw [h1, h3], h4⟩
theorem no_dot {u v t : List Nat} (hu : 46 ∉ u) (h : u = v ++ 46 :: t) : False := hu (by rw [h]; simp)
theorem join_pre : ∀ (a b : List (List Nat)), a ≠ [] → b ≠ [] → (∀ u ∈ a, 46 ∉ u) → (∀ u ∈ b, 46 ∉ u) → ((joinC b = joinC a ∨ ∃ t, joinC b = joinC a ++ 46 :: t) ↔ a <+: b)
  | [], _, h, _, _, _ => absurd rfl h
  | _ :: _, [], _, h, _, _ => absurd rfl h
  | [x], [y], _, _, ha, hb => by
    rw [List.cons_prefix_cons]
    constructor
    · rintro (h | ⟨t, h⟩)
      · exact ⟨h.symm, List.nil_prefix⟩
      · exact (no_dot (hb y (.head _)) h).elim
    · rintro ⟨rfl, _⟩; exact .inl rfl
  | [x], y :: z :: r, _, _, ha, hb => by
    rw [List.cons_prefix_cons]
    constructor
    · rintro (h | ⟨t, h⟩)
      · exact (no_dot (ha x (.head _)) h.symm).elim
      · exact ⟨(dot_split (hb y (.head _)) (ha x (.head _)) h).1.symm, List.nil_prefix⟩
    · rintro ⟨rfl, _⟩; exact .inr ⟨_, rfl⟩
  | x :: z :: r, [y], _, _, ha, hb => by
    constructor
    · rintro (h | ⟨t, h⟩)
      · exact (no_dot (hb y (.head _)) h).elim
      · have h : y = (x ++ 46 :: joinC (z :: r)) ++ 46 :: t := h
        rw [List.append_assoc] at h
        exact (no_dot (hb y (.head _)) h).elim
    · intro h
      have := h.length_le
      simp only [List.length_cons, List.length_nil] at this
      lia
  | x :: x2 :: r, y :: y2 :: q, _, _, ha, hb => by
    have ih := join_pre (x2 :: r) (y2 :: q) (List.cons_ne_nil _ _) (List.cons_ne_nil _ _) (fun u hu => ha u (.tail _ hu)) (fun u hu => hb u (.tail _ hu))
    rw [List.cons_prefix_cons, ← ih]
    have dx := ha x (.head _)
    have dy := hb y (.head _)
    constructor
    · rintro (h | ⟨t, h⟩)
      · obtain ⟨h1, h2⟩ := dot_split dy dx h
        exact ⟨h1.symm, .inl h2⟩
      · have h : y ++ 46 :: joinC (y2 :: q) = (x ++ 46 :: joinC (x2 :: r)) ++ 46 :: t := h
        rw [List.append_assoc] at h
        obtain ⟨h1, h2⟩ := dot_split dy dx h
        exact ⟨h1.symm, .inr ⟨t, h2⟩⟩
    · rintro ⟨rfl, h | ⟨t, h⟩⟩
      · exact .inl (by show x ++ 46 :: joinC (y2 :: q) = x ++ 46 :: joinC (x2 :: r); rw [h])
      · exact .inr ⟨t, by show x ++ 46 :: joinC (y2 :: q) = (x ++ 46 :: joinC (x2 :: r)) ++ 46 :: t; rw [h, List.append_assoc]; rfl⟩
noncomputable def cpF (n : Int) : List Nat := (figS n).cps.toList
theorem join_cps : ∀ l : List Str, (Str.join (Str.ofString ".") l).cps.toList = joinC (l.map fun x => x.cps.toList)
  | [] => rfl
  | [x] => rfl
  | x :: y :: r => by
    have ih := join_cps (y :: r)
    show (x.cps ++ (Str.ofString ".").cps ++ (Str.join (Str.ofString ".") (y :: r)).cps).toList = x.cps.toList ++ 46 :: joinC ((y :: r).map fun x => x.cps.toList)
    rw [← ih, Array.toList_append, Array.toList_append, List.append_assoc]
    congr 1
theorem nameL_cps (ns : List Int) : (nameL ns).cps.toList = joinC (ns.map cpF) := by
  show (Builtin.Str.glued _ _).cps.toList = _
  rw [StrLaws.glued_eq_join, join_cps, List.map_map]
  rfl
theorem str_ext {x y : Str} (h : x.cps.toList = y.cps.toList) : x = y := by
  cases x; cases y; congr 1; exact Array.toList_inj.mp h
theorem hit_iff (x lab : Str) : hit x lab = 1 ↔ lab.cps.toList = x.cps.toList ∨ ∃ t, lab.cps.toList = x.cps.toList ++ 46 :: t := by
  unfold hit
  have e : (Txt.startswith lab (x ++ Str.ofString ".") = true) ↔ ∃ t, lab.cps.toList = x.cps.toList ++ 46 :: t := by
    unfold Txt.startswith
    rw [StrLaws.subAt_eq, Bool.and_eq_true, decide_eq_true_eq, beq_iff_eq, List.drop_zero]
    have e1 : (x ++ Str.ofString ".").cps.toList = x.cps.toList ++ [46] := by
      show (x.cps ++ (Str.ofString ".").cps).toList = _
      rw [Array.toList_append]; rfl
    have e2 : (x ++ Str.ofString ".").length = x.cps.toList.length + 1 := by
      show (x ++ Str.ofString ".").cps.size = _
      rw [← Array.length_toList, e1, List.length_append]; rfl
    have e3 : lab.length = lab.cps.toList.length := Array.length_toList.symm
    rw [e1, e2, e3]
    constructor
    · rintro ⟨_, h⟩
      refine ⟨lab.cps.toList.drop (x.cps.toList.length + 1), ?_⟩
      conv => lhs; rw [← List.take_append_drop (x.cps.toList.length + 1) lab.cps.toList, h]
      rw [List.append_assoc]; rfl
    · rintro ⟨t, h⟩
      rw [h]
      refine ⟨by simp, ?_⟩
      rw [show x.cps.toList ++ 46 :: t = (x.cps.toList ++ [46]) ++ t by rw [List.append_assoc]; rfl]
      exact List.take_left' (by simp)
  rw [← e]
  constructor
  · intro h
    split at h
    · rename_i c
      exact c.imp (fun q => by rw [q]) id
    · cases h
  · intro h
    rw [if_pos (h.imp str_ext id)]
theorem fig_ok : (∀ i, i < 64 → 46 ∉ cpF (i : Nat) ∧ (cpF (i : Nat)).head? ≠ some 60 ∧ cpF (i : Nat) ≠ []) ∧ ∀ i, i < 64 → ∀ j, j < 64 → cpF (i : Nat) = cpF (j : Nat) → i = j := by decide +kernel
theorem fig_int {n : Int} (h : 0 ≤ n ∧ n < 64) : ∃ i : Nat, i < 64 ∧ n = (i : Int) := ⟨n.toNat, toNat_lt h.1 h.2, (Int.toNat_of_nonneg h.1).symm⟩
theorem fig_dot {n : Int} (h : 0 ≤ n ∧ n < 64) : 46 ∉ cpF n := by obtain ⟨i, hi, rfl⟩ := fig_int h; exact (fig_ok.1 i hi).1
theorem fig_inj {n m : Int} (h : 0 ≤ n ∧ n < 64) (h' : 0 ≤ m ∧ m < 64) (e : cpF n = cpF m) : n = m := by
  obtain ⟨i, hi, rfl⟩ := fig_int h
  obtain ⟨j, hj, rfl⟩ := fig_int h'
  rw [fig_ok.2 i hi j hj e]
theorem map_figs_inj : ∀ {a b : List Int}, (∀ n ∈ a, 0 ≤ n ∧ n < 64) → (∀ n ∈ b, 0 ≤ n ∧ n < 64) → a.map cpF = b.map cpF → a = b
  | [], [], _, _, _ => rfl
  | [], _ :: _, _, _, h => by cases h
  | _ :: _, [], _, _, h => by cases h
  | x :: a, y :: b, ha, hb, h => by
    injection h with h1 h2
    rw [fig_inj (ha x (.head _)) (hb y (.head _)) h1, map_figs_inj (fun n hn => ha n (.tail _ hn)) (fun n hn => hb n (.tail _ hn)) h2]
theorem hit_name {r r' : List Int} {k : Nat} (hr : r.length = 4 ∧ ∀ n ∈ r, 0 ≤ n ∧ n < 64) (hr' : r'.length = 4 ∧ ∀ n ∈ r', 0 ≤ n ∧ n < 64) (hk : 1 ≤ k ∧ k ≤ 4) : hit (nameL (r.take k)) (nameL r') = 1 ↔ r'.take k = r.take k := by
  have ht : ∀ n ∈ r.take k, 0 ≤ n ∧ n < 64 := fun n hn => hr.2 n (List.mem_of_mem_take hn)
  have ht' : ∀ n ∈ r'.take k, 0 ≤ n ∧ n < 64 := fun n hn => hr'.2 n (List.mem_of_mem_take hn)
  rw [hit_iff, nameL_cps, nameL_cps, join_pre _ _ (fun e => by have := congrArg List.length e; simp [hr.1] at this; lia) (fun e => by have := congrArg List.length e; simp [hr'.1] at this)
    (fun u hu => by obtain ⟨n, hn, rfl⟩ := List.mem_map.mp hu; exact fig_dot (ht n hn)) (fun u hu => by obtain ⟨n, hn, rfl⟩ := List.mem_map.mp hu; exact fig_dot (hr'.2 n hn))]
  rw [List.prefix_iff_eq_take, List.length_map, List.length_take, hr.1, Nat.min_eq_left hk.2, ← List.map_take]
  exact ⟨fun h => (map_figs_inj ht ht' h).symm, fun h => by rw [h]⟩
theorem figs_ok {n : Int} (h : 0 ≤ n ∧ n < 16777216) : (figs n).length = 4 ∧ ∀ d ∈ figs n, 0 ≤ d ∧ d < 64 := by
  refine ⟨rfl, fun d hd => ?_⟩
  simp only [figs, List.mem_cons, List.not_mem_nil, or_false] at hd
  rcases hd with rfl | rfl | rfl | rfl <;> lia
theorem div2 (n : Int) : n / 64 / 64 = n / 4096 := Int.ediv_ediv_of_nonneg (by decide)
theorem div3 (n : Int) : n / 64 / 64 / 64 = n / 262144 := by rw [div2]; exact Int.ediv_ediv_of_nonneg (by decide)
theorem figs_div (n : Int) : figs n = [n / 64 / 64 / 64, n / 64 / 64 % 64, n / 64 % 64, n % 64] := by
  rw [div3, div2]; rfl
theorem div_one {x y : Int} (h : x / 64 = y / 64) (g : x % 64 = y % 64) : x = y := by rw [← Int.mul_ediv_add_emod x 64, ← Int.mul_ediv_add_emod y 64, h, g]
theorem figs_front {n m : Int} (hn : 0 ≤ n ∧ n < 16777216) (hm : 0 ≤ m ∧ m < 16777216) :
    ((figs m).take 1 = (figs n).take 1 ↔ m.fdiv 262144 = n.fdiv 262144) ∧ ((figs m).take 2 = (figs n).take 2 ↔ m.fdiv 4096 = n.fdiv 4096) ∧ ((figs m).take 3 = (figs n).take 3 ↔ m.fdiv 64 = n.fdiv 64) ∧ ((figs m).take 4 = (figs n).take 4 ↔ m.fdiv 1 = n.fdiv 1) := by
  have d : ∀ (x : Int) {c : Int}, 0 ≤ c → x.fdiv c = x / c := fun x c h => Int.fdiv_eq_ediv_of_nonneg x h
  have e : ∀ x : Int, x.fdiv 262144 = x / 64 / 64 / 64 ∧ x.fdiv 4096 = x / 64 / 64 ∧ x.fdiv 64 = x / 64 ∧ x.fdiv 1 = x := fun x => by
    rw [d x (by decide), d x (by decide), d x (by decide), d x (by decide), div3, div2, Int.ediv_one]
    exact ⟨rfl, rfl, rfl, rfl⟩
  rw [(e m).1, (e n).1, (e m).2.1, (e n).2.1, (e m).2.2.1, (e n).2.2.1, (e m).2.2.2, (e n).2.2.2, figs_div, figs_div]
  refine ⟨⟨fun h => (List.cons.inj h).1, fun h => ?_⟩, ⟨fun h => ?_, fun h => ?_⟩, ⟨fun h => ?_, fun h => ?_⟩, ⟨fun h => ?_, fun h => ?_⟩⟩
  · show [_] = [_]; rw [h]
  · injection h with h3 h; injection h with h2 h; exact div_one h3 h2
  · show [_, _] = [_, _]; rw [h]
  · injection h with h3 h; injection h with h2 h; injection h with h1 h; exact div_one (div_one h3 h2) h1
  · show [_, _, _] = [_, _, _]; rw [h]
  · injection h with h3 h; injection h with h2 h; injection h with h1 h; injection h with h0 h
    exact div_one (div_one (div_one h3 h2) h1) h0
  · rw [h]
theorem row_same {nums : List Int} (hnr : ∀ n ∈ nums, 0 ≤ n ∧ n < 16777216) {n : Int} (hn : 0 ≤ n ∧ n < 16777216) (k : Nat) (tail : Int) (hk : 1 ≤ k ∧ k ≤ 4)
    (h : ∀ m : Int, 0 ≤ m ∧ m < 16777216 → ((figs m).take k = (figs n).take k ↔ m.fdiv tail = n.fdiv tail)) : sortOf (nums.map figs) (nameL ((figs n).take k)) = sameQ nums n tail := by
  unfold sortOf sameQ
  rw [List.length_map]
  congr 1
  refine List.filter_congr fun j hj => ?_
  have hj := List.mem_range.mp hj
  have e : (nums.map figs).getD j [] = figs (nums.getD j 0) := by
    rw [List.getD_eq_getElem?_getD, List.getD_eq_getElem?_getD, List.getElem?_map, List.getElem?_eq_getElem hj]; rfl
  have hm : 0 ≤ nums.getD j 0 ∧ nums.getD j 0 < 16777216 := by
    rw [List.getD_eq_getElem?_getD, List.getElem?_eq_getElem hj]; exact hnr _ (List.getElem_mem _)
  rw [e, decide_eq_decide, hit_name (figs_ok hn) (figs_ok hm) hk]
  exact h _ hm
theorem same_rows {nums : List Int} (hnr : ∀ n ∈ nums, 0 ≤ n ∧ n < 16777216) : (nums.map figs).map (sortsRow (nums.map figs)) = nums.map (alikeRow nums) := by
  rw [List.map_map]
  refine List.map_congr_left fun n hn => ?_
  have hn := hnr n hn
  show [sortOf _ _, sortOf _ _, sortOf _ _, sortOf _ _] = [sameQ nums n 262144, sameQ nums n 4096, sameQ nums n 64, sameQ nums n 1]
  rw [row_same hnr hn 1 262144 (by decide) fun m hm => (figs_front hn hm).1, row_same hnr hn 2 4096 (by decide) fun m hm => (figs_front hn hm).2.1, row_same hnr hn 3 64 (by decide) fun m hm => (figs_front hn hm).2.2.1, row_same hnr hn 4 1 (by decide) fun m hm => (figs_front hn hm).2.2.2]
theorem name_lab {r : List Int} (hr : r.length = 4 ∧ ∀ n ∈ r, 0 ≤ n ∧ n < 64) : nameL r ≠ Str.ofString "<string>" := by
  intro e
  have h := nameL_cps r
  rw [e] at h
  match r, hr with
  | a :: b :: c, hr =>
    obtain ⟨i, hi, rfl⟩ := fig_int (hr.2 a (.head _))
    obtain ⟨_, h1, h2⟩ := fig_ok.1 i hi
    have h3 : joinC (((i : Int) :: b :: c).map cpF) = cpF (i : Int) ++ 46 :: joinC ((b :: c).map cpF) := rfl
    rw [h3] at h
    obtain ⟨c, t, e2⟩ := List.exists_cons_of_ne_nil h2
    rw [e2] at h h1
    have h4 : some 60 = some c := congrArg List.head? h
    exact h1 h4.symm
theorem joinC_len : ∀ {l : List (List Nat)}, (∀ u ∈ l, u.length ≤ 2) → (joinC l).length ≤ 3 * l.length
  | [], _ => Nat.zero_le _
  | [x], h => by have := h x (.head _); show x.length ≤ 3 * 1; lia
  | x :: y :: r, h => by
    have ih := joinC_len (l := y :: r) fun u hu => h u (.tail _ hu)
    have := h x (.head _)
    show (x ++ 46 :: joinC (y :: r)).length ≤ _
    simp only [List.length_append, List.length_cons] at ih ⊢
    lia
theorem name_short {r : List Int} (hr : r.length = 4 ∧ ∀ n ∈ r, 0 ≤ n ∧ n < 64) (k : Nat) : (nameL (r.take k)).length < 100 := by
  have e : (nameL (r.take k)).length = (joinC ((r.take k).map cpF)).length := by rw [← nameL_cps, Array.length_toList]; rfl
  have := joinC_len (l := (r.take k).map cpF) fun u hu => by
    obtain ⟨n, hn, rfl⟩ := List.mem_map.mp hu
    have := hr.2 n (List.mem_of_mem_take hn)
    have h := figS_len this.1 this.2
    rw [show (cpF n).length = (figS n).length from Array.length_toList]; exact h
  rw [e]
  rw [List.length_map, List.length_take, hr.1] at this
  lia
end Mine
end
section
open PySem PySem.W PySem.Calls PyProof.Rows PyProof.Rows.LCg
set_option maxRecDepth 100000
namespace Mine
theorem bit_cases {a b : Nat} (ha : a < 2) (hb : b < 2) : (a ^^^ b) = (a + b) % 2 ∧ (a &&& b) = a * b := by
  have h1 : a = 0 ∨ a = 1 := (Nat.eq_zero_or_pos a).imp id fun h => Nat.le_antisymm (Nat.le_of_lt_succ ha) h
  have h2 : b = 0 ∨ b = 1 := (Nat.eq_zero_or_pos b).imp id fun h => Nat.le_antisymm (Nat.le_of_lt_succ hb) h
  rcases h1 with rfl | rfl <;> rcases h2 with rfl | rfl <;> decide
theorem add_xor (a b : Nat) : a + b = (a ^^^ b) + 2 * (a &&& b) := by
  induction a using Nat.strongRecOn generalizing b with
  | ind a ih =>
    by_cases c : a = 0
    · subst c; rw [Nat.zero_xor, Nat.zero_and]; lia
    · have q := ih (a / 2) (by lia) (b / 2)
      have h1 : (a ^^^ b) / 2 = a / 2 ^^^ b / 2 := Nat.xor_div_two
      have h2 : (a &&& b) / 2 = a / 2 &&& b / 2 := Nat.and_div_two
      have h3 : (a ^^^ b) % 2 = a % 2 ^^^ b % 2 := Nat.xor_mod_two_pow (n := 1)
      have h4 : (a &&& b) % 2 = a % 2 &&& b % 2 := Nat.and_mod_two_pow (n := 1)
      have h5 := bit_cases (Nat.mod_lt a (by decide : 2 > 0)) (Nat.mod_lt b (by decide : 2 > 0))
      rw [h5.1] at h3
      rw [h5.2] at h4
      have ha : a % 2 = 0 ∨ a % 2 = 1 := by lia
      rw [← h1, ← h2] at q
      rcases ha with ha | ha
      · rw [ha] at h3 h4
        rw [Nat.zero_mul] at h4
        lia
      · rw [ha] at h3 h4
        rw [Nat.one_mul] at h4
        lia
theorem xor_int {x y : Int} (hx : 0 ≤ x) (hy : 0 ≤ y) : Builtin.bitXor x y = ((x.toNat ^^^ y.toNat : Nat) : Int) := by
  rw [bitXor_and, bitAnd_pp hx hy]
  have h := add_xor x.toNat y.toNat
  lia
theorem xor_nat (x y : Nat) : Builtin.bitXor (x : Int) (y : Int) = ((x ^^^ y : Nat) : Int) := by
  rw [xor_int (Int.natCast_nonneg x) (Int.natCast_nonneg y)]; rfl
theorem xor_inj {x y a : Nat} (h : x ^^^ a = y ^^^ a) : x = y := by
  have := congrArg (· ^^^ a) h
  simpa [Nat.xor_assoc] using this
theorem xor_digit (x y i : Nat) : (x ^^^ y) / 2 ^ i % 64 = (x / 2 ^ i % 64) ^^^ (y / 2 ^ i % 64) := by
  rw [Nat.xor_div_two_pow]
  exact Nat.xor_mod_two_pow (n := 6)
theorem figs_nat (x : Nat) : figs (x : Int) = [((x / 262144 : Nat) : Int), ((x / 4096 % 64 : Nat) : Int), ((x / 64 % 64 : Nat) : Int), ((x % 64 : Nat) : Int)] := rfl
/-- how far: figure by figure, is as the whole numbers -/
theorem far_figs {n a : Int} (hn : 0 ≤ n ∧ n < 16777216) (ha : 0 ≤ a ∧ a < 16777216) : farRow a (figs n) = figs (Builtin.bitXor n a) ∧ 0 ≤ Builtin.bitXor n a ∧ Builtin.bitXor n a < 16777216 := by
  obtain ⟨x, rfl⟩ := Int.eq_ofNat_of_zero_le hn.1
  obtain ⟨y, rfl⟩ := Int.eq_ofNat_of_zero_le ha.1
  rw [xor_nat]
  have hx : x < 2 ^ 24 := Int.ofNat_lt.mp hn.2
  have hy : y < 2 ^ 24 := Int.ofNat_lt.mp ha.2
  have hz : x ^^^ y < 2 ^ 24 := Nat.xor_lt_two_pow hx hy
  refine ⟨?_, Int.natCast_nonneg _, Int.ofNat_lt.mpr hz⟩
  unfold farRow
  rw [figs_nat, figs_nat, figs_nat]
  show [Builtin.bitXor _ _, Builtin.bitXor _ _, Builtin.bitXor _ _, Builtin.bitXor _ _] = _
  rw [xor_nat, xor_nat, xor_nat, xor_nat]
  have e0 : (x ^^^ y) % 64 = (x % 64) ^^^ (y % 64) := Nat.xor_mod_two_pow (n := 6)
  have e1 : (x ^^^ y) / 64 % 64 = (x / 64 % 64) ^^^ (y / 64 % 64) := xor_digit x y 6
  have e2 : (x ^^^ y) / 4096 % 64 = (x / 4096 % 64) ^^^ (y / 4096 % 64) := xor_digit x y 12
  have e3 : (x ^^^ y) / 262144 = (x / 262144) ^^^ (y / 262144) := Nat.xor_div_two_pow (n := 18)
  rw [e0, e1, e2, e3]
theorem figs_inj {n m : Int} (h : figs n = figs m) : n = m := by
  rw [figs_div, figs_div] at h
  injection h with h3 h; injection h with h2 h; injection h with h1 h; injection h with h0 h
  exact div_one (div_one (div_one h3 h2) h1) h0
theorem lex_step {x y : Int} (r : Bool) : (if x / 64 = y / 64 then (if x % 64 = y % 64 then r else decide (x % 64 < y % 64)) else decide (x / 64 < y / 64)) = if x = y then r else decide (x < y) := by
  have a := Int.mul_ediv_add_emod x 64
  have b := Int.mul_ediv_add_emod y 64
  by_cases e : x / 64 = y / 64
  · rw [if_pos e]
    rw [e] at a
    by_cases f : x % 64 = y % 64
    · rw [if_pos f, if_pos (a.symm.trans (by rw [f]; exact b))]
    · have g : x ≠ y := fun h => f (by rw [h])
      rw [if_neg f, if_neg g, decide_eq_decide]
      generalize x % 64 = u at *
      generalize y % 64 = v at *
      generalize 64 * (y / 64) = z at *
      omega
  · have g : x ≠ y := fun h => e (by rw [h])
    rw [if_neg e, if_neg g, decide_eq_decide]
    constructor
    · intro h
      refine Int.not_le.mp fun c => ?_
      exact absurd (Int.ediv_le_ediv (by decide) c) (Int.not_le.mpr h)
    · intro h
      have := Int.ediv_le_ediv (c := 64) (by decide) (Int.le_of_lt h)
      exact Int.lt_iff_le_and_ne.mpr ⟨this, e⟩
theorem figs_lt {n m : Int} (hn : 0 ≤ n ∧ n < 16777216) (hm : 0 ≤ m ∧ m < 16777216) : lexI (figs n) (figs m) = decide (n < m) := by
  rw [figs_div, figs_div]
  simp only [lexI]
  rw [lex_step, lex_step, lex_step]
  split
  · rename_i h; rw [h]; simp
  · rfl
end Mine
end
section
open PySem PySem.W PySem.Calls PyProof.Rows PyProof.Rows.LCg
set_option maxRecDepth 100000
namespace Mine
structure NumsOK (ns : List Int) (n : Nat) : Prop where
  nod : ns.Nodup
  rng : ∀ x ∈ ns, 0 ≤ x ∧ x < 16777216
  len : 5 ≤ ns.length ∧ ns.length ≤ 5 + n
theorem numStep_ok {ns : List Int} {n : Nat} (h : NumsOK ns n) (x : Int) : NumsOK (numStep ns x) (n + 1) := by
  unfold numStep
  have hr : 0 ≤ x.fmod 16777216 ∧ x.fmod 16777216 < 16777216 := by
    rw [Int.fmod_eq_emod_of_nonneg _ (by decide)]; exact ⟨Int.emod_nonneg _ (by decide), Int.emod_lt_of_pos _ (by decide)⟩
  split
  · exact ⟨h.nod, h.rng, h.len.1, Nat.le_succ_of_le h.len.2⟩
  · rename_i c
    refine ⟨?_, fun y hy => ?_, ?_⟩
    · rw [List.nodup_append]
      refine ⟨h.nod, by simp, fun a ha b hb e => ?_⟩
      rw [List.mem_singleton.mp hb] at e; exact c (e ▸ ha)
    · rcases List.mem_append.mp hy with q | q
      · exact h.rng y q
      · rw [List.mem_singleton.mp q]; exact hr
    · rw [List.length_append]; exact ⟨Nat.le_succ_of_le h.len.1, Nat.succ_le_succ h.len.2⟩
theorem numFold_ok : ∀ (l ns : List Int) (n : Nat), NumsOK ns n → NumsOK (l.foldl numStep ns) (n + l.length)
  | [], _, _, h => h
  | x :: l, ns, n, h => by
    have := numFold_ok l _ _ (numStep_ok h x)
    rw [List.foldl_cons, List.length_cons, show n + (l.length + 1) = n + 1 + l.length from (Nat.succ_add_eq_add_succ n l.length).symm]; exact this
theorem nums_ok (script : List Int) : NumsOK (numsOf script) 2 := by
  have h := numFold_ok (script.take 2) num0 0 ⟨by decide, by decide, by decide⟩
  exact ⟨h.nod, h.rng, h.len.1, Nat.le_trans h.len.2 (Nat.add_le_add_left (by rw [Nat.zero_add]; exact List.length_take_le 2 script) 5)⟩
theorem aim_ok (script : List Int) : 0 ≤ aimOf script ∧ aimOf script < 16777216 := by
  unfold aimOf; rw [Int.fmod_eq_emod_of_nonneg _ (by decide)]; exact ⟨Int.emod_nonneg _ (by decide), Int.emod_lt_of_pos _ (by decide)⟩
theorem size_ok (script : List Int) : sizeOf' script = 1 ∨ sizeOf' script = 2 ∨ sizeOf' script = 3 := by
  unfold sizeOf'; rw [Int.fmod_eq_emod_of_nonneg _ (by decide)]; lia
section
variable {nums : List Int} {aim : Int}
theorem getD_mem2 {i : Nat} (h : i < nums.length) : nums.getD i 0 ∈ nums := by
  rw [List.getD_eq_getElem?_getD, List.getElem?_eq_getElem h]; exact List.getElem_mem _
theorem fars_len : (farsOf aim nums).length = nums.length := by unfold farsOf; rw [List.length_map, List.length_map]
theorem fars_at (hn : ∀ x ∈ nums, 0 ≤ x ∧ x < 16777216) (ha : 0 ≤ aim ∧ aim < 16777216) {i : Nat} (h : i < nums.length) : (farsOf aim nums).getD i [] = figs (Builtin.bitXor (nums.getD i 0) aim) := by
  have e : (farsOf aim nums).getD i [] = farRow aim (figs (nums.getD i 0)) := by
    unfold farsOf
    rw [List.getD_eq_getElem?_getD, List.getElem?_map, List.getElem?_map, List.getD_eq_getElem?_getD, List.getElem?_eq_getElem h]; rfl
  rw [e, (far_figs (hn _ (getD_mem2 h)) ha).1]
theorem fars_inj (hn : ∀ x ∈ nums, 0 ≤ x ∧ x < 16777216) (ha : 0 ≤ aim ∧ aim < 16777216) (hd : nums.Nodup) : ∀ i j : Int, 0 ≤ i → i < (farsOf aim nums).length → 0 ≤ j → j < (farsOf aim nums).length → (farsOf aim nums).getD i.toNat [] = (farsOf aim nums).getD j.toNat [] → i = j := by
  intro i j h1 h2 h3 h4 e
  rw [fars_len] at h2 h4
  have hi : i.toNat < nums.length := toNat_lt h1 h2
  have hj : j.toNat < nums.length := toNat_lt h3 h4
  rw [fars_at hn ha hi, fars_at hn ha hj] at e
  have e := figs_inj e
  have ri := hn _ (getD_mem2 hi)
  have rj := hn _ (getD_mem2 hj)
  rw [xor_int ri.1 ha.1, xor_int rj.1 ha.1] at e
  have e2 := xor_inj (Int.ofNat.inj e)
  have e3 : nums.getD i.toNat 0 = nums.getD j.toNat 0 := (Int.toNat_of_nonneg ri.1).symm.trans ((congrArg Int.ofNat e2).trans (Int.toNat_of_nonneg rj.1))
  by_cases c : i.toNat = j.toNat
  · exact (Int.toNat_of_nonneg h1).symm.trans ((congrArg Int.ofNat c).trans (Int.toNat_of_nonneg h3))
  · exact absurd e3 (nodup_get hd hi hj c)
theorem idx_mem {n : Nat} {k : Int} : k ∈ idx n ↔ 0 ≤ k ∧ k < n := by
  unfold idx
  rw [List.mem_map]
  constructor
  · rintro ⟨i, hi, rfl⟩; have := List.mem_range.mp hi; exact ⟨Int.natCast_nonneg i, Int.ofNat_lt.mpr this⟩
  · intro h; exact ⟨k.toNat, List.mem_range.mpr (toNat_lt h.1 h.2), Int.toNat_of_nonneg h.1⟩
theorem idx_nodup (n : Nat) : (idx n).Nodup := by unfold idx; exact List.Pairwise.map _ (fun a b h e => h (by injection e)) List.nodup_range
theorem idx_dis (hn : ∀ x ∈ nums, 0 ≤ x ∧ x < 16777216) (ha : 0 ≤ aim ∧ aim < 16777216) (hd : nums.Nodup) : Dis (fun k => (farsOf aim nums).getD k.toNat []) (idx nums.length) :=
  ⟨idx_nodup _, fun a ha' b hb e => by
    have h1 := idx_mem.mp ha'
    have h2 := idx_mem.mp hb
    exact fars_inj hn ha hd a b h1.1 (by rw [fars_len]; exact h1.2) h2.1 (by rw [fars_len]; exact h2.2) e⟩
theorem ltK_xor (hn : ∀ x ∈ nums, 0 ≤ x ∧ x < 16777216) (ha : 0 ≤ aim ∧ aim < 16777216) {i j : Nat} (hi : i < nums.length) (hj : j < nums.length) :
    ltK (fun k => (farsOf aim nums).getD k.toNat []) (i : Int) (j : Int) = decide (Builtin.bitXor (nums.getD i 0) aim < Builtin.bitXor (nums.getD j 0) aim) := by
  show lexI ((farsOf aim nums).getD i []) ((farsOf aim nums).getD j []) = _
  rw [fars_at hn ha hi, fars_at hn ha hj]
  exact figs_lt (far_figs (hn _ (getD_mem2 hi)) ha).2 (far_figs (hn _ (getD_mem2 hj)) ha).2
theorem lexI_swo : SWO lexI := swo_of (fun x : List Int => x) lexI_asym lexI_tr lexI_tri
theorem ord_eq (hn : ∀ x ∈ nums, 0 ≤ x ∧ x < 16777216) (ha : 0 ≤ aim ∧ aim < 16777216) (hd : nums.Nodup) :
    (sortBy lexI (ordIn aim nums)).map (fun x => x.getD 1 0) = sortBy (ltK fun k => (farsOf aim nums).getD k.toNat []) (idx nums.length) := by
  refine sorted_unique (idx_dis hn ha hd) ?_ ?_
  · refine ((sortBy_perm _).map _).trans (List.Perm.of_eq ?_)
    unfold ordIn idx
    rw [List.map_map]; rfl
  · rw [List.pairwise_map]
    refine List.Pairwise.imp_of_mem ?_ (sortBy_sorted lexI_swo (l := ordIn aim nums) ?_)
    · intro x y hx hy h
      obtain ⟨i, hi, rfl⟩ := List.mem_map.mp ((sortBy_perm _).mem_iff.mp hx)
      obtain ⟨j, hj, rfl⟩ := List.mem_map.mp ((sortBy_perm _).mem_iff.mp hy)
      show ltK _ (j : Int) (i : Int) = false
      rw [ltK_xor hn ha (List.mem_range.mp hj) (List.mem_range.mp hi), decide_eq_false_iff_not]
      simp only [lexI] at h
      split at h
      · rename_i e; first | exact fun q => absurd e (Int.ne_of_lt q) | exact fun q => absurd e (Int.ne_of_gt q)
      · rw [decide_eq_false_iff_not] at h; exact h
    · intro i j hi hj hij h
      have hl : (ordIn aim nums).length = nums.length := by unfold ordIn; simp
      rw [hl] at hi hj
      have e : ∀ k, k < nums.length → (ordIn aim nums).getD k default = [Builtin.bitXor (nums.getD k 0) aim, (k : Int)] := fun k hk => by
        unfold ordIn
        rw [List.getD_eq_getElem?_getD, List.getElem?_map, List.getElem?_range hk]; rfl
      rw [e i hi, e j hj] at h ⊢
      cases q : lexI [Builtin.bitXor (nums.getD j 0) aim, (j : Int)] [Builtin.bitXor (nums.getD i 0) aim, (i : Int)] with
      | true => rfl
      | false =>
        have := lexI_tri _ _ h q
        injection this with _ t; injection t with t _
        first | exact absurd (Int.ofNat.inj t) hij | exact absurd (Int.ofNat.inj t).symm hij
theorem alike_len (n : Int) : (alikeRow nums n).length = 4 := rfl
theorem sameQ_mem {n tail : Int} {k : Int} : k ∈ sameQ nums n tail ↔ ∃ j : Nat, k = j ∧ j < nums.length ∧ (nums.getD j 0).fdiv tail = n.fdiv tail := by
  unfold sameQ
  rw [List.mem_map]
  constructor
  · rintro ⟨j, hj, rfl⟩
    obtain ⟨h1, h2⟩ := List.mem_filter.mp hj
    exact ⟨j, rfl, List.mem_range.mp h1, of_decide_eq_true h2⟩
  · rintro ⟨j, rfl, h1, h2⟩
    exact ⟨j, List.mem_filter.mpr ⟨List.mem_range.mpr h1, decide_eq_true h2⟩, rfl⟩
theorem sameQ_len (n tail : Int) : (sameQ nums n tail).length ≤ nums.length := by
  unfold sameQ
  rw [List.length_map]
  exact Nat.le_trans (List.length_filter_le _ _) (by simp)
theorem rows_ok (hl : nums.length < 10) : (∀ r ∈ nums.map (alikeRow nums), r.length < 10 ∧ ∀ q ∈ r, q ≠ [] ∧ q.length < 10) ∧ (nums.map (alikeRow nums)).length < 10 := by
  refine ⟨fun r hr => ?_, by rw [List.length_map]; exact hl⟩
  obtain ⟨n, hn, rfl⟩ := List.mem_map.mp hr
  refine ⟨by rw [alike_len]; decide, fun q hq => ?_⟩
  obtain ⟨t, ht, rfl⟩ := List.mem_map.mp hq
  refine ⟨fun e => ?_, Nat.lt_of_le_of_lt (sameQ_len _ _) hl⟩
  obtain ⟨j, hj, e2⟩ := List.mem_iff_getElem.mp hn
  have : (j : Int) ∈ sameQ nums n t := sameQ_mem.mpr ⟨j, rfl, hj, by rw [List.getD_eq_getElem?_getD, List.getElem?_eq_getElem hj, Option.getD_some, e2]⟩
  rw [e] at this; cases this
end
end Mine
end
section
open PySem PySem.W PySem.Calls PyProof.Rows
namespace Mine
section
variable {α : Type} [Inhabited α] {lt : α → α → Bool}
noncomputable abbrev gt (l : List α) (i : Nat) : α := l.getD i default
theorem two_half {i : Nat} (h : 0 < i) : 2 * ((i - 1) / 2) + 1 ≤ i := Nat.le_trans (Nat.succ_le_succ (Nat.mul_div_le (i - 1) 2)) (Nat.le_of_eq (Nat.sub_add_cancel h))
noncomputable def HeapL (lt : α → α → Bool) (l : List α) : Prop := ∀ i, 0 < i → i < l.length → lt (gt l i) (gt l ((i - 1) / 2)) = false
theorem gt_set {l : List α} {p : Nat} {x : α} (h : p < l.length) (i : Nat) : gt (l.set p x) i = if i = p then x else gt l i := by
  unfold gt
  rw [List.getD_eq_getElem?_getD, List.getD_eq_getElem?_getD, List.getElem?_set]
  by_cases e : p = i
  · subst e; rw [if_pos rfl, if_pos h, if_pos rfl]; rfl
  · rw [if_neg e, if_neg (Ne.symm e)]
theorem heap_top (S : SWO lt) {l : List α} (h : HeapL lt l) : ∀ i, i < l.length → lt (gt l i) (gt l 0) = false := by
  intro i
  induction i using Nat.strongRecOn with
  | _ i ih =>
    intro hi
    by_cases c : i = 0
    · subst c; exact (show lt (gt l 0) (gt l 0) = false by
        cases q : lt (gt l 0) (gt l 0) with
        | false => rfl
        | true => rw [S.has _ _ q] at q; cases q)
    · exact S.hle _ _ _ (ih ((i - 1) / 2) (half_lt' (Nat.pos_of_ne_zero c)) (half_lt hi)) (h i (Nat.pos_of_ne_zero c) hi)
/-- a heap but for the place p, where x is to come -/
structure BU (lt : α → α → Bool) (l : List α) (p : Nat) (x : α) : Prop where
  inb : p < l.length
  a : ∀ i, 0 < i → i < l.length → i ≠ p → (i - 1) / 2 ≠ p → lt (gt l i) (gt l ((i - 1) / 2)) = false
  b : ∀ i, 0 < i → i < l.length → (i - 1) / 2 = p → lt (gt l i) x = false
  c : 0 < p → ∀ i, 0 < i → i < l.length → (i - 1) / 2 = p → lt (gt l i) (gt l ((p - 1) / 2)) = false
theorem BU.done {l : List α} {p : Nat} {x : α} (h : BU lt l p x) (hx : 0 < p → lt x (gt l ((p - 1) / 2)) = false) : HeapL lt (l.set p x) := fun i h0 hi => by
  rw [List.length_set] at hi
  rw [gt_set h.inb, gt_set h.inb]
  by_cases e : i = p
  · subst e
    rw [if_pos rfl, if_neg (Nat.ne_of_lt (half_lt' h0))]; exact hx h0
  · rw [if_neg e]
    by_cases e2 : (i - 1) / 2 = p
    · rw [if_pos e2]; exact h.b i h0 hi e2
    · rw [if_neg e2]; exact h.a i h0 hi e e2
theorem sdLoop_heap (S : SWO lt) {x : α} : ∀ (f : Nat) (l : List α) (p : Nat), p < f → BU lt l p x → HeapL lt ((sdLoop lt x 0 f l p).1.set (sdLoop lt x 0 f l p).2 x)
  | f + 1, l, p, hf, h => by
    simp only [sdLoop]
    by_cases c : 0 < p
    · rw [if_pos c]
      cases q : lt x (l.getD ((p - 1) / 2) default) with
      | false =>
        simp only [Bool.false_eq_true, if_false]
        exact h.done fun _ => q
      | true =>
        simp only [if_true]
        have hlt : (p - 1) / 2 < p := half_lt' c
        refine sdLoop_heap S f _ _ (Nat.lt_of_lt_of_le hlt (Nat.le_of_lt_succ hf)) ⟨by rw [List.length_set]; exact Nat.lt_trans hlt h.inb, fun i h0 hi h1 h2 => ?_, fun i h0 hi h1 => ?_, fun hq i h0 hi h1 => ?_⟩
        · rw [List.length_set] at hi
          rw [gt_set h.inb, gt_set h.inb]
          have hip : i ≠ p := fun e => h2 (by rw [e])
          rw [if_neg hip]
          by_cases e : (i - 1) / 2 = p
          · rw [if_pos e]; exact h.c c i h0 hi e
          · rw [if_neg e]; exact h.a i h0 hi hip e
        · rw [List.length_set] at hi
          rw [gt_set h.inb]
          by_cases e : i = p
          · rw [if_pos e]; exact S.has _ _ q
          · rw [if_neg e]
            have := h.a i h0 hi e (by rw [h1]; exact Nat.ne_of_lt hlt)
            rw [h1] at this
            exact S.hle _ _ _ (S.has _ _ q) this
        · rw [List.length_set] at hi
          rw [gt_set h.inb, gt_set h.inb]
          have hr := h.a ((p - 1) / 2) hq (Nat.lt_trans hlt h.inb) (Nat.ne_of_lt hlt) (Nat.ne_of_lt (half_lt hlt))
          rw [if_neg (Nat.ne_of_lt (half_lt hlt))]
          by_cases e : i = p
          · rw [if_pos e]; exact hr
          · rw [if_neg e]
            have := h.a i h0 hi e (by rw [h1]; exact Nat.ne_of_lt hlt)
            rw [h1] at this
            exact S.hle _ _ _ hr this
    · rw [if_neg c]
      exact h.done fun h0 => absurd h0 c
theorem heappush_heap (S : SWO lt) {l : List α} {x : α} (h : HeapL lt l) : HeapL lt (heappushL lt l x) := by
  unfold heappushL siftdownL
  simp only
  have hg : ∀ i, i < l.length → gt (l ++ [x]) i = gt l i := fun i hi => by unfold gt; rw [List.getD_eq_getElem?_getD, List.getD_eq_getElem?_getD, List.getElem?_append_left hi]
  have hx : (l ++ [x]).getD l.length default = x := by rw [List.getD_eq_getElem?_getD, List.getElem?_append_right (Nat.le_refl _)]; simp
  refine sdLoop_heap S _ _ _ (Nat.lt_succ_self _) ⟨by simp, fun i h0 hi h1 h2 => ?_, fun i h0 hi h1 => ?_, fun _ i h0 hi h1 => ?_⟩
  · rw [List.length_append, List.length_singleton] at hi
    have hil := Nat.lt_of_le_of_ne (Nat.le_of_lt_succ hi) h1
    rw [hg i hil, hg _ (half_lt hil)]
    exact h i h0 hil
  · rw [List.length_append, List.length_singleton] at hi; exact absurd h1 (Nat.ne_of_lt (Nat.lt_of_lt_of_le (half_lt' h0) (Nat.le_of_lt_succ hi)))
  · rw [List.length_append, List.length_singleton] at hi; exact absurd h1 (Nat.ne_of_lt (Nat.lt_of_lt_of_le (half_lt' h0) (Nat.le_of_lt_succ hi)))
structure HU (lt : α → α → Bool) (l : List α) (p : Nat) : Prop where
  inb : p < l.length
  a : ∀ i, 0 < i → i < l.length → i ≠ p → (i - 1) / 2 ≠ p → lt (gt l i) (gt l ((i - 1) / 2)) = false
  c : 0 < p → ∀ i, 0 < i → i < l.length → (i - 1) / 2 = p → lt (gt l i) (gt l ((p - 1) / 2)) = false
theorem kid_min (S : SWO lt) {l : List α} {p i : Nat} (hi : i < l.length) (h0 : 0 < i) (hp : (i - 1) / 2 = p) : lt (gt l i) (gt l (kid lt l p)) = false := by
  have hh : i = 2 * p + 1 ∨ i = 2 * p + 2 := by
    have e := Nat.div_add_mod (i - 1) 2
    rw [hp] at e
    rcases Nat.mod_two_eq_zero_or_one (i - 1) with r | r
    · rw [r] at e; exact .inl (by rw [← Nat.sub_add_cancel h0, ← e])
    · rw [r] at e; exact .inr (by rw [← Nat.sub_add_cancel h0, ← e])
  unfold kid
  by_cases c : 2 * p + 2 < l.length
  · rw [if_pos c]
    cases q : lt (l.getD (2 * p + 1) default) (l.getD (2 * p + 2) default) with
    | true =>
      simp only [if_true]
      rcases hh with rfl | rfl
      · exact S.irr' _
      · exact S.has _ _ q
    | false =>
      simp only [Bool.false_eq_true, if_false]
      rcases hh with rfl | rfl
      · exact q
      · exact S.irr' _
  · rw [if_neg c]
    rcases hh with rfl | rfl
    · exact S.irr' _
    · exact absurd hi c
theorem suLoop_heap (S : SWO lt) : ∀ (f : Nat) (l : List α) (p : Nat), l.length ≤ p + f → HU lt l p → HU lt (suLoop lt f l p).1 (suLoop lt f l p).2 ∧ (suLoop lt f l p).1.length ≤ 2 * (suLoop lt f l p).2 + 1
  | 0, l, p, hf, h => absurd h.inb (Nat.not_lt.mpr hf)
  | f + 1, l, p, hf, h => by
    simp only [suLoop]
    by_cases c : 2 * p + 1 < l.length
    · rw [if_pos c]
      have hk1 := kid_le lt l p
      have hk2 := kid_lt (lt := lt) c
      have hk3 : (kid lt l p - 1) / 2 = p := by
        have : kid lt l p ≤ 2 * p + 2 := by unfold kid; split <;> (try split) <;> first | exact Nat.le_refl _ | exact Nat.le_succ _
        exact Nat.div_eq_of_lt_le (by rw [Nat.mul_comm]; exact Nat.le_sub_one_of_lt hk1) (Nat.lt_of_lt_of_le (Nat.sub_lt (Nat.lt_of_lt_of_le (Nat.succ_pos _) hk1) Nat.one_pos) (by rw [Nat.mul_comm]; exact this))
      have pk : p + 1 ≤ kid lt l p := Nat.le_trans (Nat.succ_le_succ (Nat.le_mul_of_pos_left p (by decide))) hk1
      refine suLoop_heap S f _ _ (by rw [List.length_set]; exact Nat.le_trans hf (Nat.le_trans (Nat.le_of_eq (Nat.succ_add_eq_add_succ p f).symm) (Nat.add_le_add_right pk f))) ⟨by rw [List.length_set]; exact hk2, fun i h0 hi h1 h2 => ?_, fun _ i h0 hi h1 => ?_⟩
      · rw [List.length_set] at hi
        rw [gt_set h.inb, gt_set h.inb]
        by_cases e : i = p
        · rw [if_pos e, if_neg (fun q => Nat.ne_of_lt (half_lt' h0) (q.trans e.symm))]
          have := h.c (e ▸ h0) (kid lt l p) (Nat.lt_of_lt_of_le (Nat.succ_pos _) hk1) hk2 hk3
          rw [e]; exact this
        · rw [if_neg e]
          by_cases e2 : (i - 1) / 2 = p
          · rw [if_pos e2]; exact kid_min S hi h0 e2
          · rw [if_neg e2]; exact h.a i h0 hi e e2
      · rw [List.length_set] at hi
        have hpi : p < i := Nat.lt_trans pk (h1 ▸ half_lt' h0)
        rw [hk3, gt_set h.inb, gt_set h.inb, if_neg (Nat.ne_of_gt hpi), if_pos rfl]
        have := h.a i h0 hi (Nat.ne_of_gt hpi) (by rw [h1]; exact Nat.ne_of_gt pk)
        rwa [h1] at this
    · rw [if_neg c]
      exact ⟨h, Nat.not_lt.mp c⟩
theorem siftup_heap (S : SWO lt) {l : List α} (h : HU lt l 0) : HeapL lt (siftupL lt l 0) := by
  unfold siftupL siftdownL
  simp only
  have q := suLoop_heap S l.length l 0 (Nat.le_of_eq (Nat.zero_add _).symm) h
  generalize suLoop lt l.length l 0 = r at q
  have hx : (r.1.set r.2 (l.getD 0 default)).getD r.2 default = l.getD 0 default := by have := gt_set (x := l.getD 0 default) q.1.inb r.2; rw [if_pos rfl] at this; exact this
  rw [hx]
  refine sdLoop_heap S _ _ _ (Nat.lt_succ_self _) ⟨by rw [List.length_set]; exact q.1.inb, fun i h0 hi h1 h2 => ?_, fun i h0 hi h1 => ?_, fun hp i h0 hi h1 => ?_⟩
  · rw [List.length_set] at hi
    rw [gt_set q.1.inb, gt_set q.1.inb, if_neg h1, if_neg h2]
    exact q.1.a i h0 hi h1 h2
  · rw [List.length_set] at hi; exact absurd hi (Nat.not_lt.mpr (Nat.le_trans q.2 (h1 ▸ two_half h0)))
  · rw [List.length_set] at hi; exact absurd hi (Nat.not_lt.mpr (Nat.le_trans q.2 (h1 ▸ two_half h0)))
end
end Mine
end
section
open PySem PySem.W PySem.Calls PyProof.Rows PyProof.Rows.LCg
set_option maxRecDepth 100000
namespace Mine
section
variable {fars : Int → List Int} {H : List Int} {size : Int}
theorem near_few (hd : Dis fars H) {p : Int} (hp : p ∈ nsOf fars size H) {B : List Int} (hB : B.Nodup) (hs : ∀ b ∈ B, b ∈ H ∧ ltK fars b p = true) : B.length < size.toNat := by
  unfold nsOf at hp
  have hS := sortK_sorted hd
  have hm : ∀ b, b ∈ sortBy (ltK fars) H ↔ b ∈ H := fun b => (sortBy_perm H).mem_iff
  generalize sortBy (ltK fars) H = S at hp hS hm
  obtain ⟨u, v, e⟩ := List.append_of_mem hp
  have e2 : S = u ++ p :: (v ++ S.drop size.toNat) := by
    conv => lhs; rw [← List.take_append_drop size.toNat S, e]
    rw [List.append_assoc]; rfl
  have hl : u.length < size.toNat := by
    have := congrArg List.length e
    rw [List.length_take, List.length_append, List.length_cons] at this
    exact Nat.lt_of_lt_of_le (Nat.lt_add_of_pos_right (Nat.succ_pos v.length)) (Nat.le_trans (Nat.le_of_eq this.symm) (Nat.min_le_left _ _))
  rw [e2] at hS
  have hpw := List.pairwise_append.mp hS
  have hpv := List.pairwise_cons.mp hpw.2.1
  have : B.length ≤ u.length := nd_len B u hB fun b hb => by
    obtain ⟨h1, h2⟩ := hs b hb
    have h3 := (hm b).mpr h1
    rw [e2] at h3
    rcases List.mem_append.mp h3 with h3 | h3
    · exact h3
    · rcases List.mem_cons.mp h3 with rfl | h3
      · have := (ltK_swo fars).irr' b; rw [h2] at this; cases this
      · have := hpv.1 b h3; rw [h2] at this; cases this
  lia
theorem near_sub {p : Int} (hp : p ∈ nsOf fars size H) : p ∈ H := (sortBy_perm H).mem_iff.mp (List.mem_of_mem_take hp)
theorem near_out (hd : Dis fars H) {p q : Int} (hp : p ∈ nsOf fars size H) (hq : q ∈ H) (hn : q ∉ nsOf fars size H) : ltK fars q p = false := by
  unfold nsOf at hp hn
  have hS := sortK_sorted hd
  have h3 := (sortBy_perm (lt := ltK fars) H).mem_iff.mpr hq
  generalize sortBy (ltK fars) H = S at hp hS hn h3
  rw [← List.take_append_drop size.toNat S] at hS h3
  rcases List.mem_append.mp h3 with h | h
  · exact absurd h hn
  · exact (List.pairwise_append.mp hS).2.2 p hp q h
theorem near_len : (nsOf fars size H).length = min size.toNat H.length := by
  unfold nsOf; rw [List.length_take, (sortBy_perm H).length_eq]
theorem near_nodup (hd : Dis fars H) : (nsOf fars size H).Nodup := (List.take_sublist _ _).nodup ((sortBy_perm H).symm.nodup hd.1)
/-- if all that are near are expanded, the nearest of all are found -/
theorem search_done {I : List Int} {known : Int → List Int} (hdI : Dis fars I) (hn : H.Nodup) (hI : ∀ k ∈ H, k ∈ I) (hne : H ≠ []) (h1 : 1 ≤ size.toNat) (h2 : size.toNat ≤ I.length)
    (hB : ∀ t ∈ I, ∀ p ∈ I, t ≠ p → t ∈ known p ∨ ∃ K : List Int, K.Nodup ∧ K.length = size.toNat ∧ (∀ m ∈ K, m ∈ known p) ∧ (ltK fars t p = true → ∀ m ∈ K, ltK fars m p = true))
    (hx : ∀ p ∈ nsOf fars size H, ∀ m ∈ known p, m ∈ H) : nsOf fars size H = (sortBy (ltK fars) I).take size.toNat := by
  have hdH : Dis fars H := hdI.sub hn hI
  have key : ∀ t ∈ nsOf fars size I, t ∈ H := fun t ht => by
    have htI := near_sub ht
    refine Classical.byContradiction fun hc => ?_
    have far : ∀ p ∈ nsOf fars size H, ltK fars p t = true ∧ size.toNat ≤ H.length := fun p hp => by
      have hpH := near_sub hp
      have hne : t ≠ p := fun e => hc (e ▸ hpH)
      rcases hB t htI p (hI p hpH) hne with h | ⟨K, k1, k2, k3, k4⟩
      · exact absurd (hx p hp t h) hc
      · refine ⟨?_, ?_⟩
        · cases q : ltK fars t p with
          | true =>
            have := near_few hdH hp k1 fun b hb => ⟨hx p hp b (k3 b hb), k4 q b hb⟩
            exact absurd this (by rw [k2]; exact Nat.lt_irrefl _)
          | false =>
            cases r : ltK fars p t with
            | true => rfl
            | false => exact absurd (hdI.tri htI (hI p hpH) q r) hne
        · rw [← k2]; exact nd_len K H k1 fun b hb => hx p hp b (k3 b hb)
    have hl : (nsOf fars size H).length = min size.toNat H.length := near_len
    have hpos : 0 < H.length := List.length_pos_iff.mpr hne
    obtain ⟨p, hp⟩ := List.exists_mem_of_length_pos (l := nsOf fars size H) (by lia)
    have := near_few hdI ht (near_nodup (size := size) hdH) fun b hb => ⟨hI b (near_sub hb), (far b hb).1⟩
    have := (far p hp).2
    lia
  have hg : (nsOf fars size I).length = size.toNat := by rw [near_len]; lia
  have hgn := near_nodup (size := size) hdI
  have hS := sortK_sorted hdI
  have e := take_unique (D := nsOf fars size I) (R := H.filter fun q => decide (q ∉ nsOf fars size I)) hdH ?_ (hS.sublist (List.take_sublist _ _)) ?_
  · rw [hg] at e; exact e.symm
  · rw [List.perm_ext_iff_of_nodup]
    · intro a
      rw [List.mem_append, List.mem_filter, decide_eq_true_eq]
      constructor
      · rintro (h | h)
        · exact key a h
        · exact h.1
      · intro h
        by_cases c : a ∈ nsOf fars size I
        · exact .inl c
        · exact .inr ⟨h, c⟩
    · rw [List.nodup_append]
      refine ⟨hgn, hn.filter _, fun a ha b hb q => ?_⟩
      have := (List.mem_filter.mp hb).2
      rw [decide_eq_true_eq] at this
      exact this (q ▸ ha)
    · exact hn
  · intro d hdm r hr
    obtain ⟨h3, h4⟩ := List.mem_filter.mp hr
    exact near_out hdI hdm (hI r h3) (of_decide_eq_true h4)
end
section
variable {nums : List Int} {aim : Int}
theorem far_div {x y z a : Int} {i : Nat} (hx : 0 ≤ x) (hy : 0 ≤ y) (hz : 0 ≤ z) (ha : 0 ≤ a) (h1 : x.toNat / 2 ^ i = z.toNat / 2 ^ i) (h2 : y.toNat / 2 ^ i ≠ x.toNat / 2 ^ i) (h : Builtin.bitXor x a < Builtin.bitXor y a) : Builtin.bitXor z a < Builtin.bitXor y a := by
  rw [xor_int hx ha, xor_int hy ha] at h
  rw [xor_int hz ha, xor_int hy ha]
  have h := Int.ofNat_lt.mp h
  refine Int.ofNat_lt.mpr ?_
  have e1 : (x.toNat ^^^ a.toNat) / 2 ^ i = (z.toNat ^^^ a.toNat) / 2 ^ i := by rw [Nat.xor_div_two_pow, Nat.xor_div_two_pow, h1]
  have e2 : (y.toNat ^^^ a.toNat) / 2 ^ i ≠ (x.toNat ^^^ a.toNat) / 2 ^ i := fun e => by
    rw [Nat.xor_div_two_pow, Nat.xor_div_two_pow] at e
    exact h2 (xor_inj e)
  have e3 : (x.toNat ^^^ a.toNat) / 2 ^ i ≤ (y.toNat ^^^ a.toNat) / 2 ^ i := Nat.div_le_div_right (Nat.le_of_lt h)
  have e4 : (z.toNat ^^^ a.toNat) / 2 ^ i < (y.toNat ^^^ a.toNat) / 2 ^ i := by rw [← e1]; exact Nat.lt_of_le_of_ne e3 (Ne.symm e2)
  exact Nat.lt_of_not_le fun c => absurd (Nat.div_le_div_right (c := 2 ^ i) c) (Nat.not_le.mpr e4)
theorem fdiv_pow {x : Int} (hx : 0 ≤ x) {tail : Int} {i : Nat} (ht : tail = ((2 ^ i : Nat) : Int)) : x.fdiv tail = ((x.toNat / 2 ^ i : Nat) : Int) := by
  obtain ⟨n, rfl⟩ := Int.eq_ofNat_of_zero_le hx
  subst ht
  rw [Int.fdiv_eq_ediv_of_nonneg _ (Int.natCast_nonneg _)]
  rfl
theorem sameQ_nodup (n tail : Int) : (sameQ nums n tail).Nodup := by
  unfold sameQ
  exact List.Pairwise.map _ (fun a b h e => h (by injection e)) (List.nodup_range.filter _)
theorem rot_perm {α : Type} (a : List α) (c : Nat) : (a.drop c ++ a.take c).Perm a := by
  have := List.perm_append_comm (l₁ := a.drop c) (l₂ := a.take c)
  rw [List.take_append_drop] at this; exact this
theorem ltK_D (hn : ∀ x ∈ nums, 0 ≤ x ∧ x < 16777216) (ha : 0 ≤ aim ∧ aim < 16777216) {i j : Int} (hi : i ∈ idx nums.length) (hj : j ∈ idx nums.length) :
    ltK (fun k => (farsOf aim nums).getD k.toNat []) i j = decide (Builtin.bitXor (nums.getD i.toNat 0) aim < Builtin.bitXor (nums.getD j.toNat 0) aim) := by
  have h1 := idx_mem.mp hi
  have h2 := idx_mem.mp hj
  have := ltK_xor hn ha (i := i.toNat) (j := j.toNat) (toNat_lt h1.1 h1.2) (toNat_lt h2.1 h2.2)
  rw [Int.toNat_of_nonneg h1.1, Int.toNat_of_nonneg h2.1] at this
  exact this
theorem bucket (hn : ∀ x ∈ nums, 0 ≤ x ∧ x < 16777216) (ha : 0 ≤ aim ∧ aim < 16777216) (hd : nums.Nodup) {size total : Int} (t : Int) (ht : t ∈ idx nums.length) (p : Int) (hp : p ∈ idx nums.length) (hne : t ≠ p) :
    t ∈ knownOf p size total (nums.map (alikeRow nums)) ∨ ∃ K : List Int, K.Nodup ∧ K.length = size.toNat ∧ (∀ m ∈ K, m ∈ knownOf p size total (nums.map (alikeRow nums))) ∧ (ltK (fun k => (farsOf aim nums).getD k.toNat []) t p = true → ∀ m ∈ K, ltK (fun k => (farsOf aim nums).getD k.toNat []) m p = true) := by
  have h1 := idx_mem.mp ht
  have h2 := idx_mem.mp hp
  have ht2 : t.toNat < nums.length := toNat_lt h1.1 h1.2
  have hp2 : p.toNat < nums.length := toNat_lt h2.1 h2.2
  have rt := hn _ (getD_mem2 ht2)
  have rp := hn _ (getD_mem2 hp2)
  have hnp : nums.getD p.toNat 0 ≠ nums.getD t.toNat 0 := nodup_get hd hp2 ht2 (by lia)
  have hsub : ∀ m ∈ knownRow p size total (alikeRow nums (nums.getD t.toNat 0)), m ∈ knownOf p size total (nums.map (alikeRow nums)) := fun m hm =>
    List.mem_flatMap.mpr ⟨_, List.mem_map.mpr ⟨_, getD_mem2 ht2, rfl⟩, hm⟩
  obtain ⟨b, r, hb⟩ : ∃ b r, (alikeRow nums (nums.getD t.toNat 0)).filter (fun q => !decide (p ∈ q)) = b :: r := by
    cases c : (alikeRow nums (nums.getD t.toNat 0)).filter (fun q => !decide (p ∈ q)) with
    | cons b r => exact ⟨b, r, rfl⟩
    | nil =>
      have := List.filter_eq_nil_iff.mp c (sameQ nums (nums.getD t.toNat 0) 1) (by unfold alikeRow; simp)
      refine absurd ?_ this
      rw [Bool.not_eq_true', decide_eq_false_iff_not]
      intro h
      obtain ⟨j, hj, _, h4⟩ := sameQ_mem.mp h
      rw [Int.fdiv_one, Int.fdiv_one, show j = p.toNat from by rw [hj]; rfl] at h4
      exact hnp h4
  have hbm : b ∈ (alikeRow nums (nums.getD t.toNat 0)).filter (fun q => !decide (p ∈ q)) := by rw [hb]; exact .head _
  obtain ⟨hb1, hb2⟩ := List.mem_filter.mp hbm
  rw [Bool.not_eq_true', decide_eq_false_iff_not] at hb2
  obtain ⟨tail, htail, rfl⟩ := List.mem_map.mp hb1
  obtain ⟨i, hi⟩ : ∃ i : Nat, tail = ((2 ^ i : Nat) : Int) := by
    simp only [List.mem_cons, List.not_mem_nil, or_false] at htail
    rcases htail with rfl | rfl | rfl | rfl
    · exact ⟨18, rfl⟩
    · exact ⟨12, rfl⟩
    · exact ⟨6, rfl⟩
    · exact ⟨0, rfl⟩
  have hK : knownRow p size total (alikeRow nums (nums.getD t.toNat 0)) = ((sameQ nums (nums.getD t.toNat 0) tail).drop (total.fmod (sameQ nums (nums.getD t.toNat 0) tail).length).toNat ++ (sameQ nums (nums.getD t.toNat 0) tail).take (total.fmod (sameQ nums (nums.getD t.toNat 0) tail).length).toNat).take size.toNat := by
    unfold knownRow; rw [hb]
  have hrot := rot_perm (sameQ nums (nums.getD t.toNat 0) tail) (total.fmod (sameQ nums (nums.getD t.toNat 0) tail).length).toNat
  generalize (sameQ nums (nums.getD t.toNat 0) tail).drop (total.fmod (sameQ nums (nums.getD t.toNat 0) tail).length).toNat ++ (sameQ nums (nums.getD t.toNat 0) tail).take (total.fmod (sameQ nums (nums.getD t.toNat 0) tail).length).toNat = rot at hK hrot
  rw [hK] at hsub
  have htb : t ∈ sameQ nums (nums.getD t.toNat 0) tail := sameQ_mem.mpr ⟨t.toNat, (Int.toNat_of_nonneg h1.1).symm, ht2, rfl⟩
  by_cases c : rot.length ≤ size.toNat
  · rw [List.take_of_length_le c] at hsub
    exact .inl (hsub t (hrot.mem_iff.mpr htb))
  · refine .inr ⟨rot.take size.toNat, (List.take_sublist _ _).nodup (hrot.symm.nodup (sameQ_nodup _ _)), by rw [List.length_take]; exact Nat.min_eq_left (Nat.le_of_lt (Nat.not_le.mp c)), hsub, fun hlt m hm => ?_⟩
    obtain ⟨j, rfl, hj, hq⟩ := sameQ_mem.mp (hrot.mem_iff.mp (List.mem_of_mem_take hm))
    have hmI : (j : Int) ∈ idx nums.length := idx_mem.mpr ⟨Int.natCast_nonneg j, Int.ofNat_lt.mpr hj⟩
    rw [ltK_D hn ha ht hp, decide_eq_true_eq] at hlt
    rw [ltK_D hn ha hmI hp, decide_eq_true_eq]
    have rm := hn _ (getD_mem2 hj)
    rw [fdiv_pow rm.1 hi, fdiv_pow rt.1 hi] at hq
    refine far_div (i := i) rt.1 rp.1 rm.1 ha.1 (Int.ofNat.inj hq).symm (fun e => hb2 ?_) hlt
    exact sameQ_mem.mpr ⟨p.toNat, (Int.toNat_of_nonneg h2.1).symm, hp2, by rw [fdiv_pow rp.1 hi, fdiv_pow rt.1 hi, e]⟩
end
end Mine
end
section
open PySem PySem.W PySem.Calls PyProof.Rows PyProof.Rows.LCg
set_option maxRecDepth 100000
namespace Mine
theorem popX_gt {α : Type} [Inhabited α] {w : List α} (h : w ≠ []) : popX w = gt w 0 := by
  match w, h with
  | [a], _ => rfl
  | a :: b :: r, _ => rfl
theorem pop_perm {α : Type} [Inhabited α] {lt : α → α → Bool} {w : List α} (h : w ≠ []) : (popX w :: popR lt w).Perm w := by
  have e := pop_split h
  unfold popX popR
  by_cases c : w.dropLast = []
  · rw [if_pos c, if_pos c]
    rw [c] at e
    exact List.Perm.of_eq e
  · rw [if_neg c, if_neg c]
    obtain ⟨r, h1, h2⟩ := perm_set_zero (x := w.getLastD default) (List.length_pos_iff.mpr c)
    refine ((siftupL_perm lt (by rw [List.length_set]; exact List.length_pos_iff.mpr c)).cons _).trans ?_
    rw [h2]
    conv => rhs; rw [← e, h1]
    exact (List.perm_append_comm (l₁ := [w.getLastD default]) (l₂ := r)).cons (w.dropLast.getD 0 default)
theorem popR_heap {α : Type} [Inhabited α] {lt : α → α → Bool} (S : SWO lt) {w : List α} (h : HeapL lt w) (hw : w ≠ []) : HeapL lt (popR lt w) := by
  unfold popR
  split
  · intro i h0 hi; cases hi
  · rename_i c
    have hp : 0 < w.dropLast.length := List.length_pos_iff.mpr c
    refine siftup_heap S ⟨by rw [List.length_set]; exact hp, fun i h0 hi h1 h2 => ?_, fun h0 => absurd h0 (Nat.lt_irrefl 0)⟩
    rw [List.length_set] at hi
    rw [gt_set hp, gt_set hp, if_neg h1, if_neg h2]
    have hg : ∀ j, j < w.dropLast.length → gt w.dropLast j = gt w j := fun j hj => by
      show w.dropLast.getD j default = w.getD j default
      rw [List.getD_eq_getElem?_getD, List.getD_eq_getElem?_getD, List.getElem?_dropLast]
      rw [List.length_dropLast] at hj
      rw [if_pos hj]
    rw [hg i hi, hg _ (half_lt hi)]
    exact h i h0 (by rw [List.length_dropLast] at hi; exact Nat.lt_of_lt_of_le hi (Nat.sub_le _ _))
theorem rank_lt {N a b c h w : Nat} (h1 : b + h = c + a) (h2 : h ≤ a) (h3 : a ≤ N) (h4 : c + 1 = w) : 2 * (N - a) + b < 2 * (N - h) + w := by
  obtain ⟨d, rfl⟩ := Nat.le.dest h2
  obtain ⟨e, rfl⟩ := Nat.le.dest h3
  have hb : b = c + d := Nat.add_right_cancel (m := h) (by rw [h1, Nat.add_comm h d, Nat.add_assoc])
  subst hb h4
  rw [Nat.add_sub_cancel_left, Nat.add_assoc h d e, Nat.add_sub_cancel_left, Nat.mul_add, Nat.add_comm (2 * d), Nat.add_assoc, Nat.add_comm c d, Nat.two_mul d]
  refine Nat.add_lt_add_left ?_ _
  rw [Nat.add_assoc]
  exact Nat.add_lt_add_left (Nat.lt_of_lt_of_le (Nat.lt_succ_self c) (Nat.le_add_left _ _)) d
section
variable {fars : Int → List Int} {N : Nat} {known : Int → List Int}
/-- heard and waiting, while the search goes on; E: those that need not be expanded yet -/
structure SInv (fars : Int → List Int) (N : Nat) (h : List Int) (w : List (Int × List Int)) : Prop where
  nod : h.Nodup
  rng : ∀ k ∈ h, 0 ≤ k ∧ k < (N : Int)
  wnod : (w.map (·.1)).Nodup
  wsub : ∀ p ∈ w, p.1 ∈ h ∧ p.2 = [p.1]
  heap : HeapL (ltE fars) w
theorem SInv.push {h : List Int} {w : List (Int × List Int)} (I : SInv fars N h w) {k : Int} (hk : 0 ≤ k ∧ k < (N : Int)) (hn : k ∉ h) : SInv fars N (h ++ [k]) (heappushL (ltE fars) w (k, [k])) where
  nod := by
    rw [List.nodup_append]
    refine ⟨I.nod, by simp, fun a ha b hb e => ?_⟩
    rw [List.mem_singleton.mp hb] at e; exact hn (e ▸ ha)
  rng := fun j hj => by
    rcases List.mem_append.mp hj with q | q
    · exact I.rng j q
    · rw [List.mem_singleton.mp q]; exact hk
  wnod := by
    refine (((heappushL_len _ _ _).map _).symm.nodup ?_)
    rw [List.map_append, List.nodup_append]
    refine ⟨I.wnod, by simp, fun a ha b hb e => ?_⟩
    obtain ⟨p, hp, rfl⟩ := List.mem_map.mp ha
    have : b = k := List.mem_singleton.mp hb
    exact hn (this ▸ e ▸ (I.wsub p hp).1)
  wsub := fun p hp => by
    rcases List.mem_append.mp ((heappushL_len _ _ _).mem_iff.mp hp) with q | q
    · exact ⟨List.mem_append_left _ (I.wsub p q).1, (I.wsub p q).2⟩
    · rw [List.mem_singleton.mp q]; exact ⟨List.mem_append_right _ (.head _), rfl⟩
  heap := heappush_heap (ltE_swo fars) I.heap
/-- the pushing loop -/
structure SFold (fars : Int → List Int) (N : Nat) (h0 : List Int) (w0 : List (Int × List Int)) (st : List Int × List (Int × List Int)) : Prop where
  inv : SInv fars N st.1 st.2
  sub : ∀ k ∈ h0, k ∈ st.1
  wsub : ∀ p ∈ w0, p ∈ st.2
  new : ∀ k ∈ st.1, k ∈ h0 ∨ (k, [k]) ∈ st.2
  len : st.2.length + h0.length = w0.length + st.1.length
  le : h0.length ≤ st.1.length
theorem SFold.step {h0 : List Int} {w0 : List (Int × List Int)} {st : List Int × List (Int × List Int)} (F : SFold fars N h0 w0 st) {k : Int} (hk : 0 ≤ k ∧ k < (N : Int)) : SFold fars N h0 w0 (fStep fars st k) ∧ k ∈ (fStep fars st k).1 ∧ ∀ j ∈ st.1, j ∈ (fStep fars st k).1 := by
  unfold fStep
  split
  · rename_i c; exact ⟨F, c, fun _ h => h⟩
  · rename_i c
    have hm : ∀ p, p ∈ heappushL (ltE fars) st.2 (k, [k]) ↔ p ∈ st.2 ∨ p = (k, [k]) := fun p => by
      rw [(heappushL_len (ltE fars) st.2 (k, [k])).mem_iff, List.mem_append, List.mem_singleton]
    refine ⟨⟨F.inv.push hk c, fun j hj => List.mem_append_left _ (F.sub j hj), fun p hp => (hm p).mpr (.inl (F.wsub p hp)), fun j hj => ?_, ?_, ?_⟩, List.mem_append_right _ (.head _), fun j hj => List.mem_append_left _ hj⟩
    · rcases List.mem_append.mp hj with q | q
      · exact (F.new j q).imp id fun r => (hm _).mpr (.inl r)
      · rw [List.mem_singleton.mp q]; exact .inr ((hm _).mpr (.inr rfl))
    · have := (heappushL_len (ltE fars) st.2 (k, [k])).length_eq
      simp only [List.length_append, List.length_singleton] at this ⊢
      rw [this, Nat.add_right_comm, F.len]; rfl
    · rw [List.length_append]; exact Nat.le_succ_of_le F.le
theorem SFold.fold {h0 : List Int} {w0 : List (Int × List Int)} : ∀ (l : List Int) {st : List Int × List (Int × List Int)}, SFold fars N h0 w0 st → (∀ k ∈ l, 0 ≤ k ∧ k < (N : Int)) → SFold fars N h0 w0 (l.foldl (fStep fars) st) ∧ (∀ k ∈ l, k ∈ (l.foldl (fStep fars) st).1) ∧ ∀ j ∈ st.1, j ∈ (l.foldl (fStep fars) st).1
  | [], _, F, _ => ⟨F, (fun _ h => by cases h), fun _ h => h⟩
  | k :: l, st, F, hl => by
    obtain ⟨F1, h1, h2⟩ := F.step (hl k (.head _))
    obtain ⟨F2, h3, h4⟩ := SFold.fold l F1 fun j hj => hl j (.tail _ hj)
    refine ⟨F2, fun j hj => ?_, fun j hj => h4 j (h2 j hj)⟩
    rcases List.mem_cons.mp hj with rfl | hj
    · exact h4 _ h1
    · exact h3 j hj
end
theorem known_range {nums : List Int} {size total k : Int} : ∀ j ∈ knownOf k size total (nums.map (alikeRow nums)), 0 ≤ j ∧ j < (nums.length : Int) := by
  intro j hj
  obtain ⟨r, hr, hj⟩ := List.mem_flatMap.mp hj
  obtain ⟨n, hn, rfl⟩ := List.mem_map.mp hr
  unfold knownRow at hj
  split at hj
  · cases hj
  · rename_i a t e
    have h1 := (rot_perm a _).mem_iff.mp (List.mem_of_mem_take hj)
    have ha : a ∈ (alikeRow nums n).filter (fun q => !decide (k ∈ q)) := by rw [e]; exact .head _
    obtain ⟨tail, _, rfl⟩ := List.mem_map.mp (List.mem_filter.mp ha).1
    obtain ⟨i, rfl, hi, _⟩ := sameQ_mem.mp h1
    exact ⟨Int.natCast_nonneg i, Int.ofNat_lt.mpr hi⟩
theorem search_of {nums : List Int} {aim size total start : Int} (hn : ∀ x ∈ nums, 0 ≤ x ∧ x < 16777216) (ha : 0 ≤ aim ∧ aim < 16777216) (hd : nums.Nodup) (hl : nums.length < 10) (h5 : 3 < nums.length) (hs : size = 1 ∨ size = 2 ∨ size = 3) (hst : 0 ≤ start ∧ start < (nums.length : Int)) :
    Nonempty (Search (fun k => (farsOf aim nums).getD k.toNat []) (nums.map (alikeRow nums)) (nums.length : Int) start size total ((sortBy (ltK fun k => (farsOf aim nums).getD k.toNat []) (idx nums.length)).take size.toNat)) := by
  have hdI := idx_dis hn ha hd
  have hB := bucket (size := size) (total := total) hn ha hd
  have hkr := fun k => known_range (nums := nums) (size := size) (total := total) (k := k)
  generalize hkn : (fun k => knownOf k size total (nums.map (alikeRow nums))) = known at *
  have hk' : ∀ k, knownOf k size total (nums.map (alikeRow nums)) = known k := fun k => by rw [← hkn]
  simp only [hk'] at hB hkr
  generalize (fun k : Int => (farsOf aim nums).getD k.toNat []) = fars at *
  have Sw := ltE_swo fars
  let Inv : List Int → List (Int × List Int) → Prop := fun h w => SInv fars nums.length h w ∧ h ≠ [] ∧ ∀ k ∈ h, (k, [k]) ∈ w ∨ ∀ m ∈ known k, m ∈ h
  have done : ∀ h w, Inv h w → (∀ p ∈ nsOf fars size h, (p, [p]) ∉ w) → nsOf fars size h = (sortBy (ltK fars) (idx nums.length)).take size.toNat := fun h w ⟨I, hne, hx⟩ hw => by
    refine search_done hdI I.nod (fun k hk => idx_mem.mpr (I.rng k hk)) hne (by lia) (by unfold idx; simp; lia) hB fun p hp => ?_
    exact (hx p (near_sub hp)).resolve_left (hw p hp)
  refine ⟨{ Inv := Inv, init := ?_, nod := ?_, known := ?_, rank := fun h w => 2 * (nums.length - h.length) + w.length, step := ?_, over := ?_, far := ?_ }⟩
  · refine ⟨⟨by simp, fun k hk => by rw [List.mem_singleton.mp hk]; exact hst, by simp, fun p hp => ?_, fun i h0 hi => ?_⟩, List.cons_ne_nil _ _, fun k hk => .inl ?_⟩
    · rw [List.mem_singleton.mp hp]; exact ⟨.head _, rfl⟩
    · exact absurd h0 (Nat.not_lt.mpr (Nat.le_of_lt_succ hi))
    · rw [List.mem_singleton.mp hk]; exact .head _
  · rintro h w ⟨I, hne, hx⟩
    refine ⟨I.nod, I.rng, hne, ?_, fun p hp => ⟨(I.wsub p hp).2, I.rng _ (I.wsub p hp).1⟩⟩
    have := nodup_len I.wnod (N := nums.length) fun k hk => by obtain ⟨p, hp, rfl⟩ := List.mem_map.mp hk; exact I.rng _ (I.wsub p hp).1
    rw [List.length_map] at this; lia
  · intro k j hj
    rw [hk'] at hj
    exact hkr k j hj
  · rintro h w ⟨I, hne, hx⟩ hw hp
    rw [hk']
    have pp := pop_perm (lt := ltE fars) hw
    have hmem : ∀ p, p ∈ w ↔ p = popX w ∨ p ∈ popR (ltE fars) w := fun p => by rw [← pp.mem_iff, List.mem_cons]
    have hlen : (popR (ltE fars) w).length + 1 = w.length := pp.length_eq
    have hnod : ((popX w :: popR (ltE fars) w).map (·.1)).Nodup := (pp.map _).symm.nodup I.wnod
    rw [List.map_cons, List.nodup_cons] at hnod
    have hx0 := I.wsub _ ((hmem _).mpr (.inl rfl))
    have I1 : SInv fars nums.length h (popR (ltE fars) w) := ⟨I.nod, I.rng, hnod.2, fun p hp => I.wsub p ((hmem p).mpr (.inr hp)), popR_heap Sw I.heap hw⟩
    have F0 : SFold fars nums.length h (popR (ltE fars) w) (h, popR (ltE fars) w) := ⟨I1, fun _ h => h, fun _ h => h, fun k hk => .inl hk, rfl, Nat.le_refl _⟩
    obtain ⟨F, f1, f2⟩ := F0.fold (known (popX w).1) (hkr _)
    generalize (known (popX w).1).foldl (fStep fars) (h, popR (ltE fars) w) = st at F f1 f2
    refine ⟨⟨F.inv, fun e => hne (List.eq_nil_iff_forall_not_mem.mpr fun a ha => by have := F.sub a ha; rw [e] at this; cases this), fun k hk => ?_⟩, ?_⟩
    · rcases F.new k hk with h1 | h1
      · rcases hx k h1 with h2 | h2
        · rcases (hmem _).mp h2 with h3 | h3
          · refine .inr fun m hm => ?_
            have : k = (popX w).1 := by rw [← h3]
            exact f1 m (this ▸ hm)
          · exact .inl (F.wsub _ h3)
        · exact .inr fun m hm => F.sub m (h2 m hm)
      · exact .inl h1
    · have h1 := F.len
      have h2 := F.le
      have h3 := nodup_len F.inv.nod F.inv.rng
      show 2 * (nums.length - st.1.length) + st.2.length < 2 * (nums.length - h.length) + w.length
      exact rank_lt h1 h2 h3 hlen
  · intro h hI
    exact done h [] hI fun _ _ h => by cases h
  · rintro h w hI hw hp
    have I := hI.1
    refine done h w hI fun p hpn hpw => ?_
    have hx0 := I.wsub _ (popX_mem hw)
    obtain ⟨i, hi, e⟩ := List.mem_iff_getElem.mp hpw
    have h1 := heap_top Sw I.heap i hi
    have e2 : gt w i = (p, [p]) := by show w.getD i default = _; rw [List.getD_eq_getElem?_getD, List.getElem?_eq_getElem hi, e]; rfl
    rw [e2, ← popX_gt hw] at h1
    have h2 := ltE_K h1
    have hdH : Dis fars h := hdI.sub I.nod fun k hk => idx_mem.mpr (I.rng k hk)
    have h3 := near_out hdH hpn hx0.1 hp
    exact hp ((hdH.tri (near_sub hpn) hx0.1 h2 h3) ▸ hpn)
theorem plain_all (script : List Int) : Plain (numsOf script) (aimOf script) (sizeOf' script) (totalOf script) := by
  have hN := nums_ok script
  have hA := aim_ok script
  have hl : (numsOf script).length < 10 := Nat.lt_of_le_of_lt hN.len.2 (by decide)
  have h5 : 3 < (numsOf script).length := Nat.lt_of_lt_of_le (by decide) hN.len.1
  refine ⟨hN.rng, hl, hA, size_ok script, h5, fun r hr => ?_, fun r hr k => ?_, fun r hr => ?_, same_rows hN.rng, rows_ok hl, fars_inj hN.rng hA hN.nod, ord_eq hN.rng hA hN.nod, fun start hst => ?_⟩
  · obtain ⟨n, hn, rfl⟩ := List.mem_map.mp hr; exact name_lab (figs_ok (hN.rng n hn))
  · obtain ⟨n, hn, rfl⟩ := List.mem_map.mp hr; exact name_short (figs_ok (hN.rng n hn)) k
  · obtain ⟨n, hn, rfl⟩ := List.mem_map.mp hr; exact figs_ok (hN.rng n hn)
  · rw [fars_len] at hst ⊢
    rw [ord_eq hN.rng hA hN.nod]
    exact search_of hN.rng hA hN.nod hl h5 (size_ok script) hst
theorem all_holds : PySem.Challenge.rw_rt0054_01.Holds := law_holds plain_all
end Mine
end
theorem PySem.Challenge.cw_rt0054_01_holds : PySem.Challenge.rw_rt0054_01.Holds := by
  exact Mine.all_holds
