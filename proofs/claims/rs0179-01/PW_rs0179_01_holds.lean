import PyProof.Rows.All
import Wide.All
import OpenK.AllK
import Wide.FinOn
import PySem.Challenge.RW_rs0179_01
open PySem PySem.W PyProof.Rows
set_option Elab.async false
set_option maxRecDepth 100000
set_option linter.unusedVariables false
set_option genSizeOf false
set_option genInjectivity false

namespace Mine
set_option maxHeartbeats 8000000 in
open_top hd for PySem.Challenge.rw_rs0179_01
end Mine

namespace Mine
noncomputable section

/-- what stands on conditions -/
structure Rs {α : Type} (P : α → Prop) where
  v : α
  c : List Prop
  ok : (∀ p ∈ c, p) → P v
abbrev AllP (c : List Prop) : Prop := ∀ p ∈ c, p
theorem AllP.left {c d : List Prop} (h : AllP (c ++ d)) : AllP c := fun p hp => h p (List.mem_append_left _ hp)
theorem AllP.right {c d : List Prop} (h : AllP (c ++ d)) : AllP d := fun p hp => h p (List.mem_append_right _ hp)
theorem AllP.one {p : Prop} (h : AllP [p]) : p := h p (List.mem_singleton.mpr rfl)
theorem AllP.nil : AllP [] := fun _ hp => nomatch hp
theorem AllP.cons {p : Prop} {l : List Prop} (h : p) (k : AllP l) : AllP (p :: l) := fun q hq => by
  cases hq with
  | head => exact h
  | tail _ hq => exact k q hq
abbrev Rz {α : Type} (P : α → Prop) : Type := Option (Rs P)
noncomputable def ret {α : Type} {P : α → Prop} (a : α) (h : P a) : Rz P := some ⟨a, [], fun _ => h⟩
noncomputable def bnd {α β : Type} {P : α → Prop} {R : β → Prop} (x : Rz P) (f : (a : α) → Rz fun b => P a → R b) : Rz R := match x with
  | none => none
  | some p => match f p.v with
    | none => none
    | some q => some ⟨q.v, p.c ++ q.c, fun hc => q.ok (AllP.right hc) (p.ok (AllP.left hc))⟩
noncomputable def mapR {α β : Type} {P : α → Prop} {R : β → Prop} (x : Rz P) (g : α → β) (h : ∀ a, P a → R (g a)) : Rz R := match x with
  | none => none
  | some p => some ⟨g p.v, p.c, fun hc => h _ (p.ok hc)⟩
noncomputable def chk (y : Bool) (p : Prop) [d : Decidable p] : Rz fun _ : Unit => p := match y with
  | true => some ⟨(), [p], AllP.one⟩
  | false => match d with
    | .isTrue h => some ⟨(), [], fun _ => h⟩
    | .isFalse _ => none
noncomputable def need (p : Prop) : Rz fun _ : Unit => p := some ⟨(), [p], AllP.one⟩
noncomputable def valOf {α : Type} {P : α → Prop} (x : Rz P) : Option α := match x with | some p => some p.v | none => none
noncomputable def obsOf {α : Type} {P : α → Prop} (x : Rz P) : List Prop := match x with | some p => p.c | none => [False]
theorem got {α : Type} {P : α → Prop} {x : Rz P} {a : α} {c : List Prop} (h : valOf x = some a) (hc : obsOf x = c) (hp : AllP c) : P a := by
  cases x with
  | none => cases h
  | some p => cases h; cases hc; exact p.ok hp

/-- abstract values: a flag y marks a letter (not known by computation) -/
inductive AV where
  | none
  | bool (y b : Bool)
  | int (y : Bool) (i : Int)
  | flt (i : Int)
  | str (s : Str)
  | con (v : Value)
  | ref (i : Nat)
  | lst (l : List AV)
  | tup (l : List AV)
  | tupI (l : List Int)
  | rng (a b : Int)
  | inst (raw : Str) (n nt : Int) (cnt : List Int) (b : Int) (sim : Bool)

abbrev small (a : Int) : Prop := -(2 ^ 61) ≤ a ∧ a ≤ 2 ^ 61
abbrev wsCls : Addr := 125
noncomputable def nm (s : String) : Str := Str.ofString s

/-- an object of Whitespace, whole -/
structure WsAt (mu : Addr → Prop) (h : Heap) (a : Addr) (raw : Str) (n nt : Int) (cnt : List Int) (b : Int) (sim : Bool) (dx : Addr) (m : Str → Option Value) (tn tc : Addr) (cs : Array Value) : Prop where
  m1 : ¬ mu dx
  m2 : ¬ mu tn
  m3 : ¬ mu tc
  ob : ∃ ox, h.get? a = some ox ∧ ox.cls = .ref wsCls ∧ ox.dict = some dx ∧ PySem.W.notCls ox = true
  ns : h.Ns1 dx m
  raw : ∃ t, m (nm "raw") = some (.str raw t)
  n : ∃ t, m (nm "n") = some (.int n t)
  nt : ∃ t, m (nm "nt") = some (.int nt t)
  norm : m (nm "norm") = some (.ref tn)
  sim : m (nm "is_simple") = some (.bool sim)
  tn : ∃ t n, h.get? tn = some { cls := .type "tuple", data := .seq #[.ref tc, .int b t] n }
  tc : ∃ n, h.get? tc = some { cls := .type "tuple", data := .seq cs n }
  are : IntsAre cs.toList cnt
  other : ∀ x, x ∉ [nm "raw", nm "n", nm "nt", nm "norm", nm "is_simple"] → m x = none

mutual
noncomputable def Val (mu : Addr → Prop) (sa : List Addr) (h : Heap) : AV → Value → Prop
  | .none, v => v = .none
  | .bool _ b, v => v = .bool b
  | .int _ i, v => ∃ t, v = .int i t
  | .flt i, v => ∃ t, v = .float (Float64.ofInt i) t
  | .str x, v => ∃ t, v = .str x t
  | .con c, v => v = c
  | .ref i, v => ∃ a, sa[i]? = some a ∧ v = .ref a
  | .lst l, v => ∃ a ws, v = .ref a ∧ ¬ mu a ∧ h.PlainList a ws.toArray ∧ Vals mu sa h l ws
  | .tup l, v => ∃ a ws n, v = .ref a ∧ ¬ mu a ∧ h.get? a = some { cls := .type "tuple", data := .seq ws.toArray n } ∧ Vals mu sa h l ws
  | .tupI l, v => ∃ a ws n, v = .ref a ∧ ¬ mu a ∧ h.get? a = some { cls := .type "tuple", data := .seq (List.toArray ws) n } ∧ IntsAre ws l
  | .rng x y, v => small x ∧ small y ∧ ∃ a t1 t2 t3, v = .ref a ∧ ¬ mu a ∧ IsRange h a x y 1 t1 t2 t3
  | .inst raw n nt cnt b sim, v => ∃ a dx m tn tc cs, v = .ref a ∧ ¬ mu a ∧ WsAt mu h a raw n nt cnt b sim dx m tn tc cs
noncomputable def Vals (mu : Addr → Prop) (sa : List Addr) (h : Heap) : List AV → List Value → Prop
  | [], ws => ws = []
  | x :: l, ws => ∃ v r, ws = v :: r ∧ Val mu sa h x v ∧ Vals mu sa h l r
end

noncomputable def KeepH (h h' : Heap) : Prop := ∀ b o, h.get? b = some o → h'.get? b = some o
theorem KeepH.refl (h : Heap) : KeepH h h := fun _ _ e => e
theorem KeepH.trans {a b c : Heap} (x : KeepH a b) (y : KeepH b c) : KeepH a c := fun _ _ e => y _ _ (x _ _ e)
theorem KeepH.push (h : Heap) (o : Obj) : KeepH h (h.push o) := fun _ _ e => Heap.get?_push_of_some o e
theorem KeepH.none {h h' : Heap} (k : KeepH h h') {a : Addr} (e : h'.get? a = none) : h.get? a = none := by
  cases q : h.get? a with
  | none => rfl
  | some o => exact nomatch (k a o q).symm.trans e
/-- it stands -/
noncomputable def Lives (h : Heap) (a : Addr) : Prop := ∃ o, h.get? a = some o
theorem Lives.up {h h' : Heap} (k : KeepH h h') {a} (e : Lives h a) : Lives h' a := let ⟨o, p⟩ := e; ⟨o, k _ _ p⟩
theorem Lives.not {h : Heap} {a} (e : Lives h a) (n : h.get? a = none) : False := let ⟨_, p⟩ := e; nomatch p.symm.trans n

/-- from one heap to a later one: nothing outside of mu changes; what was live and outside of mu is outside of mu' -/
structure Later (mu mu' : Addr → Prop) (h h' : Heap) : Prop where
  keep : ∀ b o, ¬ mu b → h.get? b = some o → h'.get? b = some o
  out : ∀ c, Lives h c → ¬ mu c → ¬ mu' c
theorem Later.of {mu : Addr → Prop} {h h' : Heap} (k : KeepH h h') : Later mu mu h h' := ⟨fun b o _ e => k b o e, fun _ _ e => e⟩
theorem Later.but {mu : Addr → Prop} {h h' : Heap} (k : ∀ b o, ¬ mu b → h.get? b = some o → h'.get? b = some o) : Later mu mu h h' := ⟨k, fun _ _ e => e⟩

theorem PlainList.kept {h h' : Heap} {a} {its} (x : h.PlainList a its) (e : ∀ o, h.get? a = some o → h'.get? a = some o) : h'.PlainList a its := let ⟨n, p⟩ := x; ⟨n, e _ p⟩
theorem Ns1.kept {h h' : Heap} {a m} (x : h.Ns1 a m) (e : ∀ o, h.get? a = some o → h'.get? a = some o) : h'.Ns1 a m := let ⟨o, es, ep, p, r⟩ := x; ⟨o, es, ep, e _ p, r⟩
theorem PlainList.lives {h : Heap} {a} {its} (x : h.PlainList a its) : Lives h a := let ⟨n, p⟩ := x; ⟨_, p⟩

section
variable {mu mu' : Addr → Prop} {sa sa' : List Addr} {h h' : Heap}
theorem WsAt.kept {a raw n nt cnt b sim dx m tn tc cs} (L : Later mu mu' h h') (ha : ¬ mu a) (x : WsAt mu h a raw n nt cnt b sim dx m tn tc cs) : WsAt mu' h' a raw n nt cnt b sim dx m tn tc cs where
  m1 := L.out _ (let ⟨_, _, _, p, _⟩ := x.ns; ⟨_, p⟩) x.m1
  m2 := L.out _ (let ⟨_, _, p⟩ := x.tn; ⟨_, p⟩) x.m2
  m3 := L.out _ (let ⟨_, p⟩ := x.tc; ⟨_, p⟩) x.m3
  ob := let ⟨ox, q, r⟩ := x.ob; ⟨ox, L.keep _ _ ha q, r⟩
  ns := Ns1.kept x.ns fun _ e => L.keep _ _ x.m1 e
  raw := x.raw
  n := x.n
  nt := x.nt
  norm := x.norm
  sim := x.sim
  tn := let ⟨t, n, p⟩ := x.tn; ⟨t, n, L.keep _ _ x.m2 p⟩
  tc := let ⟨n, p⟩ := x.tc; ⟨n, L.keep _ _ x.m3 p⟩
  are := x.are
  other := x.other

mutual
theorem Val.kept (L : Later mu mu' h h') (hs : ∀ (i : Nat) (a : Addr), sa[i]? = some a → sa'[i]? = some a) : ∀ {x : AV} {v : Value}, Val mu sa h x v → Val mu' sa' h' x v
  | .none, _, e => e
  | .bool _ _, _, e => e
  | .int _ _, _, e => e
  | .flt _, _, e => e
  | .str _, _, e => e
  | .con _, _, e => e
  | .ref i, _, e => e.imp fun a p => ⟨hs _ _ p.1, p.2⟩
  | .lst l, _, e => e.imp fun a e => e.imp fun ws p => ⟨p.1, L.out _ (PlainList.lives p.2.2.1) p.2.1, PlainList.kept p.2.2.1 fun o e => L.keep _ _ p.2.1 e, Vals.kept L hs p.2.2.2⟩
  | .tup l, _, e => e.imp fun a e => e.imp fun ws e => e.imp fun n p => ⟨p.1, L.out _ ⟨_, p.2.2.1⟩ p.2.1, L.keep _ _ p.2.1 p.2.2.1, Vals.kept L hs p.2.2.2⟩
  | .tupI l, _, e => e.imp fun a e => e.imp fun ws e => e.imp fun n p => ⟨p.1, L.out _ ⟨_, p.2.2.1⟩ p.2.1, L.keep _ _ p.2.1 p.2.2.1, p.2.2.2⟩
  | .rng _ _, _, e => ⟨e.1, e.2.1, e.2.2.imp fun a e => e.imp fun t1 e => e.imp fun t2 e => e.imp fun t3 p => ⟨p.1, L.out _ ⟨_, p.2.2⟩ p.2.1, L.keep _ _ p.2.1 p.2.2⟩⟩
  | .inst .., _, e => e.imp fun a e => e.imp fun dx e => e.imp fun m e => e.imp fun tn e => e.imp fun tc e => e.imp fun cs p => ⟨p.1, L.out _ (p.2.2.ob.imp fun _ e => e.1) p.2.1, p.2.2.kept L p.2.1⟩
theorem Vals.kept (L : Later mu mu' h h') (hs : ∀ (i : Nat) (a : Addr), sa[i]? = some a → sa'[i]? = some a) : ∀ {l : List AV} {ws : List Value}, Vals mu sa h l ws → Vals mu' sa' h' l ws
  | [], _, e => e
  | x :: l, _, e => e.imp fun v e => e.imp fun r p => ⟨p.1, Val.kept L hs p.2.1, Vals.kept L hs p.2.2⟩
end
theorem Val.up (k : KeepH h h') {x : AV} {v : Value} (e : Val mu sa h x v) : Val mu sa h' x v := e.kept (.of k) fun _ _ e => e
theorem Vals.up (k : KeepH h h') {x : List AV} {v : List Value} (e : Vals mu sa h x v) : Vals mu sa h' x v := e.kept (.of k) fun _ _ e => e
theorem Val.to (L : Later mu mu' h h') {x : AV} {v : Value} (e : Val mu sa h x v) : Val mu' sa h' x v := e.kept L fun _ _ e => e
theorem Vals.to (L : Later mu mu' h h') {x : List AV} {v : List Value} (e : Vals mu sa h x v) : Vals mu' sa h' x v := e.kept L fun _ _ e => e
theorem nil_get {α : Type} {i : Nat} {a : α} {p : Prop} (e : ([] : List α)[i]? = some a) : p := nomatch List.getElem?_nil.symm.trans e
theorem Val.anySa {x : AV} {v : Value} (e : Val mu [] h x v) : Val mu sa h x v := e.kept (.but fun _ _ _ e => e) fun _ _ e => nil_get e
theorem Vals.anySa {x : List AV} {v : List Value} (e : Vals mu [] h x v) : Vals mu sa h x v := e.kept (.but fun _ _ _ e => e) fun _ _ e => nil_get e

theorem Vals.length {l : List AV} : ∀ {ws : List Value}, Vals mu sa h l ws → ws.length = l.length := by
  induction l with
  | nil => intro ws e; rw [show ws = [] from e]; rfl
  | cons x l ih => intro ws e; obtain ⟨v, r, rfl, _, z⟩ := e; exact congrArg Nat.succ (ih z)
theorem Vals.get {l : List AV} : ∀ {ws : List Value}, Vals mu sa h l ws → ∀ {i : Nat} {x : AV}, l[i]? = some x → ∃ v, ws[i]? = some v ∧ Val mu sa h x v := by
  induction l with
  | nil => intro ws _ i x e; exact nil_get e
  | cons y l ih =>
    intro ws e i x hx
    obtain ⟨v, r, rfl, q, z⟩ := e
    cases i with
    | zero => exact ⟨v, rfl, Option.some.inj hx ▸ q⟩
    | succ i => exact ih z (i := i) hx
theorem Vals.append {l : List AV} {l' : List AV} {ws' : List Value} : ∀ {ws : List Value}, Vals mu sa h l ws → Vals mu sa h l' ws' → Vals mu sa h (l ++ l') (ws ++ ws') := by
  induction l with
  | nil => intro ws e q; rw [show ws = [] from e]; exact q
  | cons y l ih => intro ws e q; obtain ⟨u, r, rfl, q', z⟩ := e; exact ⟨u, _, rfl, q', ih z q⟩
theorem Vals.snoc {l : List AV} {ws : List Value} {x : AV} {v : Value} (e : Vals mu sa h l ws) (q : Val mu sa h x v) : Vals mu sa h (l ++ [x]) (ws ++ [v]) := Vals.append e ⟨v, [], rfl, q, rfl⟩
theorem Vals.take {l : List AV} : ∀ {ws : List Value}, Vals mu sa h l ws → ∀ n : Nat, Vals mu sa h (l.take n) (ws.take n) := by
  induction l with
  | nil => intro ws e n; rw [show ws = [] from e, List.take_nil, List.take_nil]; rfl
  | cons x l ih =>
    intro ws e n
    cases n with
    | zero => rfl
    | succ n => obtain ⟨v, r, rfl, q, z⟩ := e; exact ⟨v, _, rfl, q, ih z n⟩
theorem Vals.drop {l : List AV} : ∀ {ws : List Value}, Vals mu sa h l ws → ∀ n : Nat, Vals mu sa h (l.drop n) (ws.drop n) := by
  induction l with
  | nil => intro ws e n; rw [show ws = [] from e, List.drop_nil, List.drop_nil]; rfl
  | cons x l ih =>
    intro ws e n
    cases n with
    | zero => exact e
    | succ n => obtain ⟨v, r, rfl, q, z⟩ := e; exact ih z n
theorem Vals.set {v : AV} {u : Value} {l : List AV} : ∀ {ws : List Value}, Vals mu sa h l ws → Val mu sa h v u → ∀ i : Nat, Vals mu sa h (l.set i v) (ws.set i u) := by
  induction l with
  | nil => intro ws e _ _; rw [show ws = [] from e]; rfl
  | cons x l ih =>
    intro ws e q i
    obtain ⟨v', r, rfl, q', z⟩ := e
    cases i with
    | zero => exact ⟨u, r, rfl, q, z⟩
    | succ i => exact ⟨v', r.set i u, rfl, q', ih z q i⟩
end
theorem intsAre_get {ws : List Value} {r : List Int} (e : IntsAre ws r) : ∀ i : Nat, i < r.length → ∃ t, ws[i]? = some (.int (r.getD i 0) t) := by
  induction e with
  | nil => exact fun i hi => absurd hi (Nat.not_lt_zero i)
  | cons a t k ih =>
    intro i hi
    cases i with
    | zero => exact ⟨t, rfl⟩
    | succ i => exact ih i (Nat.lt_of_succ_lt_succ hi)
theorem intsAre_length {ws : List Value} {r : List Int} (e : IntsAre ws r) : ws.length = r.length := by
  induction e with
  | nil => rfl
  | cons a t k ih => exact congrArg Nat.succ ih

mutual
noncomputable def noRef : AV → Bool
  | .ref _ => false
  | .lst l => noRefs l
  | .tup l => noRefs l
  | _ => true
noncomputable def noRefs : List AV → Bool
  | [] => true
  | x :: l => noRef x && noRefs l
end
theorem and_l {a b : Bool} (h : (a && b) = true) : a = true := by cases a with | true => rfl | false => cases h
theorem and_r {a b : Bool} (h : (a && b) = true) : b = true := by cases a with | true => exact h | false => cases h
mutual
theorem noRef_val {mu : Addr → Prop} {sa sa' : List Addr} {h : Heap} : ∀ {x : AV} {v : Value}, noRef x = true → Val mu sa h x v → Val mu sa' h x v
  | .none, _, _, e | .bool .., _, _, e | .int .., _, _, e | .flt _, _, _, e | .str _, _, _, e | .con _, _, _, e | .tupI _, _, _, e | .rng .., _, _, e | .inst .., _, _, e => e
  | .ref _, _, n, _ => nomatch n
  | .lst l, _, n, e => e.imp fun a e => e.imp fun ws p => ⟨p.1, p.2.1, p.2.2.1, noRefs_vals (l := l) n p.2.2.2⟩
  | .tup l, _, n, e => e.imp fun a e => e.imp fun ws e => e.imp fun k p => ⟨p.1, p.2.1, p.2.2.1, noRefs_vals (l := l) n p.2.2.2⟩
theorem noRefs_vals {mu : Addr → Prop} {sa sa' : List Addr} {h : Heap} : ∀ {l : List AV} {ws : List Value}, noRefs l = true → Vals mu sa h l ws → Vals mu sa' h l ws
  | [], _, _, e => e
  | x :: l, _, n, e => e.imp fun v e => e.imp fun r p => ⟨p.1, noRef_val (and_l (b := noRefs l) n) p.2.1, noRefs_vals (and_r (a := noRef x) n) p.2.2⟩
end
end
end Mine

namespace Mine
noncomputable section
theorem shift_mul (n d c : Nat) (k : Int) : Float64.shift (n * c) (d * c) k = ((Float64.shift n d k).1 * c, (Float64.shift n d k).2 * c) := by
  unfold Float64.shift
  split
  · exact Prod.ext (Nat.mul_right_comm ..) rfl
  · exact Prod.ext rfl (Nat.mul_right_comm ..)
theorem half_mul (n d : Nat) {c : Nat} (hc : 0 < c) : Float64.halfEven (n * c) (d * c) = Float64.halfEven n d := by
  unfold Float64.halfEven
  rw [Nat.mul_div_mul_right _ _ hc, Nat.mul_mod_mul_right]
  have e1 : (2 * (n % d * c) > d * c) = (2 * (n % d) > d) := by
    rw [← Nat.mul_assoc]; exact propext (Nat.mul_lt_mul_right hc)
  have e2 : (2 * (n % d * c) == d * c) = (2 * (n % d) == d) := by
    rw [← Nat.mul_assoc, Bool.eq_iff_iff, beq_iff_eq, beq_iff_eq]
    exact ⟨Nat.eq_of_mul_eq_mul_right hc, congrArg (· * c)⟩
  simp only [e1, e2]
theorem round0 (d : Nat) : Float64.roundMag 0 d = 0 := by
  unfold Float64.roundMag; exact if_pos rfl
theorem log_mul {n : Nat} (h : n ≠ 0) (j : Nat) : (n * 2 ^ j).log2 = n.log2 + j := by
  obtain ⟨h1, h2⟩ := (Nat.log2_eq_iff h).mp rfl
  rw [Nat.log2_eq_iff (Nat.mul_ne_zero h (Nat.ne_of_gt (Nat.two_pow_pos j))), Nat.pow_add, Nat.add_right_comm, Nat.pow_add]
  exact ⟨Nat.mul_le_mul_right _ h1, Nat.mul_lt_mul_of_pos_right h2 (Nat.two_pow_pos j)⟩
theorem round_mul (n : Nat) {d : Nat} (j : Nat) (hd : d ≠ 0) : Float64.roundMag (n * 2 ^ j) (d * 2 ^ j) = Float64.roundMag n d := by
  have hc := Nat.two_pow_pos j
  by_cases hn : n = 0
  · subst hn; rw [Nat.zero_mul, round0, round0]
  · unfold Float64.roundMag
    have e0 : (n * 2 ^ j == 0) = (n == 0) := (beq_eq_false_iff_ne.mpr (Nat.mul_ne_zero hn (Nat.ne_of_gt hc))).trans (beq_eq_false_iff_ne.mpr hn).symm
    have e1 : (((n.log2 + j : Nat) : Int) - ((d.log2 + j : Nat) : Int)) = (n.log2 : Int) - (d.log2 : Int) := by
      rw [Int.natCast_add, Int.natCast_add]; exact Int.add_sub_add_right ..
    have e2 : ∀ a b : Nat, (a * 2 ^ j ≥ b * 2 ^ j) = (a ≥ b) := fun a b => propext (Nat.mul_le_mul_right_iff hc)
    rw [e0, log_mul hn, log_mul hd, e1]
    simp only [shift_mul, e2, half_mul _ _ hc]
theorem frac_mul (s : Bool) (n : Nat) {d : Nat} (j : Nat) (hd : d ≠ 0) : Float64.ofFrac s (n * 2 ^ j) (d * 2 ^ j) = Float64.ofFrac s n d := by
  unfold Float64.ofFrac
  rw [round_mul n j hd]
theorem ofInt_nat (n : Nat) : Float64.ofInt (n : Int) = Float64.ofFrac false n 1 := by
  unfold Float64.ofInt
  rw [decide_eq_false (by omega)]; rfl
theorem bin_neg (s : Bool) (m j : Nat) : Float64.ofBin s m (-(j : Int)) = Float64.ofFrac s m (2 ^ j) := by
  unfold Float64.ofBin Float64.shift
  cases j with
  | zero => exact congrArg (Float64.ofFrac s · 1) (Nat.mul_one m)
  | succ j =>
    rw [if_neg (by omega), Int.neg_neg]
    exact congrArg (Float64.ofFrac s m) (Nat.one_mul _)
/-- the whole number behind 2 ^ j -/
theorem bin_nat (n j : Nat) : Float64.ofBin false (n * 2 ^ j) (-(j : Int)) = Float64.ofInt (n : Int) := by
  rw [bin_neg, ofInt_nat, ← frac_mul false n j (by decide : 1 ≠ 0), Nat.one_mul]
noncomputable def fvB (a : Nat) : Bool := match Float64.decode (Float64.ofInt (a : Int)) with
  | .fin false m e => decide (e ≤ 0) && m == a * 2 ^ (-e).toNat
  | _ => false
theorem fvT : ∀ x : Fin 512, fvB x.val = true := by decide +kernel
theorem fv_is {a : Nat} (h : a < 512) : ∃ j : Nat, Float64.decode (Float64.ofInt (a : Int)) = .fin false (a * 2 ^ j) (-(j : Int)) := by
  have k := fvT ⟨a, h⟩
  unfold fvB at k
  split at k
  · rename_i m e e1
    refine ⟨(-e).toNat, ?_⟩
    have h1 : e ≤ 0 := of_decide_eq_true (and_l k)
    rw [Int.toNat_of_nonneg (by omega), Int.neg_neg, ← eq_of_beq (and_r k)]
    exact e1
  · cases k
theorem pow_to (n : Nat) {x y : Nat} (h : x ≤ y) : n * 2 ^ x * 2 ^ (y - x) = n * 2 ^ y := by
  rw [Nat.mul_assoc, ← Nat.pow_add, Nat.add_sub_cancel' h]
theorem nn_sub (j i : Nat) : (-(j : Int) - -(i : Int)).toNat = i - j := by
  rw [Int.sub_neg, Int.add_comm, ← Int.sub_eq_add_neg]; exact Int.toNat_sub i j
theorem nn_le {j i : Nat} (h : j ≤ i) : -(i : Int) ≤ -(j : Int) := Int.neg_le_neg (Int.ofNat_le.mpr h)
theorem align_is (a b j i : Nat) : ∃ M : Nat, Float64.align false (a * 2 ^ j) (-(j : Int)) false (b * 2 ^ i) (-(i : Int)) = (((a * 2 ^ M : Nat) : Int), ((b * 2 ^ M : Nat) : Int), -(M : Int)) := by
  unfold Float64.align Float64.sgn
  rcases Nat.le_total j i with h | h
  · refine ⟨i, ?_⟩
    rw [Int.min_eq_right (nn_le h)]
    dsimp only
    rw [nn_sub, nn_sub, Nat.sub_self, pow_to a h, Nat.pow_zero, Nat.mul_one, if_neg Bool.false_ne_true, if_neg Bool.false_ne_true]
  · refine ⟨j, ?_⟩
    rw [Int.min_eq_left (nn_le h)]
    dsimp only
    rw [nn_sub, nn_sub, Nat.sub_self, pow_to b h, Nat.pow_zero, Nat.mul_one, if_neg Bool.false_ne_true, if_neg Bool.false_ne_true]
theorem compare_mul (a b : Int) {c : Int} (hc : 0 < c) : compare (a * c) (b * c) = compare a b := by
  show compareOfLessAndEq _ _ = compareOfLessAndEq _ _
  unfold compareOfLessAndEq
  have e1 : (a * c < b * c) = (a < b) := propext ⟨fun h => Int.lt_of_mul_lt_mul_right h (Int.le_of_lt hc), fun h => Int.mul_lt_mul_of_pos_right h hc⟩
  have e2 : (a * c = b * c) = (a = b) := propext ⟨Int.eq_of_mul_eq_mul_right (Int.ne_of_gt hc), congrArg (· * c)⟩
  simp only [e1, e2]
theorem nat_pow_pos (j : Nat) : (0 : Int) < ((2 ^ j : Nat) : Int) := Int.ofNat_lt.mpr (Nat.two_pow_pos j)
theorem fv_mul {a b : Nat} (ha : a < 512) (hb : b < 512) : Float64.mul (Float64.ofInt (a : Int)) (Float64.ofInt (b : Int)) = Float64.ofInt ((a : Int) * b) := by
  obtain ⟨j, e1⟩ := fv_is ha
  obtain ⟨i, e2⟩ := fv_is hb
  unfold Float64.mul
  rw [e1, e2]
  show Float64.ofBin false (a * 2 ^ j * (b * 2 ^ i)) (-(j : Int) + -(i : Int)) = _
  rw [Nat.mul_mul_mul_comm, ← Nat.pow_add, ← Int.neg_add]
  exact bin_nat (a * b) (j + i)
theorem fv_add {a b : Nat} (ha : a < 512) (hb : b < 512) : Float64.add (Float64.ofInt (a : Int)) (Float64.ofInt (b : Int)) = Float64.ofInt ((a : Int) + b) := by
  obtain ⟨j, e1⟩ := fv_is ha
  obtain ⟨i, e2⟩ := fv_is hb
  obtain ⟨M, e3⟩ := align_is a b j i
  unfold Float64.add
  rw [e1, e2]
  dsimp only
  rw [e3]
  dsimp only
  have e4 : ((a * 2 ^ M : Nat) : Int) + ((b * 2 ^ M : Nat) : Int) = (((a + b) * 2 ^ M : Nat) : Int) := congrArg Int.ofNat (Nat.add_mul ..).symm
  rw [e4, decide_eq_false (by omega)]
  refine Eq.trans ?_ (bin_nat (a + b) M)
  split
  · rename_i h
    rw [Int.ofNat_inj.mp (eq_of_beq h), bin_neg]
    unfold Float64.ofFrac Float64.zero
    rw [round0]; rfl
  · rfl
theorem fv_cmp {a b : Nat} (ha : a < 512) (hb : b < 512) : Float64.cmp (Float64.ofInt (a : Int)) (Float64.ofInt (b : Int)) = some (compare (a : Int) b) := by
  obtain ⟨j, e1⟩ := fv_is ha
  obtain ⟨i, e2⟩ := fv_is hb
  obtain ⟨M, e3⟩ := align_is a b j i
  unfold Float64.cmp
  rw [e1, e2]
  dsimp only
  rw [e3]
  exact congrArg some (compare_mul a b (nat_pow_pos M))
theorem fv_cmpI {a : Nat} (ha : a < 512) (b : Int) : Float64.cmpInt (Float64.ofInt (a : Int)) b = some (compare (a : Int) b) := by
  obtain ⟨j, e1⟩ := fv_is ha
  unfold Float64.cmpInt
  rw [e1]
  refine congrArg some ((?_ : _ = compare ((a : Int) * ((2 ^ j : Nat) : Int)) (b * ((2 ^ j : Nat) : Int))).trans (compare_mul a b (nat_pow_pos j)))
  cases j with
  | zero => rw [if_pos (by omega)]; show compare ((a : Int) * 1 * 1) b = compare ((a : Int) * 1) (b * 1); rw [Int.mul_one, Int.mul_one, Int.mul_one]
  | succ j => rw [if_neg (by omega), Int.neg_neg]; rw [show ((2 ^ (j + 1) : Nat) : Int) = (2 : Int) ^ (j + 1) from Int.natCast_pow ..]; rfl
theorem fv_div {a b : Nat} (ha : a < 512) (hb : b < 512) (h0 : b ≠ 0) : Float64.div (Float64.ofInt (a : Int)) (Float64.ofInt (b : Int)) = Float64.ofFrac false a b ∧ ¬ Float64.isInf (Float64.ofInt (b : Int)) = true ∧ ¬ Float64.isZero (Float64.ofInt (b : Int)) = true := by
  obtain ⟨j, e1⟩ := fv_is ha
  obtain ⟨i, e2⟩ := fv_is hb
  have hz : b * 2 ^ i ≠ 0 := Nat.mul_ne_zero h0 (Nat.ne_of_gt (Nat.two_pow_pos i))
  refine ⟨?_, by unfold Float64.isInf; rw [e2]; exact Bool.false_ne_true, ?_⟩
  · unfold Float64.div
    rw [e1, e2]
    dsimp only
    rw [if_neg (by rw [beq_iff_eq]; exact hz)]
    unfold Float64.shift
    by_cases h : j ≤ i
    · rw [if_pos (Int.sub_nonneg_of_le (nn_le h)), nn_sub, pow_to a h]
      exact frac_mul false a i h0
    · rw [if_neg (fun e => h (Int.ofNat_le.mp (Int.le_of_neg_le_neg (Int.le_of_sub_nonneg e)))), Int.neg_sub, nn_sub, pow_to b (Nat.le_of_not_le h)]
      exact frac_mul false a j h0
  · unfold Float64.isZero
    rw [e2]
    cases hm : b * 2 ^ i with
    | zero => exact absurd hm hz
    | succ m => exact Bool.false_ne_true
theorem nat_of {a : Int} {n : Nat} (h : 0 ≤ a) (h2 : a < n) : ∃ m : Nat, a = (m : Int) ∧ m < n := by
  obtain ⟨m, rfl⟩ := Int.eq_ofNat_of_zero_le h
  exact ⟨m, rfl, Int.ofNat_lt.mp h2⟩
theorem fv_fin {a : Nat} (h : a < 512) : ¬ Float64.isInf (Float64.ofInt (a : Int)) = true := by
  obtain ⟨j, e⟩ := fv_is h
  unfold Float64.isInf; rw [e]; exact Bool.false_ne_true
theorem ofInt_mul {a b : Int} (h : 0 ≤ a ∧ a < 64 ∧ 0 ≤ b ∧ b < 8) : Float64.mul (Float64.ofInt a) (Float64.ofInt b) = Float64.ofInt (a * b) ∧ ¬ Float64.isInf (Float64.ofInt b) = true := by
  obtain ⟨m, rfl, hm⟩ := nat_of (n := 64) h.1 h.2.1
  obtain ⟨n, rfl, hn⟩ := nat_of (n := 8) h.2.2.1 h.2.2.2
  exact ⟨fv_mul (Nat.lt_trans hm (by decide)) (Nat.lt_trans hn (by decide)), fv_fin (Nat.lt_trans hn (by decide))⟩
theorem ofInt_add0 {a : Int} (h : 0 ≤ a ∧ a < 128) : Float64.add (Float64.ofInt a) (Float64.ofInt 0) = Float64.ofInt a ∧ Float64.add (Float64.ofInt 0) (Float64.ofInt a) = Float64.ofInt a := by
  obtain ⟨m, rfl, hm⟩ := nat_of (n := 128) h.1 h.2
  have h1 : m < 512 := Nat.lt_trans hm (by decide)
  exact ⟨(fv_add h1 (b := 0) (by decide)).trans (congrArg Float64.ofInt (Int.add_zero _)), (fv_add (a := 0) (by decide) h1).trans (congrArg Float64.ofInt (Int.zero_add _))⟩
theorem ofFrac_divT : ∀ (x : Fin 64) (y : Fin 8), 0 < y.val → Float64.ofFrac false (x.val * y.val) y.val = Float64.ofInt (x.val : Int) ∧ ¬ Float64.isInf (Float64.ofInt (x.val : Int)) = true := by decide +kernel
theorem div_nat {a b : Int} (h : 0 ≤ a.ediv b ∧ a.ediv b < 64 ∧ 0 < b ∧ b < 8) (hd : b * (a.ediv b) = a) : ∃ m n : Nat, a.ediv b = (m : Int) ∧ b = (n : Int) ∧ a = ((m * n : Nat) : Int) ∧ m < 64 ∧ n < 8 ∧ 0 < n := by
  obtain ⟨m, e, hm⟩ := nat_of (n := 64) h.1 h.2.1
  obtain ⟨n, rfl, hn⟩ := nat_of (n := 8) (Int.le_of_lt h.2.2.1) h.2.2.2
  exact ⟨m, n, e, rfl, hd.symm.trans (by rw [e, Int.mul_comm]; rfl), hm, hn, Int.ofNat_lt.mp h.2.2.1⟩
theorem ofInt_div {a b : Int} (h : 0 ≤ a.ediv b ∧ a.ediv b < 64 ∧ 0 < b ∧ b < 8) (hd : b * (a.ediv b) = a) : Float64.div (Float64.ofInt a) (Float64.ofInt b) = Float64.ofInt (a.ediv b) ∧ ¬ Float64.isInf (Float64.ofInt b) = true ∧ ¬ Float64.isZero (Float64.ofInt b) = true := by
  obtain ⟨m, n, e, e2, ha, hm, hn, h0⟩ := div_nat h hd
  have hk : m * n < 512 := Nat.lt_of_le_of_lt (Nat.mul_le_mul (Nat.le_of_lt_succ hm) (Nat.le_of_lt_succ hn)) (by decide)
  rw [e, ha, e2]
  obtain ⟨k1, k2⟩ := fv_div hk (Nat.lt_trans hn (by decide)) (Nat.ne_of_gt h0)
  exact ⟨k1.trans (ofFrac_divT ⟨m, hm⟩ ⟨n, hn⟩ h0).1, k2⟩
theorem ofFrac_div {a b : Int} (h : 0 ≤ a.ediv b ∧ a.ediv b < 64 ∧ 0 < b ∧ b < 8) (hd : b * (a.ediv b) = a) : Float64.ofFrac (decide (a < 0) != decide (b < 0)) a.natAbs b.natAbs = Float64.ofInt (a.ediv b) ∧ ¬ Float64.isInf (Float64.ofInt (a.ediv b)) = true := by
  obtain ⟨m, n, e, e2, ha, hm, hn, h0⟩ := div_nat h hd
  rw [e, ha, e2, decide_eq_false (Int.not_lt.mpr (Int.natCast_nonneg (m * n))), decide_eq_false (Int.not_lt.mpr (Int.natCast_nonneg n))]
  exact ofFrac_divT ⟨m, hm⟩ ⟨n, hn⟩ h0
theorem cmp_ofInt {a b : Int} (h : 0 ≤ a ∧ a < 64 ∧ 0 ≤ b ∧ b < 64) : Float64.cmp (Float64.ofInt a) (Float64.ofInt b) = some (compare a b) := by
  obtain ⟨m, rfl, hm⟩ := nat_of (n := 64) h.1 h.2.1
  obtain ⟨n, rfl, hn⟩ := nat_of (n := 64) h.2.2.1 h.2.2.2
  exact fv_cmp (Nat.lt_trans hm (by decide)) (Nat.lt_trans hn (by decide))
theorem cmpInt_ofInt {a b : Int} (h : 0 ≤ a ∧ a < 64 ∧ 0 ≤ b ∧ b < 64) : Float64.cmpInt (Float64.ofInt a) b = some (compare a b) := by
  obtain ⟨m, rfl, hm⟩ := nat_of (n := 64) h.1 h.2.1
  exact fv_cmpI (Nat.lt_trans hm (by decide)) b
end
end Mine

namespace Mine
noncomputable section
@[irreducible] def KP (P : Params) : Frag := hd.heap_39 P
noncomputable def BB (w : World) (h : Heap) : Prop := (KP w.params).In h ∧ ∃ p l mg mb, TopRead p l mg mb h
theorem BB.up {w : World} {h h' : Heap} (k : KeepH h h') (b : BB w h) : BB w h' := ⟨fun a o e => k _ _ (b.1 a o e), let ⟨p, l, mg, mb, t⟩ := b.2; ⟨p, l, mg, mb, t.keeps k⟩⟩

noncomputable def globT : List (Str × Value) := [(nm "len", .builtin "len"), (nm "sorted", .builtin "sorted"), (nm "sum", .builtin "sum"), (nm "max", .builtin "max"), (nm "isinstance", .builtin "isinstance"), (nm "range", .type "range"), (nm "int", .type "int"), (nm "float", .type "float"),
  (nm "enumerate", .type "enumerate"), (nm "tuple", .type "tuple"), (nm "median", .ref 41), (nm "median_low", .ref 48), (nm "median_high", .ref 55), (nm "quantiles", .ref 63), (nm "Whitespace", .ref 125), (nm "_law_pick", .ref 136), (nm "_law_smooth", .ref 141), (nm "_law_column", .ref 148)]
noncomputable def globIn (P : Params) (p : Str × Value) : Prop := nsIn (KP P) mainGlobals p.1 = some (some p.2) ∨ (nsIn (KP P) mainGlobals p.1 = some none ∧ bootBuiltins p.1 = some p.2 ∧ p.1 ≠ "__name__")
theorem all_nil {α : Type} {p : α → Prop} : ∀ x ∈ ([] : List α), p x := fun x hx => nomatch hx
theorem all_cons {α : Type} {p : α → Prop} {a : α} {l : List α} (h : p a) (k : ∀ x ∈ l, p x) : ∀ x ∈ a :: l, p x := fun x hx => by
  cases hx with
  | head => exact h
  | tail _ hx => exact k x hx
theorem globT_ok (P : Params) : ∀ p ∈ globT, globIn P p := by
  unfold globT
  iterate 10 (refine all_cons (.inr ⟨by kernel_rfl, by kernel_rfl, by decide +kernel⟩) ?_)
  iterate 8 (refine all_cons (.inl (by kernel_rfl)) ?_)
  exact all_nil
noncomputable def globF (x : Str) : Option Value := globT.lookup x
theorem lookup_mem' {α : Type} : ∀ {l : List (Str × α)} {x : Str} {v : α}, l.lookup x = some v → (x, v) ∈ l
  | (k, v) :: r, n, c, h => by
    rw [List.lookup_cons] at h
    cases hb : n == k with
    | true => rw [hb] at h; cases h; rw [beq_iff_eq.mp hb]; exact List.mem_cons_self
    | false => rw [hb] at h; exact List.mem_cons_of_mem _ (lookup_mem' h)
theorem BB.glob {w : World} {h : Heap} {x : Str} {c : Value} (b : BB w h) (e : globF x = some c) : ∃ mg mb, h.Ns mainGlobals mg ∧ h.Ns builtinsNs mb ∧ (mg x = some c ∨ (mg x = none ∧ mb x = some c)) := by
  obtain ⟨X, _, _, mg, mb, t⟩ := b
  refine ⟨mg, mb, t.g, t.b, ?_⟩
  rcases globT_ok w.params _ (lookup_mem' e) with q | ⟨q1, q2, q3⟩
  · exact .inl (mg_of X t.g q)
  · exact .inr ⟨mg_none_of X t.g q1, (t.builtins x q3).trans q2⟩

noncomputable def noFn : FuncData := { name := nm "", qualname := nm "", params := { posonlyargs := [], args := [], vararg := none, kwonlyargs := [], kw_defaults := [], kwarg := none, defaults := [] }, body := .stmts [], scope := { kind := .function, names := [], isGenerator := false, isCoroutine := false }, globals := 0, closure := [], defaults := .none, kwdefaults := .none }
noncomputable def funcOf : (d : Data) → Option {fd : FuncData // d = .func fd}
  | .func fd => some ⟨fd, rfl⟩
  | _ => none
noncomputable def FnAt (P : Params) (a : Addr) (fd : FuncData) : Prop := ∃ o, (KP P).lookup a = some o ∧ o.data = .func fd
noncomputable def fnIn (P : Params) (a : Addr) : Option {fd : FuncData // FnAt P a fd} := match h : (KP P).lookup a with
  | some o => match funcOf o.data with
    | some q => some ⟨q.1, o, h, q.2⟩
    | none => none
  | none => none
noncomputable def fdOr (x : Option FuncData) : FuncData := match x with | some fd => fd | none => noFn
@[irreducible] def fdAt (P : Params) (a : Addr) : FuncData := fdOr ((fnIn P a).map (·.1))
theorem isFn_get {P : Params} {a : Addr} (h : (fnIn P a).isSome = true) : FnAt P a (fdAt P a) := by
  unfold fdAt
  cases q : fnIn P a with
  | none => rw [q] at h; cases h
  | some x => exact x.2
end
end Mine

namespace Mine
noncomputable section
variable {prog : Program} {w : World} {D : Nat} {A : Around} {E : Value → Shared → Prop} {s s' : Shared} {mu : Addr → Prop} {sa : List Addr} {env : Env} {Q : Value → Shared → Prop}

abbrev Obs := List (Option (List AV))
structure SE where
  sc : Scope
  vs : List (Str × AV)
  ob : Obs
structure Cx (A : Around) (D : Nat) : Prop where
  hh : A.handled = none
  depth : A.depth ≤ D
  units : A.units ≤ 4 * D
  top : D ≤ 600
theorem Cx.room (c : Cx A D) : A.units + 1 < cLine := by have := c.units; have := c.top; have e : cLine = 9900 := rfl; omega

theorem keeps_tok (s : Shared) (k : Nat) : Keeps s { s with toks := k } := ⟨s.heap, k, rfl, fun _ _ e => e⟩
theorem keeps_refl (s : Shared) : Keeps s s := ⟨s.heap, s.toks, rfl, fun _ _ e => e⟩
theorem keeps_push (s : Shared) (o : Obj) (k : Nat) : Keeps s { s with heap := s.heap.push o, toks := k } := ⟨_, k, rfl, fun _ _ e => Heap.get?_push_of_some o e⟩
theorem keeps_heap (s : Shared) {h' : Heap} (k : KeepH s.heap h') (tk : Nat) : Keeps s { s with heap := h', toks := tk } := ⟨h', tk, rfl, k⟩
theorem kH (k : Keeps s s') : KeepH s.heap s'.heap := by obtain ⟨h, t, rfl, q⟩ := k; exact q
theorem kT {a b c : Shared} (x : Keeps a b) (y : Keeps b c) : Keeps a c := by
  obtain ⟨h, t, rfl, q⟩ := x; obtain ⟨h', t', rfl, q'⟩ := y; exact ⟨h', t', rfl, fun b o e => q' b o (q b o e)⟩

noncomputable def ListAt (mu : Addr → Prop) (sa : List Addr) (h : Heap) (i : Nat) (l : List AV) : Prop := ∃ a ws, sa[i]? = some a ∧ h.PlainList a (List.toArray ws) ∧ Vals mu sa h l ws
noncomputable def OOk (mu : Addr → Prop) (sa : List Addr) (ob : Obs) (h : Heap) : Prop := ∀ (i : Nat) (l : List AV), ob[i]? = some (some l) → ListAt mu sa h i l
theorem OOk.to {mu' : Addr → Prop} {ob : Obs} {h h' : Heap} (L : Later mu mu' h h') (k : KeepH h h') (x : OOk mu sa ob h) : OOk mu' sa ob h' := fun i l e => (x i l e).imp fun a e => e.imp fun ws p => ⟨p.1, PlainList.kept p.2.1 fun o e => k _ _ e, p.2.2.to L⟩
/-- the addresses in mu stand already -/
noncomputable def MuIn (mu : Addr → Prop) (h : Heap) : Prop := ∀ a, mu a → Lives h a
theorem MuIn.up {h h' : Heap} (k : KeepH h h') (x : MuIn mu h) : MuIn mu h' := fun a e => (x a e).up k
theorem fresh_size {h : Heap} : h.get? h.objs.size = none := Heap.get?_none_of_le (Nat.le_refl _)
theorem MuIn.fresh {h : Heap} {a : Addr} (x : MuIn mu h) (n : h.get? a = none) : ¬ mu a := fun e => (x _ e).not n

/-- how a name of the frame reads -/
noncomputable def Loads (env : Env) (h : Heap) (x : Str) (u : Value) : Prop :=
  (env.kindOf x = some .local ∧ ∃ m, h.Ns env.locals m ∧ m x = some u) ∨
  ((env.kindOf x = some .cell ∨ env.kindOf x = some .free) ∧ ∃ c, env.cells.lookup x = some c ∧ h.IsCell c (some u))
theorem Loads.up {h h' : Heap} {x u} (k : KeepH h h') : Loads env h x u → Loads env h' x u
  | .inl ⟨a, m, b, c⟩ => .inl ⟨a, m, b.keeps k, c⟩
  | .inr ⟨a, c, b, d⟩ => .inr ⟨a, c, b, d.keeps k⟩

noncomputable def varK (k : NameKind) : Prop := k = .local ∨ k = .cell ∨ k = .free
/-- the frame, as an expression finds it -/
structure EOk (mu : Addr → Prop) (sa : List Addr) (env : Env) (σ : SE) (h : Heap) : Prop where
  kind : env.scope.kind = .function
  globals : env.globals = mainGlobals
  builtins : env.builtins = builtinsNs
  names : ∀ x k, σ.sc.names.lookup x = some k → env.kindOf x = some k ∨ (k = .free ∧ env.kindOf x = some .cell)
  vars : ∀ x k v, σ.sc.names.lookup x = some k → varK k → σ.vs.lookup x = some v → ∃ u, Val mu sa h v u ∧ Loads env h x u
  objs : OOk mu sa σ.ob h
  muin : MuIn mu h
  cells : ∀ x, env.kindOf x = some .cell ∨ env.kindOf x = some .free → ∃ c, env.cells.lookup x = some c
theorem EOk.up {σ : SE} {h h' : Heap} (k : KeepH h h') (x : EOk mu sa env σ h) : EOk mu sa env σ h' :=
  ⟨x.kind, x.globals, x.builtins, x.names, fun y kd v a b c => (x.vars y kd v a b c).imp fun u p => ⟨p.1.up k, p.2.up k⟩, x.objs.to (.of k) k, x.muin.up k, x.cells⟩
/-- where an expression stands -/
structure At (w : World) (D : Nat) (σ : SE) (A : Around) (s : Shared) (mu : Addr → Prop) (sa : List Addr) (env : Env) : Prop where
  C : Cx A D
  B : BB w s.heap
  O : EOk mu sa env σ s.heap
theorem At.up {σ : SE} (H : At w D σ A s mu sa env) (k : Keeps s s') : At w D σ A s' mu sa env := ⟨H.C, H.B.up (kH k), H.O.up (kH k)⟩

/-- what a pure step hands on -/
noncomputable def Gives (mu : Addr → Prop) (sa : List Addr) (s : Shared) (v : AV) (Q : Value → Shared → Prop) : Prop := ∀ u s', Keeps s s' → Val mu sa s'.heap v u → Q u s'
theorem Gives.up {v : AV} (g : Gives mu sa s v Q) (k : Keeps s s') : Gives mu sa s' v Q := fun u s'' k' hv => g u s'' (kT k k') hv
theorem Gives.noSa {v : AV} (g : Gives mu sa s v Q) : Gives mu [] s v Q := fun u s' k hv => g u s' k hv.anySa
theorem Gives.int {y i} (g : Gives mu sa s (.int y i) Q) (t k : Nat) : Q (.int i t) { s with toks := k } := g _ _ (keeps_tok s k) ⟨t, rfl⟩
theorem Gives.flt {i} (g : Gives mu sa s (.flt i) Q) (t k : Nat) : Q (.float (Float64.ofInt i) t) { s with toks := k } := g _ _ (keeps_tok s k) ⟨t, rfl⟩
theorem Gives.bool {y b} (g : Gives mu sa s (.bool y b) Q) : Q (.bool b) s := g _ _ (keeps_refl s) rfl
theorem Gives.str {x} (g : Gives mu sa s (.str x) Q) (t k : Nat) : Q (.str x t) { s with toks := k } := g _ _ (keeps_tok s k) ⟨t, rfl⟩
theorem Gives.lst {l : List AV} {ws : List Value} (M : MuIn mu s.heap) (g : Gives mu sa s (.lst l) Q) (v : Vals mu sa s.heap l ws) (k : Nat) :
    Q (.ref s.heap.objs.size) { s with heap := s.heap.push { cls := .type "list", data := .seq ws.toArray }, toks := k } :=
  g _ _ (keeps_push s _ k) ⟨_, ws, rfl, M.fresh fresh_size, ⟨0, Heap.get?_push_size _ rfl⟩, v.up (KeepH.push _ _)⟩
theorem Gives.tup {l : List AV} {ws : List Value} (M : MuIn mu s.heap) (g : Gives mu sa s (.tup l) Q) (v : Vals mu sa s.heap l ws) (k : Nat) :
    Q (.ref s.heap.objs.size) { s with heap := s.heap.push { cls := .type "tuple", data := .seq ws.toArray }, toks := k } :=
  g _ _ (keeps_push s _ k) ⟨_, ws, 0, rfl, M.fresh fresh_size, Heap.get?_push_size _ rfl, v.up (KeepH.push _ _)⟩

/-- the forms that are served -/
noncomputable def okForm : Expr → Bool
  | .Constant .. | .Name .. | .BinOp .. | .IfExp .. | .Compare .. | .List .. | .Tuple .. | .Attribute .. | .Subscript .. | .Call .. | .ListComp .. => true
  | _ => false
/-- an expression gives so -/
structure ES (prog : Program) (w : World) (D : Nat) (σ : SE) (e : Expr) (v : AV) : Prop where
  form : okForm e = true
  run : ∀ {A : Around} {E : Value → Shared → Prop} {s : Shared} {mu : Addr → Prop} {sa : List Addr} {env : Env} {Q : Value → Shared → Prop}, At w D σ A s mu sa env → Gives mu sa s v Q → wpAny (model prog w) A (eval e env) Q E s
/-- a test tells so -/
noncomputable def TS (prog : Program) (w : World) (D : Nat) (σ : SE) (e : Expr) (b : Bool) : Prop :=
  ∀ {A : Around} {E : Value → Shared → Prop} {s : Shared} {mu : Addr → Prop} {sa : List Addr} {env : Env} {Q : Bool → Shared → Prop}, At w D σ A s mu sa env → (∀ s', Keeps s s' → Q b s') → wpAny (model prog w) A (isTrue e env (eval e env)) Q E s

/-- a list, one's own or not -/
structure IsLst (mu : Addr → Prop) (sa : List Addr) (h : Heap) (l : List AV) (u : Value) (a : Addr) (ws : List Value) : Prop where
  eq : u = .ref a
  p : h.PlainList a ws.toArray
  v : Vals mu sa h l ws
noncomputable def ListIs (ob : Obs) (x : AV) (l : List AV) : Prop := ∀ {mu : Addr → Prop} {sa : List Addr} {h : Heap} {u : Value}, OOk mu sa ob h → Val mu sa h x u → ∃ a ws, IsLst mu sa h l u a ws
theorem list_own {ob : Obs} {i : Nat} {l : List AV} (e : ob[i]? = some (some l)) : ListIs ob (.ref i) l := fun O hv => by
  obtain ⟨a, ws, p, q, r⟩ := O i l e
  obtain ⟨b, p', rfl⟩ := hv
  cases p.symm.trans p'
  exact ⟨a, ws, rfl, q, r⟩
noncomputable def listC (ob : Obs) : (x : AV) → Option {l : List AV // ListIs ob x l}
  | .lst l => some ⟨l, fun _ hv => hv.imp fun a e => e.imp fun ws p => ⟨p.1, p.2.2.1, p.2.2.2⟩⟩
  | .ref i => match e : ob[i]? with
    | some (some l) => some ⟨l, list_own e⟩
    | _ => none
  | _ => none

/-- an operator gives so -/
noncomputable def BinS (prog : Program) (w : World) (D : Nat) (σ : SE) (op : Operator) (x y v : AV) : Prop := ∀ {A : Around} {E : Value → Shared → Prop} {s : Shared} {mu : Addr → Prop} {sa : List Addr} {env : Env} {Q : Value → Shared → Prop} {a b : Value},
  At w D σ A s mu sa env → Val mu sa s.heap x a → Val mu sa s.heap y b → Gives mu sa s v Q → wpAny (model prog w) A (binaryOp op a b) Q E s
abbrev Op2 (prog : Program) (w : World) (op : Operator) (a : Tok → Value) (b : Tok → Value) (r : Tok → Value) : Prop := ∀ {A : Around} {E : Value → Shared → Prop} {s : Shared} {Q : Value → Shared → Prop} {t u : Tok}, (∀ t k : Nat, Q (r t) { s with toks := k }) → wpAny (model prog w) A (binaryOp op (a t) (b u)) Q E s
section
variable {σ : SE} {op : Operator} {p q y : Bool} {a b r : Int}
noncomputable def Lf (x : AV) (f : Tok → Value) : Prop := ∀ mu sa h v, Val mu sa h x v ↔ ∃ t, v = f t
theorem lf_int {p : Bool} {a : Int} : Lf (.int p a) (.int a) := fun _ _ _ _ => Iff.rfl
theorem lf_flt {a : Int} : Lf (.flt a) (.float (Float64.ofInt a)) := fun _ _ _ _ => Iff.rfl
theorem lf_str {x : Str} : Lf (.str x) (.str x) := fun _ _ _ _ => Iff.rfl
theorem op2_bin {a b r : Tok → Value} {x y z : AV} (hx : Lf x a) (hy : Lf y b) (hz : Lf z r) (h : Op2 prog w op a b r) : BinS prog w D σ op x y z := by
  intro A E s mu sa env Q u v _ hu hv g
  obtain ⟨t, rfl⟩ := (hx _ _ _ _).mp hu
  obtain ⟨t', rfl⟩ := (hy _ _ _ _).mp hv
  exact h fun t k => g _ _ (keeps_tok s k) ((hz _ _ _ _).mpr ⟨t, rfl⟩)
theorem bin_iii (h : Op2 prog w op (.int a) (.int b) (.int r)) : BinS prog w D σ op (.int p a) (.int q b) (.int y r) := op2_bin lf_int lf_int lf_int @h
theorem bin_iif (h : Op2 prog w op (.int a) (.int b) (.float (Float64.ofInt r))) : BinS prog w D σ op (.int p a) (.int q b) (.flt r) := op2_bin lf_int lf_int lf_flt @h
theorem bin_fif (h : Op2 prog w op (.float (Float64.ofInt a)) (.int b) (.float (Float64.ofInt r))) : BinS prog w D σ op (.flt a) (.int q b) (.flt r) := op2_bin lf_flt lf_int lf_flt @h
theorem bin_fff (h : Op2 prog w op (.float (Float64.ofInt a)) (.float (Float64.ofInt b)) (.float (Float64.ofInt r))) : BinS prog w D σ op (.flt a) (.flt b) (.flt r) := op2_bin lf_flt lf_flt lf_flt @h
theorem bin_sss {x y z : Str} (h : Op2 prog w op (.str x) (.str y) (.str z)) : BinS prog w D σ op (.str x) (.str y) (.str z) := op2_bin lf_str lf_str lf_str @h
theorem bin_sis {x z : Str} (h : Op2 prog w op (.str x) (.int b) (.str z)) : BinS prog w D σ op (.str x) (.int q b) (.str z) := op2_bin lf_str lf_int lf_str @h
end

theorem mulOk {a b : Int} (ha : small a) : IntMulOk a b := by
  unfold IntMulOk
  have h1 : Builtin.Int.intBits a ≤ 64 := intBits_le_64 (by omega) (by omega)
  simp only [Bool.and_eq_true, decide_eq_true_eq, not_and]
  intro h2
  exfalso
  have : shortFactorBits = 64 ∨ 64 ≤ shortFactorBits := by decide
  omega
theorem listMul_at {l : Addr} {items : Array Value} {k : Nat} {x : Int} {u : Tok} {s : Shared} {Q : Value → Shared → Prop}
    (hl : s.heap.get? l = some { cls := .type "list", dict := none, data := .seq items k, slots := #[] })
    (hlo : -(2 ^ 63 : Int) ≤ x) (hhi : x < 2 ^ 63) (hsz : items.size * x.toNat ≤ 2 ^ 24)
    (h : Q (.ref s.heap.objs.size) { s with heap := s.heap.push { cls := .type "list", data := .seq (List.foldl (fun x1 x2 => x1 ++ x2) #[] (List.replicate (if items.isEmpty = true then 0 else x.toNat) items)) } }) :
    wpAny (model prog w) A (binaryOp .Mult (.ref l) (.int x u)) Q E s :=
  wpAny_binaryOp_repeat_ref (T := "list") (U := "int") (by decide) ⟨_, hl, rfl⟩ (fun s' => typeIs_int s' x u) noFill_list_mul F.fills_int_mul F.slot_int_rmul repeat_list F.slot_int_index.lookup
    (call_meets F.slot_int_rmul (typeIs_int s x u) F.entry_int_rmul (F.args_int_rmul_2 _ _) (int___rmul___int_list x u l items k)
      ⟨hl, rfl, ⟨_, hl, rfl⟩, call_meets F.slot_list_mul ⟨_, hl, rfl⟩ F.entry_list_mul (F.args_list_mul_2 _ _)
        (AutoListH.list___mul___list_int_3 l items k x u (by simp [Builtin.List.listFitsIndex]; omega) (by omega) (by simp [Builtin.List.listTooLong, sizeLine]; omega))
        ⟨hl, h⟩⟩)
theorem foldl_flat (l : List (Array Value)) : ∀ a : Array Value, List.foldl (fun x1 x2 => x1 ++ x2) a l = a ++ (l.map Array.toList).flatten.toArray := by
  induction l with
  | nil => intro a; simp
  | cons x l ih => intro a; rw [List.foldl_cons, ih]; apply Array.ext'; simp
theorem listMul_list {ws : List Value} {n : Nat} : (List.foldl (fun x1 x2 => x1 ++ x2) #[] (List.replicate (if ws.toArray.isEmpty = true then 0 else n) ws.toArray)) = ((List.replicate n ws).flatten).toArray := by
  rw [foldl_flat]
  simp only [List.map_replicate, Array.empty_append]
  cases ws with
  | nil => simp
  | cons a l => simp
noncomputable def repL (l : List AV) : Nat → List AV
  | 0 => []
  | n + 1 => l ++ repL l n
theorem repL_vals {h : Heap} {l : List AV} {ws : List Value} (v : Vals mu sa h l ws) : ∀ n : Nat, Vals mu sa h (repL l n) ((List.replicate n ws).flatten)
  | 0 => rfl
  | n + 1 => by rw [List.replicate_succ, List.flatten_cons]; exact Vals.append v (repL_vals v n)
theorem bin_rep {σ : SE} {x : AV} {l : List AV} {q : Bool} {b : Int} (hl : ListIs σ.ob x l) (hb : 0 ≤ b ∧ b < 64) (hn : l.length ≤ 64) : BinS prog w D σ .Mult x (.int q b) (.lst (repL l b.toNat)) := fun H hx hy g => by
  obtain ⟨a, ws, rfl, ⟨n, p⟩, hv⟩ := hl H.O.objs hx
  obtain ⟨u, rfl⟩ := hy
  have hlen := hv.length
  refine listMul_at p (by omega) (by omega) (by
    rw [List.size_toArray, hlen]
    exact Nat.le_trans (Nat.mul_le_mul hn (by omega : _ ≤ 64)) (by decide)) ?_
  rw [listMul_list]
  exact g.lst H.O.muin (repL_vals hv _) _

noncomputable def addC (σ : SE) : (x y : AV) → Rz (BinS prog w D σ .Add x y)
  | .int p a, .int q b => ret (.int (p || q) (a + b)) (bin_iii fun g => P.add_int (g _ _))
  | .str a, .str b => mapR (need (a.length + b.length ≤ sizeLine)) (fun _ => .str (a ++ b)) fun _ hk => bin_sss fun g => SB.add g hk
  | .flt a, .flt b => mapR (need (0 ≤ a ∧ a < 128 ∧ 0 ≤ b ∧ b < 128 ∧ (a = 0 ∨ b = 0))) (fun _ => .flt (a + b)) fun _ hk => bin_fff fun g => AutoFloatOps.add_0 (by
      have e : Float64.add (Float64.ofInt a) (Float64.ofInt b) = Float64.ofInt (a + b) := by
        rcases hk.2.2.2.2 with rfl | rfl
        · rw [(ofInt_add0 ⟨hk.2.2.1, hk.2.2.2.1⟩).2, Int.zero_add]
        · rw [(ofInt_add0 ⟨hk.1, hk.2.1⟩).1, Int.add_zero]
      rw [e]; exact g _ _)
  | _, _ => none
noncomputable def subC (σ : SE) : (x y : AV) → Rz (BinS prog w D σ .Sub x y)
  | .int p a, .int q b => ret (.int (p || q) (a - b)) (bin_iii fun g => P.sub_int (g _ _))
  | _, _ => none
noncomputable def mulC (σ : SE) : (x y : AV) → Rz (BinS prog w D σ .Mult x y)
  | .int p a, .int q b => mapR (chk (p || q) (small a)) (fun _ => .int (p || q) (a * b)) fun _ hk => bin_iii fun g => P.mul_int (g _ _) (mulOk hk)
  | .flt a, .int q b => mapR (need (0 ≤ a ∧ a < 64 ∧ 0 ≤ b ∧ b < 8)) (fun _ => .flt (a * b)) fun _ hk => bin_fif fun g => AutoFloatOps.mul_fi_1 (ofInt_mul hk).2 (by rw [(ofInt_mul hk).1]; exact g _ _)
  | .str a, .int q b => mapR (need (a.length = 1 ∧ 0 ≤ b ∧ b < 64)) (fun _ => .str (Txt.mul a b)) fun _ hk => bin_sis fun g => by
      refine SB.mul ⟨?_, fun h3 _ => ?_, fun h3 _ => ?_⟩ g
      · simp; omega
      · rw [hk.1]
        intro h4
        have h5 : (1 : Int) ≤ (2 ^ 63 - 1) / b := Int.le_ediv_of_mul_le (by omega) (by omega)
        omega
      · rw [hk.1]; simp only [Builtin.Str.tooLong, sizeLine]; simp; omega
  | x, .int q b => match listC σ.ob x with
    | some l => bnd (chk q (0 ≤ b ∧ b < 64)) fun _ => mapR (chk false (l.1.length ≤ 64)) (fun _ => .lst (repL l.1 b.toNat)) fun _ hn hb => bin_rep l.2 hb hn
    | none => none
  | _, _ => none
noncomputable def fdivC (σ : SE) : (x y : AV) → Rz (BinS prog w D σ .FloorDiv x y)
  | .int p a, .int q b => mapR (chk q (b ≠ 0 ∧ b.natAbs < 1073741824)) (fun _ => .int (p || q) (a.fdiv b)) fun _ hk => bin_iii fun g => PyProof.Rows.floordiv_int hk.1 (g _ _) (.inl (PyProof.noPylong_small hk.2))
  | _, _ => none
noncomputable def modC (σ : SE) : (x y : AV) → Rz (BinS prog w D σ .Mod x y)
  | .int p a, .int q b => mapR (chk q (b ≠ 0)) (fun _ => .int (p || q) (a.fmod b)) fun _ hk => bin_iii fun g => PyProof.Rows.mod_int hk (g _ _)
  | _, _ => none
noncomputable def divC (σ : SE) : (x y : AV) → Rz (BinS prog w D σ .Div x y)
  | .int p a, .int q b => mapR (need ((0 ≤ a.ediv b ∧ a.ediv b < 64 ∧ 0 < b ∧ b < 8) ∧ b * (a.ediv b) = a)) (fun _ => .flt (a.ediv b)) fun _ hk => bin_iif fun g => by
      have e := ofFrac_div hk.1 hk.2
      refine AutoIntOps.truediv_2 (by simp; omega) (by rw [e.1]; exact e.2) ?_
      rw [e.1]; exact g _ _
  | .flt a, .int q b => mapR (need ((0 ≤ a.ediv b ∧ a.ediv b < 64 ∧ 0 < b ∧ b < 8) ∧ b * (a.ediv b) = a)) (fun _ => .flt (a.ediv b)) fun _ hk => bin_fif fun g => by
      have e := ofInt_div hk.1 hk.2
      refine AutoFloatOps.truediv_fi_2 e.2.1 e.2.2 ?_
      rw [e.1]; exact g _ _
  | _, _ => none
noncomputable def powC (σ : SE) : (x y : AV) → Rz (BinS prog w D σ .Pow x y)
  | .int p a, .int q b => mapR (chk false (0 ≤ b ∧ (Builtin.Int.intBits a : Int) * b ≤ 2 ^ 27)) (fun _ => .int (p || q) (a ^ b.toNat)) fun _ hk => bin_iii fun g => PyProof.Rows.pow_int hk.1 hk.2 (g _ _)
  | _, _ => none
noncomputable def binC (σ : SE) : (op : Operator) → (x y : AV) → Rz (BinS prog w D σ op x y)
  | .Add, x, y => addC σ x y
  | .Sub, x, y => subC σ x y
  | .Mult, x, y => mulC σ x y
  | .FloorDiv, x, y => fdivC σ x y
  | .Mod, x, y => modC σ x y
  | .Div, x, y => divC σ x y
  | .Pow, x, y => powC σ x y
  | _, _, _ => none
end
end Mine

namespace Mine
noncomputable section
variable {prog : Program} {w : World} {D : Nat} {A : Around} {E : Value → Shared → Prop} {s s' : Shared} {mu : Addr → Prop} {sa : List Addr} {env : Env} {Q : Value → Shared → Prop} {σ : SE}

/-- a comparison gives so -/
noncomputable def CmpS (prog : Program) (w : World) (D : Nat) (σ : SE) (op : CmpOp) (x y v : AV) : Prop := ∀ {A : Around} {E : Value → Shared → Prop} {s : Shared} {mu : Addr → Prop} {sa : List Addr} {env : Env} {Q : Value → Shared → Prop} {a b : Value},
  At w D σ A s mu sa env → Val mu sa s.heap x a → Val mu sa s.heap y b → Gives mu sa s v Q → wpAny (model prog w) A (compareOp op a b) Q E s
noncomputable def Cmp2 (prog : Program) (w : World) (op : CmpOp) (a b : Tok → Value) (r : Bool) : Prop := ∀ {A : Around} {E : Value → Shared → Prop} {s : Shared} {Q : Value → Shared → Prop} {t u : Tok}, Q (.bool r) s → wpAny (model prog w) A (compareOp op (a t) (b u)) Q E s
theorem cmp2 {op : CmpOp} {a b : Tok → Value} {x y : AV} {f r : Bool} (hx : Lf x a) (hy : Lf y b) (h : Cmp2 prog w op a b r) : CmpS prog w D σ op x y (.bool f r) := by
  intro A E s mu sa env Q u v _ hu hv g
  obtain ⟨t, rfl⟩ := (hx _ _ _ _).mp hu
  obtain ⟨t', rfl⟩ := (hy _ _ _ _).mp hv
  exact h g.bool
theorem cmp_bools {op : CmpOp} {f p q a b r : Bool} (h : ∀ {A : Around} {E : Value → Shared → Prop} {s : Shared} {Q : Value → Shared → Prop}, Q (.bool r) s → wpAny (model prog w) A (compareOp op (.bool a) (.bool b)) Q E s) : CmpS prog w D σ op (.bool p a) (.bool q b) (.bool f r) := by
  intro A E s mu sa env Q u v _ hu hv g
  cases hu; cases hv
  exact h g.bool

theorem EqAt.of_fi {x : UInt64} {t u : Tok} {i : Int} {k : Bool} (h : SeqAt.RcAt A s (.float x t) (.int i u) k) : SeqAt.EqAt A s (.float x t) (.int i u) k := fun prog w E Q hq => by
  unfold eqBool
  refine wpAny_holding ?_
  refine wpAny_ite_split (fun hab => absurd (eq_of_beq hab) nofun) (fun _ => ?_)
  exact wpAny_bind (h prog w E _ (wpAny_truthy_bool hq))
theorem EqAt.of_if {x : UInt64} {t u : Tok} {i : Int} {k : Bool} (h : SeqAt.RcAt A s (.int i u) (.float x t) k) : SeqAt.EqAt A s (.int i u) (.float x t) k := fun prog w E Q hq => by
  unfold eqBool
  refine wpAny_holding ?_
  refine wpAny_ite_split (fun hab => absurd (eq_of_beq hab) nofun) (fun _ => ?_)
  exact wpAny_bind (h prog w E _ (wpAny_truthy_bool hq))
theorem cmp_eq_beq (a b : Int) : ((some (compare a b) : Option Ordering) == some Ordering.eq) = (a == b) := by
  rw [Bool.eq_iff_iff, beq_iff_eq, beq_iff_eq]
  exact ⟨fun h => Int.compare_eq_eq.mp (Option.some.inj h), fun h => congrArg some (Int.compare_eq_eq.mpr h)⟩

/-- two values are equal just if b -/
structure EqV (k : Bool) (x y : AV) (b : Bool) : Prop where
  at_ : ∀ {A : Around} {s : Shared} {mu : Addr → Prop} {sa : List Addr} {u v : Value}, (k = true → A.units < cLine) → Val mu sa s.heap x u → Val mu sa s.heap y v → SeqAt.EqAt A s u v b
  same : ∀ {mu : Addr → Prop} {sa : List Addr} {h : Heap} {u : Value}, Val mu sa h x u → Val mu sa h y u → b = true
inductive EqL (t : Bool) : List AV → List AV → List Bool → Prop
  | nil : EqL t [] [] []
  | cons {x y b l r bs} (h : EqV t x y b) (k : EqL t l r bs) : EqL t (x :: l) (y :: r) (b :: bs)
noncomputable def allB : List Bool → Bool
  | [] => true
  | b :: l => b && allB l
theorem eqV_ii {p q : Bool} {a b : Int} : EqV false (.int p a) (.int q b) (a == b) where
  at_ := fun _ hx hy => by obtain ⟨t, rfl⟩ := hx; obtain ⟨u, rfl⟩ := hy; exact SeqAt.EqAt.int_int _ _ _ _
  same := fun hx hy => by obtain ⟨t, rfl⟩ := hx; obtain ⟨u, e⟩ := hy; cases e; exact beq_self_eq_true _
theorem eqV_bb {p q a b : Bool} : EqV false (.bool p a) (.bool q b) (a == b) where
  at_ := fun _ hx hy => by cases hx; cases hy; exact SeqAt.EqAt.bool_bool _ _
  same := fun hx hy => by cases hx; cases hy; exact beq_self_eq_true _
theorem eqV_fi {q : Bool} {a b : Int} (h : 0 ≤ a ∧ a < 64 ∧ 0 ≤ b ∧ b < 64) : EqV false (.flt a) (.int q b) (a == b) where
  at_ := fun _ hx hy => by
    obtain ⟨t, rfl⟩ := hx; obtain ⟨u, rfl⟩ := hy
    refine EqAt.of_fi fun prog w E Q hq => PyProof.Rows.eq_fi ?_
    rw [cmpInt_ofInt h, cmp_eq_beq]; exact hq
  same := fun hx hy => by obtain ⟨t, rfl⟩ := hx; obtain ⟨u, e⟩ := hy; cases e
theorem eqV_if {q : Bool} {a b : Int} (h : 0 ≤ a ∧ a < 64 ∧ 0 ≤ b ∧ b < 64) : EqV false (.int q a) (.flt b) (a == b) where
  at_ := fun _ hx hy => by
    obtain ⟨t, rfl⟩ := hx; obtain ⟨u, rfl⟩ := hy
    refine EqAt.of_if fun prog w E Q hq => PyProof.Rows.eq_if ?_
    rw [cmpInt_ofInt ⟨h.2.2.1, h.2.2.2, h.1, h.2.1⟩, cmp_eq_beq, BEq.comm]; exact hq
  same := fun hx hy => by obtain ⟨t, rfl⟩ := hx; obtain ⟨u, e⟩ := hy; cases e

theorem EqL.all {t : Bool} {l r : List AV} {bs : List Bool} (e : EqL t l r bs) : l.length = bs.length ∧ r.length = bs.length ∧ ((List.range bs.length).all fun j => bs.getD j true) = allB bs := by
  induction e with
  | nil => exact ⟨rfl, rfl, rfl⟩
  | cons h k ih =>
    refine ⟨congrArg Nat.succ ih.1, congrArg Nat.succ ih.2.1, ?_⟩
    rw [List.length_cons, List.range_succ_eq_map, List.all_cons, List.all_map, allB, ← ih.2.2]
    rfl
theorem EqL.get {t : Bool} {l r : List AV} {bs : List Bool} (e : EqL t l r bs) {mu sa} {s : Shared} {A : Around} (hA : t = true → A.units < cLine) : ∀ {ws zs : List Value}, Vals mu sa s.heap l ws → Vals mu sa s.heap r zs → ∀ (j : Nat) (h1 : j < ws.length) (h2 : j < zs.length), SeqAt.EqAt A s ws[j] zs[j] (bs.getD j true) := by
  induction e with
  | nil => intro ws zs hw _ j h1; cases hw; nomatch h1
  | cons h k ih =>
    intro ws zs hw hz j h1 h2
    obtain ⟨u, ws, rfl, hu, hw⟩ := hw
    obtain ⟨v, zs, rfl, hv, hz⟩ := hz
    cases j with
    | zero => exact h.at_ hA hu hv
    | succ j => exact ih hw hz j (Nat.lt_of_succ_lt_succ h1) (Nat.lt_of_succ_lt_succ h2)
theorem EqL.same {t : Bool} {l r : List AV} {bs : List Bool} (e : EqL t l r bs) {mu sa h} : ∀ {ws : List Value}, Vals mu sa h l ws → Vals mu sa h r ws → allB bs = true := by
  induction e with
  | nil => intro ws _ _; rfl
  | cons hv k ih =>
    intro ws hw hz
    obtain ⟨u, ws, rfl, hu, hw⟩ := hw
    obtain ⟨v, zs, e, hv', hz⟩ := hz
    cases e
    rw [allB, hv.same hu hv', ih hw hz]; rfl

noncomputable def eq1C : (x y : AV) → Rz (EqV false x y)
  | .int _ a, .int _ b => ret (a == b) eqV_ii
  | .bool _ a, .bool _ b => ret (a == b) eqV_bb
  | .flt a, .int _ b => mapR (need (0 ≤ a ∧ a < 64 ∧ 0 ≤ b ∧ b < 64)) (fun _ => a == b) fun _ h => eqV_fi h
  | .int _ a, .flt b => mapR (need (0 ≤ a ∧ a < 64 ∧ 0 ≤ b ∧ b < 64)) (fun _ => a == b) fun _ h => eqV_if h
  | _, _ => none
noncomputable def eqLC {t : Bool} (f : (x y : AV) → Rz (EqV t x y)) : (l r : List AV) → Rz (EqL t l r)
  | [], [] => ret [] .nil
  | x :: l, y :: r => bnd (f x y) fun b => mapR (eqLC f l r) (b :: ·) fun _ k h => .cons h k
  | _, _ => none
theorem EqV.lift {x y : AV} {b : Bool} (h : EqV false x y b) : EqV true x y b := ⟨fun _ => h.at_ (fun e => nomatch e), h.same⟩
theorem eqV_tup {l r : List AV} {bs : List Bool} (e : EqL false l r bs) : EqV true (.tup l) (.tup r) (allB bs) where
  at_ := fun hA hx hy => by
    obtain ⟨p, ws, n, rfl, _, hp, vp⟩ := hx
    obtain ⟨q, zs, m, rfl, _, hq, vq⟩ := hy
    have lw := vp.length
    have lz := vq.length
    have ⟨l1, l2, hall⟩ := e.all
    by_cases hpq : p = q
    · subst hpq
      cases hp.symm.trans hq
      rw [e.same vp vq]
      exact SeqAt.EqAt.same _
    · have rc := SeqAt.RcAt.tuples (e := fun j => bs.getD j true) ⟨_, hp, rfl, n, rfl⟩ ⟨_, hq, rfl, m, rfl⟩ (hA rfl) (fun j h1 h2 => e.get (fun e => nomatch e) vp vq j (by simpa using h1) (by simpa using h2))
      simp only [List.size_toArray] at rc
      rw [show min ws.length zs.length = bs.length by omega, show (ws.length == zs.length) = true by simp; omega, Bool.and_true, hall] at rc
      exact SeqAt.EqAt.of_refs hpq rc
  same := fun hx hy => by
    obtain ⟨p, ws, n, rfl, _, hp, vp⟩ := hx
    obtain ⟨q, zs, m, e', _, hq, vq⟩ := hy
    cases e'
    cases hp.symm.trans hq
    exact e.same vp vq
noncomputable def eqC : (x y : AV) → Rz (EqV true x y)
  | .tup l, .tup r => mapR (eqLC eq1C l r) allB fun _ h => eqV_tup h
  | x, y => mapR (eq1C x y) id fun _ h => h.lift

/-- two lists -/
structure ListsEq (l r : List AV) (b : Bool) : Prop where
  at_ : ∀ {A : Around} {s : Shared} {mu : Addr → Prop} {sa : List Addr} {p q : Addr} {ws zs : List Value}, A.units + 1 < cLine → s.heap.PlainList p ws.toArray → s.heap.PlainList q zs.toArray → Vals mu sa s.heap l ws → Vals mu sa s.heap r zs →
    SeqAt.RcAt A s (.ref p) (.ref q) b ∧ SeqAt.RcNeAt A s (.ref p) (.ref q) (!b)
theorem lists_ne {l r : List AV} (h : l.length ≠ r.length) (hl : l.length ≤ 64 ∧ r.length ≤ 64) : ListsEq l r false := ⟨fun {A s mu sa p q ws zs} hA hp hq vp vq => by
  have lw := vp.length
  have lz := vq.length
  have hsz : (ws.toArray.size != zs.toArray.size) = true := by rw [bne_iff_ne, List.size_toArray, List.size_toArray, lw, lz]; exact h
  exact ⟨SeqAt.RcAt.lists_lengths hp.isList hq.isList hsz (by omega), SeqAt.RcNeAt.lists_lengths hp.isList hq.isList hsz (by omega)⟩⟩
theorem lists_eq {l r : List AV} {bs : List Bool} (e : EqL true l r bs) : ListsEq l r (allB bs) := ⟨fun {A s mu sa p q ws zs} hA hp hq vp vq => by
  have lw := vp.length
  have lz := vq.length
  have ⟨l1, l2, hall⟩ := e.all
  have hsz : ws.toArray.size = zs.toArray.size := by rw [List.size_toArray, List.size_toArray]; omega
  have he : ∀ (j : Nat) (h1 : j < ws.toArray.size) (h2 : j < zs.toArray.size), SeqAt.EqAt A.in1 s ws.toArray[j] zs.toArray[j] ((fun j => bs.getD j true) j) := fun j h1 h2 => e.get (fun _ => by simpa using hA) vp vq j (by simpa using h1) (by simpa using h2)
  have a1 := SeqAt.RcAt.lists (A := A) (e := fun j => bs.getD j true) hp.isList hq.isList hsz (by omega) he
  have a2 := SeqAt.RcNeAt.lists (A := A) (e := fun j => bs.getD j true) hp.isList hq.isList hsz (by omega) he
  rw [List.size_toArray, show ws.length = bs.length by omega, hall] at a1 a2
  exact ⟨a1, a2⟩⟩
noncomputable def listsC (l r : List AV) : Rz (ListsEq l r) := match decEq l.length r.length with
  | .isTrue _ => mapR (eqLC eqC l r) allB fun _ h => lists_eq h
  | .isFalse h => mapR (chk false (l.length ≤ 64 ∧ r.length ≤ 64)) (fun _ => false) fun _ k => lists_ne h k
theorem cmp_lists_eq {x y : AV} {l r : List AV} {b f : Bool} (hx : ListIs σ.ob x l) (hy : ListIs σ.ob y r) (h : ListsEq l r b) : CmpS prog w D σ .Eq x y (.bool f b) := fun H hu hv g => by
  obtain ⟨p, ws, rfl, hp, vp⟩ := hx H.O.objs hu
  obtain ⟨q, zs, rfl, hq, vq⟩ := hy H.O.objs hv
  exact (h.at_ H.C.room hp hq vp vq).1 _ _ _ _ g.bool
theorem cmp_lists_ne {x y : AV} {l r : List AV} {b f : Bool} (hx : ListIs σ.ob x l) (hy : ListIs σ.ob y r) (h : ListsEq l r b) : CmpS prog w D σ .NotEq x y (.bool f (!b)) := fun H hu hv g => by
  obtain ⟨p, ws, rfl, hp, vp⟩ := hx H.O.objs hu
  obtain ⟨q, zs, rfl, hq, vq⟩ := hy H.O.objs hv
  exact (h.at_ H.C.room hp hq vp vq).2 _ _ _ _ g.bool

noncomputable def iiC (σ : SE) (op : CmpOp) (r : Int → Int → Bool) (h : ∀ a b, Cmp2 prog w op (.int a) (.int b) (r a b)) : (x y : AV) → Rz (CmpS prog w D σ op x y)
  | .int p a, .int q b => ret (.bool (p || q) (r a b)) (cmp2 lf_int lf_int (h a b))
  | _, _ => none
noncomputable def eqqC (σ : SE) : (x y : AV) → Rz (CmpS prog w D σ .Eq x y)
  | .int p a, .int q b => ret (.bool (p || q) (a == b)) (cmp2 lf_int lf_int fun h => P.eq_int h)
  | .str a, .str b => ret (.bool false (a.cps.toList == b.cps.toList)) (cmp2 lf_str lf_str fun h => P.eq_str h)
  | x, y => match listC σ.ob x, listC σ.ob y with
    | some l, some r => mapR (listsC l.1 r.1) (.bool true) fun _ h => cmp_lists_eq l.2 r.2 h
    | _, _ => none
noncomputable def nenC (σ : SE) : (x y : AV) → Rz (CmpS prog w D σ .NotEq x y)
  | .int p a, .int q b => ret (.bool (p || q) (a != b)) (cmp2 lf_int lf_int fun h => P.ne_int h)
  | x, y => match listC σ.ob x, listC σ.ob y with
    | some l, some r => mapR (listsC l.1 r.1) (fun b => .bool true (!b)) fun _ h => cmp_lists_ne l.2 r.2 h
    | _, _ => none
theorem beqB (a b : Bool) : (Value.bool a == Value.bool b) = (a == b) := by cases a <;> cases b <;> rfl
noncomputable def isC (σ : SE) : (x y : AV) → Rz (CmpS prog w D σ .Is x y)
  | .bool p a, .bool q b => ret (.bool (p || q) (a == b)) (cmp_bools fun h => wpAny_is_plain rfl (by rw [beqB]; exact h))
  | _, _ => none
noncomputable def isntC (σ : SE) : (x y : AV) → Rz (CmpS prog w D σ .IsNot x y)
  | .bool p a, .bool q b => ret (.bool (p || q) (!(a == b))) (cmp_bools fun h => wpAny_isNot_plain rfl (by rw [beqB]; exact h))
  | _, _ => none
/-- never in, not in -/
noncomputable def okOp : CmpOp → Bool
  | .In => false
  | .NotIn => false
  | _ => true
noncomputable def cmpC (σ : SE) : (op : CmpOp) → (x y : AV) → Rz (fun v => okOp op = true ∧ CmpS prog w D σ op x y v)
  | .Lt, x, y => mapR (iiC σ .Lt (fun a b => decide (a < b)) (fun _ _ => fun h => P.lt_int h) x y) id fun _ h => ⟨rfl, h⟩
  | .LtE, x, y => mapR (iiC σ .LtE (fun a b => decide (a ≤ b)) (fun _ _ => fun h => P.le_int h) x y) id fun _ h => ⟨rfl, h⟩
  | .Gt, x, y => mapR (iiC σ .Gt (fun a b => decide (a > b)) (fun _ _ => fun h => P.gt_int h) x y) id fun _ h => ⟨rfl, h⟩
  | .GtE, x, y => mapR (iiC σ .GtE (fun a b => decide (a ≥ b)) (fun _ _ => fun h => P.ge_int h) x y) id fun _ h => ⟨rfl, h⟩
  | .Eq, x, y => mapR (eqqC σ x y) id fun _ h => ⟨rfl, h⟩
  | .NotEq, x, y => mapR (nenC σ x y) id fun _ h => ⟨rfl, h⟩
  | .Is, x, y => mapR (isC σ x y) id fun _ h => ⟨rfl, h⟩
  | .IsNot, x, y => mapR (isntC σ x y) id fun _ h => ⟨rfl, h⟩
  | _, _, _ => none
end
end Mine

namespace Mine
noncomputable section
variable {prog : Program} {w : World} {D : Nat} {A : Around} {E : Value → Shared → Prop} {s s' : Shared} {mu : Addr → Prop} {sa : List Addr} {env : Env} {Q : Value → Shared → Prop} {σ : SE}

inductive IntsL : List AV → List Int → Prop
  | nil : IntsL [] []
  | cons (y a) {l r} (k : IntsL l r) : IntsL (.int y a :: l) (a :: r)
inductive FltsL : List AV → List Int → Prop
  | nil : FltsL [] []
  | cons (a) {l r} (k : FltsL l r) : FltsL (.flt a :: l) (a :: r)
inductive StrsL : List AV → List Str → Prop
  | nil : StrsL [] []
  | cons (a) {l r} (k : StrsL l r) : StrsL (.str a :: l) (a :: r)
theorem IntsL.of {x y a l r} (h : x = .int y a) (k : IntsL l r) : IntsL (x :: l) (a :: r) := by cases h; exact .cons _ _ k
theorem FltsL.of {x a l r} (h : x = .flt a) (k : FltsL l r) : FltsL (x :: l) (a :: r) := by cases h; exact .cons _ k
theorem StrsL.of {x a l r} (h : x = .str a) (k : StrsL l r) : StrsL (x :: l) (a :: r) := by cases h; exact .cons _ k
noncomputable def asInt : (x : AV) → Option {p : Bool × Int // x = .int p.1 p.2}
  | .int y a => some ⟨(y, a), rfl⟩
  | _ => none
noncomputable def asFlt : (x : AV) → Option {p : Int // x = .flt p}
  | .flt a => some ⟨a, rfl⟩
  | _ => none
noncomputable def asStr : (x : AV) → Option {p : Str // x = .str p}
  | .str a => some ⟨a, rfl⟩
  | _ => none
noncomputable def intsC : (l : List AV) → Option {r : List Int // IntsL l r}
  | [] => some ⟨[], .nil⟩
  | x :: l => match asInt x, intsC l with
    | some p, some r => some ⟨p.1.2 :: r.1, IntsL.of p.2 r.2⟩
    | _, _ => none
noncomputable def fltsC : (l : List AV) → Option {r : List Int // FltsL l r}
  | [] => some ⟨[], .nil⟩
  | x :: l => match asFlt x, fltsC l with
    | some p, some r => some ⟨p.1 :: r.1, FltsL.of p.2 r.2⟩
    | _, _ => none
noncomputable def strsC : (l : List AV) → Option {r : List Str // StrsL l r}
  | [] => some ⟨[], .nil⟩
  | x :: l => match asStr x, strsC l with
    | some p, some r => some ⟨p.1 :: r.1, StrsL.of p.2 r.2⟩
    | _, _ => none
theorem IntsL.are {h : Heap} {l r} (e : IntsL l r) : ∀ {ws}, Vals mu sa h l ws → IntsAre ws r := by
  induction e with
  | nil => intro ws e; cases e; exact .nil
  | cons y a k ih => intro ws e; obtain ⟨_, ws, rfl, ⟨t, rfl⟩, e⟩ := e; exact .cons _ _ (ih e)
theorem IntsL.len {l r} (e : IntsL l r) : r.length = l.length := by
  induction e with
  | nil => rfl
  | cons y a k ih => exact congrArg Nat.succ ih
theorem FltsL.len {l r} (e : FltsL l r) : r.length = l.length := by
  induction e with
  | nil => rfl
  | cons a k ih => exact congrArg Nat.succ ih
theorem StrsL.get {h : Heap} {l r} (e : StrsL l r) : ∀ {ws}, Vals mu sa h l ws → ∀ i : Nat, i < l.length → ∃ t, ws[i]? = some (.str (r.getD i (nm "")) t) := by
  induction e with
  | nil => intro ws _ i hi; nomatch hi
  | cons a k ih =>
    intro ws e i hi
    obtain ⟨_, ws, rfl, ⟨t, rfl⟩, e⟩ := e
    cases i with
    | zero => exact ⟨t, rfl⟩
    | succ i => exact ih e i (Nat.lt_of_succ_lt_succ hi)

/-- an item by its place -/
noncomputable def IdxS (l : List AV) (j : Int) (v : AV) : Prop := ∀ {mu : Addr → Prop} {sa : List Addr} {h : Heap} {ws : List Value}, Vals mu sa h l ws → (0 ≤ j ∧ j < 4096 ∧ j < ws.length) ∧ ∃ u, ws[j.toNat]? = some u ∧ Val mu sa h v u
theorem idx_lit {l : List AV} {j : Int} {v : AV} (hj : 0 ≤ j ∧ j < 4096) (e : l[j.toNat]? = some v) : IdxS l j v := fun hv => by
  obtain ⟨u, hu, hvu⟩ := hv.get e
  have := (List.getElem?_eq_some_iff.mp hu).1
  exact ⟨⟨hj.1, hj.2, by omega⟩, u, hu, hvu⟩
theorem idx_int {l : List AV} {r : List Int} {j : Int} (e : IntsL l r) (h : l.length ≤ 4096) (hk : 0 ≤ j ∧ j < l.length) : IdxS l j (.int true (r.getD j.toNat 0)) := fun hv => by
  have hlen := hv.length
  have := e.len
  obtain ⟨t, ht⟩ := intsAre_get (e.are hv) j.toNat (by omega)
  exact ⟨by omega, _, ht, ⟨t, rfl⟩⟩
theorem idx_str {l : List AV} {r : List Str} {j : Int} (e : StrsL l r) (h : l.length ≤ 4096) (hk : 0 ≤ j ∧ j < l.length) : IdxS l j (.str (r.getD j.toNat (nm ""))) := fun hv => by
  have hlen := hv.length
  obtain ⟨t, ht⟩ := e.get hv j.toNat (by omega)
  exact ⟨by omega, _, ht, ⟨t, rfl⟩⟩
noncomputable def nthC : (l : List AV) → (n : Nat) → Option {v : AV // l[n]? = some v}
  | [], _ => none
  | x :: _, 0 => some ⟨x, rfl⟩
  | _ :: l, n + 1 => match nthC l n with | some q => some ⟨q.1, q.2⟩ | none => none
noncomputable def idxC (l : List AV) : (p : Bool) → (j : Int) → Rz (IdxS l j)
  | false, j => bnd (chk false (0 ≤ j ∧ j < 4096)) fun _ => match nthC l j.toNat with
    | some q => ret q.1 fun hj => idx_lit hj q.2
    | none => none
  | true, j => bnd (chk false (l.length ≤ 4096)) fun _ => match intsC l with
    | some r => mapR (need (0 ≤ j ∧ j < l.length)) (fun _ => .int true (r.1.getD j.toNat 0)) fun _ hk h => idx_int r.2 h hk
    | none => match strsC l with
      | some r => mapR (need (0 ≤ j ∧ j < l.length)) (fun _ => .str (r.1.getD j.toNat (nm ""))) fun _ hk h => idx_str r.2 h hk
      | none => none
/-- subscripting gives so -/
noncomputable def ItemS (prog : Program) (w : World) (D : Nat) (σ : SE) (x k v : AV) : Prop := ∀ {A : Around} {E : Value → Shared → Prop} {s : Shared} {mu : Addr → Prop} {sa : List Addr} {env : Env} {Q : Value → Shared → Prop} {o i : Value},
  At w D σ A s mu sa env → Val mu sa s.heap x o → Val mu sa s.heap k i → Gives mu sa s v Q → SubscriptOn (model prog w) A o i Q E s
theorem item_list {x : AV} {l : List AV} {p : Bool} {j : Int} {v : AV} (hl : ListIs σ.ob x l) (h : IdxS l j v) : ItemS prog w D σ x (.int p j) v := fun H ho hi g => by
  obtain ⟨a, ws, rfl, hp, hv⟩ := hl H.O.objs ho
  obtain ⟨t, rfl⟩ := hi
  obtain ⟨⟨h1, h2, h3⟩, u, hu, hvu⟩ := h hv
  exact ⟨"list", _, slot_list_getitem.lookup, hp.isList.typeIs, wpAny_getItem_list hp.isList h1 (by omega) (by simpa using hu) (g _ _ (keeps_refl _) hvu)⟩
theorem item_tup' {a : Addr} {ws : List Value} {n : Nat} {j : Int} {t : Tok} {u : Value} (hp : s.heap.get? a = some { cls := .type "tuple", data := .seq (List.toArray ws) n }) (h : 0 ≤ j ∧ j < 4096 ∧ j < ws.length) (hu : ws[j.toNat]? = some u) (hQ : Q u s) : SubscriptOn (model prog w) A (.ref a) (.int j t) Q E s := by
  refine ⟨"tuple", _, F.slot_tuple_getitem.lookup, ⟨_, hp, rfl⟩, P.getItem_tuple (k := j.toNat) hp (by omega) (by omega) ?_ (by simpa using hu) hQ⟩
  unfold seqIndex?
  simp only [show ¬ j < 0 by omega, if_false, List.size_toArray]
  simp; omega
theorem item_tup {l : List AV} {p : Bool} {j : Int} {v : AV} (h : IdxS l j v) : ItemS prog w D σ (.tup l) (.int p j) v := fun H ho hi g => by
  obtain ⟨a, ws, n, rfl, _, hp, hv⟩ := ho
  obtain ⟨t, rfl⟩ := hi
  obtain ⟨h1, u, hu, hvu⟩ := h hv
  exact item_tup' hp h1 hu (g _ _ (keeps_refl _) hvu)
theorem item_tupI {zs : List Int} {p : Bool} {j : Int} (hj : 0 ≤ j ∧ j < zs.length ∧ zs.length ≤ 4096) : ItemS prog w D σ (.tupI zs) (.int p j) (.int true (zs.getD j.toNat 0)) := fun H ho hi g => by
  obtain ⟨a, ws, n, rfl, _, hp, hz⟩ := ho
  obtain ⟨t, rfl⟩ := hi
  have hlen := intsAre_length hz
  obtain ⟨t2, hu⟩ := intsAre_get hz j.toNat (by omega)
  exact item_tup' hp (by omega) hu (g _ _ (keeps_refl _) ⟨t2, rfl⟩)
noncomputable def itemC (σ : SE) : (x k : AV) → Rz (ItemS prog w D σ x k)
  | .tupI zs, .int p j => mapR (need (0 ≤ j ∧ j < zs.length ∧ zs.length ≤ 4096)) (fun _ => .int true (zs.getD j.toNat 0)) fun _ h => item_tupI h
  | .tup l, .int p j => mapR (idxC l p j) id fun _ h => item_tup h
  | x, .int p j => match listC σ.ob x with
    | some l => mapR (idxC l.1 p j) id fun _ h => item_list l.2 h
    | none => none
  | _, _ => none

/-- a call of a value gives so -/
noncomputable def CallS (prog : Program) (w : World) (D : Nat) (σ : SE) (f : Value) (as : List AV) (v : AV) : Prop := ∀ {A : Around} {E : Value → Shared → Prop} {s : Shared} {mu : Addr → Prop} {sa : List Addr} {env : Env} {Q : Value → Shared → Prop} {us : List Value},
  At w D σ A s mu sa env → Vals mu sa s.heap as us → Gives mu sa s v Q → wpAny (model prog w) A (call f us) Q E s
theorem call1 {f : Value} {x v : AV} (h : ∀ {A : Around} {E : Value → Shared → Prop} {s : Shared} {mu : Addr → Prop} {sa : List Addr} {env : Env} {Q : Value → Shared → Prop} {u : Value},
  At w D σ A s mu sa env → Val mu sa s.heap x u → Gives mu sa s v Q → wpAny (model prog w) A (call f [u]) Q E s) : CallS prog w D σ f [x] v := fun H hv g => by
  obtain ⟨u, _, rfl, hu, rfl⟩ := hv; exact h H hu g
theorem len_tupI {zs : List Int} (hk : zs.length ≤ 4096) : CallS prog w D σ (.builtin "len") [.tupI zs] (.int true zs.length) := call1 fun H hu g => by
  obtain ⟨a, ws, n, rfl, _, hp, hi⟩ := hu
  have hlen := intsAre_length hi
  refine P.len_tuple hp (by rw [List.size_toArray]; omega) ?_
  rw [List.size_toArray, hlen]
  exact g.int _ _
theorem len_list {x : AV} {l : List AV} (hl : ListIs σ.ob x l) (hk : l.length ≤ 4096) : CallS prog w D σ (.builtin "len") [x] (.int false l.length) := call1 fun H hu g => by
  obtain ⟨a, ws, rfl, hp, hv⟩ := hl H.O.objs hu
  have hlen := hv.length
  refine Calls.call_len_list hp.isList (by rw [List.size_toArray]; omega) ?_
  rw [List.size_toArray, hlen]
  exact g.int _ _
noncomputable def lenC (σ : SE) : (x : AV) → Rz (CallS prog w D σ (.builtin "len") [x])
  | .tupI zs => mapR (need (zs.length ≤ 4096)) (fun _ => .int true zs.length) fun _ h => len_tupI h
  | x => match listC σ.ob x with
    | some l => mapR (chk false (l.1.length ≤ 4096)) (fun _ => .int false l.1.length) fun _ h => len_list l.2 h
    | none => none
end
end Mine

namespace Mine
noncomputable section
variable {prog : Program} {w : World} {D : Nat} {A : Around} {E : Value → Shared → Prop} {s s' : Shared} {mu : Addr → Prop} {sa : List Addr} {env : Env} {Q : Value → Shared → Prop} {σ : SE}

/-- the key of a written float -/
noncomputable def fltKey (v : Value) : Option Int := match v with
  | .float b _ => ((List.range 64).find? fun i : Nat => Float64.ofInt (i : Int) == b).map fun i : Nat => (i : Int)
  | _ => none
theorem fltKey_ofT : ∀ x : Fin 64, ((List.range 64).find? fun i : Nat => Float64.ofInt (i : Int) == Float64.ofInt (x.val : Int)) = some x.val := by decide +kernel
theorem fltKey_of {a : Int} (h : 0 ≤ a ∧ a < 64) (t : Tok) : fltKey (.float (Float64.ofInt a) t) = some a := by
  obtain ⟨n, rfl⟩ := Int.eq_ofNat_of_zero_le h.1
  show (((List.range 64).find? fun i : Nat => Float64.ofInt (i : Int) == Float64.ofInt (n : Int)).map fun i : Nat => (i : Int)) = some (n : Int)
  rw [fltKey_ofT ⟨n, by omega⟩]
  rfl
theorem fltKey_is {v : Value} {a : Int} (h : fltKey v = some a) : ∃ t, v = .float (Float64.ofInt a) t ∧ 0 ≤ a ∧ a < 64 := by
  cases v with
  | float b t =>
    obtain ⟨i, hi, rfl⟩ := Option.map_eq_some_iff.mp h
    have h1 : (Float64.ofInt (i : Int) == b) = true := List.find?_some (p := fun i : Nat => Float64.ofInt (i : Int) == b) hi
    have h1 := eq_of_beq h1
    have h2 := List.mem_range.mp (List.mem_of_find?_eq_some hi)
    exact ⟨t, by rw [h1], by omega, by omega⟩
  | _ => cases h

@[reducible] def fltKind : KeyKind where
  α := Int
  blt a b := decide (a < b)
  irrefl a := by simp
  trans a b c h1 h2 := by simp only [decide_eq_true_eq] at *; omega
  negTrans a b c h := by simp only [decide_eq_true_eq] at *; omega
  total a b h1 h2 := by simp only [decide_eq_false_iff_not] at *; omega
  keyOf := fltKey
  dflt := 0

theorem cmp_lt_dec (a b : Int) : ((some (compare a b) : Option Ordering) == some Ordering.lt) = decide (a < b) := by
  rw [Bool.eq_iff_iff, beq_iff_eq, decide_eq_true_eq]
  exact ⟨fun h => Int.compare_eq_lt.mp (Option.some.inj h), fun h => congrArg some (Int.compare_eq_lt.mpr h)⟩

theorem fltKind_oneLt : fltKind.OneLt := by
  intro prog w A E s x y a b Q ha hb h
  obtain ⟨t, rfl, h1⟩ := fltKey_is ha
  obtain ⟨u, rfl, h2⟩ := fltKey_is hb
  rw [oneLt'_eq]
  refine wpAny_bind (wpAny_cRoomFor_byValue rfl ?_)
  refine wpAny_bind (wpAny_callSpecialIfBound?_slot (AutoFloatOps.typeIs_float s _ t) F.slot_float_lt (call_gives F.slot_float_lt (AutoFloatOps.typeIs_float s _ t) F.entry_float_lt (F.args_float_lt_2 _ _) (AutoFloatG5.float___lt___float_float_0 _ t _ u) ?_))
  refine wpAny_truthy_bool ?_
  rw [cmp_ofInt ⟨h1.1, h1.2, h2.1, h2.2⟩]
  show Q _ _
  have := cmp_lt_dec a b
  simp only [this]
  exact h

noncomputable def ins (a : Int) : List Int → List Int
  | [] => [a]
  | b :: l => if a ≤ b then a :: b :: l else b :: ins a l
noncomputable def srt : List Int → List Int
  | [] => []
  | a :: l => ins a (srt l)
theorem ins_perm (a : Int) : ∀ l : List Int, (ins a l).Perm (a :: l)
  | [] => .refl _
  | b :: l => by
    unfold ins
    split
    · exact .refl _
    · exact ((ins_perm a l).cons b).trans (.swap a b l)
theorem srt_perm : ∀ l : List Int, (srt l).Perm l
  | [] => .refl _
  | a :: l => (ins_perm a (srt l)).trans ((srt_perm l).cons a)
theorem ins_sorted (a : Int) : ∀ l : List Int, l.Pairwise (· ≤ ·) → (ins a l).Pairwise (· ≤ ·)
  | [], _ => List.pairwise_singleton _ _
  | b :: l, h => by
    unfold ins
    have h' := List.pairwise_cons.mp h
    split
    · rename_i hab
      refine List.pairwise_cons.mpr ⟨fun x hx => ?_, h⟩
      rcases List.mem_cons.mp hx with rfl | hx
      · exact hab
      · exact Int.le_trans hab (h'.1 x hx)
    · rename_i hab
      refine List.pairwise_cons.mpr ⟨fun x hx => ?_, ins_sorted a l h'.2⟩
      rcases List.mem_cons.mp ((ins_perm a l).mem_iff.mp hx) with rfl | hx
      · omega
      · exact h'.1 x hx
theorem srt_sorted : ∀ l : List Int, (srt l).Pairwise (· ≤ ·)
  | [] => .nil
  | a :: l => ins_sorted a _ (srt_sorted l)
theorem srt_uniq {a l : List Int} (hp : a.Perm l) (hs : a.Pairwise (· ≤ ·)) : a = srt l := ksm_same (hp.trans (srt_perm l).symm) hs (srt_sorted l)
theorem srt_length (l : List Int) : (srt l).length = l.length := (srt_perm l).length_eq

/-- a list of n places, written out -/
noncomputable def outL {α : Type} (f : Int → α) (r : List Int) : Nat → Nat → List α
  | _, 0 => []
  | i, n + 1 => f (r.getD i 0) :: outL f r (i + 1) n
theorem outL_drop {α : Type} (f : Int → α) (r : List Int) : ∀ (n i : Nat), i + n = r.length → outL f r i n = (r.drop i).map f
  | 0, i, h => by rw [List.drop_eq_nil_of_le (by omega)]; rfl
  | n + 1, i, h => by
    rw [outL, outL_drop f r n (i + 1) (by omega), List.drop_eq_getElem_cons (show i < r.length by omega), List.map_cons, List.getD_eq_getElem?_getD, List.getElem?_eq_getElem]; rfl
theorem outL_map {α : Type} (f : Int → α) {r : List Int} {n : Nat} (h : r.length = n) : outL f r 0 n = r.map f := by rw [outL_drop f r n 0 (by omega), List.drop_zero]

theorem ints_vals {h : Heap} {y : Bool} : ∀ {ws : List Value} {r : List Int}, IntsAre ws r → Vals mu sa h (r.map (.int y)) ws
  | _, _, .nil => rfl
  | _, _, .cons a t k => ⟨_, _, rfl, ⟨t, rfl⟩, ints_vals k⟩
theorem flts_vals {h : Heap} : ∀ {ws : List Value} {r : List Int}, (ws.map fltKey = r.map some) → Vals mu sa h (r.map .flt) ws
  | [], [], _ => rfl
  | v :: ws, a :: r, k => let ⟨t, e, _⟩ := fltKey_is (List.cons.inj k).1; ⟨_, _, rfl, ⟨t, e⟩, flts_vals (List.cons.inj k).2⟩
  | [], _ :: _, k => nomatch k
  | _ :: _, [], k => nomatch k
theorem FltsL.keys {h : Heap} {l r} (e : FltsL l r) : ∀ {ws}, (∀ a ∈ r, 0 ≤ a ∧ a < 64) → Vals mu sa h l ws → ws.map fltKey = r.map some := by
  induction e with
  | nil => intro ws _ e; cases e; rfl
  | cons a k ih =>
    intro ws hb e
    obtain ⟨_, ws, rfl, ⟨t, rfl⟩, e⟩ := e
    rw [List.map_cons, List.map_cons, fltKey_of (hb a (List.mem_cons_self ..)), ih (fun b h => hb b (List.mem_cons_of_mem _ h)) e]

theorem keys_mem {vs : List Value} {ns : List Int} (hk : vs.map fltKey = ns.map some) : ∀ v ∈ vs, ∃ a, fltKey v = some a := fun v hv => by
  have : fltKey v ∈ ns.map some := by rw [← hk]; exact List.mem_map_of_mem hv
  obtain ⟨a, _, e⟩ := List.mem_map.mp this
  exact ⟨a, e.symm⟩
theorem mapM_pure {α β : Type} {f : α → Sem β} {g : α → β} : ∀ {l : List α}, (∀ v ∈ l, f v = pure (g v)) → l.mapM f = pure (l.map g)
  | [], _ => by rw [List.mapM_nil]; rfl
  | v :: l, h => by
    rw [List.mapM_cons, h v (List.mem_cons_self ..), mapM_pure (fun u hu => h u (List.mem_cons_of_mem _ hu)), pure_bind, pure_bind, List.map_cons]
theorem flts_kind {vs : List Value} (hm : ∀ v ∈ vs, ∃ a, fltKey v = some a) (v₁ v₂ : Value) (rest : List Value) (e : vs = v₁ :: v₂ :: rest) : keyKind' (v₁ :: v₂ :: rest).toArray = pure oneType' := by
  rw [← e]
  have hf : ∀ v ∈ vs, ∃ b t, v = .float b t := fun v hv => by obtain ⟨a, ha⟩ := hm v hv; obtain ⟨t, rfl, _⟩ := fltKey_is ha; exact ⟨_, _, rfl⟩
  have m1 := mapM_pure (f := firstOfTuple') (g := fun _ => none) (l := vs) fun v hv => by obtain ⟨b, t, rfl⟩ := hf v hv; rfl
  have m2 := mapM_pure (f := typeOf) (g := fun _ => Value.type "float") (l := vs) fun v hv => by obtain ⟨b, t, rfl⟩ := hf v hv; rfl
  rw [keyKind'_eq, List.mapM_toArray, m1]
  simp only [map_pure, pure_bind]
  rw [if_neg (by rw [e]; simp), if_neg (by rw [e]; simp)]
  rw [oneTypeOnly'_eq, List.mapM_toArray, m2]
  simp only [map_pure, pure_bind]
  have hall : ((List.map (fun _ => Value.type "float") vs).toArray.all fun x => x == Value.type "float") = true := by
    simp only [List.all_toArray, List.all_map, List.all_eq_true]
    intro _ _
    rfl
  have h0 : (List.map (fun _ => Value.type "float") vs).toArray[0]? = some (Value.type "float") := by rw [e]; simp
  rw [h0]
  simp only [hall, if_true, pure_bind, Option.isSome_some]

theorem sorted_flts {l : Addr} {vs : List Value} {ns : List Int} {Q : Value → Shared → Prop} (hl : s.heap.IsList l vs.toArray) (hk : vs.map fltKey = ns.map some) (h64 : vs.length < 64)
    (h : ∀ (out : Array Value), out.toList.map fltKey = (srt ns).map some → Q (.ref (s.heap.objs.size + 1)) { s with heap := sortedAll s.heap vs out }) :
    wpAny (model prog w) A (call (.builtin "sorted") [.ref l]) Q E s := by
  have hmem := keys_mem hk
  refine sortedK fltKind_oneLt hl (fun p hp => ?_) (flts_kind hmem) h64 fun st' hp hs => h _ ?_
  · rw [pairsOf_toList] at hp
    exact hmem _ (mem_zip_self hp).2
  · have hl2 : (arrOf st').toList.Perm (vs.zip vs) := by rw [← pairsOf_toList]; exact Array.perm_iff_toList_perm.mp hp
    have hmm : ∀ p, p ∈ (arrOf st').toList → p.1 = p.2 ∧ p.1 ∈ vs := fun p hp' => mem_zip_self (hl2.mem_iff.mp hp')
    have e1 : ((arrOf st').map (·.2)).toList = (arrOf st').toList.map (·.1) := by
      rw [Array.toList_map]; exact List.map_congr_left fun p hp' => (hmm p hp').1.symm
    rw [e1, List.map_map]
    have hperm : ((arrOf st').toList.map (fun p => (fltKey p.1).getD 0)).Perm ns := by
      have e2 : (vs.zip vs).map (fun p => (fltKey p.1).getD 0) = ns := by
        have : (vs.zip vs).map (fun p => (fltKey p.1).getD 0) = (((vs.zip vs).map Prod.fst).map fltKey).map (·.getD 0) := by rw [List.map_map, List.map_map]; rfl
        rw [this, List.map_fst_zip (Nat.le_refl _), hk, List.map_map]
        exact List.map_id _
      exact e2 ▸ hl2.map (fun p => (fltKey p.1).getD 0)
    have hsort : ((arrOf st').toList.map (fun p => (fltKey p.1).getD 0)).Pairwise (· ≤ ·) := by
      rw [List.pairwise_iff_getElem]
      intro i j hi hj hij
      have hi' : i < (arrOf st').size := by simpa using hi
      have hj' : j < (arrOf st').size := by simpa using hj
      have h1 := hs i j (Nat.le_of_lt hij) (by rw [← hp.size_eq]; exact hj')
      have kk : ∀ k (hk : k < (arrOf st').size), KK fltKind (arrOf st') k = (fltKey (arrOf st')[k].1).getD 0 := fun k hk => by
        unfold KK; rw [getElem?_pos _ k hk]
      rw [kk i hi', kk j hj'] at h1
      simp only [List.getElem_map, Array.getElem_toList]
      have h2 : decide ((fltKey (arrOf st')[j].1).getD 0 < (fltKey (arrOf st')[i].1).getD 0) = false := h1
      exact Int.not_lt.mp (of_decide_eq_false h2)
    rw [← srt_uniq hperm hsort, List.map_map]
    refine List.map_congr_left fun p hp' => ?_
    obtain ⟨a, ha⟩ := hmem _ (hmm p hp').2
    show fltKey p.1 = some ((fltKey p.1).getD 0)
    rw [ha]; rfl

theorem sort_end {f : Int → AV} {r : List Int} {n : Nat} {ws : List Value} {out : Array Value} (hr : r.length = n) (M : MuIn mu s.heap) (hv : ∀ h, Vals mu sa h ((srt r).map f) out.toList) (g : Gives mu sa s (.lst (outL f (srt r) 0 n)) Q) : Q (.ref (s.heap.objs.size + 1)) { s with heap := sortedAll s.heap ws out } := by
  obtain ⟨e, he⟩ := sortedAll_at s.heap ws out
  refine g _ _ (keeps_heap s (fun _ _ e => sortedAll_old e) s.toks) ⟨_, out.toList, rfl, M.fresh (Heap.get?_none_of_le (Nat.le_succ _)), ⟨e, he⟩, ?_⟩
  rw [outL_map f ((srt_length r).trans hr)]
  exact hv _
theorem sort_ints {x : AV} {l : List AV} {r : List Int} (hl : ListIs σ.ob x l) (e : IntsL l r) (hn : l.length < 64) : CallS prog w D σ (.builtin "sorted") [x] (.lst (outL (.int true) (srt r) 0 l.length)) := call1 fun H hu g => by
  obtain ⟨a, ws, rfl, hp, hv⟩ := hl H.O.objs hu
  refine sorted_ints hp.isList (e.are hv) (by rw [hv.length]; exact hn) fun out ns' a1 a2 a3 => ?_
  cases srt_uniq a2 a3
  exact sort_end e.len H.O.muin (fun h => ints_vals a1) g
theorem sort_flts {x : AV} {l : List AV} {r : List Int} (hl : ListIs σ.ob x l) (e : FltsL l r) (hn : l.length < 64) (hb : ∀ a ∈ r, 0 ≤ a ∧ a < 64) : CallS prog w D σ (.builtin "sorted") [x] (.lst (outL .flt (srt r) 0 l.length)) := call1 fun H hu g => by
  obtain ⟨a, ws, rfl, hp, hv⟩ := hl H.O.objs hu
  exact sorted_flts hp.isList (e.keys hb hv) (by rw [hv.length]; exact hn) fun out ho => sort_end e.len H.O.muin (fun h => flts_vals ho) g
noncomputable def sortC (σ : SE) (x : AV) : Rz (CallS prog w D σ (.builtin "sorted") [x]) := match listC σ.ob x with
  | some l => bnd (chk false (l.1.length < 64)) fun _ => match intsC l.1 with
    | some r => ret (.lst (outL (.int true) (srt r.1) 0 l.1.length)) fun hn => sort_ints l.2 r.2 hn
    | none => match fltsC l.1 with
      | some r => mapR (need (∀ a ∈ r.1, 0 ≤ a ∧ a < 64)) (fun _ => .lst (outL .flt (srt r.1) 0 l.1.length)) fun _ hb hn => sort_flts l.2 r.2 hn hb
      | none => none
  | none => none

noncomputable def sumI : List Int → Int
  | [] => 0
  | a :: l => a + sumI l
theorem sumI_append (q : List Int) (a : Int) : sumI (q ++ [a]) = sumI q + a := by
  induction q with
  | nil => exact Int.add_comm a 0
  | cons x q ih => rw [List.cons_append, sumI, ih, sumI, Int.add_assoc]
theorem sumI_pre (r : List Int) : ∀ n, n ≤ r.length → preSum (fun i => r.getD i 0) n = sumI (r.take n)
  | 0, _ => by rw [List.take_zero]; rfl
  | n + 1, h => by
    rw [preSum, sumI_pre r n (by omega), List.take_add_one, List.getD_eq_getElem?_getD, List.getElem?_eq_getElem (by omega)]
    exact (sumI_append _ _).symm
theorem sumI_bound {r : List Int} (h : ∀ a ∈ r, 0 ≤ a ∧ a < 64) : 0 ≤ sumI r ∧ sumI r ≤ 64 * r.length := by
  induction r with
  | nil => exact ⟨Int.le_refl _, Int.le_refl _⟩
  | cons a r ih =>
    have h1 := h a (List.mem_cons_self ..)
    have h2 := ih fun b hb => h b (List.mem_cons_of_mem _ hb)
    simp only [sumI, List.length_cons]
    omega
theorem inLong_of {a : Int} (h : 0 ≤ a ∧ a ≤ 4096) : InLong a := by unfold InLong; omega
theorem sum_ints {x : AV} {l : List AV} {r : List Int} (hl : ListIs σ.ob x l) (e : IntsL l r) (hn : l.length ≤ 64) (hk : ∀ a ∈ r, 0 ≤ a ∧ a < 64) : CallS prog w D σ (.builtin "sum") [x] (.int true (sumI r)) := call1 fun {A E s mu sa env Q u} H hu g => by
  obtain ⟨a, ws, rfl, hp, hv⟩ := hl H.O.objs hu
  have hw := hv.length
  have hlen := e.len
  have hare := e.are hv
  have hlt : a < s.heap.objs.size := by obtain ⟨n, hp⟩ := hp; exact Heap.lt_size hp
  refine call_sum_walk (wpAny_pyIter_list hp.isList ?_)
  have hwr : ws.length = r.length := hw.trans hlen.symm
  refine ⟨s.heap.objs.size, [s.heap.objs.size, a], [s.heap.objs.size], _, _, _, fun i => r.getD i 0, rfl, Walks.list (A := A.in1) H.C.hh s.heap.objs.size a (Nat.ne_of_lt hlt) ws.toArray,
    ⟨⟨_, Heap.get?_push_size _ rfl, rfl, rfl⟩, Heap.IsList.at hp.isList fun o e => Heap.get?_push_of_some _ e⟩, ?_, ?_, ?_, ?_⟩
  · rw [Heap.size_push]
    exact all_cons (Nat.lt_succ_self _) (all_cons (Nat.lt_succ_of_lt hlt) all_nil)
  · intro i v hi
    rw [List.getElem?_toArray] at hi
    obtain ⟨t, ht⟩ := intsAre_get hare i (hwr ▸ (List.getElem?_eq_some_iff.mp hi).1)
    cases hi.symm.trans ht; exact ⟨t, rfl⟩
  · intro j hj
    rw [List.size_toArray] at hj
    have hj' : j < r.length := hwr ▸ hj
    have e1 : r.getD j 0 ∈ r := by rw [List.getD_eq_getElem?_getD, List.getElem?_eq_getElem hj']; exact List.getElem_mem hj'
    have h5 := hk _ e1
    have h6 := sumI_bound (r := r.take (j + 1)) fun b hb => hk b (List.mem_of_mem_take hb)
    have h7 : (r.take (j + 1)).length ≤ 64 := by rw [List.length_take]; exact Nat.le_trans (Nat.min_le_right ..) (hlen.symm ▸ hn)
    rw [sumI_pre r (j + 1) hj']
    exact ⟨inLong_of ⟨h5.1, Int.le_trans (Int.le_of_lt h5.2) (by decide)⟩, inLong_of ⟨h6.1, by omega⟩⟩
  · intro h' tk t' hkeep
    rw [List.size_toArray, hwr, sumI_pre r _ (Nat.le_refl _), List.take_length]
    refine g _ _ (keeps_heap s (fun b o e => ?_) tk) ⟨t', rfl⟩
    exact hkeep b o (fun hb => absurd (Heap.lt_size e) (by rw [List.mem_singleton.mp hb]; exact Nat.lt_irrefl _)) (Heap.get?_push_of_some _ e)
noncomputable def sumC (σ : SE) (x : AV) : Rz (CallS prog w D σ (.builtin "sum") [x]) := match listC σ.ob x with
  | some l => bnd (chk false (l.1.length ≤ 64)) fun _ => match intsC l.1 with
    | some r => mapR (need (∀ a ∈ r.1, 0 ≤ a ∧ a < 64)) (fun _ => .int true (sumI r.1)) fun _ hk hn => sum_ints l.2 r.2 hn hk
    | none => none
  | none => none
end
end Mine

namespace Mine
noncomputable section
variable {prog : Program} {w : World} {D : Nat} {A : Around} {E : Value → Shared → Prop} {s s' : Shared} {mu : Addr → Prop} {sa : List Addr} {env : Env} {Q : Value → Shared → Prop} {σ : SE}

theorem ite_int {c : Prop} [Decidable c] {a b : Int} {t u : Tok} : ∃ k, (if c then Value.int a t else .int b u) = .int (if c then a else b) k := by
  split
  · exact ⟨t, rfl⟩
  · exact ⟨u, rfl⟩
theorem max2 {p q y : Bool} {a b : Int} : CallS prog w D σ (.builtin "max") [.int p a, .int q b] (.int y (if a < b then b else a)) := fun {A E s mu sa env Q us} H hv g => by
  obtain ⟨_, _, rfl, ⟨t, rfl⟩, _, _, rfl, ⟨u, rfl⟩, rfl⟩ := hv
  exact max_two_ints H.C.hh fun h' tk hk => g _ _ (keeps_heap s hk tk) ite_int
noncomputable def maxC (σ : SE) : (as : List AV) → Rz (CallS prog w D σ (.builtin "max") as)
  | [.int p a, .int q b] => ret (.int (p || q) (if a < b then b else a)) max2
  | [.int p a, .int q b, .int r c] => ret (.int (p || q || r) (if (if a < b then b else a) < c then c else (if a < b then b else a))) fun {A E s mu sa env Q us} H hv g => by
    obtain ⟨_, _, rfl, ⟨t, rfl⟩, _, _, rfl, ⟨u, rfl⟩, _, _, rfl, ⟨z, rfl⟩, rfl⟩ := hv
    refine max_three_ints H.C.hh fun h' tk hk => g _ _ (keeps_heap s hk tk) ?_
    by_cases hab : a < b
    · by_cases hbc : b < c
      · simp only [gt_iff_lt, hab, hbc, if_true]; exact ⟨_, rfl⟩
      · simp only [gt_iff_lt, hab, hbc, if_true, if_false]; exact ⟨_, rfl⟩
    · by_cases hbc : a < c
      · simp only [gt_iff_lt, hab, hbc, if_true, if_false]; exact ⟨_, rfl⟩
      · simp only [gt_iff_lt, hab, hbc, if_false]; exact ⟨_, rfl⟩
  | _ => none
theorem isi_flt {a : Int} : CallS prog w D σ (.builtin "isinstance") [.flt a, .con (.type "float")] (.bool false true) := fun H hv g => by
  obtain ⟨_, _, rfl, ⟨t, rfl⟩, _, _, rfl, rfl, rfl⟩ := hv
  exact call_isinstance (isinstance_true (Tx := "float") (by rfl) (by rw [isSubtype_type]; kernel_rfl)) ⟨rfl, g.bool⟩
theorem isi_int {p : Bool} {a : Int} : CallS prog w D σ (.builtin "isinstance") [.int p a, .con (.type "float")] (.bool false false) := fun {A E s mu sa env Q us} H hv g => by
  obtain ⟨_, _, rfl, ⟨t, rfl⟩, _, _, rfl, rfl, rfl⟩ := hv
  exact call_isinstance (isinstance_false_int (T := "float") (by decide) (by rfl) F.sub_int_float) (g _ _ (keeps_tok s _) rfl)
noncomputable def isiC (σ : SE) : (as : List AV) → Rz (CallS prog w D σ (.builtin "isinstance") as)
  | [.flt _, .con (.type "float")] => ret (.bool false true) isi_flt
  | [.int _ _, .con (.type "float")] => ret (.bool false false) isi_int
  | _ => none
noncomputable def one {α : Type} : (as : List α) → Option {x : α // as = [x]}
  | [x] => some ⟨x, rfl⟩
  | _ => none
noncomputable def oneC {f : Value} (h : (x : AV) → Rz (CallS prog w D σ f [x])) (as : List AV) : Rz (CallS prog w D σ f as) := match one as with
  | some x => mapR (h x.1) id fun _ k => by rw [x.2]; exact k
  | none => none
theorem range_end {a b : Int} {t1 t2 t3 k : Nat} (M : MuIn mu s.heap) (ha : small a) (hb : small b) (g : Gives mu sa s (.rng a b) Q) : Q (.ref s.heap.objs.size) { s with heap := s.heap.push { cls := .type "range", data := .fields #[.int a t1, .int b t2, .int 1 t3] }, toks := k } :=
  g _ _ (keeps_push s _ k) ⟨ha, hb, _, t1, t2, t3, rfl, M.fresh fresh_size, IsRange.new _ _ _ _ _ _ _⟩
theorem range1 {p : Bool} {a : Int} (h : small a) : CallS prog w D σ (.type "range") [.int p a] (.rng 0 a) := fun H hv g => by
  obtain ⟨_, _, rfl, ⟨t, rfl⟩, rfl⟩ := hv
  exact call_range_1 (range_end H.O.muin (by decide) h g)
theorem range2 {p q : Bool} {a b : Int} (h : small a ∧ small b) : CallS prog w D σ (.type "range") [.int p a, .int q b] (.rng a b) := fun H hv g => by
  obtain ⟨_, _, rfl, ⟨t, rfl⟩, _, _, rfl, ⟨u, rfl⟩, rfl⟩ := hv
  exact call_range_2 (range_end H.O.muin h.1 h.2 g)
noncomputable def rangeC (σ : SE) : (as : List AV) → Rz (CallS prog w D σ (.type "range") as)
  | [.int p a] => mapR (chk p (small a)) (fun _ => .rng 0 a) fun _ h => range1 h
  | [.int p a, .int q b] => mapR (chk (p || q) (small a ∧ small b)) (fun _ => .rng a b) fun _ h => range2 h
  | _ => none
theorem int_bool {p b : Bool} : CallS prog w D σ (.type "int") [.bool p b] (.int p (if b then 1 else 0)) := fun H hv g => by
  obtain ⟨_, _, rfl, rfl, rfl⟩ := hv
  exact call_int_bool (g.int _ _)
noncomputable def intC (σ : SE) : (as : List AV) → Rz (CallS prog w D σ (.type "int") as)
  | [.bool p b] => ret (.int p (if b then 1 else 0)) int_bool
  | _ => none
theorem tuple_list {x : AV} {l : List AV} (hl : ListIs σ.ob x l) (hn : l.length ≤ 4096) : CallS prog w D σ (.type "tuple") [x] (.tup l) := call1 fun {A E s mu sa env Q u} H hu g => by
  obtain ⟨a, ws, rfl, hp, hv⟩ := hl H.O.objs hu
  refine call_tuple_list hp.isList (fun h' k => ?_) (by rw [List.size_toArray, hv.length, sizeLine_eq]; omega)
  have k' : KeepH s.heap (h'.push { cls := .type "tuple", data := .seq ws.toArray }) := fun b o e => Heap.get?_push_of_some _ (k b o e)
  exact g _ _ (keeps_heap s k' _) ⟨_, ws, 0, rfl, (H.O.muin.up k).fresh fresh_size, Heap.get?_push_size _ rfl, hv.up k'⟩
noncomputable def tupleC (σ : SE) (x : AV) : Rz (CallS prog w D σ (.type "tuple") [x]) := match listC σ.ob x with
  | some l => mapR (chk false (l.1.length ≤ 4096)) (fun _ => .tup l.1) fun _ h => tuple_list l.2 h
  | none => none
/-- calls of built-in things -/
noncomputable def builtinC (σ : SE) (f : String) (as : List AV) : Rz (CallS prog w D σ (.builtin f) as) :=
  if h : f = "len" then mapR (oneC (f := .builtin "len") (lenC σ) as) id fun _ k => by rw [h]; exact k
  else if h : f = "sorted" then mapR (oneC (f := .builtin "sorted") (sortC σ) as) id fun _ k => by rw [h]; exact k
  else if h : f = "sum" then mapR (oneC (f := .builtin "sum") (sumC σ) as) id fun _ k => by rw [h]; exact k
  else if h : f = "max" then mapR (maxC σ as) id fun _ k => by rw [h]; exact k
  else if h : f = "isinstance" then mapR (isiC σ as) id fun _ k => by rw [h]; exact k
  else none
noncomputable def typeC (σ : SE) (T : String) (as : List AV) : Rz (CallS prog w D σ (.type T) as) :=
  if h : T = "range" then mapR (rangeC σ as) id fun _ k => by rw [h]; exact k
  else if h : T = "int" then mapR (intC σ as) id fun _ k => by rw [h]; exact k
  else if h : T = "tuple" then mapR (oneC (f := .type "tuple") (tupleC σ) as) id fun _ k => by rw [h]; exact k
  else none

-- constants and names
noncomputable def ConstS (prog : Program) (w : World) (D : Nat) (σ : SE) (k : Const) (v : AV) : Prop := ∀ {a : Nat} {p : Pos}, ES prog w D σ (.Constant k a p) v
noncomputable def constC (σ : SE) : (k : Const) → Rz (ConstS prog w D σ k)
  | .none => ret .none ⟨rfl, fun {A E s mu sa env Q} _ g => wpAny_Constant_none (g _ _ (keeps_refl s) rfl)⟩
  | .bool b => ret (.bool false b) ⟨rfl, fun _ g => wpAny_Constant_bool g.bool⟩
  | .int i => ret (.int false i) ⟨rfl, fun _ g => wpAny_Constant_int (g.int _ _)⟩
  | .str x => ret (.str x) ⟨rfl, fun _ g => wpAny_Constant_str (g.str _ _)⟩
  | _ => none
noncomputable def NameS (prog : Program) (w : World) (D : Nat) (σ : SE) (id : Str) (v : AV) : Prop := ∀ {p : Pos}, ES prog w D σ (.Name id p) v
noncomputable def plainName (id : Str) : Bool := !(id == ("__debug__" : Str)) && !(id == ("__classdict__" : Str))
theorem not_of {b : Bool} (h : (!b) = true) : b = false := by cases b with | false => rfl | true => cases h
theorem name_var {id : Str} {k : NameKind} {v : AV} (hp : plainName id = true) (hk : σ.sc.names.lookup id = some k) (hkk : varK k) (hv : σ.vs.lookup id = some v) : NameS prog w D σ id v := ⟨rfl, fun {A E s mu sa env Q} H g => by
  obtain ⟨u, hu, hl⟩ := H.O.vars id k v hk hkk hv
  have fin := g u s (keeps_refl s) hu
  refine wpAny_Name ?_ (not_of (and_l hp))
  rcases hl with ⟨a, m, b, d⟩ | ⟨a | a, cc, b, d⟩
  · exact wpAny_loadName_local H.O.kind a b d fin
  · exact wpAny_loadName_cell H.O.kind a b d fin
  · exact wpAny_loadName_free H.O.kind a b d fin (not_of (and_r hp))⟩
theorem loadGlobal_main {x : Str} {mg mb : Str → Option Value} {v : Value} (hg : s.heap.Ns env.globals mg) (hb : s.heap.Ns env.builtins mb) (hv : mg x = some v ∨ (mg x = none ∧ mb x = some v)) (h : Q v s) :
    wpAny (model prog w) A (loadGlobal env x) Q E s := by
  rcases hv with hv | ⟨h1, h2⟩
  · unfold loadGlobal
    refine wpAny_bind (wpAny_nsGet hg ?_)
    rw [hv]
    exact wpAny_pure h
  · exact Calls.loadGlobal_builtin hg h1 hb h2 h
theorem name_glob {id : Str} {c : Value} (hp : plainName id = true) (hk : σ.sc.names.lookup id = some .globalImplicit) (hv : globF id = some c) : NameS prog w D σ id (.con c) := ⟨rfl, fun {A E s mu sa env Q} H g => by
  obtain ⟨mg, mb, h1, h2, h3⟩ := H.B.glob hv
  have hkk : env.kindOf id = some .globalImplicit := (H.O.names _ _ hk).resolve_right fun e => nomatch e.1
  exact Calls.Name_function_global H.O.kind hkk (loadGlobal_main (by rw [H.O.globals]; exact h1) (by rw [H.O.builtins]; exact h2) h3 (g _ _ (keeps_refl s) rfl)) (not_of (and_l hp))⟩
inductive KindIs (k : NameKind) where
  | var (h : varK k)
  | glob (h : k = .globalImplicit)
noncomputable def kindC : (k : NameKind) → Option (KindIs k)
  | .local => some (.var (.inl rfl))
  | .cell => some (.var (.inr (.inl rfl)))
  | .free => some (.var (.inr (.inr rfl)))
  | .globalImplicit => some (.glob rfl)
  | _ => none
/-- a lookup with its proof -/
noncomputable def seen {α : Type} : (o : Option α) → Option {v : α // o = some v}
  | some v => some ⟨v, rfl⟩
  | none => none
noncomputable def look {α : Type} (l : List (Str × α)) (x : Str) : Option {v : α // l.lookup x = some v} := seen (l.lookup x)
noncomputable def globC (id : Str) : Option {c : Value // globF id = some c} := look globT id
noncomputable def nameC (σ : SE) (id : Str) : Rz (NameS prog w D σ id) := match decEq (plainName id) true with
  | .isFalse _ => none
  | .isTrue hp => match look σ.sc.names id with
    | none => none
    | some ⟨k, hk⟩ => match kindC k with
      | none => none
      | some (.var h) => match look σ.vs id with
        | some v => ret v.1 (name_var hp hk h v.2)
        | none => none
      | some (.glob h) => match globC id with
        | some c => ret (.con c.1) (name_glob hp (h ▸ hk) c.2)
        | none => none
end
end Mine

namespace Mine
noncomputable section
variable {prog : Program} {w : World} {D : Nat} {A : Around} {E : Value → Shared → Prop} {s s' : Shared} {mu : Addr → Prop} {sa : List Addr} {env : Env} {Q : Value → Shared → Prop} {σ : SE}

/-- the targets that are served -/
noncomputable def OkT (t : Expr) : Prop := (∃ n p, t = .Name n p) ∨ ∃ es k p, t = .Tuple es k p

/-- an item handed on: hb is the heap ahead of it -/
noncomputable def Handed (mu : Addr → Prop) (sa : List Addr) (items : List AV) (h hb : Heap) (i : Nat) (v : Value) (h' : Heap) : Prop := ∃ x, items[i]? = some x ∧ ∀ mu', Later mu mu' h h' → MuIn mu' hb → Val mu' sa h' x v
/-- an iterator over items that are known -/
structure Iter (prog : Program) (w : World) (A : Around) (mu : Addr → Prop) (sa : List Addr) (items : List AV) (t : Expr) (h h₂ : Heap) (I : Addr) (fp wr : List Addr) (St : Nat → Heap → Prop) (Mid : Nat → Value → Heap → Prop) : Prop where
  sub : ∀ b ∈ wr, b ∈ fp
  frame : ∀ i h h', St i h → (∀ b ∈ fp, ∀ o, h.get? b = some o → h'.get? b = some o) → St i h'
  item : ∀ i (s : Shared) (Q : Option Value → Shared → Prop) (E : Value → Shared → Prop), i < items.length → St i s.heap →
    (∀ v h' tk, Handed mu sa items h s.heap i v h' → Mid i v h' → (∀ b o, b ∉ wr → s.heap.get? b = some o → h'.get? b = some o) → Q (some v) { s with heap := h', toks := tk }) → wpAny (model prog w) A (pyNext (.ref I)) Q E s
  go : ∀ i v (s : Shared) (Q : Unit → Shared → Prop) (E : Value → Shared → Prop), Mid i v s.heap → (∀ h', St (i + 1) h' → (∀ b o, b ∉ wr → s.heap.get? b = some o → h'.get? b = some o) → Q () { s with heap := h' }) → wpAny (model prog w) A (letOwnedTupleGo t (.ref I) v) Q E s
  done : ∀ (s : Shared) (Q : Option Value → Shared → Prop) (E : Value → Shared → Prop), St items.length s.heap →
    (∀ h' tk, (∀ b o, b ∉ wr → s.heap.get? b = some o → h'.get? b = some o) → Q none { s with heap := h', toks := tk }) → wpAny (model prog w) A (pyNext (.ref I)) Q E s
  self : ∀ i (s : Shared) (Q : Value → Shared → Prop) (E : Value → Shared → Prop), St i s.heap → Q (.ref I) s → wpAny (model prog w) A (pyIter (.ref I)) Q E s
  start : St 0 h₂
  below : ∀ b ∈ fp, b < h₂.objs.size
  fresh : ∀ b ∈ wr, h.get? b = none
  keeps : KeepH h h₂
  live : ∀ (i : Nat) (h : Heap), St i h → ∀ b ∈ wr, Lives h b
noncomputable def IterS (ob : Obs) (x : AV) (items : List AV) : Prop := ∀ {prog : Program} {w : World} {A : Around} {D : Nat} {E : Value → Shared → Prop} {s : Shared} {mu : Addr → Prop} {sa : List Addr} {t : Expr} {u : Value} {K : Value → Shared → Prop}, Cx A D → OkT t → OOk mu sa ob s.heap → Val mu sa s.heap x u →
  (∀ I fp wr St Mid h₂, Iter prog w A mu sa items t s.heap h₂ I fp wr St Mid → (noRef x = true → ∀ b ∈ fp, b ∈ wr ∨ (¬ mu b ∧ Lives s.heap b)) → K (.ref I) { s with heap := h₂ }) → wpAny (model prog w) A (pyIter u) K E s

theorem Iter.new {P : Nat → Value → Prop} {items : List AV} {t : Expr} {h : Heap} {o : Obj} {fp : List Addr} {St : Nat → Heap → Prop} (W : Walks prog w A h.objs.size fp [h.objs.size] items.length P St) (hP : ∀ i v, i < items.length → P i v → ∃ x, items[i]? = some x ∧ Val mu sa h x v) (st : St 0 (h.push o)) (hfp : ∀ b ∈ fp, b < h.objs.size + 1) (live : ∀ i h', St i h' → Lives h' h.objs.size)
    (go : ∀ (i : Nat) (v : Value) (s' : Shared) (Q : Unit → Shared → Prop) (E : Value → Shared → Prop), P i v → St (i + 1) s'.heap → Q () s' → wpAny (model prog w) A (letOwnedTupleGo t (.ref h.objs.size) v) Q E s') :
    Iter prog w A mu sa items t h (h.push o) h.objs.size fp [h.objs.size] St fun i v h => P i v ∧ St (i + 1) h where
  sub := W.sub
  frame := W.frame
  item := fun i s Q E hi st hQ => W.item i s Q E hi st fun v h' tk hv st' k => hQ v h' tk ((hP i v hi hv).imp fun x p => ⟨p.1, fun mu' L _ => p.2.to L⟩) ⟨hv, st'⟩ k
  go := fun i v s Q E m hQ => go i v s Q E m.1 m.2 (hQ s.heap m.2 fun _ _ _ e => e)
  done := W.done
  self := W.self
  start := st
  below := by rw [Heap.size_push]; exact hfp
  fresh := all_cons fresh_size all_nil
  keeps := KeepH.push _ _
  live := fun i h' st => all_cons (live i h' st) all_nil

theorem iter_list {ob : Obs} {x : AV} {l : List AV} (hl : ListIs ob x l) (hm : ∀ {mu sa h u}, Val mu sa h x u → noRef x = true → ∀ a, u = .ref a → ¬ mu a) : IterS ob x l := fun {prog w A D E s mu sa t u K} C ht O hu k => by
  obtain ⟨a, ws, rfl, hp, hv⟩ := hl O hu
  have hlt : a < s.heap.objs.size := by obtain ⟨n, hp⟩ := hp; exact Heap.lt_size hp
  refine wpAny_pyIter_list hp.isList ?_
  have W := Walks.list (prog := prog) (w := w) (A := A) C.hh s.heap.objs.size a (Nat.ne_of_lt hlt) ws.toArray
  rw [show ws.toArray.size = l.length from (List.size_toArray ..).trans hv.length] at W
  refine k _ _ _ _ _ _ (Iter.new W (fun i v hi hv' => ?_) ⟨⟨_, Heap.get?_push_size _ rfl, rfl, rfl⟩, Heap.IsList.at hp.isList fun o e => Heap.get?_push_of_some _ e⟩ (all_cons (Nat.lt_succ_self _) (all_cons (Nat.lt_succ_of_lt hlt) all_nil)) (fun i h' st => let ⟨o, ho, _⟩ := st.1; ⟨o, ho⟩) fun i v s' Q E hP hst hQ => ?_) fun hnr => all_cons (.inl (List.mem_singleton.mpr rfl)) (all_cons (.inr ⟨hm hu hnr a rfl, PlainList.lives hp⟩) all_nil)
  · rw [List.getElem?_toArray] at hv'
    obtain ⟨u, hu, hvu⟩ := hv.get (List.getElem?_eq_getElem hi)
    cases hu.symm.trans hv'
    exact ⟨_, List.getElem?_eq_getElem hi, hvu⟩
  · rcases ht with ⟨n, p, rfl⟩ | ⟨es, kk, p, rfl⟩
    · exact wpAny_pure hQ
    · cases v with
      | ref T => exact wpAny_letOwnedTupleGo_listiter hst.1 hQ
      | _ => exact wpAny_pure hQ
theorem go_other {t : Expr} {it v : Value} {Q : Unit → Shared → Prop} (ht : OkT t) (hv : (∃ i k, v = .int i k) ∨ ∃ x k, v = .str x k) (hQ : Q () s) : wpAny (model prog w) A (letOwnedTupleGo t it v) Q E s := by
  rcases ht with ⟨n, p, rfl⟩ | ⟨es, kk, p, rfl⟩
  · exact wpAny_pure hQ
  · rcases hv with ⟨i, k, rfl⟩ | ⟨i, k, rfl⟩ <;> (cases it <;> exact wpAny_pure hQ)

noncomputable def rngL (a : Int) : Nat → List AV
  | 0 => []
  | n + 1 => .int false a :: rngL (a + 1) n
theorem rngL_get : ∀ (n : Nat) (a : Int) (i : Nat), i < n → (rngL a n)[i]? = some (.int false (a + i))
  | n + 1, a, 0, _ => by rw [rngL]; exact congrArg (fun x => some (AV.int false x)) (Int.add_zero a).symm
  | n + 1, a, i + 1, h => by
    rw [rngL, List.getElem?_cons_succ, rngL_get n (a + 1) i (Nat.lt_of_succ_lt_succ h)]
    exact congrArg (fun x => some (AV.int false x)) (by omega)
theorem rngL_len : ∀ (n : Nat) (a : Int), (rngL a n).length = n
  | 0, _ => rfl
  | n + 1, a => congrArg Nat.succ (rngL_len n (a + 1))
theorem iter_rng {ob : Obs} {a b : Int} : IterS ob (.rng a b) (rngL a (b - a).toNat) := fun {prog w A D E s mu sa t u K} C ht O hu k => by
  obtain ⟨ha, hb, r, t1, t2, t3, rfl, q, hrr⟩ := hu
  refine wpAny_pyIter_range hrr (small_one (by omega) (by omega) (by omega) (by omega)) ?_
  have hsz : Builtin.Range.rangeSize a b 1 = ((b - a).toNat : Int) := by rw [rangeSize_one]; split <;> omega
  have W := Walks.range (prog := prog) (w := w) (A := A) C.hh s.heap.objs.size a 1 (b - a).toNat
  rw [← rngL_len (b - a).toNat a] at W
  refine k _ _ _ _ _ _ (Iter.new W (fun i v hi hv' => ?_) ?_ (all_cons (Nat.lt_succ_self _) all_nil) (fun i h' st => ⟨_, st⟩) fun i v s' Q E hP hst hQ => go_other ht (.inl (let ⟨u, e⟩ := hP; ⟨_, u, e⟩)) hQ) fun _ b hb => .inl hb
  · obtain ⟨tk, rfl⟩ := hv'
    rw [rngL_len] at hi
    exact ⟨_, rngL_get _ a i hi, tk, by rw [Int.mul_one]⟩
  · rw [hsz]
    have e1 : (a + ((0 : Nat) : Int) * 1) = a := by omega
    rw [e1, rngL_len]
    have e2 : (((b - a).toNat : Int) - ((0 : Nat) : Int)) = ((b - a).toNat : Int) := by omega
    rw [e2]
    exact Heap.get?_push_size _ rfl
noncomputable def chr (c : Nat) : AV := .str ⟨#[c]⟩
theorem iter_str {ob : Obs} {x : Str} : IterS ob (.str x) (x.cps.toList.map chr) := fun {prog w A D E s mu sa t u K} C ht O hu k => by
  obtain ⟨tx, rfl⟩ := hu
  have hn : (x.cps.toList.map chr).length = x.cps.size := by rw [List.length_map, Array.length_toList]
  have fin : ∀ (ty : String) (o : Obj), o.cls = .type ty → o.data = .fields #[.str x tx, .int 0 0] → Obj.isFreed o = false → Walks prog w A s.heap.objs.size [s.heap.objs.size] [s.heap.objs.size] x.cps.size (SignAt x) (fun i h => h.IsStrIter s.heap.objs.size ty x tx i) →
      K (.ref s.heap.objs.size) { s with heap := s.heap.push o } := fun ty o h1 h2 hf W => by
    rw [← hn] at W
    refine k _ _ _ _ _ _ (Iter.new W (fun i v hi hv' => ?_) ⟨o, Heap.get?_push_size _ hf, h1, h2⟩ (all_cons (Nat.lt_succ_self _) all_nil) (fun i h' st => let ⟨o, ho, _⟩ := st; ⟨o, ho⟩) fun i v s' Q E hP hst hQ => go_other ht (.inr (let ⟨c, u, _, e⟩ := hP; ⟨_, u, e⟩)) hQ) fun _ b hb => .inl hb
    obtain ⟨c, u, hc, rfl⟩ := hv'
    exact ⟨chr c, by rw [List.getElem?_map, Array.getElem?_toList, hc]; rfl, u, rfl⟩
  cases ha : x.cps.all (· < 128)
  · exact wpAny_pyIter_wide ha (fin "str_iterator" _ rfl rfl rfl (Walks.strWide C.hh _ x tx))
  · exact wpAny_pyIter_ascii ha (fin "str_ascii_iterator" _ rfl rfl rfl (Walks.strAscii C.hh _ x tx))
theorem ref_not {mu sa h u i} (_ : Val mu sa h (.ref i) u) (e : noRef (.ref i) = true) (a) (_ : u = .ref a) : ¬ mu a := nomatch e
theorem lst_not {mu sa h u l} (e : Val mu sa h (.lst l) u) (_ : noRef (.lst l) = true) (a) (ea : u = .ref a) : ¬ mu a := by
  obtain ⟨b, ws, rfl, q, _⟩ := e; cases ea; exact q
theorem tup_is {ob : Obs} {l : List AV} : ListIs ob (.lst l) l := fun _ hv => hv.imp fun a e => e.imp fun ws p => ⟨p.1, p.2.2.1, p.2.2.2⟩
noncomputable def itemsC (ob : Obs) : (x : AV) → Option {items : List AV // IterS ob x items}
  | .lst l => some ⟨l, iter_list tup_is lst_not⟩
  | .ref i => match e : ob[i]? with
    | some (some l) => some ⟨l, iter_list (list_own e) ref_not⟩
    | _ => none
  | .rng a b => some ⟨rngL a (b - a).toNat, iter_rng⟩
  | .str x => some ⟨x.cps.toList.map chr, iter_str⟩
  | _ => none
end
end Mine

namespace Mine
noncomputable section
variable {prog : Program} {w : World} {D : Nat} {A : Around} {E : Value → Shared → Prop} {s s' : Shared} {mu : Addr → Prop} {sa : List Addr} {env : Env} {σ : SE} {own : List Str} {h h' : Heap} {b : Str → Option Value}

theorem lookup_cons_ne {α : Type} {x y : Str} {v : α} {l : List (Str × α)} (h : y ≠ x) : List.lookup y ((x, v) :: l) = l.lookup y := by
  rw [List.lookup_cons, beq_eq_false_iff_ne.mpr h]
theorem lookup_cons_eq {α : Type} {x : Str} {v : α} {l : List (Str × α)} : List.lookup x ((x, v) :: l) = some v := by
  rw [List.lookup_cons, beq_self_eq_true]

/-- the names that a frame holds itself -/
structure Frm (env : Env) (own : List Str) (h : Heap) (b : Str → Option Value) : Prop where
  kinds : ∀ x ∈ own, env.kindOf x = some .local ∨ env.kindOf x = some .cell
  ns : ∃ m, h.Ns env.locals m ∧ ∀ x ∈ own, env.kindOf x = some .local → ∀ u, b x = some u → m x = some u
  cell : ∀ x ∈ own, env.kindOf x = some .cell → ∃ c v, env.cells.lookup x = some c ∧ h.IsCell c v ∧ ∀ u, b x = some u → v = some u
  apart : ∀ x ∈ own, ∀ y ∈ own, env.kindOf x = some .cell → env.kindOf y = some .cell → x ≠ y → env.cells.lookup x ≠ env.cells.lookup y
  off : ∀ x ∈ own, env.kindOf x = some .cell → env.cells.lookup x ≠ some env.locals
/-- the addresses of a frame -/
noncomputable def frameAt (env : Env) (own : List Str) (a : Addr) : Prop := a = env.locals ∨ ∃ x ∈ own, env.kindOf x = some .cell ∧ env.cells.lookup x = some a
theorem Ns.lives {a m} (x : h.Ns a m) : Lives h a := let ⟨_, _, _, p, _⟩ := x; ⟨_, p⟩
theorem Frm.live (F : Frm env own h b) {a : Addr} (ha : frameAt env own a) : Lives h a := by
  rcases ha with rfl | ⟨x, hx, hk, hc⟩
  · obtain ⟨m, q, _⟩ := F.ns; exact Ns.lives q
  · obtain ⟨c, v, h1, ⟨o, h2, _⟩, _⟩ := F.cell x hx hk
    cases hc.symm.trans h1; exact ⟨o, h2⟩
theorem Frm.kept (F : Frm env own h b) (k : ∀ a o, frameAt env own a → h.get? a = some o → h'.get? a = some o) : Frm env own h' b where
  kinds := F.kinds
  ns := F.ns.imp fun m p => ⟨p.1.at' fun o e => k _ o (.inl rfl) e, p.2⟩
  cell := fun x hx hk => (F.cell x hx hk).imp fun c e => e.imp fun v p => ⟨p.1, p.2.1.imp fun o q => ⟨k _ _ (.inr ⟨x, hx, hk, p.1⟩) q.1, q.2⟩, p.2.2⟩
  apart := F.apart
  off := F.off
theorem Frm.up (F : Frm env own h b) (k : KeepH h h') : Frm env own h' b := F.kept fun a o _ e => k a o e
theorem Frm.loads (F : Frm env own h b) {x : Str} (hx : x ∈ own) {u : Value} (hu : b x = some u) : Loads env h x u := by
  rcases F.kinds x hx with hk | hk
  · obtain ⟨m, hn, hm⟩ := F.ns
    exact .inl ⟨hk, m, hn, hm x hx hk u hu⟩
  · obtain ⟨c, v, h1, h2, h3⟩ := F.cell x hx hk
    exact .inr ⟨.inl hk, c, h1, h3 u hu ▸ h2⟩
/-- what a write into a frame leaves -/
structure Wrote (env : Env) (own : List Str) (h h' : Heap) : Prop where
  keep : ∀ a o, ¬ frameAt env own a → h.get? a = some o → h'.get? a = some o
  live : ∀ a, Lives h a → Lives h' a
theorem Wrote.trans {a b c : Heap} (x : Wrote env own a b) (y : Wrote env own b c) : Wrote env own a c := ⟨fun d o n e => y.keep d o n (x.keep d o n e), fun d e => y.live d (x.live d e)⟩
theorem Wrote.ofKeep {a b : Heap} (k : KeepH a b) : Wrote env own a b := ⟨fun d o _ e => k d o e, fun d e => e.up k⟩
theorem Wrote.ofBut {c : Addr} (hs : Heap.SameBut c h h') (hc : frameAt env own c) (hl : Lives h' c) : Wrote env own h h' := ⟨fun a o ha e => hs.extBut a o (fun e' => ha (e' ▸ hc)) e, fun a e => by
  by_cases ha : a = c
  · exact ha ▸ hl
  · exact e.imp fun o p => hs.extBut a o ha p⟩
noncomputable def put (b : Str → Option Value) (x : Str) (u : Value) : Str → Option Value := fun y => if y = x then some u else b y
theorem put_eq {x : Str} {u : Value} : put b x u x = some u := if_pos rfl
theorem put_ne {x y : Str} {u : Value} (h : y ≠ x) : put b x u y = b y := if_neg h
theorem put_at {m : Str → Option Value} {x y : Str} {u v : Value} (hm : y ≠ x → b y = some v → m y = some v) (e : put b x u y = some v) : put m x u y = some v := by
  by_cases hyx : y = x
  · cases hyx; rw [put_eq] at e ⊢; exact e
  · rw [put_ne hyx] at e ⊢; exact hm hyx e

theorem store1 {x : Str} {u : Value} {Q : Unit → Shared → Prop} (hkind : env.scope.kind = .function) (F : Frm env own s.heap b) (hx : x ∈ own)
    (hQ : ∀ h' tk, Frm env own h' (put b x u) → Wrote env own s.heap h' → Q () { s with heap := h', toks := tk }) : wpAny (model prog w) A (storeName env x u) Q E s := by
  rcases F.kinds x hx with hk | hk
  · obtain ⟨m, hn, hm⟩ := F.ns
    refine wpAny_storeName_local hk hn (fun h' hn' hs' => hQ h' _ ⟨F.kinds, ⟨_, hn', fun y hy hky v hv => put_at (fun _ => hm y hy hky v) hv⟩, fun y hy hky => ?_, F.apart, F.off⟩ (.ofBut hs' (.inl rfl) (Ns.lives hn'))) (by rw [hkind]; rfl)
    obtain ⟨c, v, h1, h2, h3⟩ := F.cell y hy hky
    refine ⟨c, v, h1, h2.sameBut hs' (fun e => F.off y hy hky (e ▸ h1)), fun z hz => h3 z ?_⟩
    rw [put_ne (fun e => by rw [e, hk] at hky; cases hky)] at hz; exact hz
  · obtain ⟨c, v, h1, h2, h3⟩ := F.cell x hx hk
    refine wpAny_storeName_cell hkind hk h1 h2 fun h' hc' hs' => hQ h' _ ⟨F.kinds, F.ns.imp fun m p => ⟨p.1.sameBut hs' (fun e => F.off x hx hk (e ▸ h1)), fun y hy hky z hz => p.2 y hy hky z (by rw [put_ne (fun e => by rw [e, hk] at hky; cases hky)] at hz; exact hz)⟩, fun y hy hky => ?_, F.apart, F.off⟩ (.ofBut hs' (.inr ⟨x, hx, hk, h1⟩) (hc'.imp fun o p => p.1))
    by_cases hyx : y = x
    · cases hyx; exact ⟨c, some u, h1, hc', fun z hz => by rw [put_eq] at hz; exact hz⟩
    · obtain ⟨c2, v2, h4, h5, h6⟩ := F.cell y hy hky
      exact ⟨c2, v2, h4, h5.sameBut hs' (fun e => F.apart y hy x hx hky hk hyx (by rw [h4, h1, e])), fun z hz => h6 z (by rw [put_ne hyx] at hz; exact hz)⟩

/-- the bindings behind an assignment -/
noncomputable def Bound (mu : Addr → Prop) (sa : List Addr) (h : Heap) (bs : List (Str × AV)) (b0 b1 : Str → Option Value) : Prop := ∀ y, (∀ v, bs.lookup y = some v → ∃ u, b1 y = some u ∧ Val mu sa h v u) ∧ (bs.lookup y = none → b1 y = b0 y)
theorem Bound.nil : Bound mu sa h [] b b := fun _ => ⟨fun _ e => (nomatch e), fun _ => rfl⟩
theorem Bound.push {bs : List (Str × AV)} {b1 : Str → Option Value} {x : Str} {v : AV} {u : Value} (B : Bound mu sa h bs b b1) (hv : Val mu sa h v u) : Bound mu sa h ((x, v) :: bs) b (put b1 x u) := fun y => by
  by_cases hy : y = x
  · cases hy; rw [lookup_cons_eq]; exact ⟨fun v' e => ⟨u, put_eq, Option.some.inj e ▸ hv⟩, fun e => nomatch e⟩
  · rw [lookup_cons_ne hy, put_ne hy]; exact B y
/-- the names of a target, the last bound ahead -/
noncomputable def namesT : Expr → List Str
  | .Name n _ => [n]
  | .Tuple [.Name a _, .Name b _] _ _ => [b, a]
  | .Tuple [.Name a _, .Name b _, .Name c _] _ _ => [c, b, a]
  | _ => []
/-- a target takes a value so -/
structure BindS (t : Expr) (x : AV) (bs : List (Str × AV)) : Prop where
  names : namesT t = bs.map (·.1)
  okT : OkT t
  run : ∀ {prog : Program} {w : World} {A : Around} {D : Nat} {E : Value → Shared → Prop} {s : Shared} {mu : Addr → Prop} {sa : List Addr} {env : Env} {own : List Str} {b0 : Str → Option Value} {u : Value} {Q : Unit → Shared → Prop}, Cx A D → env.scope.kind = .function → Frm env own s.heap b0 →
    (∀ y ∈ namesT t, y ∈ own) → Val mu sa s.heap x u → (∀ h' tk b1, Frm env own h' b1 → Bound mu sa s.heap bs b0 b1 → Wrote env own s.heap h' → Q () { s with heap := h', toks := tk }) → wpAny (model prog w) A (assign t env u) Q E s
theorem bind_name {n : Str} {p : Pos} {x : AV} : BindS (.Name n p) x [(n, x)] where
  names := rfl
  okT := .inl ⟨_, _, rfl⟩
  run := fun _ hk F ho hx h => wpAny_assign_Name (store1 hk F (ho _ (List.mem_singleton.mpr rfl)) fun h' tk F' W => h h' tk _ F' (Bound.nil.push hx) W)
theorem bind_two {a b : Str} {p q r : Pos} {k : Nat} {x y : AV} : BindS (.Tuple [.Name a p, .Name b q] k r) (.tup [x, y]) [(b, y), (a, x)] where
  names := rfl
  okT := .inr ⟨_, _, _, rfl⟩
  run := fun C hk F ho hx h => by
    obtain ⟨p, ws, n, rfl, _, hp, u1, _, rfl, h1, u2, _, rfl, h2, rfl⟩ := hx
    refine wpAny_assign_Tuple C.hh ⟨_, hp, rfl, n, rfl⟩ rfl rfl fun h0 hs0 => ?_
    have k0 : KeepH _ h0 := fun c o e => hs0 c o (Nat.ne_of_lt (Heap.lt_size e)) e
    refine wpAny_assignInOrder_more (wpAny_assign_Name (store1 hk (F.up k0) (ho _ (.tail _ (.head _))) fun h3 tk3 F3 W3 => ?_))
    refine wpAny_assignInOrder_more (wpAny_assign_Name (store1 hk F3 (ho _ (.head _)) fun h4 tk4 F4 W4 => ?_))
    exact wpAny_assignInOrder_none (h h4 tk4 _ F4 ((Bound.nil.push h1).push h2) (((Wrote.ofKeep k0).trans W3).trans W4))
theorem bind_three {a b c : Str} {p q r z : Pos} {k : Nat} {x y v : AV} : BindS (.Tuple [.Name a p, .Name b q, .Name c z] k r) (.tup [x, y, v]) [(c, v), (b, y), (a, x)] where
  names := rfl
  okT := .inr ⟨_, _, _, rfl⟩
  run := fun C hk F ho hx h => by
    obtain ⟨p, ws, n, rfl, _, hp, u1, _, rfl, h1, u2, _, rfl, h2, u3, _, rfl, h3, rfl⟩ := hx
    refine wpAny_assign_Tuple C.hh ⟨_, hp, rfl, n, rfl⟩ rfl rfl fun h0 hs0 => ?_
    have k0 : KeepH _ h0 := fun c o e => hs0 c o (Nat.ne_of_lt (Heap.lt_size e)) e
    refine wpAny_assignInOrder_more (wpAny_assign_Name (store1 hk (F.up k0) (ho _ (.tail _ (.tail _ (.head _)))) fun h4 tk4 F4 W4 => ?_))
    refine wpAny_assignInOrder_more (wpAny_assign_Name (store1 hk F4 (ho _ (.tail _ (.head _))) fun h5 tk5 F5 W5 => ?_))
    refine wpAny_assignInOrder_more (wpAny_assign_Name (store1 hk F5 (ho _ (.head _)) fun h6 tk6 F6 W6 => ?_))
    exact wpAny_assignInOrder_none (h h6 tk6 _ F6 (((Bound.nil.push h1).push h2).push h3) ((((Wrote.ofKeep k0).trans W4).trans W5).trans W6))
noncomputable def takeC : (t : Expr) → (x : AV) → Option {bs : List (Str × AV) // BindS t x bs}
  | .Name n _, x => some ⟨[(n, x)], bind_name⟩
  | .Tuple [.Name a _, .Name b _] _ _, .tup [u, v] => some ⟨[(b, v), (a, u)], bind_two⟩
  | .Tuple [.Name a _, .Name b _, .Name c _] _ _, .tup [u, v, z] => some ⟨[(c, z), (b, v), (a, u)], bind_three⟩
  | _, _ => none
theorem BindS.mem {t x bs} (B : BindS t x bs) {y v} (h : bs.lookup y = some v) : y ∈ namesT t := B.names ▸ List.mem_map_of_mem (f := (·.1)) (lookup_mem' h)
end
end Mine

namespace Mine
noncomputable section
variable {prog : Program} {w : World} {D : Nat} {A : Around} {E : Value → Shared → Prop} {s s' : Shared} {mu : Addr → Prop} {sa : List Addr} {env : Env} {σ : SE} {own : List Str} {h h' : Heap}

theorem lookup_app {α : Type} {x : Str} : ∀ {l r : List (Str × α)}, (l ++ r).lookup x = (l.lookup x).or (r.lookup x)
  | [], r => rfl
  | (y, v) :: l, r => by
    rw [List.cons_append, List.lookup_cons, List.lookup_cons]
    cases x == y with
    | true => rfl
    | false => exact lookup_app
theorem lookup_append_none {α : Type} {x : Str} {l r : List (Str × α)} (h : l.lookup x = none) : (l ++ r).lookup x = r.lookup x := by rw [lookup_app, h]; rfl
theorem lookup_append_some {α : Type} {x : Str} {v : α} {l r : List (Str × α)} (h : l.lookup x = some v) : (l ++ r).lookup x = some v := by rw [lookup_app, h]; rfl
/-- a mapped lookup -/
theorem lookup_map {x : Str} {f : Str → NameKind → NameKind} : ∀ {l : List (Str × NameKind)}, (l.map fun p => (p.1, f p.1 p.2)).lookup x = (l.lookup x).map (f x)
  | [] => rfl
  | (y, k) :: l => by
    by_cases hy : x = y
    · cases hy; rw [List.map_cons, lookup_cons_eq, lookup_cons_eq]; rfl
    · rw [List.map_cons, lookup_cons_ne hy, lookup_cons_ne hy]; exact lookup_map
noncomputable def relK (env : Env) (x : Str) (k : NameKind) : NameKind := if (k == .free && env.scope.kind == .function && env.kindOf x == some .cell) then .cell else k
theorem relabel_lookup {scope : Scope} {x : Str} : (relabel scope env).names.lookup x = (scope.names.lookup x).map (relK env x) := by
  rw [← lookup_map]
  unfold relabel
  refine congrArg (List.lookup x) (List.map_congr_left fun p _ => ?_)
  obtain ⟨n, k⟩ := p
  dsimp only [relK]
  split <;> rfl

/-- the cells that a block hands on to an inner one -/
noncomputable def closL (env : Env) : List (Str × NameKind) → List (Str × Addr) → List (Str × Addr)
  | [], acc => acc
  | (n, k) :: r, acc => if k == .free then closL env r ((n, (env.cells.lookup n).getD 0) :: acc) else closL env r acc
theorem closureFor_is {scope : Scope} (h : ∀ p ∈ scope.names, p.2 = .free → ∃ c, env.cells.lookup p.1 = some c) : closureFor scope env = pure (closL env scope.names []) := by
  unfold closureFor
  have key : ∀ (l : List (Str × NameKind)) (acc : List (Str × Addr)), (∀ p ∈ l, p.2 = .free → ∃ c, env.cells.lookup p.1 = some c) →
      (forIn l acc fun x cs => do
        if x.2 == NameKind.free then pure (ForInStep.yield ((x.1, ← cellOf env x.1) :: cs)) else pure (ForInStep.yield cs) : Sem (List (Str × Addr))) = pure (closL env l acc) := by
    intro l
    induction l with
    | nil => intro acc _; rfl
    | cons p l ih =>
      intro acc hp
      rw [List.forIn_cons, closL]
      have ih' := fun acc => ih acc fun q hq => hp q (List.mem_cons_of_mem _ hq)
      by_cases hk : (p.2 == NameKind.free) = true
      · obtain ⟨c, hc⟩ := hp p (List.mem_cons_self ..) (eq_of_beq hk)
        rw [if_pos hk, if_pos hk, show cellOf env p.1 = pure c by unfold cellOf; rw [hc], hc, pure_bind, pure_bind]
        exact ih' _
      · rw [if_neg hk, if_neg hk, pure_bind]
        exact ih' _
  have := key scope.names [] h
  simp only [bind_pure_comp] at this ⊢
  first | exact this | (rw [← this]; rfl) | simpa using this
theorem closL_lookup {x : Str} {c : Addr} (hc : env.cells.lookup x = some c) : ∀ (names : List (Str × NameKind)) (acc : List (Str × Addr)), (x, NameKind.free) ∈ names ∨ acc.lookup x = some c → (closL env names acc).lookup x = some c
  | [], acc, h => h.resolve_left fun e => nomatch e
  | (y, k) :: r, acc, h => by
    unfold closL
    by_cases hxy : x = y
    · cases hxy
      split
      · exact closL_lookup hc r _ (.inr (by rw [lookup_cons_eq, hc]; rfl))
      · rename_i hk
        refine closL_lookup hc r acc (h.imp_left fun e => (List.mem_cons.mp e).resolve_left fun e => ?_)
        cases e; exact hk rfl
    · have h' := h.imp_left fun e => (List.mem_cons.mp e).resolve_left fun e => hxy (Prod.mk.inj e).1
      split
      · exact closL_lookup hc r _ (h'.imp_right fun e => by rw [lookup_cons_ne hxy]; exact e)
      · exact closL_lookup hc r acc h'
theorem cellsFrom_append : ∀ (names : List (Str × NameKind)) (n : Nat) (acc : List (Str × Addr)), cellsFrom n names acc = cellsFrom n names [] ++ acc
  | [], _, _ => rfl
  | (x, k) :: r, n, acc => by
    unfold cellsFrom
    split
    · rw [cellsFrom_append r (n + 1) ((x, n) :: acc), cellsFrom_append r (n + 1) [(x, n)], List.append_assoc]; rfl
    · exact cellsFrom_append r n acc
theorem cellsFrom_none {x : Str} : ∀ (names : List (Str × NameKind)) (n : Nat) (acc : List (Str × Addr)), (x, NameKind.cell) ∉ names → (cellsFrom n names acc).lookup x = acc.lookup x
  | [], _, _, _ => rfl
  | (y, k) :: r, n, acc, h => by
    unfold cellsFrom
    have hr := fun e => h (List.mem_cons_of_mem _ e)
    split
    · rename_i hk
      rw [cellsFrom_none r _ _ hr]
      exact lookup_cons_ne fun e => h (by rw [e, ← eq_of_beq hk]; exact List.mem_cons_self ..)
    · exact cellsFrom_none r _ _ hr
theorem cellsFrom_some {x : Str} : ∀ (names : List (Str × NameKind)) (n : Nat) (acc : List (Str × Addr)), (x, NameKind.cell) ∈ names ∨ (∃ c, acc.lookup x = some c) → ∃ c, (cellsFrom n names acc).lookup x = some c
  | [], _, _, h => h.resolve_left fun e => nomatch e
  | (y, k) :: r, n, acc, h => by
    unfold cellsFrom
    by_cases hxy : x = y
    · cases hxy
      split
      · exact cellsFrom_some r _ _ (.inr ⟨_, lookup_cons_eq⟩)
      · rename_i hk
        exact cellsFrom_some r n acc (h.imp_left fun e => (List.mem_cons.mp e).resolve_left fun e => by cases e; exact hk rfl)
    · have h' := h.imp_left fun e => (List.mem_cons.mp e).resolve_left fun e => hxy (Prod.mk.inj e).1
      split
      · exact cellsFrom_some r _ _ (h'.imp_right fun e => by rw [lookup_cons_ne hxy]; exact e)
      · exact cellsFrom_some r n acc h'

noncomputable def freeIn (sc : Scope) (vs : List (Str × AV)) : List (Str × AV) := vs.filter fun p => sc.names.lookup p.1 == some .free
theorem freeIn_lookup {sc : Scope} {x : Str} {v : AV} : ∀ {vs : List (Str × AV)}, (freeIn sc vs).lookup x = some v → sc.names.lookup x = some .free ∧ vs.lookup x = some v
  | (y, u) :: vs, h => by
    unfold freeIn at h
    rw [List.filter_cons] at h
    by_cases hxy : x = y
    · cases hxy
      split at h
      · rename_i hc
        exact ⟨eq_of_beq hc, by rw [lookup_cons_eq] at h ⊢; exact h⟩
      · rename_i hc
        exact absurd (by rw [(freeIn_lookup h).1]; exact beq_self_eq_true _) hc
    · rw [lookup_cons_ne hxy]
      refine freeIn_lookup ?_
      split at h
      · rw [lookup_cons_ne hxy] at h; exact h
      · exact h

noncomputable def okKind (outer : Scope) (p : Str × NameKind) : Prop := p.2 = .local ∨ p.2 = .cell ∨ p.2 = .globalImplicit ∨ (p.2 = .free ∧ (outer.names.lookup p.1 = some .cell ∨ outer.names.lookup p.1 = some .free))
/-- an inner scope that fits into an outer one -/
structure Fits (outer inner : Scope) (ts : List Str) : Prop where
  kind : inner.kind = .function
  uniq : ∀ p ∈ inner.names, inner.names.lookup p.1 = some p.2
  kinds : ∀ p ∈ inner.names, okKind outer p
  ts_in : ∀ t ∈ ts, inner.names.lookup t = some .local ∨ inner.names.lookup t = some .cell
noncomputable def fitsC (outer inner : Scope) (ts : List Str) : Option (PLift (Fits outer inner ts)) :=
  have : ∀ p, Decidable (okKind outer p) := fun p => by unfold okKind; infer_instance
  if h1 : inner.kind = .function then if h2 : ∀ p ∈ inner.names, inner.names.lookup p.1 = some p.2 then if h3 : ∀ p ∈ inner.names, okKind outer p then if h4 : ∀ t ∈ ts, inner.names.lookup t = some .local ∨ inner.names.lookup t = some .cell then some ⟨⟨h1, h2, h3, h4⟩⟩ else none else none else none else none
theorem Fits.free {outer inner : Scope} {ts : List Str} (f : Fits outer inner ts) {x} (h : inner.names.lookup x = some .free) : outer.names.lookup x = some .cell ∨ outer.names.lookup x = some .free := by
  rcases f.kinds _ (lookup_mem' h) with e | e | e | e
  · cases e
  · cases e
  · cases e
  · exact e.2

/-- the frame of a comprehension -/
noncomputable def cEnv (env : Env) (sc' : Scope) (L : Nat) : Env := { scope := relabel sc' env, locals := L + 1, globals := env.globals, cells := cellsFrom (L + 2) sc'.names (closL env sc'.names []), qual := env.qual, func := none, code := env.code, frame := env.frame, builtins := env.builtins }
abbrev listObj : Obj := { cls := .type "list", dict := none, data := .seq ([] : List Value).toArray }
abbrev dictObj : Obj := { cls := .type "dict", data := .dict #[] }
noncomputable def cHeap (h : Heap) (sc' : Scope) : Heap := pushCells ((h.push listObj).push dictObj) sc'.names
theorem newEnv_comp {scope : Scope} {cl : List (Str × Addr)} {M : Model} {Q : Env → Shared → Prop}
    (h : Q { scope := scope, locals := s.heap.objs.size, globals := env.globals, cells := cellsFrom (s.heap.objs.size + 1) scope.names cl, qual := env.qual, func := none, code := env.code, frame := env.frame, builtins := env.builtins }
      { s with heap := pushCells (s.heap.push dictObj) scope.names }) :
    wpAny M A (newFunctionEnv scope env.globals cl [] env.qual none .none (some env)) Q E s := by
  simp only [newFunctionEnv, Option.isSome_some, if_true]
  refine wpAny_bind (wpAny_alloc (wpAny_bind (wpAny_layCells _ (fun name kind cells => by cases hkc : kind == NameKind.cell <;> simp [hkc]) _ _ _ _ ?_)))
  rw [show ({ s with heap := s.heap.push dictObj } : Shared).heap.objs.size = s.heap.objs.size + 1 from Heap.size_push .., List.forIn_nil]
  exact wpAny_bind (wpAny_pure (wpAny_pure h))

structure CEnvOk (env : Env) (sc' : Scope) (ts : List Str) (h : Heap) : Prop where
  keeps : KeepH h (cHeap h sc')
  list : (cHeap h sc').PlainList h.objs.size #[]
  ns : (cHeap h sc').Ns (h.objs.size + 1) fun _ => none
  frm : Frm (cEnv env sc' h.objs.size) ts (cHeap h sc') fun _ => none
  far : ∀ a : Nat, frameAt (cEnv env sc' h.objs.size) ts a → h.objs.size + 1 ≤ a
  free : ∀ x, sc'.names.lookup x = some .free → ∀ c, env.cells.lookup x = some c → (cEnv env sc' h.objs.size).cells.lookup x = some c
  cells : ∀ x, (cEnv env sc' h.objs.size).kindOf x = some .cell ∨ (cEnv env sc' h.objs.size).kindOf x = some .free → ∃ c, (cEnv env sc' h.objs.size).cells.lookup x = some c
theorem cEnv_kind {sc' : Scope} {L : Nat} {x : Str} : (cEnv env sc' L).kindOf x = (sc'.names.lookup x).map (relK env x) := relabel_lookup
theorem out_cell {h0 : Heap} {sc' : Scope} {ts : List Str} (O : EOk mu sa env σ h0) (ft : Fits σ.sc sc' ts) {x : Str} (hx : sc'.names.lookup x = some .free) : ∃ c, env.cells.lookup x = some c := by
  refine O.cells x ?_
  rcases ft.free hx with e | e <;> rcases O.names x _ e with e' | ⟨e0, e'⟩
  · exact .inl e'
  · cases e0
  · exact .inr e'
  · exact .inl e'
theorem cEnv_ok {h0 : Heap} {sc' : Scope} {ts : List Str} (O : EOk mu sa env σ h0) (ft : Fits σ.sc sc' ts) (h : Heap) : CEnvOk env sc' ts h := by
  have hz : ((h.push listObj).push dictObj).objs.size = h.objs.size + 2 := by rw [Heap.size_push, Heap.size_push]
  have cok : CellsOk (cHeap h sc') (h.objs.size + 2) (cellsFrom (h.objs.size + 2) sc'.names []) := hz ▸ cellsFrom_ok sc'.names _ _ [] ⟨fun _ _ hm => (nomatch hm), List.Pairwise.nil⟩ (Nat.le_refl _)
  have k2 : KeepH (h.push listObj) (cHeap h sc') := fun b o e => pushCells_keeps _ _ b o (Heap.get?_push_of_some _ e)
  have own : ∀ x, sc'.names.lookup x = some .cell → ∃ c, (cEnv env sc' h.objs.size).cells.lookup x = some c ∧ (x, c) ∈ cellsFrom (h.objs.size + 2) sc'.names [] := fun x hx => by
    obtain ⟨c, hc⟩ := cellsFrom_some (x := x) sc'.names (h.objs.size + 2) [] (.inl (lookup_mem' hx))
    exact ⟨c, by unfold cEnv; rw [cellsFrom_append]; exact lookup_append_some hc, lookup_mem' hc⟩
  have free : ∀ x, sc'.names.lookup x = some .free → ∀ c, env.cells.lookup x = some c → (cEnv env sc' h.objs.size).cells.lookup x = some c := fun x hx c hc => by
    unfold cEnv
    rw [cellsFrom_none _ _ _ fun e => by have := ft.uniq _ e; rw [hx] at this; cases this]
    exact closL_lookup hc _ _ (.inl (lookup_mem' hx))
  have kd : ∀ x ∈ ts, ((cEnv env sc' h.objs.size).kindOf x = some .local ∨ (cEnv env sc' h.objs.size).kindOf x = some .cell) ∧ ((cEnv env sc' h.objs.size).kindOf x = some .cell → sc'.names.lookup x = some .cell) := fun x hx => by
    rw [cEnv_kind]
    rcases ft.ts_in x hx with e | e
    · rw [e]; exact ⟨.inl rfl, fun e' => nomatch e'⟩
    · rw [e]; exact ⟨.inr rfl, fun _ => rfl⟩
  refine ⟨(KeepH.push _ _).trans k2, ⟨0, k2 _ _ (Heap.get?_push_size _ rfl)⟩, ?_, ⟨fun x hx => (kd x hx).1, ⟨fun _ => none, ?_, fun _ _ _ _ e => e⟩, fun x hx hk => ?_, fun x hx y hy hk1 hk2 hne e => ?_, fun x hx hk e => ?_⟩, fun a ha => ?_, free, fun x hx => ?_⟩
  · have := Heap.Ns.new (h.push listObj) (.type "dict")
    rw [Heap.size_push] at this
    exact this.keeps fun b o e => pushCells_keeps _ _ b o e
  · have := Heap.Ns.new (h.push listObj) (.type "dict")
    rw [Heap.size_push] at this
    exact this.keeps fun b o e => pushCells_keeps _ _ b o e
  · obtain ⟨c, h1, h2⟩ := own x ((kd x hx).2 hk)
    exact ⟨c, none, h1, (cok.empty x c h2).1, fun u hu => nomatch hu⟩
  · obtain ⟨c1, p1, q1⟩ := own x ((kd x hx).2 hk1)
    obtain ⟨c2, p2, q2⟩ := own y ((kd y hy).2 hk2)
    rw [p1, p2] at e; cases e
    exact hne (name_of_addr cok.apart q1 q2)
  · obtain ⟨c, h1, h2⟩ := own x ((kd x hx).2 hk)
    cases h1.symm.trans e
    exact absurd (cok.empty x _ h2).2 (Nat.not_le.mpr (Nat.lt_succ_self _))
  · rcases ha with rfl | ⟨x, hx, hk, hc⟩
    · exact Nat.le_refl _
    · obtain ⟨c, h1, h2⟩ := own x ((kd x hx).2 hk)
      cases h1.symm.trans hc
      exact Nat.le_of_succ_le (cok.empty x _ h2).2
  · rw [cEnv_kind] at hx
    cases hk : sc'.names.lookup x with
    | none => rw [hk] at hx; rcases hx with e | e <;> cases e
    | some k =>
      rw [hk] at hx
      have other : k ≠ .free → k = .cell := fun hne => by
        have e : relK env x k = k := by unfold relK; rw [show (k == NameKind.free) = false from beq_eq_false_iff_ne.mpr hne]; rfl
        rcases hx with e' | e' <;> (cases Option.some.inj e' |>.symm.trans e)
        · rfl
        · exact absurd rfl hne
      by_cases hf : k = .free
      · cases hf
        obtain ⟨c, hc⟩ := out_cell O ft hk
        exact ⟨c, free x hk c hc⟩
      · cases other hf
        exact (own x hk).imp fun c p => p.1
end
end Mine

namespace Mine
noncomputable section
variable {prog : Program} {w : World} {D : Nat} {A : Around} {E : Value → Shared → Prop} {s s' : Shared} {mu : Addr → Prop} {sa : List Addr} {env : Env} {σ : SE} {own : List Str} {h h' : Heap}

theorem EOk.inner {mu' : Addr → Prop} {sc' : Scope} {ts : List Str} {h0 h1 h3 : Heap} {bs : List (Str × AV)} {b1 : Str → Option Value}
    (O : EOk mu sa env σ h0) (ft : Fits σ.sc sc' ts) (ce : CEnvOk env sc' ts h1) (kh : KeepH h0 h3) (L : Later mu mu' h0 h3) (mi : MuIn mu' h3) (F : Frm (cEnv env sc' h1.objs.size) ts h3 b1)
    (hbs : ∀ y v, bs.lookup y = some v → y ∈ ts ∧ ∃ u, b1 y = some u ∧ Val mu' sa h3 v u) : EOk mu' sa (cEnv env sc' h1.objs.size) ⟨sc', bs ++ freeIn sc' σ.vs, σ.ob⟩ h3 where
  kind := ft.kind
  globals := O.globals
  builtins := O.builtins
  names := fun x k hk => by
    rw [cEnv_kind, show sc'.names.lookup x = some k from hk]
    show some (relK env x k) = some k ∨ _ ∧ some (relK env x k) = _
    unfold relK
    split
    · rename_i hc
      exact .inr ⟨eq_of_beq (and_l (and_l hc)), rfl⟩
    · exact .inl rfl
  vars := fun x k v hk hkk hv => by
    cases hb : bs.lookup x with
    | some v' =>
      cases (lookup_append_some (r := freeIn sc' σ.vs) hb).symm.trans hv
      obtain ⟨h1, u, h2, h3⟩ := hbs x v hb
      exact ⟨u, h3, F.loads h1 h2⟩
    | none =>
      obtain ⟨h1, h2⟩ := freeIn_lookup ((lookup_append_none hb).symm.trans hv)
      obtain ⟨k2, e2, e3⟩ : ∃ k2, σ.sc.names.lookup x = some k2 ∧ (k2 = .cell ∨ k2 = .free) := (ft.free h1).elim (fun e => ⟨_, e, .inl rfl⟩) fun e => ⟨_, e, .inr rfl⟩
      obtain ⟨u, hu, hl⟩ := O.vars x k2 v e2 (.inr e3) h2
      refine ⟨u, hu.to L, ?_⟩
      rcases hl with ⟨e, _⟩ | ⟨_, c, hc, hic⟩
      · rcases O.names x k2 e2 with e' | ⟨_, e'⟩
        · cases e.symm.trans e'; rcases e3 with e3 | e3 <;> cases e3
        · cases e.symm.trans e'
      · refine .inr ⟨?_, c, ce.free x h1 c hc, hic.keeps kh⟩
        rw [cEnv_kind, h1]
        show some (relK env x .free) = _ ∨ some (relK env x .free) = _
        unfold relK
        split
        · exact .inl rfl
        · exact .inr rfl
  objs := O.objs.to L kh
  muin := mi
  cells := ce.cells

noncomputable def IfsS (prog : Program) (w : World) (D : Nat) (σ : SE) (ifs : List Expr) (b : Bool) : Prop := (ifs = [] ∧ b = true) ∨ ∃ c, ifs = [c] ∧ TS prog w D σ c b
noncomputable def ifsGo (ifs : List Expr) (env : Env) : Sem Bool := forIn ifs true fun c r => if r = true then do let ok ← isTrue c env (eval c env); pure (ForInStep.yield ok) else pure (ForInStep.yield r)
theorem IfsS.run {ifs : List Expr} {b : Bool} {Q : Bool → Shared → Prop} (h : IfsS prog w D σ ifs b) (H : At w D σ A s mu sa env) (g : ∀ s', Keeps s s' → Q b s') : wpAny (model prog w) A (ifsGo ifs env) Q E s := by
  unfold ifsGo
  rcases h with ⟨rfl, rfl⟩ | ⟨c, rfl, hc⟩
  · rw [List.forIn_nil]; exact wpAny_pure (g s (keeps_refl s))
  · rw [List.forIn_cons, if_pos rfl]
    refine wpAny_bind (wpAny_bind (hc H fun s' k => wpAny_pure ?_))
    dsimp only
    rw [List.forIn_nil]; exact wpAny_pure (g s' k)
/-- what one item asks of the body of a comprehension -/
noncomputable def ItemOk (prog : Program) (w : World) (D : Nat) (σ : SE) (sc' : Scope) (t : Expr) (ifs : List Expr) (elt : Expr) (x : AV) (p : Bool × AV) : Prop :=
  ∃ bs, BindS t x bs ∧ IfsS prog w D ⟨sc', bs ++ freeIn sc' σ.vs, σ.ob⟩ ifs p.1 ∧ ES prog w D ⟨sc', bs ++ freeIn sc' σ.vs, σ.ob⟩ elt p.2
inductive ItemsOk (prog : Program) (w : World) (D : Nat) (σ : SE) (sc' : Scope) (t : Expr) (ifs : List Expr) (elt : Expr) : List AV → List (Bool × AV) → Prop
  | nil : ItemsOk prog w D σ sc' t ifs elt [] []
  | cons {x p l r} (h : ItemOk prog w D σ sc' t ifs elt x p) (k : ItemsOk prog w D σ sc' t ifs elt l r) : ItemsOk prog w D σ sc' t ifs elt (x :: l) (p :: r)
noncomputable def outB : List (Bool × AV) → List AV
  | [] => []
  | (b, v) :: l => match b with | true => v :: outB l | false => outB l

set_option genInjectivity false in
/-- a comprehension under way -/
structure CK where
  σ : SE
  env : Env
  sc' : Scope
  t : Expr
  elt : Expr
  ifs : List Expr
  h : Heap
  s₂ : Shared
  I : Addr
  fp : List Addr
  wr : List Addr
  St : Nat → Heap → Prop
  Mid : Nat → Value → Heap → Prop
  mu : Addr → Prop
  sa : List Addr
  A : Around
  items : List AV
  R : Result → Shared → Prop
abbrev CK.L (k : CK) : Nat := k.s₂.heap.objs.size
abbrev CK.ce (k : CK) : Env := cEnv k.env k.sc' k.L
noncomputable def CK.mu' (k : CK) (a : Addr) : Prop := k.mu a ∨ a = k.L ∨ frameAt k.ce (namesT k.t) a ∨ a ∈ k.wr
/-- the rest of a turn: behind the tests; with an item; behind the iterator -/
noncomputable def CK.after (prog : Program) (w : World) (k : CK) (I : Nat → Shared → Prop) (E : Value → Shared → Prop) (n : Nat) (ok : Bool) (s₃ : Shared) : Prop := match ok with
  | true => wpAny (model prog w) k.A (eval k.elt k.ce) (fun x s₄ => wpAny (model prog w) k.A (call (.builtin "list.append") [.ref k.L, x]) (fun _ s₅ => ∃ m, m < n ∧ I m s₅) E s₄) E s₃
  | false => ∃ m, m < n ∧ I m s₃
noncomputable def CK.got (prog : Program) (w : World) (k : CK) (I : Nat → Shared → Prop) (E : Value → Shared → Prop) (n : Nat) (v : Value) (s₁ : Shared) : Prop :=
  wpAny (model prog w) k.A (letOwnedTupleGo k.t (.ref k.I) v) (fun _ s₁' => wpAny (model prog w) k.A (assign k.t k.ce v) (fun _ s₂ => wpAny (model prog w) k.A (ifsGo k.ifs k.ce) (k.after prog w I E n) E s₂) E s₁') E s₁
noncomputable def CK.next (prog : Program) (w : World) (k : CK) (I : Nat → Shared → Prop) (E : Value → Shared → Prop) (n : Nat) (r : Option Value) (s₁ : Shared) : Prop := match r with
  | none => k.R (.ok .next) s₁
  | some v => k.got prog w I E n v s₁
theorem my_compLoop {k : CK} {iter : Expr} {pos : Pos} (I : Nat → Shared → Prop) (turn : ∀ n s, I n s → ∀ E, wpAny (model prog w) k.A (pyNext (.ref k.I)) (k.next prog w I E n) E s) (n : Nat) {s : Shared} (h : I n s) :
    codeAny (model prog w) k.A (.compLoop (.ListComp k.elt [⟨k.t, iter, k.ifs, 0⟩] k.sc' pos) 0 (.ref k.I) (.ref k.L) k.ce) k.R s := by
  refine codeAny_loop rfl I (fun n s hI => ?_) n h
  show wpAny _ _ ((compTurn (.ListComp k.elt [⟨k.t, iter, k.ifs, 0⟩] k.sc' pos) 0 (.ref k.I) (.ref k.L) k.ce).onRaise (fun x => do noteFrame x k.ce; theTreesLotGoes x)) _ _ s
  refine wpAny_noted ?_
  rw [compTurn_list]
  refine wpAny_bind (wpAny_standAt (wpAny_bind (wpAny_mono (turn n s hI _) (fun r s₁ h₁ => ?_) fun _ _ h' => h')))
  cases r with
  | none => exact wpAny_pure h₁
  | some v =>
    refine wpAny_bind (wpAny_mono h₁ (fun _ s₁' h₁' => wpAny_bind (wpAny_mono h₁' (fun _ s₂ h₂ => wpAny_bind (wpAny_mono h₂ (fun ok s₃ h₃ => ?_) fun _ _ h' => h')) fun _ _ h' => h')) fun _ _ h' => h')
    cases ok with
    | false => exact wpAny_pure ⟨rfl, h₃⟩
    | true => exact wpAny_bind (wpAny_bind (wpAny_mono h₃ (fun x s₄ h₄ => wpAny_bind (wpAny_mono h₄ (fun _ s₅ h₅ => wpAny_pure (wpAny_pure ⟨rfl, h₅⟩)) fun _ _ h' => h')) fun _ _ h' => h'))
structure CK.Ok (prog : Program) (w : World) (D : Nat) (k : CK) : Prop where
  C : Cx k.A D
  B : BB w k.h
  O : EOk k.mu k.sa k.env k.σ k.h
  ft : Fits k.σ.sc k.sc' (namesT k.t)
  it : Iter prog w k.A k.mu k.sa k.items k.t k.h k.s₂.heap k.I k.fp k.wr k.St k.Mid
  hn : k.items.length ≤ 4096
/-- so many turns done -/
structure CK.In (k : CK) (i : Nat) (l : List AV) (h' : Heap) (ys : List Value) (b1 : Str → Option Value) : Prop where
  st : k.St i h'
  kp : ∀ a o, a ∉ k.wr → k.s₂.heap.get? a = some o → h'.get? a = some o
  pl : h'.PlainList k.L ys.toArray
  vs : Vals k.mu' k.sa h' l ys
  len : ys.length ≤ i
  frm : Frm k.ce (namesT k.t) h' b1
section
variable {k : CK}
theorem CK.Ok.lt (K : k.Ok prog w D) {c : Nat} (hc : Lives k.h c) : c < k.L := hc.elim fun o e => Heap.lt_size (K.it.keeps c o e)
theorem CK.Ok.cenv (K : k.Ok prog w D) : CEnvOk k.env k.sc' (namesT k.t) k.s₂.heap := cEnv_ok K.O K.ft _
theorem CK.Ok.nfa (K : k.Ok prog w D) {a : Nat} (ha : a < k.L + 1) : ¬ frameAt k.ce (namesT k.t) a := fun e => absurd (Nat.lt_of_lt_of_le ha (K.cenv.far a e)) (Nat.lt_irrefl _)
theorem CK.Ok.nwr (K : k.Ok prog w D) {a : Nat} (ha : k.L ≤ a) : a ∉ k.wr := fun e => absurd (K.it.below a (K.it.sub a e)) (Nat.not_lt.mpr ha)
theorem CK.Ok.out (K : k.Ok prog w D) (c : Addr) (hc : Lives k.h c) (hn : ¬ k.mu c) : ¬ k.mu' c := by
  rintro (e | e | e | e)
  · exact hn e
  · exact Nat.lt_irrefl _ (e ▸ K.lt hc)
  · exact K.nfa (Nat.lt_succ_of_lt (K.lt hc)) e
  · exact hc.not (K.it.fresh c e)
theorem CK.In.keeps {i l h' ys b1} (K : k.Ok prog w D) (H : k.In i l h' ys b1) : KeepH k.h h' := fun a o e => H.kp a o (fun hw => nomatch (K.it.fresh a hw).symm.trans e) (K.it.keeps a o e)
theorem CK.In.later {i l h' ys b1} (K : k.Ok prog w D) (H : k.In i l h' ys b1) : Later k.mu k.mu' k.h h' := ⟨fun b o _ e => H.keeps K b o e, K.out⟩
theorem CK.In.muin {i l h' ys b1} (K : k.Ok prog w D) (H : k.In i l h' ys b1) : MuIn k.mu' h' := fun a ha => by
  rcases ha with e | e | e | e
  · exact (K.O.muin a e).up (H.keeps K)
  · exact e ▸ PlainList.lives H.pl
  · exact H.frm.live e
  · exact K.it.live _ _ H.st a e
/-- what the iterator writes -/
theorem CK.In.next {i l h' h₁ ys b1} (K : k.Ok prog w D) (H : k.In i l h' ys b1) (st : k.St (i + 1) h₁) (hk : ∀ a o, a ∉ k.wr → h'.get? a = some o → h₁.get? a = some o) : k.In (i + 1) l h₁ ys b1 where
  st := st
  kp := fun a o n e => hk a o n (H.kp a o n e)
  pl := PlainList.kept H.pl fun o e => hk _ o (K.nwr (Nat.le_refl _)) e
  vs := H.vs.to (.but fun a o ha e => hk a o (fun e' => ha (.inr (.inr (.inr e')))) e)
  len := Nat.le_succ_of_le H.len
  frm := H.frm.kept fun a o ha e => hk a o (K.nwr (Nat.le_of_succ_le (K.cenv.far a ha))) e
/-- what the frame writes -/
theorem CK.In.wrote {i l h' h₁ ys b1 b2} (K : k.Ok prog w D) (H : k.In i l h' ys b1) (W : Wrote k.ce (namesT k.t) h' h₁) (F : Frm k.ce (namesT k.t) h₁ b2) : k.In i l h₁ ys b2 where
  st := K.it.frame _ _ _ H.st fun b hb o e => W.keep b o (K.nfa (Nat.lt_succ_of_lt (K.it.below b hb))) e
  kp := fun a o n e => W.keep a o (K.nfa (Nat.lt_succ_of_lt (Heap.lt_size e))) (H.kp a o n e)
  pl := PlainList.kept H.pl fun o e => W.keep _ o (K.nfa (Nat.lt_succ_self _)) e
  vs := H.vs.to (.but fun a o ha e => W.keep a o (fun e' => ha (.inr (.inr (.inl e')))) e)
  len := H.len
  frm := F
theorem CK.In.up {i l h' h₁ ys b1} (K : k.Ok prog w D) (H : k.In i l h' ys b1) (kh : KeepH h' h₁) : k.In i l h₁ ys b1 := H.wrote K (.ofKeep kh) (H.frm.up kh)
/-- what an append writes -/
theorem CK.In.grow {i l h' h₁ ys b1 v u} (K : k.Ok prog w D) (H : k.In i l h' ys b1) (hl : ys.length < i) (hs : Heap.SameBut k.L h' h₁) (pl : h₁.PlainList k.L (ys.toArray.push u)) (hu : Val k.mu' k.sa h' v u) : k.In i (l ++ [v]) h₁ (ys ++ [u]) b1 := by
  have L : Later k.mu' k.mu' h' h₁ := .but fun a o ha e => hs.extBut a o (fun e' => ha (.inr (.inl e'))) e
  exact {
    st := K.it.frame _ _ _ H.st fun b hb o e => hs.extBut b o (Nat.ne_of_lt (K.it.below b hb)) e
    kp := fun a o n e => hs.extBut a o (Nat.ne_of_lt (Heap.lt_size e)) (H.kp a o n e)
    pl := by rw [List.push_toArray] at pl; exact pl
    vs := Vals.snoc (H.vs.to L) (hu.to L)
    len := by rw [List.length_append]; exact hl
    frm := H.frm.kept fun a o ha e => hs.extBut a o (fun e' => K.nfa (Nat.lt_succ_self _) (e' ▸ ha)) e }

end
/-- what a comprehension leaves -/
structure CompEnd (mu mu' : Addr → Prop) (sa : List Addr) (h h' : Heap) (L K : Addr) (l : List AV) (ys : List Value) : Prop where
  hK : mu' K
  out : ∀ c, ¬ mu' c → ¬ mu c
  keeps : KeepH h h'
  pl : h'.PlainList L ys.toArray
  vs : Vals mu' sa h' l ys
  Lmu : ¬ mu L
  Ln : h.get? L = none
  Kn : h.get? K = none
  ne : K ≠ L
  ns : ∃ m, h'.Ns K m
section
variable {k : CK}
theorem CK.In.fin {i l h' h₁ ys b1} (K : k.Ok prog w D) (H : k.In i l h' ys b1) (hk : ∀ a o, a ∉ k.wr → h'.get? a = some o → h₁.get? a = some o) : CompEnd k.mu k.mu' k.sa k.h h₁ k.L (k.L + 1) l ys where
  hK := .inr (.inr (.inl (.inl rfl)))
  out := fun c hc e => hc (.inl e)
  keeps := fun a o e => hk a o (fun hw => nomatch (K.it.fresh a hw).symm.trans e) (H.keeps K a o e)
  pl := PlainList.kept H.pl fun o e => hk _ o (K.nwr (Nat.le_refl _)) e
  vs := H.vs.to (.but fun a o ha e => hk a o (fun e' => ha (.inr (.inr (.inr e')))) e)
  Lmu := fun e => Nat.lt_irrefl _ (K.lt (K.O.muin _ e))
  Ln := K.it.keeps.none fresh_size
  Kn := K.it.keeps.none (Heap.get?_none_of_le (Nat.le_succ _))
  ne := Nat.succ_ne_self _
  ns := H.frm.ns.imp fun m p => p.1.at' fun o e => hk _ o (K.nwr (Nat.le_succ _)) e
/-- a state of the loop -/
structure CK.Lp (prog : Program) (w : World) (D : Nat) (k : CK) (n : Nat) (h' : Heap) (i : Nat) (l : List AV) (ys : List Value) (b1 : Str → Option Value) (rs : List (Bool × AV)) : Prop where
  n : n + i = k.items.length + 1
  le : i ≤ k.items.length
  H : k.In i l h' ys b1
  ok : ItemsOk prog w D k.σ k.sc' k.t k.ifs k.elt (k.items.drop i) rs
  R : ∀ h₁ tk₁ ys₁, CompEnd k.mu k.mu' k.sa k.h h₁ k.L (k.L + 1) (l ++ outB rs) ys₁ → k.R (.ok .next) { k.s₂ with heap := h₁, toks := tk₁ }
noncomputable def CK.At' (prog : Program) (w : World) (D : Nat) (k : CK) (n : Nat) (s : Shared) : Prop := ∃ h' tk i l ys b1 rs, s = { k.s₂ with heap := h', toks := tk } ∧ k.Lp prog w D n h' i l ys b1 rs
theorem CK.turn (K : k.Ok prog w D) {n : Nat} {s : Shared} (S : k.At' prog w D n s) (E : Value → Shared → Prop) : wpAny (model prog w) k.A (pyNext (.ref k.I)) (k.next prog w (k.At' prog w D) E n) E s := by
  obtain ⟨h', tk, i, l, ys, b1, rs, rfl, hn, hi, H, hrs, hR⟩ := S
  by_cases hlt : i < k.items.length
  · refine K.it.item i _ _ _ hlt H.st fun v h₀ tk₁ hPv hm₀ hk₀ => ?_
    refine K.it.go i v _ _ _ hm₀ fun h₁ hst₁ hk₁' => ?_
    have hk₁ : ∀ a o, a ∉ k.wr → h'.get? a = some o → h₁.get? a = some o := fun a o n e => hk₁' a o n (hk₀ a o n e)
    have H₁ := H.next K hst₁ hk₁
    obtain ⟨x, hx, hv⟩ := hPv
    have hv := (hv k.mu' ⟨fun b o hb e => hk₀ b o (fun hw => nomatch (K.it.fresh b hw).symm.trans e) (H.keeps K b o e), K.out⟩ (H.muin K)).to (mu' := k.mu') (.but fun b o hb e => hk₁' b o (fun hw => hb (.inr (.inr (.inr hw)))) e)
    rw [List.drop_eq_getElem_cons hlt, show k.items[i] = x from Option.some.inj ((List.getElem?_eq_getElem hlt).symm.trans hx)] at hrs
    obtain _ | ⟨⟨bs, hbt, htest, helt⟩, hrs⟩ := hrs
    rename_i p r
    refine hbt.run K.C K.ft.kind H₁.frm (fun y hy => hy) hv fun h₂ tk₂ b2 F₂ Bd W => ?_
    have H₂ := H₁.wrote K W F₂
    have O₂ : Mine.At w D ⟨k.sc', bs ++ freeIn k.sc' k.σ.vs, k.σ.ob⟩ k.A { k.s₂ with heap := h₂, toks := tk₂ } k.mu' k.sa k.ce := ⟨K.C, K.B.up (H₂.keeps K), K.O.inner K.ft K.cenv (H₂.keeps K) (H₂.later K) (H₂.muin K) F₂ fun y v' hy => ⟨hbt.mem hy, ((Bd y).1 v' hy).imp fun u q => ⟨q.1, q.2.to (.but fun a o ha e => W.keep a o (fun e' => ha (.inr (.inr (.inl e')))) e)⟩⟩⟩
    refine htest.run O₂ fun s₃ k₃ => ?_
    have O₃ := O₂.up k₃
    obtain ⟨h₃, tk₃, rfl, k₃⟩ := k₃
    have H₃ := H₂.up K k₃
    obtain ⟨b, v'⟩ := p
    cases b with
    | false =>
      exact ⟨k.items.length - i, by omega, h₃, tk₃, i + 1, l, ys, b2, r, rfl, by omega, hlt, H₃, hrs, hR⟩
    | true =>
      refine helt.run O₃ fun u s₄ k₄ hu => ?_
      obtain ⟨h₄, tk₄, rfl, k₄⟩ := k₄
      have H₄ := H₃.up K k₄
      have hyl := H.len
      refine wpAny_list_append_plain (hsz := by rw [List.size_toArray, sizeLine_eq]; have := K.hn; omega) H₄.pl fun h₅ hl₅ hs₅ => ?_
      refine ⟨k.items.length - i, by omega, h₅, tk₄, i + 1, l ++ [v'], ys ++ [u], b2, r, rfl, by omega, hlt, H₄.grow K (by omega) hs₅ hl₅ hu, hrs, fun h₁ tk₁ ys₁ c => hR h₁ tk₁ ys₁ ?_⟩
      rw [List.append_assoc] at c
      exact c
  · have hin : i = k.items.length := by omega
    subst hin
    refine K.it.done _ _ _ H.st fun h₁ tk₁ hk₁ => ?_
    rw [List.drop_length] at hrs
    cases hrs
    exact hR h₁ tk₁ ys (by rw [show outB [] = [] from rfl, List.append_nil]; exact H.fin K hk₁)
theorem CK.whole (K : k.Ok prog w D) {rs : List (Bool × AV)} {iter : Expr} {pos : Pos} {RR : Value → Addr → Result → Shared → Prop} (hrs : ItemsOk prog w D k.σ k.sc' k.t k.ifs k.elt k.items rs) (hkR : k.R = RR (.ref k.L) (k.L + 1))
    (hR : ∀ h₁ tk₁ ys₁, CompEnd k.mu k.mu' k.sa k.h h₁ k.L (k.L + 1) (outB rs) ys₁ → k.R (.ok .next) { k.s₂ with heap := h₁, toks := tk₁ }) :
    wpAny (model prog w) k.A (newList []) (fun acc s₃ => wpAny (model prog w) k.A (newFunctionEnv k.sc' k.env.globals (closL k.env k.sc'.names []) [] k.env.qual none .none (some k.env)) (fun cenv s₄ =>
      codeAny (model prog w) k.A (.compStart (.ListComp k.elt [⟨k.t, iter, k.ifs, 0⟩] k.sc' pos) 0 (.ref k.I) acc { cenv with scope := relabel k.sc' k.env }) (RR acc cenv.locals) s₄) E s₃) E k.s₂ := by
  have ce := K.cenv
  refine wpAny_newObj_type (newEnv_comp ?_)
  dsimp only
  rw [show (k.s₂.heap.push listObj).objs.size = k.L + 1 from Heap.size_push .., ← hkR]
  have st : k.St 0 (cHeap k.s₂.heap k.sc') := K.it.frame _ _ _ K.it.start fun b _ o e => ce.keeps b o e
  have lp := my_compLoop (prog := prog) (w := w) (k := k) (iter := iter) (pos := pos) (k.At' prog w D) (fun n s S E => CK.turn K S E) (k.items.length + 1) (s := { k.s₂ with heap := cHeap k.s₂.heap k.sc' })
    ⟨_, _, 0, [], [], _, rs, rfl, rfl, Nat.zero_le _, ⟨st, fun a o _ e => ce.keeps a o e, ce.list, rfl, Nat.le_refl _, ce.frm⟩, hrs, hR⟩
  exact codeAny_compStart_list lp (K.it.self 0 _ _ _ st lp)
end
end
end Mine

namespace Mine
noncomputable section
variable {prog : Program} {w : World} {D : Nat} {A : Around} {E : Value → Shared → Prop} {s s' : Shared} {mu : Addr → Prop} {sa : List Addr} {env : Env} {σ : SE} {Q : Value → Shared → Prop}

theorem no_star {e : Expr} (h : okForm e = true) {es : List Expr} {env : Env} : starEach (e :: es) env = (false, eval e env) :: starEach es env := by
  cases e <;> first | rfl | cases h
theorem no_slice {e : Expr} (h : okForm e = true) : ∀ a b c p, e ≠ .Slice a b c p := fun _ _ _ _ e' => by subst e'; cases h
theorem not_set {e : Expr} (h : okForm e = true) (env : Env) (x : Value) : foldedSetIterable e env x = pure x := by
  cases e <;> first | rfl | cases h
theorem not_marks {op : CmpOp} (h : okOp op = true) {e : Expr} (he : okForm e = true) : behindInMarks op e = false := by
  cases e <;> first | rfl | cases he

inductive AllS (prog : Program) (w : World) (D : Nat) (σ : SE) : List Expr → List AV → Prop
  | nil : AllS prog w D σ [] []
  | cons {e v es vs} (h : ES prog w D σ e v) (k : AllS prog w D σ es vs) : AllS prog w D σ (e :: es) (v :: vs)
noncomputable def allC (ev : (e : Expr) → Rz (ES prog w D σ e)) : (es : List Expr) → Rz (AllS prog w D σ es)
  | [] => ret [] .nil
  | e :: es => bnd (ev e) fun v => mapR (allC ev es) (v :: ·) fun _ k h => .cons h k
theorem AllS.run {es vs} (h : AllS prog w D σ es vs) {pos : Pos} : ∀ {s : Shared} {Q : List Value → Shared → Prop}, At w D σ A s mu sa env → (∀ us s', Keeps s s' → Vals mu sa s'.heap vs us → Q us s') → wpAny (model prog w) A (spliced (backTo pos (starEach es env))) Q E s := by
  induction h with
  | nil => intro s Q _ g; exact Calls.spliced_nil (g [] s (keeps_refl s) rfl)
  | cons h k ih =>
    intro s Q H g
    rw [no_star h.form]
    exact Calls.spliced_cons (h.run H fun u s₁ k₁ hu => ih (H.up k₁) fun us s₂ k₂ hus => g _ _ (kT k₁ k₂) ⟨u, us, rfl, hu.up (kH k₂), hus⟩)
theorem AllS.star {es vs} (h : AllS prog w D σ es vs) {pos : Pos} {env : Env} : (backTo pos (starEach es env)).any (·.1) = false := by
  induction h with
  | nil => rfl
  | cons h k ih => rw [no_star h.form]; exact ih
/-- the arguments, with at most one by name -/
structure ArgsS (prog : Program) (w : World) (D : Nat) (σ : SE) (es : List Expr) (ks : List Keyword) (vs : List AV) (us : List (Str × AV)) : Prop where
  pos : AllS prog w D σ es vs
  kw : (ks = [] ∧ us = []) ∨ ∃ n e p u, ks = [⟨some n, e, p⟩] ∧ us = [(n, u)] ∧ ES prog w D σ e u
theorem args_pos {es vs} (h : AllS prog w D σ es vs) {f : Value} {pos : Pos} {Q : Args → Shared → Prop} (H : At w D σ A s mu sa env) (g : ∀ us s', Keeps s s' → Vals mu sa s'.heap vs us → Q ⟨us, []⟩ s') : wpAny (model prog w) A (evalArgs f true (backTo pos (starEach es env)) []) Q E s := by
  have hs := h.run (prog := prog) (pos := pos) (E := E) (Q := fun us s' => Q ⟨us, []⟩ s') H g
  cases h with
  | nil => exact PySem.evalArgs_none (g [] s (keeps_refl s) rfl)
  | cons h k => rw [no_star h.form] at hs ⊢; exact Calls.evalArgs_plain hs
theorem args_kw {es vs} (h : AllS prog w D σ es vs) {n : Str} {e : Expr} {p : Pos} {u : AV} (he : ES prog w D σ e u) {f : Value} {pos : Pos} {Q : Args → Shared → Prop} (H : At w D σ A s mu sa env) (g : ∀ us x s', Keeps s s' → Vals mu sa s'.heap vs us → Val mu sa s'.heap u x → Q ⟨us, [(n, x)]⟩ s') :
    wpAny (model prog w) A (evalArgs f true (backTo pos (starEach es env)) (backToKw pos (keywordEach [⟨some n, e, p⟩] env))) Q E s := by
  have hk : ∀ us s₁, Keeps s s₁ → Vals mu sa s₁.heap vs us → wpAny (model prog w) A (evalAll ((backToKw pos (keywordEach [⟨some n, e, p⟩] env)).map (·.2))) (fun b s₂ => Q ⟨us, ((backToKw pos (keywordEach [⟨some n, e, p⟩] env)).filterMap (·.1)).zip b⟩ s₂) E s₁ := fun us s₁ k₁ hus => by
    refine wpAny_evalAll_cons (x := do let v ← eval e env; standAt pos; pure v) (wpAny_bind (he.run (H.up k₁) fun x s₂ k₂ hx => wpAny_bind (wpAny_standAt (wpAny_pure (wpAny_evalAll_nil ?_)))))
    exact g us x s₂ (kT k₁ k₂) (hus.up (kH k₂)) hx
  have hs := h.run (prog := prog) (pos := pos) (E := E) H hk
  cases h with
  | nil => exact evalArgs_kw_nil rfl (hk [] s (keeps_refl s) rfl)
  | cons h k => rw [no_star h.form] at hs ⊢; exact evalArgs_kw rfl hs
theorem ArgsS.run {es ks vs us} (h : ArgsS prog w D σ es ks vs us) {f : Value} {pos : Pos} {Q : Args → Shared → Prop} (H : At w D σ A s mu sa env) (g : ∀ a b s', Keeps s s' → Vals mu sa s'.heap vs a → Vals mu sa s'.heap (us.map (·.2)) b → Q ⟨a, (us.map (·.1)).zip b⟩ s') :
    wpAny (model prog w) A (evalArgs f true (backTo pos (starEach es env)) (backToKw pos (keywordEach ks env))) Q E s := by
  rcases h.kw with ⟨rfl, rfl⟩ | ⟨n, e, p, u, rfl, rfl, he⟩
  · exact args_pos h.pos H fun a s' k ha => g a [] s' k ha rfl
  · exact args_kw h.pos he H fun a x s' k ha hx => g a [x] s' k ha ⟨x, [], rfl, hx, rfl⟩
theorem ArgsS.kws {es ks vs us} (h : ArgsS prog w D σ es ks vs us) {pos : Pos} {env : Env} : (backToKw pos (keywordEach ks env)).any (·.1.isNone) = false := by
  rcases h.kw with ⟨rfl, rfl⟩ | ⟨n, e, p, u, rfl, rfl, he⟩ <;> rfl
noncomputable def argsC (ev : (e : Expr) → Rz (ES prog w D σ e)) (es : List Expr) : (ks : List Keyword) → Rz fun p : List AV × List (Str × AV) => ArgsS prog w D σ es ks p.1 p.2
  | [] => mapR (allC ev es) (fun vs => (vs, [])) fun _ h => ⟨h, .inl ⟨rfl, rfl⟩⟩
  | [⟨some n, e, p⟩] => bnd (allC ev es) fun vs => mapR (ev e) (fun u => (vs, [(n, u)])) fun u he h => ⟨h, .inr ⟨n, e, p, u, rfl, rfl, he⟩⟩
  | _ => none

/-- the contracts of the text's own defs and classes -/
noncomputable def FnS (prog : Program) (w : World) (D : Nat) (a : Addr) (as : List AV) (ks : List (Str × AV)) (r : AV) : Prop := ∀ {A : Around} {E : Value → Shared → Prop} {s : Shared} {mu : Addr → Prop} {Q : Value → Shared → Prop} {pos : Pos} {args : List (Bool × Sem Value)} {keywords : List (Option Str × Sem Value)}, Cx A D → BB w s.heap → MuIn mu s.heap →
      args.any (·.1) = false → keywords.any (·.1.isNone) = false →
      wpAny (model prog w) A (evalArgs (.ref a) true args keywords) (fun x s₁ => KeepH s.heap s₁.heap ∧ Vals mu [] s₁.heap as x.pos ∧ (∃ us, x.kw = (ks.map (·.1)).zip us ∧ Vals mu [] s₁.heap (ks.map (·.2)) us) ∧ Gives mu [] s₁ r Q) E s →
      wpAny (model prog w) A (callWith pos (.ref a) [] args keywords) Q E s
abbrev CFn (prog : Program) (w : World) (D : Nat) : Type := (a : Addr) → (as : List AV) → (ks : List (Str × AV)) → Rz (FnS prog w D a as ks)
/-- the contracts of methods -/
structure MethS (prog : Program) (w : World) (D : Nat) (x : AV) (m : Str) (as : List AV) (f : Addr) (r : AV) : Prop where
  get : ∀ {A : Around} {E : Value → Shared → Prop} {s : Shared} {mu : Addr → Prop} {u : Value} {pl : Sem Bool} {Q : Value × List Value → Shared → Prop}, BB w s.heap → Val mu [] s.heap x u → (∀ k, Q (.ref f, [u]) { s with toks := k }) → wpAny (model prog w) A (getMethod u m pl) Q E s
  call : ∀ {A : Around} {E : Value → Shared → Prop} {s : Shared} {mu : Addr → Prop} {u : Value} {Q : Value → Shared → Prop} {pos : Pos} {args : List (Bool × Sem Value)}, Cx A D → BB w s.heap → MuIn mu s.heap → Val mu [] s.heap x u → args.any (·.1) = false →
        wpAny (model prog w) A (evalArgs (.ref f) true args []) (fun y s₁ => KeepH s.heap s₁.heap ∧ y.kw = [] ∧ Vals mu [] s₁.heap as y.pos ∧ Gives mu [] s₁ r Q) E s →
        wpAny (model prog w) A (callWith pos (.ref f) [u] args []) Q E s
abbrev CMd (prog : Program) (w : World) (D : Nat) : Type := (x : AV) → (m : Str) → (as : List AV) → Rz fun r => ∃ f, MethS prog w D x m as f r

theorem call_value {f : Str} {fp pos : Pos} {es : List Expr} {vs : List AV} {c : Value} {v : AV} (hf : NameS prog w D σ f (.con c)) (h : AllS prog w D σ es vs) (hc : (∃ id, c = .builtin id) ∨ ∃ T, c = .type T) (hv : CallS prog w D σ c vs v) : ES prog w D σ (.Call (.Name f fp) es [] pos) v :=
  ⟨rfl, fun H g => wpAny_Call_Name_kw (hf.run H fun u s₁ k₁ hu => by
    cases hu
    have H₁ := H.up k₁
    rcases hc with ⟨id, rfl⟩ | ⟨T, rfl⟩
    · exact Calls.callWith_builtin h.star (args_pos h H₁ fun us s₂ k₂ hus => hv (H₁.up k₂) hus ((g.up k₁).up k₂))
    · exact PySem.callWith_type h.star (args_pos h H₁ fun us s₂ k₂ hus => hv (H₁.up k₂) hus ((g.up k₁).up k₂)))⟩
theorem call_fn {f : Str} {fp pos : Pos} {es : List Expr} {ks : List Keyword} {vs : List AV} {us : List (Str × AV)} {a : Addr} {v : AV} (hf : NameS prog w D σ f (.con (.ref a))) (h : ArgsS prog w D σ es ks vs us) (hv : FnS prog w D a vs us v) (n1 : noRefs vs = true) (n2 : noRefs (us.map (·.2)) = true) : ES prog w D σ (.Call (.Name f fp) es ks pos) v :=
  ⟨rfl, fun H g => wpAny_Call_Name_kw (hf.run H fun u s₁ k₁ hu => by
    cases hu
    have H₁ := H.up k₁
    exact hv H₁.C H₁.B H₁.O.muin h.pos.star h.kws (h.run H₁ fun a b s₂ k₂ ha hb => ⟨kH k₂, noRefs_vals n1 ha, ⟨b, rfl, noRefs_vals n2 hb⟩, ((g.up k₁).up k₂).noSa⟩))⟩
/-- a base that is no call -/
noncomputable def BaseOk (o : Expr) : Prop := ∀ (name : Str) (env : Env) (t : Sem Value), attributeBase o name env t = t
noncomputable def baseC : (o : Expr) → Option (PLift (BaseOk o))
  | .Name .. => some ⟨fun _ _ _ => rfl⟩
  | .Subscript .. => some ⟨fun _ _ _ => rfl⟩
  | _ => none
theorem call_meth {o : Expr} {m : Str} {ap pos : Pos} {es : List Expr} {x v : AV} {vs : List AV} {f : Addr} (ho : ES prog w D σ o x) (h : AllS prog w D σ es vs) (hm : MethS prog w D x m vs f v) (hb : BaseOk o) (n1 : noRef x = true) (n2 : noRefs vs = true) (hp : ap.endLine = pos.line) (hl : es.length < 20) : ES prog w D σ (.Call (.Attribute o m ap) es [] pos) v :=
  ⟨rfl, fun {A E s mu sa env Q} H g => by
    rw [arm_eval_Call, hb]
    refine wpAny_bind (ho.run H fun u s₁ k₁ hu => wpAny_bind (wpAny_standAt ?_))
    have H₁ := H.up k₁
    have hu' : Val mu [] s₁.heap x u := noRef_val n1 hu
    have hst := h.star (pos := pos) (env := env)
    have hform : methodCallForm (es.length + ([] : List Keyword).length) (backTo pos (starEach es env)) (backToKw pos (keywordEach [] env)) = true := by
      unfold methodCallForm
      rw [show (backTo pos (starEach es env)).all (fun y => !y.1) = true by rw [List.all_eq_not_any_not]; simpa using hst]
      show (true && true && decide (es.length + 0 + 0 < 30)) = true
      exact decide_eq_true (by omega)
    have hpos : methodCallPos true o env ap pos = pure pos := by unfold methodCallPos; rw [if_pos (by simp [hp])]
    unfold methodCall
    rw [hform]
    refine wpAny_bind (wpAny_holding (hm.get H₁.B hu' fun k => wpAny_bind (wpAny_of_eq hpos ?_)))
    have H₂ := H₁.up (keeps_tok s₁ k)
    exact hm.call H₂.C H₂.B H₂.O.muin hu' hst (args_pos h H₂ fun us s₃ k₃ hus => ⟨kH k₃, rfl, noRefs_vals n2 hus, ((g.up k₁).up (kT (keeps_tok s₁ k) k₃)).noSa⟩)⟩
noncomputable def asCon : (x : AV) → Option {c : Value // x = .con c}
  | .con c => some ⟨c, rfl⟩
  | _ => none
noncomputable def callNameC (ev : (e : Expr) → Rz (ES prog w D σ e)) (fn : CFn prog w D) (f : Str) (fp : Pos) (es : List Expr) (ks : List Keyword) (pos : Pos) : Rz (ES prog w D σ (.Call (.Name f fp) es ks pos)) :=
  bnd (nameC σ f) fun fv => match asCon fv with
    | none => none
    | some ⟨c, hc⟩ => match c, hc with
      | .builtin i, hc => match ks with
        | [] => bnd (allC ev es) fun vs => mapR (builtinC σ i vs) id fun _ h hvs hf => call_value (hc ▸ hf) hvs (.inl ⟨_, rfl⟩) h
        | _ => none
      | .type T, hc => match ks with
        | [] => bnd (allC ev es) fun vs => mapR (typeC σ T vs) id fun _ h hvs hf => call_value (hc ▸ hf) hvs (.inr ⟨_, rfl⟩) h
        | _ => none
      | .ref a, hc => bnd (argsC ev es ks) fun p => bnd (chk false (noRefs p.1 = true ∧ noRefs (p.2.map (·.2)) = true)) fun _ => mapR (fn a p.1 p.2) id fun _ h n hp hf => call_fn (hc ▸ hf) hp h n.1 n.2
      | _, _ => none
noncomputable def callMethC (ev : (e : Expr) → Rz (ES prog w D σ e)) (md : CMd prog w D) (o : Expr) (m : Str) (ap : Pos) (es : List Expr) (pos : Pos) : Rz (ES prog w D σ (.Call (.Attribute o m ap) es [] pos)) :=
  match baseC o with
  | none => none
  | some b => bnd (chk false (ap.endLine = pos.line ∧ es.length < 20)) fun _ => bnd (ev o) fun x => bnd (allC ev es) fun vs => bnd (chk false (noRef x = true ∧ noRefs vs = true)) fun _ =>
    mapR (md x m vs) id fun _ h n hvs hx k => let ⟨_, h⟩ := h; call_meth hx hvs h b.1 n.1 n.2 k.1 k.2
end
end Mine

namespace Mine
noncomputable section
variable {prog : Program} {w : World} {D : Nat} {A : Around} {E : Value → Shared → Prop} {s s' : Shared} {mu : Addr → Prop} {sa : List Addr} {env : Env} {σ : SE} {Q : Value → Shared → Prop}

-- attributes
noncomputable def cdOf (P : Params) : ClassData := match clsIn (KP P) 125 with | some c => c | none => { name := nm "", bases := [], mro := [], ns := 0, qualname := nm "" }
theorem cls_125 (P : Params) : clsIn (KP P) 125 = some (cdOf P) := by
  have h : (clsIn (KP P) 125).isSome = true := by kernel_rfl
  obtain ⟨c, hc⟩ := Option.isSome_iff_exists.mp h
  unfold cdOf
  rw [hc]
theorem cls_dict (P : Params) : (cdOf P).hasDict = true := by kernel_rfl
theorem cls_ga (P : Params) : findIn (KP P) (.ref 125) "__getattribute__" = some (some (.builtin "object.__getattribute__")) := by kernel_rfl
theorem cls_getattr (P : Params) : findIn (KP P) (.ref 125) "__getattr__" = some none := by kernel_rfl
theorem ns1_look {h : Heap} {a : Addr} {m : Str → Option Value} (N : h.Ns1 a m) : ∃ o, h.get? a = some o ∧ ∀ x, lookIn x o = some (m x) := by
  obtain ⟨o, es, ep, e, d, k, _, f⟩ := N
  refine ⟨o, e, fun x => ?_⟩
  have hr : es.toList.any (·.refKey) = false := by
    rw [List.any_eq_false]
    intro y hy
    obtain ⟨n, t, q⟩ := k y (Array.mem_def.mpr hy)
    unfold DictEntry.refKey
    rw [q]; exact Bool.false_ne_true
  have := f x
  unfold nsFind findBy at this
  rw [← Array.find?_toList] at this
  unfold lookIn
  rw [d]
  dsimp only
  rw [← this]
  cases q : es.toList.find? (fun e => e.key.isStr x) with
  | none => rw [hr]; rfl
  | some y => rfl
theorem find_own {P : Params} {name : Str} {v : Value} {o : Obj} (h2 : findIn (KP P) (.ref 125) name = some none) (h3 : lookIn name o = some (some v)) : findObj (KP P) 125 (some o) name = some (.value v) := by
  unfold findObj
  rw [cls_125, h2]
  dsimp only [Option.bind]
  unfold PySem.W.ownOf
  rw [cls_dict, if_pos rfl]
  dsimp only
  rw [h3]
/-- reading an attribute gives so -/
noncomputable def AttrS (prog : Program) (w : World) (D : Nat) (σ : SE) (x : AV) (a : Str) (v : AV) : Prop := ∀ {A : Around} {E : Value → Shared → Prop} {s : Shared} {mu : Addr → Prop} {sa : List Addr} {env : Env} {Q : Value → Shared → Prop} {u : Value}, At w D σ A s mu sa env → Val mu sa s.heap x u → Gives mu sa s v Q → wpAny (model prog w) A (getAttr u a true) Q E s
theorem inst_attr {raw : Str} {n nt : Int} {cnt : List Int} {b : Int} {sim : Bool} {a : Str} {v : AV} (hf : ∀ P, findIn (KP P) (.ref 125) a = some none)
    (hv : ∀ {mu h ad dx m tn tc cs} (sa : List Addr), WsAt mu h ad raw n nt cnt b sim dx m tn tc cs → ∃ u, m a = some u ∧ handedIn u = true ∧ Val mu sa h v u) : AttrS prog w D σ (.inst raw n nt cnt b sim) a v := fun {A E s mu sa env Q u} H hu g => by
  obtain ⟨ad, dx, m, tn, tc, cs, rfl, _, W⟩ := hu
  obtain ⟨u, h1, h2, h3⟩ := hv sa W
  obtain ⟨o, e1, e2⟩ := ns1_look W.ns
  obtain ⟨ox, q1, q2, q3, q4⟩ := W.ob
  exact get_value H.B.1 (show PySem.W.InstAt s.heap ad ox 125 (some o) from ⟨q1, q2, q4, by rw [q3]; exact e1⟩) (cls_ga _) (find_own (hf _) (by rw [e2, h1])) h2 (g _ _ (keeps_tok s _) h3)
noncomputable def strOf : Option CFound → Tok := fun x => match x with | some (.val (.str _ t)) => t | _ => 0
noncomputable def clsStr (a x : Str) : Prop := ∀ P, findCls (KP P) (.ref 125) (.type "type") a = some (.val (.str x (strOf (findCls (KP P) (.ref 125) (.type "type") a))))
theorem cls_reads (P : Params) : readsIn (KP P) 125 (.type "type") = true := by kernel_rfl
theorem cls_attr {a x : Str} (h : clsStr a x) : AttrS prog w D σ (.con (.ref 125)) a (.str x) := fun {A E s mu sa env Q u} H hu g => by
  cases hu
  exact cls_value H.B.1 (cls_reads _) (h _) rfl (g _ _ (keeps_tok s _) ⟨_, rfl⟩)
noncomputable def instC (σ : SE) (raw : Str) (n nt : Int) (cnt : List Int) (b : Int) (sim : Bool) (a : Str) : Rz (AttrS prog w D σ (.inst raw n nt cnt b sim) a) :=
  if h : a = nm "raw" then ret (.str raw) (h ▸ inst_attr (v := .str raw) (fun P => by kernel_rfl) fun sa W => W.raw.elim fun t e => ⟨_, e, rfl, t, rfl⟩)
  else if h : a = nm "n" then ret (.int true n) (h ▸ inst_attr (v := .int true n) (fun P => by kernel_rfl) fun sa W => W.n.elim fun t e => ⟨_, e, rfl, t, rfl⟩)
  else if h : a = nm "nt" then ret (.int true nt) (h ▸ inst_attr (v := .int true nt) (fun P => by kernel_rfl) fun sa W => W.nt.elim fun t e => ⟨_, e, rfl, t, rfl⟩)
  else if h : a = nm "norm" then ret (.tup [.tupI cnt, .int true b]) (h ▸ inst_attr (v := .tup [.tupI cnt, .int true b]) (fun P => by kernel_rfl) fun {mu h ad dx m tn tc cs} sa W => W.tn.elim fun t e => e.elim fun k e => W.tc.elim fun n e' => ⟨_, W.norm, rfl, tn, [.ref tc, .int b t], k, rfl, W.m2, e, _, _, rfl, ⟨tc, cs.toList, n, rfl, W.m3, e', W.are⟩, _, _, rfl, ⟨t, rfl⟩, rfl⟩)
  else if h : a = nm "is_simple" then ret (.bool true sim) (h ▸ inst_attr (v := .bool true sim) (fun P => by kernel_rfl) fun sa W => ⟨_, W.sim, rfl, rfl⟩)
  else none
noncomputable def attrC (σ : SE) : (x : AV) → (a : Str) → Rz (AttrS prog w D σ x a)
  | .inst raw n nt cnt b sim, a => instC σ raw n nt cnt b sim a
  | .con (.ref c), a => if hc : c = 125 then
      if h : a = nm "S" then ret (.str (nm " ")) (hc ▸ cls_attr (h ▸ fun P => by kernel_rfl))
      else if h : a = nm "T" then ret (.str (nm "\t")) (hc ▸ cls_attr (h ▸ fun P => by kernel_rfl))
      else none
    else none
  | _, _ => none
theorem Attribute_ok {value : Expr} {attr : Str} {pos : Pos} (hb : BaseOk value)
    (h : wpAny (model prog w) A (eval value env) (fun o s₁ => wpAny (model prog w) A (getAttr o attr true) Q E s₁) E s) :
    wpAny (model prog w) A (eval (.Attribute value attr pos) env) Q E s := by
  have he : eval (.Attribute value attr pos) env = (do
      let o ← attributeBase value attr env (eval value env)
      standAt pos.atName
      let r ← holding [o] (getAttr o attr true)
      letTemporaryGo value o r
      pure r) := rfl
  rw [hb] at he
  exact Attribute_any_ h he

-- tests
noncomputable def PlainT (e : Expr) : Prop := ∀ (env : Env) (t : Sem Value), isTrue e env t = (do let v ← t; standAt e.pos; holding [v] (truthy v))
theorem isTrue_val {e : Expr} {b : Bool} {y : Bool} (he : PlainT e) (h : ES prog w D σ e (.bool y b)) : TS prog w D σ e b := fun {A E s mu sa env Q} H g =>
  wpAny_isTrue_value (h.run H fun v s' k hv => by cases hv; exact wpAny_truthy_bool (g s' k)) (he _ _)
theorem test_cmp {op : CmpOp} {l r : Expr} {p : Pos} {x y : AV} {f b : Bool} (hl : ES prog w D σ l x) (hr : ES prog w D σ r y) (h : okOp op = true ∧ CmpS prog w D σ op x y (.bool f b)) : TS prog w D σ (.Compare l [op] [r] p) b := fun H g =>
  wpAny_isTrue_Compare1 (hl.run H fun u s₁ k₁ hu => hr.run (H.up k₁) fun u2 s₂ k₂ hu2 => h.2 ((H.up k₁).up k₂) (hu.up (kH k₂)) hu2 fun u3 s₃ k₃ hu3 => by cases hu3; exact wpAny_truthy_bool (g _ (kT k₁ (kT k₂ k₃)))) (not_marks h.1 hr.form)
theorem test_and {a b : Expr} {p : Pos} {x y : Bool} (ha : TS prog w D σ a x) (hb : TS prog w D σ b y) : TS prog w D σ (.BoolOp .And [a, b] p) (x && y) := fun H g =>
  wpAny_isTrue_BoolOp (wpAny_allTrue_And_cons (ha H fun s₁ k₁ => by
    cases x with
    | false => exact g s₁ k₁
    | true => exact wpAny_allTrue_And_cons (hb (H.up k₁) fun s₂ k₂ => by
        cases y with
        | false => exact g s₂ (kT k₁ k₂)
        | true => exact wpAny_allTrue_And_nil (g s₂ (kT k₁ k₂)))))
theorem test_or {a b : Expr} {p : Pos} {x y : Bool} (ha : TS prog w D σ a x) (hb : TS prog w D σ b y) : TS prog w D σ (.BoolOp .Or [a, b] p) (x || y) := fun H g =>
  wpAny_isTrue_BoolOp (wpAny_allTrue_Or_cons (ha H fun s₁ k₁ => by
    cases x with
    | true => exact g s₁ k₁
    | false => exact wpAny_allTrue_Or_cons (hb (H.up k₁) fun s₂ k₂ => by
        cases y with
        | true => exact g s₂ (kT k₁ k₂)
        | false => exact wpAny_allTrue_Or_nil (g s₂ (kT k₁ k₂)))))
noncomputable def asBool : (x : AV) → Option {p : Bool × Bool // x = .bool p.1 p.2}
  | .bool y b => some ⟨(y, b), rfl⟩
  | _ => none
abbrev TSq (prog : Program) (w : World) (D : Nat) (σ : SE) (e : Expr) (q : Bool × Bool) : Prop := TS prog w D σ e q.2
noncomputable def test1C (ev : (e : Expr) → Rz (ES prog w D σ e)) : (e : Expr) → Rz (TSq prog w D σ e)
  | .Compare l [op] [r] p => bnd (ev l) fun x => bnd (ev r) fun y => bnd (cmpC σ op x y) fun v => match asBool v with
    | some q => ret q.1 fun h hr hl => test_cmp hl hr ⟨h.1, q.2 ▸ h.2⟩
    | none => none
  | .Name n p => bnd (ev (.Name n p)) fun v => match asBool v with
    | some q => ret q.1 fun h => isTrue_val (fun _ _ => rfl) (q.2 ▸ h)
    | none => none
  | .Call f as ks p => bnd (ev (.Call f as ks p)) fun v => match asBool v with
    | some q => ret q.1 fun h => isTrue_val (fun _ _ => rfl) (q.2 ▸ h)
    | none => none
  | .Attribute o a p => bnd (ev (.Attribute o a p)) fun v => match asBool v with
    | some q => ret q.1 fun h => isTrue_val (fun _ _ => rfl) (q.2 ▸ h)
    | none => none
  | _ => none
noncomputable def testC (ev : (e : Expr) → Rz (ES prog w D σ e)) : (e : Expr) → Rz (TSq prog w D σ e)
  | .BoolOp .And [a, b] p => bnd (test1C ev a) fun x => mapR (test1C ev b) (fun y => (x.1 || y.1, x.2 && y.2)) fun _ hb ha => test_and ha hb
  | .BoolOp .Or [a, b] p => bnd (test1C ev a) fun x => mapR (test1C ev b) (fun y => (x.1 || y.1, x.2 || y.2)) fun _ hb ha => test_or ha hb
  | e => test1C ev e

-- the rules
noncomputable def JoinS (c : Bool) (x y v : AV) : Prop := ∀ {mu : Addr → Prop} {sa : List Addr} {h : Heap} {u : Value}, Val mu sa h (if c then x else y) u → Val mu sa h v u
noncomputable def joinC (c : Bool) : (x y : AV) → {v : AV // JoinS c x y v}
  | .int _ a, .int _ b => ⟨.int true (if c then a else b), fun e => by cases c <;> exact e⟩
  | .bool _ a, .bool _ b => ⟨.bool true (if c then a else b), fun e => by cases c <;> exact e⟩
  | x, y => ⟨if c then x else y, fun e => e⟩
theorem r_bin {op : Operator} {l r : Expr} {p : Pos} {x y v : AV} (hl : ES prog w D σ l x) (hr : ES prog w D σ r y) (h : BinS prog w D σ op x y v) : ES prog w D σ (.BinOp l op r p) v :=
  ⟨rfl, fun H g => wpAny_BinOp (hl.run H fun u s₁ k₁ hu => hr.run (H.up k₁) fun u2 s₂ k₂ hu2 => h ((H.up k₁).up k₂) (hu.up (kH k₂)) hu2 ((g.up k₁).up k₂))⟩
theorem r_cmp {op : CmpOp} {l r : Expr} {p : Pos} {x y v : AV} (hl : ES prog w D σ l x) (hr : ES prog w D σ r y) (h : okOp op = true ∧ CmpS prog w D σ op x y v) : ES prog w D σ (.Compare l [op] [r] p) v :=
  ⟨rfl, fun H g => wpAny_Compare1 (hl.run H fun u s₁ k₁ hu => hr.run (H.up k₁) fun u2 s₂ k₂ hu2 => h.2 ((H.up k₁).up k₂) (hu.up (kH k₂)) hu2 ((g.up k₁).up k₂)) (not_marks h.1 hr.form)⟩
theorem r_if {t a b : Expr} {p : Pos} {c : Bool} {v : AV} (ht : TS prog w D σ t c) (h : ∀ {A E s mu sa env Q}, At w D σ A s mu sa env → Gives mu sa s v Q → (if c then wpAny (model prog w) A (eval a env) Q E s else wpAny (model prog w) A (eval b env) Q E s)) : ES prog w D σ (.IfExp t a b p) v :=
  ⟨rfl, fun H g => wpAny_IfExp (ht H fun s₁ k₁ => h (H.up k₁) (g.up k₁))⟩
theorem r_join {t a b : Expr} {p : Pos} {c : Bool} {x y v : AV} (ht : TS prog w D σ t c) (ha : ES prog w D σ a x) (hb : ES prog w D σ b y) (h : JoinS c x y v) : ES prog w D σ (.IfExp t a b p) v :=
  r_if ht fun H g => by
    cases c with
    | true => exact ha.run H fun u s k hu => g u s k (h hu)
    | false => exact hb.run H fun u s k hu => g u s k (h hu)
theorem r_list {es : List Expr} {p : Pos} {vs : List AV} (h : AllS prog w D σ es vs) (hn : vs.length ≤ 64) : ES prog w D σ (.List es p) (.lst vs) :=
  ⟨rfl, fun H g => wpAny_List (h.run H fun us s₁ k₁ hus => ⟨by have := hus.length; rw [sizeLine_eq]; omega, (g.up k₁).lst (H.up k₁).O.muin hus _⟩)⟩
theorem r_tuple {es : List Expr} {k : Nat} {p : Pos} {vs : List AV} (h : AllS prog w D σ es vs) (hn : vs.length ≤ 64) : ES prog w D σ (.Tuple es k p) (.tup vs) :=
  ⟨rfl, fun H g => wpAny_Tuple (h.run H fun us s₁ k₁ hus => ⟨by have := hus.length; rw [sizeLine_eq]; omega, (g.up k₁).tup (H.up k₁).O.muin hus _⟩)⟩
theorem r_attr {o : Expr} {a : Str} {p : Pos} {x v : AV} (hb : BaseOk o) (ho : ES prog w D σ o x) (h : AttrS prog w D σ x a v) : ES prog w D σ (.Attribute o a p) v :=
  ⟨rfl, fun H g => Attribute_ok hb (ho.run H fun u s₁ k₁ hu => h (H.up k₁) hu (g.up k₁))⟩
theorem Subscript_any {value slice : Expr} {pos : Pos} (hns : ∀ a b c p, slice ≠ .Slice a b c p)
    (h : wpAny (model prog w) A (eval value env) (fun o s₁ => wpAny (model prog w) A (eval slice env) (fun i s₂ => SubscriptOn (model prog w) A o i Q E s₂) E s₁) E s) :
    wpAny (model prog w) A (eval (.Subscript value slice pos) env) Q E s := by
  rw [eval_Subscript]
  refine wpAny_bind (wpAny_mono h (fun o s₁ h₁ => wpAny_bind (wpAny_holding (wpAny_mono h₁ (fun i s₂ h₂ => wpAny_bind (wpAny_standAt ?_)) fun _ _ x => x)))
    fun _ _ x => x)
  obtain ⟨T, id, hl, hT, hg⟩ := h₂
  refine wpAny_bind ?_
  rw [getitemInPython_of_ne hT.not_modules]
  refine wpAny_bind (wpAny_specialOf hT hl ?_)
  have fin : wpAny (model prog w) A (operate [o, i] (getItem o i)) (fun r s₃ => wpAny (model prog w) A (letTemporaryGo value o r >>= fun _ => pure r) Q E s₃) E s₂ :=
    wpAny_operating (wpAny_mono hg (fun r s₃ h₃ => wpAny_bind (wpAny_letTemporaryGo (wpAny_pure h₃))) fun _ _ x => x)
  have e : subscripted slice false o i = operate [o, i] (getItem o i) := by
    cases slice <;> first | rfl | exact absurd rfl (hns _ _ _ _)
  rw [← e] at fin
  exact wpAny_pure (wpAny_bind fin)
theorem r_item {o i : Expr} {p : Pos} {x k v : AV} (ho : ES prog w D σ o x) (hi : ES prog w D σ i k) (h : ItemS prog w D σ x k v) : ES prog w D σ (.Subscript o i p) v :=
  ⟨rfl, fun H g => Subscript_any (no_slice hi.form) (ho.run H fun u s₁ k₁ hu => hi.run (H.up k₁) fun u2 s₂ k₂ hu2 => h ((H.up k₁).up k₂) (hu.up (kH k₂)) hu2 ((g.up k₁).up k₂))⟩
theorem slice_end {h : Heap} {o1 : Obj} {ws : List Value} {l : List AV} {s₁ : Shared} (H : MuIn mu s₁.heap) (hv : Vals mu sa s₁.heap l ws) (g : Gives mu sa s₁ (.lst l) Q) : Q (.ref (s₁.heap.objs.size + 1)) { s₁ with heap := (s₁.heap.push o1).push { cls := .type "list", data := .seq ws.toArray } } := by
  have k : KeepH s₁.heap ((s₁.heap.push o1).push { cls := .type "list", data := .seq ws.toArray }) := (KeepH.push _ _).trans (KeepH.push _ _)
  refine g _ _ (keeps_heap s₁ k _) ⟨_, ws, rfl, H.fresh (Heap.get?_none_of_le (Nat.le_succ _)), ⟨0, ?_⟩, hv.up k⟩
  have := Heap.get?_push_size (h := s₁.heap.push o1) (o := { cls := .type "list", data := .seq ws.toArray }) rfl
  rw [Heap.size_push] at this
  exact this
theorem r_upto {nn : Str} {np : Pos} {b : Nat} {k1 : Nat} {p1 p0 pos : Pos} {x : AV} {l : List AV} (ho : ES prog w D σ (.Name nn np) x) (hl : ListIs σ.ob x l) (hn : l.length ≤ 4096) : ES prog w D σ (.Subscript (.Name nn np) (.Slice none (some (.Constant (.int b) k1 p1)) none p0) pos) (.lst (l.take b)) :=
  ⟨rfl, fun {A E s mu sa env Q} H g => wpAny_Subscript_list_slice (ho.run H fun u s₁ k₁ hu => by
    obtain ⟨a, ws, rfl, hp, hv⟩ := hl (H.up k₁).O.objs hu
    rw [evalPart_none, evalPart_some]
    refine wpAny_pure (wpAny_Constant_int ⟨a, ws.toArray, none, some (b : Int), rfl, hp.isList, by rw [List.size_toArray, hv.length, sizeLine_eq]; omega, .none, .int _ _, ?_⟩)
    rw [slicePick_upto']
    have := slice_end (h := s₁.heap) (o1 := { cls := .type "slice", data := .fields #[.none, .int b s₁.toks, .none] }) ((H.up k₁).up (keeps_tok s₁ (s₁.toks + 1))).O.muin (s₁ := { s₁ with toks := s₁.toks + 1 }) (hv.take b) ((g.up k₁).up (keeps_tok s₁ _))
    simpa using this)⟩
end
end Mine

namespace Mine
noncomputable section
variable {prog : Program} {w : World} {D : Nat} {A : Around} {E : Value → Shared → Prop} {s s' : Shared} {mu : Addr → Prop} {sa : List Addr} {env : Env} {σ : SE} {Q : Value → Shared → Prop}

theorem r_from {nn : Str} {np : Pos} {a b : Nat} {k0 k1 : Nat} {p1 p2 p0 pos : Pos} {x : AV} {l : List AV} (ho : ES prog w D σ (.Name nn np) x) (hl : ListIs σ.ob x l) (hn : l.length ≤ 4096 ∧ a ≤ b ∧ b ≤ l.length) : ES prog w D σ (.Subscript (.Name nn np) (.Slice (some (.Constant (.int a) k0 p1)) (some (.Constant (.int b) k1 p2)) none p0) pos) (.lst ((l.drop a).take (b - a))) :=
  ⟨rfl, fun {A E s mu sa env Q} H g => wpAny_Subscript_list_slice (ho.run H fun u s₁ k₁ hu => by
    obtain ⟨d, ws, rfl, hp, hv⟩ := hl (H.up k₁).O.objs hu
    have hlen := hv.length
    rw [evalPart_some, evalPart_some]
    refine wpAny_Constant_int (wpAny_Constant_int ⟨d, ws.toArray, some (a : Int), some (b : Int), rfl, hp.isList, by rw [List.size_toArray, hlen, sizeLine_eq]; omega, .int _ _, .int _ _, ?_⟩)
    rw [slicePick_run _ _ _ (by rw [List.size_toArray]; omega) hn.2.1]
    have kk := keeps_tok s₁ (s₁.toks + 1 + 1)
    have := slice_end (s₁ := { s₁ with toks := s₁.toks + 1 + 1 }) (h := s₁.heap) (o1 := { cls := .type "slice", data := .fields #[.int a s₁.toks, .int b (s₁.toks + 1), .none] }) ((H.up k₁).up kk).O.muin ((hv.drop a).take (b - a)) ((g.up k₁).up kk)
    simpa using this)⟩

-- comprehensions
noncomputable def CompS (prog : Program) (w : World) (D : Nat) (σ : SE) (elt t it : Expr) (ifs : List Expr) (sc' : Scope) (pos : Pos) (l : List AV) : Prop := ∀ {A : Around} {E : Value → Shared → Prop} {s : Shared} {mu : Addr → Prop} {sa : List Addr} {env : Env} {Q : Value → Shared → Prop} {use : Option (Value → Sem Unit)}, At w D σ A s mu sa env →
  (∀ mu' L K h' tk ys, CompEnd mu mu' sa s.heap h' L K l ys → compPost (model prog w) A E use Q (.ref L) K (.ok .next) { s with heap := h', toks := tk }) →
    wpAny (model prog w) A (comprehension (.ListComp elt [⟨t, it, ifs, 0⟩] sc' pos) sc' env (firstIterPos [⟨t, it, ifs, 0⟩] pos) (newList []) (firstAsync [⟨t, it, ifs, 0⟩]) (firstIter [⟨t, it, ifs, 0⟩] env) use) Q E s
theorem CompEnd.back {mu mu' : Addr → Prop} {sa : List Addr} {h0 h h' : Heap} {L K : Addr} {l : List AV} {ys : List Value} (k : KeepH h0 h) (c : CompEnd mu mu' sa h h' L K l ys) : CompEnd mu mu' sa h0 h' L K l ys := ⟨c.hK, c.out, k.trans c.keeps, c.pl, c.vs, c.Lmu, k.none c.Ln, k.none c.Kn, c.ne, c.ns⟩
theorem comp_is {elt t it : Expr} {ifs : List Expr} {sc' : Scope} {pos : Pos} {x : AV} {items : List AV} {rs : List (Bool × AV)} (hx : ES prog w D σ it x) (hi : IterS σ.ob x items) (ht : OkT t) (ft : Fits σ.sc sc' (namesT t)) (hn : items.length ≤ 4096) (hr : ItemsOk prog w D σ sc' t ifs elt items rs) : CompS prog w D σ elt t it ifs sc' pos (outB rs) := by
  intro A E s mu sa env Q use H g
  refine wpAny_comprehension_free (g := ⟨t, it, ifs, 0⟩) (gs := []) rfl (fun x => not_set hx.form env x) (closureFor_is fun p hp hpf => out_cell H.O ft ?_) ft.kind (fun p hp hl => (ft.uniq p hp).trans (congrArg some hl)) (hx.run H fun u s₁ k₁ hu => ?_)
  · rw [ft.uniq p hp, hpf]
  · have H₁ := H.up k₁
    refine hi H₁.C ht H₁.O.objs hu fun I fp wr St Mid h₂ It _ => ?_
    refine CK.whole (k := ⟨σ, env, sc', t, elt, ifs, s₁.heap, { s₁ with heap := h₂ }, I, fp, wr, St, Mid, mu, sa, A, items, compPost (model prog w) A E use Q (.ref h₂.objs.size) (h₂.objs.size + 1)⟩) (RR := compPost (model prog w) A E use Q) ⟨H₁.C, H₁.B, H₁.O, ft, It, hn⟩ hr rfl fun h₁ tk₁ ys₁ c => ?_
    have := g _ _ _ h₁ tk₁ ys₁ (c.back (kH k₁))
    obtain ⟨h0, tk0, rfl, _⟩ := k₁
    exact this
theorem r_comp {elt t it : Expr} {ifs : List Expr} {sc' : Scope} {pos : Pos} {l : List AV} (h : CompS prog w D σ elt t it ifs sc' pos l) : ES prog w D σ (.ListComp elt [⟨t, it, ifs, 0⟩] sc' pos) (.lst l) :=
  ⟨rfl, fun {A E s mu sa env Q} H g => by
    rw [eval_ListComp]
    refine h H fun mu' L K h' tk ys c => ⟨_, c.ns.choose_spec, fun h'' hs => ?_⟩
    have k2 : KeepH s.heap h'' := fun a o e => hs.extBut a o (fun e' => by subst e'; exact nomatch c.Kn.symm.trans e) (c.keeps a o e)
    exact g _ _ (keeps_heap s k2 tk) ⟨L, ys, rfl, c.Lmu, PlainList.kept c.pl fun o e => hs.extBut L o (fun e' => c.ne e'.symm) e, c.vs.to ⟨fun a o ha e => hs.extBut a o (fun e' => ha (e' ▸ c.hK)) e, fun a _ ha => c.out a ha⟩⟩⟩
noncomputable def ifsC (ev : (e : Expr) → Rz (ES prog w D σ e)) : (ifs : List Expr) → Rz (IfsS prog w D σ ifs)
  | [] => ret true (.inl ⟨rfl, rfl⟩)
  | [c] => mapR (testC ev c) (·.2) fun _ h => .inr ⟨c, rfl, h⟩
  | _ => none
noncomputable def itemOkC (ev : (σ : SE) → (e : Expr) → Rz (ES prog w D σ e)) (σ : SE) (sc' : Scope) (t : Expr) (ifs : List Expr) (elt : Expr) (x : AV) : Rz (ItemOk prog w D σ sc' t ifs elt x) := match takeC t x with
  | none => none
  | some b => bnd (ifsC (ev ⟨sc', b.1 ++ freeIn sc' σ.vs, σ.ob⟩) ifs) fun q => mapR (ev ⟨sc', b.1 ++ freeIn sc' σ.vs, σ.ob⟩ elt) (fun v => (q, v)) fun _ h hq => ⟨b.1, b.2, hq, h⟩
noncomputable def itemsOkC (ev : (σ : SE) → (e : Expr) → Rz (ES prog w D σ e)) (σ : SE) (sc' : Scope) (t : Expr) (ifs : List Expr) (elt : Expr) : (items : List AV) → Rz (ItemsOk prog w D σ sc' t ifs elt items)
  | [] => ret [] .nil
  | x :: l => bnd (itemOkC ev σ sc' t ifs elt x) fun p => mapR (itemsOkC ev σ sc' t ifs elt l) (p :: ·) fun _ k h => .cons h k
noncomputable def tgtC : (t : Expr) → Option (PLift (OkT t))
  | .Name .. => some ⟨.inl ⟨_, _, rfl⟩⟩
  | .Tuple .. => some ⟨.inr ⟨_, _, _, rfl⟩⟩
  | _ => none
noncomputable def compC (ev : (σ : SE) → (e : Expr) → Rz (ES prog w D σ e)) (σ : SE) (elt t it : Expr) (ifs : List Expr) (sc' : Scope) (pos : Pos) : Rz (CompS prog w D σ elt t it ifs sc' pos) := match tgtC t, fitsC σ.sc sc' (namesT t) with
  | some ht, some ft => bnd (ev σ it) fun x => match itemsC σ.ob x with
    | none => none
    | some items => bnd (chk false (items.1.length ≤ 4096)) fun _ => mapR (itemsOkC ev σ sc' t ifs elt items.1) outB fun _ hr hn hx => comp_is hx items.2 ht.1 ft.1 hn hr
  | _, _ => none
noncomputable def subC' (ev : (e : Expr) → Rz (ES prog w D σ e)) (o i : Expr) (p : Pos) : Rz (ES prog w D σ (.Subscript o i p)) := bnd (ev o) fun x => bnd (ev i) fun k => mapR (itemC σ x k) id fun _ h hi ho => r_item ho hi h
noncomputable def subscrC (ev : (e : Expr) → Rz (ES prog w D σ e)) (p : Pos) : (o i : Expr) → Rz (ES prog w D σ (.Subscript o i p))
  | .Name nn np, .Slice none (some (.Constant (.int (.ofNat b)) k1 p1)) none p0 => bnd (ev (.Name nn np)) fun x => match listC σ.ob x with
    | some l => mapR (chk false (l.1.length ≤ 4096)) (fun _ => .lst (l.1.take b)) fun _ hn ho => r_upto ho l.2 hn
    | none => none
  | .Name nn np, .Slice (some (.Constant (.int (.ofNat a)) k0 p1)) (some (.Constant (.int (.ofNat b)) k1 p2)) none p0 => bnd (ev (.Name nn np)) fun x => match listC σ.ob x with
    | some l => mapR (chk false (l.1.length ≤ 4096 ∧ a ≤ b ∧ b ≤ l.1.length)) (fun _ => .lst ((l.1.drop a).take (b - a))) fun _ hn ho => r_from ho l.2 hn
    | none => none
  | o, i => subC' ev o i p
noncomputable def ifC (ev : (e : Expr) → Rz (ES prog w D σ e)) (t a b : Expr) (p : Pos) : Rz (ES prog w D σ (.IfExp t a b p)) := bnd (testC ev t) fun q => match q with
  | (true, c) => bnd (ev a) fun x => bnd (ev b) fun y => ret (joinC c x y).1 fun hb ha ht => r_join ht ha hb (joinC c x y).2
  | (false, true) => mapR (ev a) id fun _ ha ht => r_if ht fun H g => ha.run H g
  | (false, false) => mapR (ev b) id fun _ hb ht => r_if ht fun H g => hb.run H g
noncomputable def evC (fn : CFn prog w D) (md : CMd prog w D) : (n : Nat) → (σ : SE) → (e : Expr) → Rz (ES prog w D σ e)
  | 0, _, _ => none
  | n + 1, σ, e => match e with
    | .Constant k a p => mapR (constC σ k) id fun _ h => h
    | .Name id p => mapR (nameC σ id) (fun v => v) fun _ h => h
    | .BinOp l op r p => bnd (evC fn md n σ l) fun a => bnd (evC fn md n σ r) fun b => mapR (binC σ op a b) id fun _ h hb ha => r_bin ha hb h
    | .IfExp t a b p => ifC (evC fn md n σ) t a b p
    | .Compare l [op] [r] p => bnd (evC fn md n σ l) fun a => bnd (evC fn md n σ r) fun b => mapR (cmpC σ op a b) id fun _ h hb ha => r_cmp ha hb h
    | .List es p => bnd (allC (evC fn md n σ) es) fun vs => mapR (chk false (vs.length ≤ 64)) (fun _ => .lst vs) fun _ hn h => r_list h hn
    | .Tuple es k p => bnd (allC (evC fn md n σ) es) fun vs => mapR (chk false (vs.length ≤ 64)) (fun _ => .tup vs) fun _ hn h => r_tuple h hn
    | .Attribute o a p => match baseC o with
      | some hb => bnd (evC fn md n σ o) fun x => mapR (attrC σ x a) id fun _ h ho => r_attr hb.1 ho h
      | none => none
    | .Subscript o i p => subscrC (evC fn md n σ) p o i
    | .Call (.Name f fp) es ks p => callNameC (evC fn md n σ) fn f fp es ks p
    | .Call (.Attribute o m ap) es [] p => callMethC (evC fn md n σ) md o m ap es p
    | .ListComp elt [⟨t, it, ifs, 0⟩] sc' p => mapR (compC (evC fn md n) σ elt t it ifs sc' p) .lst fun _ h => r_comp h
    | _ => none
end
end Mine

namespace Mine
noncomputable section
variable {prog : Program} {w : World} {D : Nat} {A : Around} {E : Value → Shared → Prop} {s s' : Shared} {sa : List Addr} {σ : SE} {h h' : Heap} {ob : Obs} {b : Str → Option Value}

/-- a frame and what is kept about it: Kp stands for good, mu0 may be written from outside -/
structure Fx where
  Kp : Addr → Obj → Prop
  mu0 : Addr → Prop
  env : Env
  own : List Str
abbrev Fx.at_ (F : Fx) : Addr → Prop := frameAt F.env F.own
/-- what a frame may write -/
noncomputable def wrs (F : Fx) (sa : List Addr) (ob : Obs) (a : Addr) : Prop := F.at_ a ∨ ∃ (i : Nat) (l : List AV), sa[i]? = some a ∧ ob[i]? = some (some l)
noncomputable def muOf (F : Fx) (sa : List Addr) (ob : Obs) (a : Addr) : Prop := F.mu0 a ∨ wrs F sa ob a
structure FnE (F : Fx) (sc : Scope) : Prop where
  kind : F.env.scope.kind = .function
  globals : F.env.globals = mainGlobals
  builtins : F.env.builtins = builtinsNs
  names : ∀ x k, sc.names.lookup x = some k → F.env.kindOf x = some k
  owned : ∀ x k, sc.names.lookup x = some k → varK k → x ∈ F.own
  cells : ∀ x, F.env.kindOf x = some .cell ∨ F.env.kindOf x = some .free → ∃ c, F.env.cells.lookup x = some c
  func : F.env.blockKind = .function
  quiet : interactive F.env = false
/-- the addresses of a frame, and what stands -/
structure Lay (w : World) (F : Fx) (sa : List Addr) (ob : Obs) (h : Heap) : Prop where
  len : sa.length = ob.length
  inj : ∀ (i j : Nat) (a : Addr), sa[i]? = some a → sa[j]? = some a → i = j
  off : ∀ (i : Nat) (a : Addr), sa[i]? = some a → ¬ F.at_ a
  live : ∀ (i : Nat) (a : Addr), sa[i]? = some a → Lives h a
  new : ∀ a, wrs F sa ob a → (∀ o, ¬ F.Kp a o) ∧ ¬ F.mu0 a
  keep : ∀ b o, F.Kp b o → h.get? b = some o
  top : ∀ h', (∀ b o, F.Kp b o → h'.get? b = some o) → BB w h'
  old : ∀ a, F.mu0 a → Lives h a
  sa0 : ∀ (i : Nat) (a : Addr), sa[i]? = some a → ¬ F.mu0 a
structure St1 (w : World) (F : Fx) (σ : SE) (h : Heap) (sa : List Addr) (b : Str → Option Value) : Prop where
  frm : Frm F.env F.own h b
  vars : ∀ x ∈ F.own, ∀ v, σ.vs.lookup x = some v → ∃ u, b x = some u ∧ Val (muOf F sa σ.ob) sa h v u
  objs : OOk (muOf F sa σ.ob) sa σ.ob h
  lay : Lay w F sa σ.ob h
noncomputable def St (w : World) (F : Fx) (σ : SE) (h : Heap) : Prop := ∃ sa b, St1 w F σ h sa b
variable {F : Fx}
theorem Lay.move (y : Lay w F sa ob h) (lv : ∀ a, Lives h a → Lives h' a) (kp : ∀ a o, F.Kp a o → h.get? a = some o → h'.get? a = some o) : Lay w F sa ob h' where
  len := y.len
  inj := y.inj
  off := y.off
  live := fun i a e => lv a (y.live i a e)
  new := y.new
  keep := fun a o e => kp a o e (y.keep a o e)
  top := y.top
  old := fun a e => lv a (y.old a e)
  sa0 := y.sa0
theorem St1.muin (S : St1 w F σ h sa b) : MuIn (muOf F sa σ.ob) h := fun a ha => by
  rcases ha with e | e | ⟨i, l, e, _⟩
  · exact S.lay.old a e
  · exact S.frm.live e
  · exact S.lay.live i a e
theorem St1.eok (S : St1 w F σ h sa b) (N : FnE F σ.sc) : EOk (muOf F sa σ.ob) sa F.env σ h where
  kind := N.kind
  globals := N.globals
  builtins := N.builtins
  names := fun x k e => .inl (N.names x k e)
  vars := fun x k v e hk hv => (S.vars x (N.owned x k e hk) v hv).imp fun u p => ⟨p.2, S.frm.loads (N.owned x k e hk) p.1⟩
  objs := S.objs
  muin := S.muin
  cells := N.cells
theorem St1.isB (S : St1 w F σ h sa b) : BB w h := S.lay.top h S.lay.keep
theorem St1.at_ (S : St1 w F σ s.heap sa b) (N : FnE F σ.sc) (C : Cx A D) : At w D σ A s (muOf F sa σ.ob) sa F.env := ⟨C, S.isB, S.eok N⟩
theorem St1.up (k : KeepH h h') (S : St1 w F σ h sa b) : St1 w F σ h' sa b where
  frm := S.frm.up k
  vars := fun x hx v e => (S.vars x hx v e).imp fun u p => ⟨p.1, p.2.up k⟩
  objs := S.objs.to (.of k) k
  lay := S.lay.move (fun a e => e.up k) fun a o _ e => k a o e
/-- what a frame writes -/
structure Step (F : Fx) (sa : List Addr) (ob : Obs) (h h' : Heap) : Prop where
  keep : ∀ a o, ¬ wrs F sa ob a → h.get? a = some o → h'.get? a = some o
  live : ∀ a, Lives h a → Lives h' a
theorem Step.later (k : Step F sa ob h h') : Later (muOf F sa ob) (muOf F sa ob) h h' := .but fun a o ha e => k.keep a o (fun e' => ha (.inr e')) e
theorem Lay.step (y : Lay w F sa ob h) (k : Step F sa ob h h') : Lay w F sa ob h' := y.move k.live fun a o e p => k.keep a o (fun hw => (y.new a hw).1 o e) p
theorem Wrote.step (k : Wrote F.env F.own h h') : Step F sa ob h h' := ⟨fun a o ha e => k.keep a o (fun e' => ha (.inl e')) e, k.live⟩

/-- names are written -/
theorem St1.puts {bs : List (Str × AV)} {b1 : Str → Option Value} (S : St1 w F σ h sa b) (Fr : Frm F.env F.own h' b1) (W : Wrote F.env F.own h h') (Bd : Bound (muOf F sa σ.ob) sa h bs b b1) : St1 w F ⟨σ.sc, bs ++ σ.vs, σ.ob⟩ h' sa b1 where
  frm := Fr
  vars := fun y hy v e => by
    have L := (W.step (F := F) (sa := sa) (ob := σ.ob)).later
    cases q : bs.lookup y with
    | some v' =>
      cases (lookup_append_some q).symm.trans e
      exact ((Bd y).1 v q).imp fun u p => ⟨p.1, p.2.to L⟩
    | none =>
      rw [(Bd y).2 q]
      exact (S.vars y hy v ((lookup_append_none q).symm.trans e)).imp fun u p => ⟨p.1, p.2.to L⟩
  objs := fun i l e => (S.objs i l e).imp fun a e => e.imp fun ws p => ⟨p.1, PlainList.kept p.2.1 fun o q => W.keep a o (S.lay.off i a p.1) q, p.2.2.to W.step.later⟩
  lay := S.lay.step W.step
theorem app_get {α : Type} {l : List α} {x y : α} {i : Nat} (e : (l ++ [x])[i]? = some y) : l[i]? = some y ∨ (i = l.length ∧ y = x) := by
  by_cases hi : i < l.length
  · rw [List.getElem?_append_left hi] at e; exact .inl e
  · rw [List.getElem?_append_right (Nat.not_lt.mp hi)] at e
    have := (List.getElem?_eq_some_iff.mp e).1
    have hi' : i = l.length := by rw [List.length_singleton] at this; omega
    subst hi'
    rw [Nat.sub_self] at e
    exact .inr ⟨rfl, (Option.some.inj e).symm⟩
theorem get_app {α : Type} {l : List α} {x y : α} {i : Nat} (e : l[i]? = some y) : (l ++ [x])[i]? = some y := by
  rw [List.getElem?_append_left (List.getElem?_eq_some_iff.mp e).1]; exact e
theorem get_last {α : Type} {l : List α} {x : α} : (l ++ [x])[l.length]? = some x := by
  rw [List.getElem?_append_right (Nat.le_refl _), Nat.sub_self]; rfl
/-- a list of one's own -/
theorem St1.newList {a : Addr} {l : List AV} {ws : List Value} (S : St1 w F σ h sa b) (k : KeepH h h') (ha : h.get? a = none) (hp : h'.PlainList a ws.toArray) (hv : Vals (muOf F sa σ.ob) sa h l ws) : St1 w F ⟨σ.sc, σ.vs, σ.ob ++ [some l]⟩ h' (sa ++ [a]) b := by
  have y := S.lay
  have hw : ∀ c, wrs F (sa ++ [a]) (σ.ob ++ [some l]) c → wrs F sa σ.ob c ∨ c = a := fun c hc => by
    rcases hc with e | ⟨i, l', e1, e2⟩
    · exact .inl (.inl e)
    · rcases app_get e1 with e | ⟨e, e'⟩
      · rcases app_get e2 with q | ⟨q, _⟩
        · exact .inl (.inr ⟨i, l', e, q⟩)
        · have := (List.getElem?_eq_some_iff.mp e).1
          rw [y.len, q] at this
          exact absurd this (Nat.lt_irrefl _)
      · exact .inr e'
  have L : Later (muOf F sa σ.ob) (muOf F (sa ++ [a]) (σ.ob ++ [some l])) h h' := ⟨fun b o _ e => k b o e, fun c hc hn e => by
    rcases e with e | e
    · exact hn (.inl e)
    · rcases hw c e with e | rfl
      · exact hn (.inr e)
      · exact hc.not ha⟩
  have na : ∀ i, sa[i]? ≠ some a := fun i e => (y.live i a e).not ha
  exact {
    frm := S.frm.up k
    vars := fun x hx v e => (S.vars x hx v e).imp fun u p => ⟨p.1, p.2.kept L fun _ _ e => get_app e⟩
    objs := fun i l' e => by
      rcases app_get e with q | ⟨rfl, q⟩
      · exact (S.objs i l' q).imp fun c e => e.imp fun ws' p => ⟨get_app p.1, PlainList.kept p.2.1 fun o e => k _ _ e, p.2.2.kept L fun _ _ e => get_app e⟩
      · cases q
        exact ⟨a, ws, by rw [← y.len]; exact get_last, hp, hv.kept L fun _ _ e => get_app e⟩
    lay := {
      len := by rw [List.length_append, List.length_append, y.len]; rfl
      inj := fun i j c e1 e2 => by
        rcases app_get e1 with q1 | ⟨q1, rfl⟩ <;> rcases app_get e2 with q2 | ⟨q2, q2'⟩
        · exact y.inj i j c q1 q2
        · exact absurd (q2' ▸ q1) (na i)
        · exact absurd q2 (na j)
        · exact q1.trans q2.symm
      off := fun i c e => (app_get e).elim (fun q => y.off i c q) fun q hf => (S.frm.live hf).not (q.2 ▸ ha)
      live := fun i c e => (app_get e).elim (fun q => (y.live i c q).up k) fun q => q.2 ▸ PlainList.lives hp
      new := fun c hc => (hw c hc).elim (fun q => y.new c q) fun q => q ▸ ⟨fun o e => (nomatch (y.keep _ _ e).symm.trans ha), fun e => (y.old _ e).not ha⟩
      keep := fun c o e => k _ _ (y.keep c o e)
      top := y.top
      old := fun c e => (y.old c e).up k
      sa0 := fun i c e e0 => (app_get e).elim (fun q => y.sa0 i c q e0) fun q => (y.old c e0).not (q.2 ▸ ha) } }
theorem set_get {α : Type} {l : List α} {x y : α} {i j : Nat} (e : (l.set i x)[j]? = some y) : (j ≠ i ∧ l[j]? = some y) ∨ (j = i ∧ y = x) := by
  by_cases hj : i = j
  · subst hj
    have := (List.getElem?_eq_some_iff.mp e).1
    rw [List.length_set] at this
    rw [List.getElem?_set_self this] at e
    exact .inr ⟨rfl, (Option.some.inj e).symm⟩
  · rw [List.getElem?_set_ne hj] at e; exact .inl ⟨Ne.symm hj, e⟩
/-- fewer addresses are written -/
theorem Lay.fewer {ob' : Obs} (y : Lay w F sa ob h) (hl : ob'.length = ob.length) (hw : ∀ a, wrs F sa ob' a → wrs F sa ob a) : Lay w F sa ob' h := ⟨y.len.trans hl.symm, y.inj, y.off, y.live, fun a e => y.new a (hw a e), y.keep, y.top, y.old, y.sa0⟩
theorem wrs_set {i : Nat} {l l' : List AV} (ho : ob[i]? = some (some l)) (c : Addr) (hc : wrs F sa (ob.set i (some l')) c) : wrs F sa ob c := by
  rcases hc with e | ⟨j, l2, e1, e2⟩
  · exact .inl e
  · rcases set_get e2 with ⟨_, e⟩ | ⟨rfl, _⟩
    · exact .inr ⟨j, l2, e1, e⟩
    · exact .inr ⟨_, l, e1, ho⟩
/-- a list of one's own is changed -/
theorem St1.setList {i : Nat} {a : Addr} {l l' : List AV} {ws : List Value} (S : St1 w F σ h sa b) (ha : sa[i]? = some a) (ho : σ.ob[i]? = some (some l)) (k : Heap.SameBut a h h') (hp : h'.PlainList a ws.toArray) (hv : Vals (muOf F sa σ.ob) sa h l' ws) : St1 w F ⟨σ.sc, σ.vs, σ.ob.set i (some l')⟩ h' sa b := by
  have hwa : wrs F sa σ.ob a := .inr ⟨i, l, ha, ho⟩
  have st : Step F sa σ.ob h h' := ⟨fun c o hc e => k.extBut c o (fun e' => hc (e' ▸ hwa)) e, fun c e => by
    by_cases hc : c = a
    · exact hc ▸ PlainList.lives hp
    · exact e.imp fun o p => k.extBut c o hc p⟩
  have L : Later (muOf F sa σ.ob) (muOf F sa (σ.ob.set i (some l'))) h h' := ⟨fun c o hc e => st.keep c o (fun e' => hc (.inr e')) e, fun c _ hn e => hn (e.imp_right (wrs_set ho c))⟩
  exact {
    frm := S.frm.kept fun c o hc e => k.extBut c o (fun e' => S.lay.off i a ha (e' ▸ hc)) e
    vars := fun x hx v e => (S.vars x hx v e).imp fun u p => ⟨p.1, p.2.to L⟩
    objs := fun j l2 e => by
      rcases set_get e with ⟨hj, q⟩ | ⟨rfl, q⟩
      · exact (S.objs j l2 q).imp fun c e => e.imp fun ws' p => ⟨p.1, PlainList.kept p.2.1 fun o e => k.extBut c o (fun e' => hj (S.lay.inj j i a (e' ▸ p.1) ha)) e, p.2.2.to L⟩
      · cases q; exact ⟨a, ws, ha, hp, hv.to L⟩
    lay := (S.lay.step st).fewer (List.length_set ..) (wrs_set ho) }
/-- a list of one's own is let alone from here on -/
theorem St1.freeze {i : Nat} {l : List AV} {vs : List (Str × AV)} (S : St1 w F σ h sa b) (ho : σ.ob[i]? = some (some l)) (hn : noRefs l = true) (hvs : ∀ x v, vs.lookup x = some v → σ.vs.lookup x = some v ∨ (σ.vs.lookup x = some (.ref i) ∧ v = .lst l)) : St1 w F ⟨σ.sc, vs, σ.ob.set i none⟩ h sa b := by
  have hw : ∀ c, wrs F sa (σ.ob.set i none) c → wrs F sa σ.ob c := fun c hc => by
    rcases hc with e | ⟨j, l2, e1, e2⟩
    · exact .inl e
    · rcases set_get e2 with ⟨_, e⟩ | ⟨_, e⟩
      · exact .inr ⟨j, l2, e1, e⟩
      · cases e
  have L : Later (muOf F sa σ.ob) (muOf F sa (σ.ob.set i none)) h h := ⟨fun c o _ e => e, fun c _ hn e => hn (e.imp_right (hw c))⟩
  exact {
    frm := S.frm
    vars := fun x hx v e => by
      rcases hvs x v e with e' | ⟨e', rfl⟩
      · exact (S.vars x hx v e').imp fun u p => ⟨p.1, p.2.to L⟩
      · obtain ⟨u, p, a, q, rfl⟩ := S.vars x hx (.ref i) e'
        obtain ⟨a', ws, q', pl, vv⟩ := S.objs i l ho
        cases q.symm.trans q'
        refine ⟨_, p, a, ws, rfl, ?_, pl, vv.to L⟩
        rintro (e | e | ⟨j, l2, e1, e2⟩)
        · exact S.lay.sa0 i a q e
        · exact S.lay.off i a q e
        · rcases set_get e2 with ⟨hj, _⟩ | ⟨_, e⟩
          · exact hj (S.lay.inj j i a e1 q)
          · cases e
    objs := fun j l2 e => by
      rcases set_get e with ⟨hj, q⟩ | ⟨_, q⟩
      · exact (S.objs j l2 q).imp fun c e => e.imp fun ws' p => ⟨p.1, p.2.1, p.2.2.to L⟩
      · cases q
    lay := S.lay.fewer (List.length_set ..) hw }
/-- another look at the same frame -/
theorem St1.re {Kp : Addr → Obj → Prop} {mu0 : Addr → Prop} (S : St1 w F σ h sa b) (L : Later (muOf F sa σ.ob) (muOf ⟨Kp, mu0, F.env, F.own⟩ sa σ.ob) h h') (kw : ∀ a, wrs F sa σ.ob a → ∀ o, h.get? a = some o → h'.get? a = some o) (y : Lay w ⟨Kp, mu0, F.env, F.own⟩ sa σ.ob h') : St1 w ⟨Kp, mu0, F.env, F.own⟩ σ h' sa b where
  frm := S.frm.kept fun a o ha e => kw a (.inl ha) o e
  vars := fun x hx v e => (S.vars x hx v e).imp fun u p => ⟨p.1, p.2.to L⟩
  objs := fun i l e => (S.objs i l e).imp fun a e' => e'.imp fun ws p => ⟨p.1, PlainList.kept p.2.1 fun o q => kw a (.inr ⟨i, l, p.1, e⟩) o q, p.2.2.to L⟩
  lay := y
/-- less is kept -/
theorem St1.sub {Kp : Addr → Obj → Prop} (S : St1 w F σ h sa b) (hk : ∀ a o, Kp a o → F.Kp a o) (ht : ∀ h', (∀ b o, Kp b o → h'.get? b = some o) → BB w h') : St1 w ⟨Kp, F.mu0, F.env, F.own⟩ σ h sa b :=
  S.re (.but fun _ _ _ e => e) (fun _ _ _ e => e) { S.lay with new := fun a hw => ⟨fun o e => (S.lay.new a hw).1 o (hk a o e), (S.lay.new a hw).2⟩, keep := fun c o e => S.lay.keep c o (hk c o e), top := ht }
/-- mu0 grows by what is new -/
theorem St1.growX {X : Addr → Prop} (S : St1 w F σ h sa b) (k : KeepH h h') (hX : ∀ a, X a → h.get? a = none) (hX' : ∀ a, X a → Lives h' a) : St1 w ⟨F.Kp, fun a => F.mu0 a ∨ X a, F.env, F.own⟩ σ h' sa b :=
  S.re ⟨fun b o _ e => k b o e, fun c hc hn e => e.elim (fun e => e.elim (fun e => hn (.inl e)) fun e => hc.not (hX c e)) fun e => hn (.inr e)⟩ (fun a _ o e => k a o e)
    { S.lay.move (fun a e => e.up k) fun a o _ e => k a o e with
      new := fun a hw => ⟨(S.lay.new a hw).1, fun e => e.elim (S.lay.new a hw).2 fun e => (S.muin a (.inr hw)).not (hX a e)⟩
      old := fun a e => e.elim (fun e => (S.lay.old a e).up k) (hX' a)
      sa0 := fun i a e e0 => e0.elim (S.lay.sa0 i a e) fun e0 => (S.lay.live i a e).not (hX a e0) }
/-- what mu0 has more may change -/
theorem St1.stir {mu0 X : Addr → Prop} (S : St1 w ⟨F.Kp, fun a => mu0 a ∨ X a, F.env, F.own⟩ σ h sa b) (k : ∀ a o, ¬ X a → h.get? a = some o → h'.get? a = some o) (hX : ∀ a, X a → Lives h' a) (hK : ∀ a o, X a → ¬ F.Kp a o) : St1 w ⟨F.Kp, fun a => mu0 a ∨ X a, F.env, F.own⟩ σ h' sa b :=
  S.re (.but fun c o hc e => k c o (fun e' => hc (.inl (.inr e'))) e) (fun a hw o e => k a o (fun e' => (S.lay.new a hw).2 (.inr e')) e)
    (S.lay.move (fun c e => by
      by_cases hx : X c
      · exact hX c hx
      · exact e.imp fun o p => k c o hx p) fun a o e p => k a o (fun e' => hK a o e' e) p)
/-- what mu0 had more may change, and goes -/
theorem St1.touchX {mu0 X : Addr → Prop} (S : St1 w ⟨F.Kp, fun a => mu0 a ∨ X a, F.env, F.own⟩ σ h sa b) (k : ∀ a o, ¬ X a → h.get? a = some o → h'.get? a = some o) (hK : ∀ a o, X a → ¬ F.Kp a o) (h0 : ∀ a, mu0 a → ¬ X a) : St1 w ⟨F.Kp, mu0, F.env, F.own⟩ σ h' sa b :=
  have nw : ∀ a, wrs F sa σ.ob a → ¬ X a := fun a hw e => (S.lay.new a hw).2 (.inr e)
  have y := S.lay
  S.re ⟨fun c o hc e => k c o (fun e' => hc (.inl (.inr e'))) e, fun c _ hn e => hn (e.imp_left .inl)⟩ (fun a hw o e => k a o (nw a hw) e)
    { len := y.len, inj := y.inj, off := y.off, top := y.top,
      live := fun i a e => (y.live i a e).imp fun o p => k a o (fun e' => y.sa0 i a e (.inr e')) p
      new := fun a hw => ⟨(y.new a hw).1, fun e => (y.new a hw).2 (.inl e)⟩
      keep := fun c o e => k c o (fun e' => hK c o e' e) (y.keep c o e)
      old := fun a e => (y.old a (.inl e)).imp fun o p => k a o (h0 a e) p
      sa0 := fun i a e e0 => y.sa0 i a e (.inl e0) }
end
end Mine

namespace Mine
noncomputable section
variable {prog : Program} {w : World} {D : Nat} {A : Around} {E : Value → Shared → Prop} {s s' : Shared} {sa : List Addr} {σ : SE} {h h' : Heap} {ob : Obs} {b : Str → Option Value} {F : Fx}

inductive Fl where
  | next
  | brk
  | ret (v : AV)
/-- what a block leaves -/
noncomputable def Out (w : World) (F : Fx) (r : Fl × SE) (h' : Heap) (fl : Flow) : Prop := match r.1 with
  | .next => fl = .next ∧ St w F r.2 h'
  | .brk => fl = .brk ∧ St w F r.2 h'
  | .ret v => ∃ u, fl = .ret u ∧ (∀ b o, F.Kp b o → h'.get? b = some o) ∧ Val F.mu0 [] h' v u
structure SSound (prog : Program) (w : World) (D : Nat) (σ : SE) (go : Env → Sem Flow) (r : Fl × SE) : Prop where
  sc : r.2.sc = σ.sc
  run : ∀ {A : Around} {E : Value → Shared → Prop} {s : Shared} {F : Fx} {Q : Flow → Shared → Prop}, Cx A D → FnE F σ.sc → St w F σ s.heap → (∀ h' tk fl, Out w F r h' fl → Q fl { s with heap := h', toks := tk }) → wpAny (model prog w) A (go F.env) Q E s
/-- the turns of a loop -/
inductive Runs (prog : Program) (w : World) (D : Nat) (t : Expr) (body : List Stmt) : List AV → SE → Fl × SE → Prop
  | nil (σ : SE) : Runs prog w D t body [] σ (.next, σ)
  | step {x xs bs σ σ1 r} (hb : BindS t x bs) (h : SSound prog w D ⟨σ.sc, bs ++ σ.vs, σ.ob⟩ (execs body) (.next, σ1)) (k : Runs prog w D t body xs σ1 r) : Runs prog w D t body (x :: xs) σ r
  | brk {x xs bs σ σ1} (hb : BindS t x bs) (h : SSound prog w D ⟨σ.sc, bs ++ σ.vs, σ.ob⟩ (execs body) (.brk, σ1)) : Runs prog w D t body (x :: xs) σ (.next, σ1)
  | ret {x xs bs σ σ1 v} (hb : BindS t x bs) (h : SSound prog w D ⟨σ.sc, bs ++ σ.vs, σ.ob⟩ (execs body) (.ret v, σ1)) : Runs prog w D t body (x :: xs) σ (.ret v, σ1)
/-- the same names, another saying of them -/
noncomputable def Says (w : World) (σ σ' : SE) : Prop := σ'.sc = σ.sc ∧ ∀ F h, St w F σ h → St w F σ' h
theorem SSound.says {go : Env → Sem Flow} {σ1 σ2 : SE} (S : SSound prog w D σ go (.next, σ1)) (h : Says w σ1 σ2) : SSound prog w D σ go (.next, σ2) := ⟨h.1.trans S.sc, fun C N H k => S.run C N H fun h' tk fl ho => k h' tk fl ⟨ho.1, h.2 _ _ ho.2⟩⟩
theorem SSound.from {go : Env → Sem Flow} {σ0 : SE} {r : Fl × SE} (S : SSound prog w D σ go r) (h : Says w σ0 σ) : SSound prog w D σ0 go r := ⟨S.sc.trans h.1, fun C N H k => S.run C (by rw [h.1]; exact N) (h.2 _ _ H) k⟩
theorem Runs.sc {t body xs r} (k : Runs prog w D t body xs σ r) : r.2.sc = σ.sc := by
  induction k with
  | nil => rfl
  | step hb h k ih => exact ih.trans h.sc
  | brk hb h => exact h.sc
  | ret hb h => exact h.sc

/-- all that stands, but X and what the frame writes, is kept -/
noncomputable def Fx.lock (F : Fx) (X : Addr → Prop) (sa : List Addr) (ob : Obs) (h : Heap) : Fx := ⟨fun a o => h.get? a = some o ∧ ¬ wrs F sa ob a ∧ ¬ X a, F.mu0, F.env, F.own⟩
theorem St1.kp (S : St1 w F σ h sa b) {X : Addr → Prop} (hX : ∀ a o, X a → ¬ F.Kp a o) {a : Addr} {o : Obj} (e : F.Kp a o) : (F.lock X sa σ.ob h).Kp a o := ⟨S.lay.keep a o e, fun hw => (S.lay.new a hw).1 o e, fun x => hX a o x e⟩
theorem St1.locked (S : St1 w F σ h sa b) {X : Addr → Prop} (hX : ∀ a o, X a → ¬ F.Kp a o) : St1 w (F.lock X sa σ.ob h) σ h sa b :=
  S.re (Kp := (F.lock X sa σ.ob h).Kp) (mu0 := F.mu0) (.but fun _ _ _ e => e) (fun _ _ _ e => e) { S.lay with new := fun a hw => ⟨fun o e => e.2.1 hw, (S.lay.new a hw).2⟩, keep := fun c o e => e.1, top := fun h' e => S.lay.top h' fun a o q => e a o (S.kp hX q) }
theorem St1.unlock (S : St1 w F σ h sa b) {X : Addr → Prop} (hX : ∀ a o, X a → ¬ F.Kp a o) {σ' : SE} (H : St w (F.lock X sa σ.ob h) σ' h') : St w F σ' h' :=
  H.imp fun sa' e => e.imp fun b' H => H.sub (fun a o e => S.kp hX e) S.lay.top

set_option genInjectivity false in
/-- a loop under way -/
structure LK where
  F : Fx
  σ : SE
  sa : List Addr
  b : Str → Option Value
  items : List AV
  h : Heap
  s₂ : Shared
  I : Addr
  fp : List Addr
  wr : List Addr
  St : Nat → Heap → Prop
  Mid : Nat → Value → Heap → Prop
  r : Fl × SE
  t : Expr
  body : List Stmt
  A : Around
  R : Result → Shared → Prop
/-- the frame with the iterator; the same, locked -/
abbrev LK.X (k : LK) (a : Addr) : Prop := a ∈ k.wr
noncomputable def LK.FX (k : LK) : Fx := ⟨k.F.Kp, fun a => k.F.mu0 a ∨ k.X a, k.F.env, k.F.own⟩
noncomputable def LK.F1 (k : LK) : Fx := k.FX.lock k.X k.sa k.σ.ob k.s₂.heap
structure LK.Ok (prog : Program) (w : World) (D : Nat) (k : LK) : Prop where
  C : Cx k.A D
  N : FnE k.F k.σ.sc
  S : St1 w k.F k.σ k.h k.sa k.b
  it : Iter prog w k.A (muOf k.F k.sa k.σ.ob) k.sa k.items k.t k.h k.s₂.heap k.I k.fp k.wr k.St k.Mid
  fp : ∀ b ∈ k.fp, b ∈ k.wr ∨ (¬ muOf k.F k.sa k.σ.ob b ∧ Lives k.h b)
  nr : noRefs k.items = true
  own : ∀ y ∈ namesT k.t, y ∈ k.F.own
  hR : ∀ h' tk fl, Out w k.F k.r h' fl → k.R (.ok fl) { k.s₂ with heap := h', toks := tk }
section
variable {k : LK}
theorem LK.Ok.x (K : k.Ok prog w D) : ∀ a o, k.X a → ¬ k.FX.Kp a o := fun a o hx e => nomatch (K.it.fresh a hx).symm.trans (K.S.lay.keep a o e)
theorem LK.Ok.S2 (K : k.Ok prog w D) : St1 w k.FX k.σ k.s₂.heap k.sa k.b := K.S.growX K.it.keeps K.it.fresh fun a ha => K.it.live 0 _ K.it.start a ha
theorem LK.Ok.S3 (K : k.Ok prog w D) : St1 w k.F1 k.σ k.s₂.heap k.sa k.b := K.S2.locked K.x
/-- what stood and was not the frame's, is kept -/
theorem LK.Ok.kp (K : k.Ok prog w D) {a : Addr} {o : Obj} (n : ¬ muOf k.F k.sa k.σ.ob a) (e : k.h.get? a = some o) : k.F1.Kp a o := ⟨K.it.keeps a o e, fun hw => n (.inr hw), fun hx => nomatch (K.it.fresh a hx).symm.trans e⟩
theorem LK.Ok.nfp (K : k.Ok prog w D) {σ1 h' sa1 b1} (H : St1 w k.F1 σ1 h' sa1 b1) {a : Addr} (ha : a ∈ k.fp) : ¬ wrs k.F1 sa1 σ1.ob a := fun hw => by
  rcases K.fp a ha with e | ⟨e, o, q⟩
  · exact (H.lay.new a hw).2 (.inr e)
  · exact (H.lay.new a hw).1 o (K.kp e q)
/-- an item, as the body finds it -/
theorem LK.Ok.item (K : k.Ok prog w D) {σ1 h' sa1 b1 h₀ i v} (H : St1 w k.F1 σ1 h' sa1 b1) (hv : Handed (muOf k.F k.sa k.σ.ob) k.sa k.items k.h h' i v h₀) (hk : ∀ a o, a ∉ k.wr → h'.get? a = some o → h₀.get? a = some o) : ∃ x, k.items[i]? = some x ∧ Val (muOf k.F1 sa1 σ1.ob) sa1 h₀ x v := by
  obtain ⟨x, hx, hv⟩ := hv
  have hn : noRef x = true := by
    have : ∀ {l : List AV} {i : Nat}, noRefs l = true → l[i]? = some x → noRef x = true := by
      intro l
      induction l with
      | nil => intro i _ e; exact nil_get e
      | cons y l ih => intro i n e; cases i with
        | zero => cases e; exact and_l n
        | succ i => exact ih (and_r n) e
    exact this K.nr hx
  refine ⟨x, hx, noRef_val hn (hv _ ⟨fun a o n e => hk a o (K.kp n e).2.2 (H.lay.keep a o (K.kp n e)), fun a ha n e => ?_⟩ H.muin)⟩
  obtain ⟨o, ha⟩ := ha
  rcases e with (e | e) | e
  · exact n (.inl e)
  · exact (K.kp n ha).2.2 e
  · exact (H.lay.new a e).1 o (K.kp n ha)
/-- back out of the loop -/
theorem LK.Ok.back (K : k.Ok prog w D) {σ' h'} (H : Mine.St w k.F1 σ' h') : Mine.St w k.F σ' h' := (K.S2.unlock K.x H).imp fun sa' e => e.imp fun b' H =>
  H.re (Kp := k.F.Kp) (mu0 := k.F.mu0) ⟨fun a o _ e => e, fun c _ hn e => hn (e.imp_left .inl)⟩ (fun _ _ _ e => e) { H.lay with new := fun a hw => ⟨(H.lay.new a hw).1, fun e => (H.lay.new a hw).2 (.inl e)⟩, old := fun a e => H.lay.old a (.inl e), sa0 := fun i a e e0 => H.lay.sa0 i a e (.inl e0) }
structure LK.In (prog : Program) (w : World) (D : Nat) (k : LK) (n i : Nat) (σi : SE) (h' : Heap) (sai : List Addr) (bi : Str → Option Value) : Prop where
  n : n + i = k.items.length + 1
  le : i ≤ k.items.length
  runs : Runs prog w D k.t k.body (k.items.drop i) σi k.r
  sc : σi.sc = k.σ.sc
  st : k.St i h'
  S : St1 w k.F1 σi h' sai bi
noncomputable def LK.At' (prog : Program) (w : World) (D : Nat) (k : LK) (n : Nat) (s : Shared) : Prop := ∃ h' tk i σi sai bi, s = { k.s₂ with heap := h', toks := tk } ∧ k.In prog w D n i σi h' sai bi
abbrev LK.E' (prog : Program) (w : World) (k : LK) : Value → Shared → Prop := notedBy (model prog w) k.A k.F.env fun e s' => k.R (.error e) s'
noncomputable def LK.flow (prog : Program) (w : World) (D : Nat) (k : LK) (n : Nat) (f : Flow) (s₃ : Shared) : Prop := match f with
  | .next | .cont => ∃ m, m < n ∧ k.At' prog w D m s₃
  | .brk => k.R (.ok .next) s₃
  | .ret v => k.R (.ok (.ret v)) s₃
noncomputable def LK.got (prog : Program) (w : World) (D : Nat) (k : LK) (n : Nat) (v : Value) (s₁ : Shared) : Prop :=
  wpAny (model prog w) k.A (letOwnedTupleGo k.t (.ref k.I) v) (fun _ s₁' => wpAny (model prog w) k.A (assign k.t k.F.env v) (fun _ s₂ => wpAny (model prog w) k.A (execs k.body k.F.env) (k.flow prog w D n) (k.E' prog w) s₂) (k.E' prog w) s₁') (k.E' prog w) s₁
noncomputable def LK.next (prog : Program) (w : World) (D : Nat) (k : LK) (n : Nat) (r : Option Value) (s₁ : Shared) : Prop := match r with
  | none => wpAny (model prog w) k.A (execs [] k.F.env) (fun f s₃ => k.R (.ok f) s₃) (k.E' prog w) s₁
  | some v => k.got prog w D n v s₁
/-- the body of one turn, begun -/
theorem LK.Ok.body (K : k.Ok prog w D) {n i : Nat} (hn : n + i = k.items.length + 1) (hi : i < k.items.length) {σ1 : SE} {x : AV} {bs : List (Str × AV)} {h₂ : Heap} {tk : Nat} {sa1 : List Addr} {b2 : Str → Option Value} (hsc : σ1.sc = k.σ.sc) (hd : k.items.drop i = x :: k.items.drop (i + 1)) (H : St1 w k.F1 ⟨σ1.sc, bs ++ σ1.vs, σ1.ob⟩ h₂ sa1 b2) (st : k.St (i + 1) h₂) (hb : BindS k.t x bs)
    (alt : (∃ σ2, SSound prog w D ⟨σ1.sc, bs ++ σ1.vs, σ1.ob⟩ (execs k.body) (.next, σ2) ∧ Runs prog w D k.t k.body (k.items.drop (i + 1)) σ2 k.r) ∨
      (∃ σ2, SSound prog w D ⟨σ1.sc, bs ++ σ1.vs, σ1.ob⟩ (execs k.body) (.brk, σ2) ∧ k.r = (.next, σ2)) ∨ ∃ σ2 v, SSound prog w D ⟨σ1.sc, bs ++ σ1.vs, σ1.ob⟩ (execs k.body) (.ret v, σ2) ∧ k.r = (.ret v, σ2)) :
    wpAny (model prog w) k.A (execs k.body k.F.env) (k.flow prog w D n) (k.E' prog w) { k.s₂ with heap := h₂, toks := tk } := by
  have nX : ∀ (a : Addr) (o : Obj), False → ¬ k.F1.Kp a o := fun _ _ e => e.elim
  have HL := H.locked nX
  have N1 : FnE (k.F1.lock (fun _ => False) sa1 σ1.ob h₂) σ1.sc := hsc ▸ ⟨K.N.kind, K.N.globals, K.N.builtins, K.N.names, K.N.owned, K.N.cells, K.N.func, K.N.quiet⟩
  rcases alt with ⟨σ2, hS, Rn⟩ | ⟨σ2, hS, hr⟩ | ⟨σ2, v, hS, hr⟩
  · refine hS.run (F := k.F1.lock (fun _ => False) sa1 σ1.ob h₂) K.C N1 ⟨_, _, HL⟩ fun g tk3 fl ho => ?_
    obtain ⟨rfl, sa4, b4, H4⟩ := ho
    have hst3 : k.St (i + 1) g := K.it.frame _ _ _ st fun a ha o e => H4.lay.keep a o ⟨e, K.nfp H ha, fun e => e⟩
    exact ⟨k.items.length - i, by omega, g, tk3, i + 1, σ2, sa4, b4, rfl, by omega, hi, Rn, hS.sc.trans hsc, hst3, H4.sub (fun a o e => H.kp nX e) H.lay.top⟩
  · refine hS.run (F := k.F1.lock (fun _ => False) sa1 σ1.ob h₂) K.C N1 ⟨_, _, HL⟩ fun g tk3 fl ho => ?_
    obtain ⟨rfl, hg⟩ := ho
    exact K.hR g tk3 .next (by rw [hr]; exact ⟨rfl, K.back (H.unlock nX hg)⟩)
  · refine hS.run (F := k.F1.lock (fun _ => False) sa1 σ1.ob h₂) K.C N1 ⟨_, _, HL⟩ fun g tk3 fl ho => ?_
    obtain ⟨u, rfl, hk, hv⟩ := ho
    exact K.hR g tk3 (.ret u) (by rw [hr]; exact ⟨u, rfl, fun a o e => hk a o (H.kp nX (K.S2.kp K.x e)), hv.to ⟨fun _ _ _ e => e, fun a _ ha e => ha (.inl e)⟩⟩)
theorem LK.turn (K : k.Ok prog w D) {n : Nat} {s : Shared} (S : k.At' prog w D n s) : wpAny (model prog w) k.A (pyNext (.ref k.I)) (k.next prog w D n) (k.E' prog w) s := by
  obtain ⟨h', tk, i, σ1, sa1, b1, rfl, hn, hi, hr, hsc, hst, H⟩ := S
  by_cases hlt : i < k.items.length
  · refine K.it.item i _ _ _ hlt hst fun v h₀ tk₁ hPv hm₀ hk₀ => ?_
    obtain ⟨x, hx, hv⟩ := K.item H hPv hk₀
    have hd : k.items.drop i = x :: k.items.drop (i + 1) := by
      rw [List.drop_eq_getElem_cons hlt, show k.items[i] = x from Option.some.inj ((List.getElem?_eq_getElem hlt).symm.trans hx)]
    refine K.it.go i v _ _ _ hm₀ fun h₁ hst₁ hk₁ => ?_
    have H₁ : St1 w k.F1 σ1 h₁ sa1 b1 := H.stir (F := k.F1) (mu0 := k.F.mu0) (X := k.X) (fun a o ha e => hk₁ a o ha (hk₀ a o ha e)) (fun a ha => K.it.live _ _ hst₁ a ha) fun a o ha e => e.2.2 ha
    have hv₁ := hv.to (mu' := muOf k.F1 sa1 σ1.ob) (.but fun a o ha e => hk₁ a o (fun hw => ha (.inl (.inr hw))) e)
    have fin : ∀ {bs}, BindS k.t x bs → _ → wpAny (model prog w) k.A (assign k.t k.F.env v) (fun _ s₂ => wpAny (model prog w) k.A (execs k.body k.F.env) (k.flow prog w D n) (k.E' prog w) s₂) (k.E' prog w) { k.s₂ with heap := h₁, toks := tk₁ } := fun {bs} hb alt =>
      hb.run K.C K.N.kind H₁.frm K.own hv₁ fun h₂ tk₂ b2 F₂ Bd W₂ => K.body hn hlt hsc hd (H₁.puts F₂ W₂ Bd) (K.it.frame _ _ _ hst₁ fun a ha o e => W₂.keep a o (fun hf => K.nfp H₁ ha (.inl hf)) e) hb alt
    rw [hd] at hr
    generalize hrr : k.r = r at hr
    cases hr with
    | step hb h1 k1 => exact fin hb (.inl ⟨_, h1, hrr ▸ k1⟩)
    | brk hb h1 => exact fin hb (.inr (.inl ⟨_, h1, hrr⟩))
    | ret hb h1 => exact fin hb (.inr (.inr ⟨_, _, h1, hrr⟩))
  · have hin : i = k.items.length := by omega
    subst hin
    rw [List.drop_length] at hr
    refine K.it.done _ _ _ hst fun h₁ tk₁ hk₁ => wpAny_execs_nil ?_
    have hr' : k.r = (.next, σ1) := by
      generalize k.r = r at hr
      cases hr; rfl
    refine K.hR h₁ tk₁ .next (by rw [hr']; exact ⟨rfl, sa1, b1, (H.touchX (F := k.F1) (mu0 := k.F.mu0) (X := k.X) hk₁ (fun a o ha e => e.2.2 ha) fun a e e' => (K.S.lay.old a e).not (K.it.fresh a e')).sub (fun a o e => K.S2.kp K.x e) K.S2.lay.top⟩)
end
end
end Mine

namespace Mine
noncomputable section
variable {prog : Program} {w : World} {D : Nat} {A : Around} {E : Value → Shared → Prop} {s s' : Shared} {sa : List Addr} {σ : SE} {h h' : Heap} {ob : Obs} {b : Str → Option Value} {F : Fx}

noncomputable def ownS (sc : Scope) (x : Str) : Prop := sc.names.lookup x = some .local ∨ sc.names.lookup x = some .cell
noncomputable def ownC (sc : Scope) (x : Str) : Option (PLift (ownS sc x)) := match decEq (sc.names.lookup x) (some .local), decEq (sc.names.lookup x) (some .cell) with
  | .isTrue h, _ => some ⟨.inl h⟩
  | _, .isTrue h => some ⟨.inr h⟩
  | _, _ => none
noncomputable def ownsC (sc : Scope) : (ts : List Str) → Option (PLift (∀ x ∈ ts, ownS sc x))
  | [] => some ⟨all_nil⟩
  | x :: ts => match ownC sc x, ownsC sc ts with
    | some h, some k => some ⟨all_cons h.1 k.1⟩
    | _, _ => none
theorem own_of {x : Str} (N : FnE F σ.sc) (h : ownS σ.sc x) : x ∈ F.own := h.elim (fun e => N.owned x _ e (.inl rfl)) fun e => N.owned x _ e (.inr (.inl rfl))

/-- an expression, in a state -/
noncomputable def EvS (prog : Program) (w : World) (D : Nat) (σ : SE) (e : Expr) (v : AV) : Prop := ∀ {A : Around} {E : Value → Shared → Prop} {s : Shared} {F : Fx} {sa : List Addr} {b : Str → Option Value} {Q : Value → Shared → Prop}, Cx A D → FnE F σ.sc → St1 w F σ s.heap sa b →
  (∀ u h' tk, KeepH s.heap h' → St1 w F σ h' sa b → Val (muOf F sa σ.ob) sa h' v u → Q u { s with heap := h', toks := tk }) → wpAny (model prog w) A (eval e F.env) Q E s
theorem ES.st {e : Expr} {v : AV} (h : ES prog w D σ e v) : EvS prog w D σ e v := fun C N H k => h.run (H.at_ N C) fun u s' ks hu => by
  obtain ⟨h', tk, rfl, kk⟩ := ks
  exact k u h' tk kk (H.up kk) hu
theorem put_st {x : Str} {v : AV} {u : Value} {Q : Unit → Shared → Prop} (H : St1 w F σ s.heap sa b) (N : FnE F σ.sc) (hx : ownS σ.sc x) (hv : Val (muOf F sa σ.ob) sa s.heap v u)
    (k : ∀ h' tk, St1 w F ⟨σ.sc, (x, v) :: σ.vs, σ.ob⟩ h' sa (put b x u) → Wrote F.env F.own s.heap h' → Q () { s with heap := h', toks := tk }) : wpAny (model prog w) A (storeName F.env x u) Q E s :=
  store1 N.kind H.frm (own_of N hx) fun h' tk Fr W => k h' tk (H.puts Fr W (Bound.nil.push hv)) W

theorem swap_sub {e : Expr} {o i : Expr} {p : Pos} {l : Nat} {env : Env} : swapsWith e (some (.Subscript o i p)) l env = pure false := by
  cases e <;> rfl
/-- no comprehension -/
noncomputable def NoComp (e : Expr) : Prop := ∀ (t : Option Expr) (l : Nat) (env : Env), swapsWith e t l env = pure false
noncomputable def AsgS (prog : Program) (w : World) (D : Nat) (σ : SE) (x : Str) (e : Expr) (σ' : SE) : Prop := ∀ {px pos : Pos}, SSound prog w D σ (exec (.Assign [.Name x px] e pos)) (.next, σ')
theorem asg_val {x : Str} {e : Expr} {v : AV} (hx : ownS σ.sc x) (he : ES prog w D σ e v) (hs : NoComp e) : AsgS prog w D σ x e ⟨σ.sc, (x, v) :: σ.vs, σ.ob⟩ := ⟨rfl, fun C N ⟨sa, b, H⟩ k => wpAny_Assign_Name (he.st C N H fun u h' tk kk H1 hu => put_st H1 N hx hu fun h2 tk2 H2 _ => k h2 tk2 .next ⟨rfl, _, _, H2⟩) (hs _ _ _)⟩
theorem plain_new (h : Heap) (ws : List Value) : (h.push { cls := .type "list", data := .seq ws.toArray }).PlainList h.objs.size ws.toArray := ⟨0, Heap.get?_push_size _ rfl⟩
theorem new_st {x : Str} {l : List AV} {ws : List Value} {tk : Nat} {Q : Unit → Shared → Prop} (H : St1 w F σ s.heap sa b) (N : FnE F σ.sc) (hx : ownS σ.sc x) (hv : Vals (muOf F sa σ.ob) sa s.heap l ws)
    (k : ∀ h' tk, St w F ⟨σ.sc, (x, .ref σ.ob.length) :: σ.vs, σ.ob ++ [some l]⟩ h' → Q () { s with heap := h', toks := tk }) :
    wpAny (model prog w) A (storeName F.env x (.ref s.heap.objs.size)) Q E { s with heap := s.heap.push { cls := .type "list", data := .seq ws.toArray }, toks := tk } := by
  have H1 := H.newList (KeepH.push s.heap { cls := .type "list", data := .seq ws.toArray }) fresh_size (plain_new _ _) hv
  exact put_st (s := { s with heap := s.heap.push { cls := .type "list", data := .seq ws.toArray }, toks := tk }) H1 N hx (v := .ref σ.ob.length) ⟨_, by rw [← H.lay.len]; exact get_last, rfl⟩ fun h2 tk2 H2 _ => k h2 tk2 ⟨_, _, H2⟩
theorem asg_list {x : Str} {es : List Expr} {p : Pos} {l : List AV} (hx : ownS σ.sc x) (he : AllS prog w D σ es l) (hn : l.length ≤ 64) : AsgS prog w D σ x (.List es p) ⟨σ.sc, (x, .ref σ.ob.length) :: σ.vs, σ.ob ++ [some l]⟩ :=
  ⟨rfl, fun C N ⟨sa, b, H⟩ k => wpAny_Assign_Name (wpAny_List (he.run (H.at_ N C) fun us s₁ k₁ hus => ⟨by have := hus.length; rw [sizeLine_eq]; omega, by
    obtain ⟨h', tk, rfl, kk⟩ := k₁
    exact new_st (H.up kk) N hx hus fun h2 tk2 H2 => k h2 tk2 .next ⟨rfl, H2⟩⟩))⟩
theorem asg_cat {x : Str} {l r : Expr} {p : Pos} {a c : AV} {u v : List AV} (hx : ownS σ.sc x) (hl : ES prog w D σ l a) (hr : ES prog w D σ r c) (ha : ListIs σ.ob a u) (hc : ListIs σ.ob c v) (hn : u.length + v.length ≤ 4096) : AsgS prog w D σ x (.BinOp l .Add r p) ⟨σ.sc, (x, .ref σ.ob.length) :: σ.vs, σ.ob ++ [some (u ++ v)]⟩ :=
  ⟨rfl, fun {A E s F Q} C N ⟨sa, b, H⟩ k => wpAny_Assign_Name (wpAny_BinOp (hl.st C N H fun x1 h' tk kk H1 hu => hr.st C N H1 fun x2 h'' tk2 kk2 H2 hu2 => by
    obtain ⟨a1, w1, rfl, ⟨n1, p1⟩, v1⟩ := ha H2.objs (hu.up kk2)
    obtain ⟨a2, w2, rfl, ⟨n2, p2⟩, v2⟩ := hc H2.objs hu2
    refine P.add_list p1 p2 ?_ (by rw [List.size_toArray, List.size_toArray, v1.length, v2.length, sizeLine_eq]; omega)
    have := new_st (prog := prog) (A := A) (E := E) (Q := fun _ => Q .next) (s := { s with heap := h'', toks := tk2 }) (tk := tk2) H2 N hx (Vals.append v1 v2) fun h2 tk3 H3 => k h2 tk3 .next ⟨rfl, H3⟩
    rw [List.append_toArray]
    exact this))⟩
theorem empty_list {p : Pos} {Q : Value → Shared → Prop} (H : St1 w F σ s.heap sa b)
    (k : ∀ a h', St1 w F ⟨σ.sc, σ.vs, σ.ob ++ [some []]⟩ h' (sa ++ [a]) b → Q (.ref a) { s with heap := h' }) : wpAny (model prog w) A (eval (.List [] p) F.env) Q E s :=
  wpAny_List (Calls.spliced_nil ⟨Nat.zero_le _, k _ _ (H.newList (KeepH.push _ _) fresh_size (plain_new _ _) rfl)⟩)
theorem asg_three {x : Str} {p p1 p2 p3 : Pos} (hx : ownS σ.sc x) : AsgS prog w D σ x (.List [.List [] p1, .List [] p2, .List [] p3] p) ⟨σ.sc, (x, .ref (σ.ob.length + 3)) :: σ.vs, ((((σ.ob ++ [some []]) ++ [some []]) ++ [some []]) ++ [some [.ref σ.ob.length, .ref (σ.ob.length + 1), .ref (σ.ob.length + 2)]])⟩ :=
  ⟨rfl, fun {A E s F Q} C N ⟨sa, b, H⟩ k => by
    refine wpAny_Assign_Name (wpAny_List (Calls.spliced_cons (x := eval (.List [] p1) F.env) (empty_list H fun a1 h1 H1 => Calls.spliced_cons (x := eval (.List [] p2) F.env) (empty_list (s := { s with heap := h1 }) H1 fun a2 h2 H2 => Calls.spliced_cons (x := eval (.List [] p3) F.env) (empty_list (s := { s with heap := h2 }) H2 fun a3 h3 H3 => Calls.spliced_nil ⟨Nat.le_of_ble_eq_true rfl, ?_⟩)))))
    have l0 := H.lay.len
    have l1 := H1.lay.len
    have l2 := H2.lay.len
    have l3 := H3.lay.len
    rw [List.length_append, List.length_singleton, List.length_append, List.length_singleton] at l1 l2
    have hv : Vals (muOf F (sa ++ [a1] ++ [a2] ++ [a3]) (σ.ob ++ [some []] ++ [some []] ++ [some []])) (sa ++ [a1] ++ [a2] ++ [a3]) h3 [.ref σ.ob.length, .ref (σ.ob.length + 1), .ref (σ.ob.length + 2)] [.ref a1, .ref a2, .ref a3] :=
      ⟨_, _, rfl, ⟨a1, get_app (get_app (l0 ▸ get_last)), rfl⟩, _, _, rfl, ⟨a2, get_app (by have := get_last (l := sa ++ [a1]) (x := a2); rw [List.length_append, List.length_singleton, l0] at this; exact this), rfl⟩, _, _, rfl, ⟨a3, by have := get_last (l := sa ++ [a1] ++ [a2]) (x := a3); rw [List.length_append, List.length_singleton, List.length_append, List.length_singleton, l0] at this; exact this, rfl⟩, rfl⟩
    have := new_st (prog := prog) (A := A) (E := E) (Q := fun _ => Q .next) (s := { s with heap := h3 }) (tk := s.toks) H3 N hx hv fun h2 tk3 H4 => k h2 tk3 .next ⟨rfl, by
      rw [List.length_append, List.length_append, List.length_append] at H4
      exact H4⟩
    exact this⟩
theorem swap_is {elt : Expr} {gens : List Comprehension} {sc' : Scope} {p0 p : Pos} {x : Str} {l : Nat} {env : Env} : ∃ c : Bool, swapsWith (.ListComp elt gens sc' p0) (some (.Name x p)) l env = pure c := ⟨_, rfl⟩
/-- a comprehension whose list goes into a name -/
theorem asg_comp {elt t it : Expr} {ifs : List Expr} {sc' : Scope} {p0 : Pos} {x : Str} {l : List AV} (hx : ownS σ.sc x) (hc : CompS prog w D σ elt t it ifs sc' p0 l) : AsgS prog w D σ x (.ListComp elt [⟨t, it, ifs, 0⟩] sc' p0) ⟨σ.sc, (x, .lst l) :: σ.vs, σ.ob⟩ :=
  fun {px pos} => ⟨rfl, fun {A E s F Q} C N ⟨sa, b, H⟩ k => by
    obtain ⟨c, hsw⟩ := swap_is (elt := elt) (gens := [⟨t, it, ifs, 0⟩]) (sc' := sc') (p0 := p0) (p := px) (x := x) (l := pos.line) (env := F.env)
    cases c with
    | false => exact wpAny_Assign_Name ((r_comp hc).st C N H fun u h' tk kk H1 hu => put_st H1 N hx hu fun h2 tk2 H2 _ => k h2 tk2 .next ⟨rfl, _, _, H2⟩) hsw
    | true =>
      rw [exec_Assign_Name_used _ _ _ _ hsw]
      refine wpAny_bind (wpAny_standAt (wpAny_bind ?_))
      show wpAny _ _ (comprehension (.ListComp elt [⟨t, it, ifs, 0⟩] sc' p0) sc' F.env (firstIterPos [⟨t, it, ifs, 0⟩] p0) (newList []) (firstAsync [⟨t, it, ifs, 0⟩]) (firstIter [⟨t, it, ifs, 0⟩] F.env) (some (assign (.Name x px) F.env)) >>= fun _ => pure ()) _ _ s
      refine wpAny_bind (hc (H.at_ N C) fun mu' L K h' tk ys c => ?_)
      have KL : Lives h' K := c.ns.elim fun m p => Ns.lives p
      have H1 := H.growX (X := fun a => a = K) c.keeps (fun a e => e ▸ c.Kn) (fun a e => e ▸ KL)
      have hval : Val (muOf ⟨F.Kp, fun a => F.mu0 a ∨ a = K, F.env, F.own⟩ sa σ.ob) sa h' (.lst l) (.ref L) := by
        refine ⟨L, ys, rfl, fun e => ?_, c.pl, c.vs.to ⟨fun _ _ _ e => e, fun a _ ha e => ?_⟩⟩
        · exact c.Lmu (e.elim (fun e => e.elim .inl fun e => absurd e.symm c.ne) .inr)
        · exact e.elim (fun e => e.elim (fun e => c.out a ha (.inl e)) fun e => ha (e ▸ c.hK)) fun e => c.out a ha (.inr e)
      refine wpAny_assign_Name (put_st (F := ⟨F.Kp, fun a => F.mu0 a ∨ a = K, F.env, F.own⟩) (s := { s with heap := h', toks := tk }) H1 ⟨N.kind, N.globals, N.builtins, N.names, N.owned, N.cells, N.func, N.quiet⟩ hx hval fun h'' tk2 H2 W => ?_)
      obtain ⟨mK, hnK⟩ := c.ns
      refine ⟨mK, hnK.at' fun o e => W.keep K o (fun e => (H.frm.live e).not c.Kn) e, fun h3 hs => wpAny_pure (wpAny_pure ?_)⟩
      exact k h3 tk2 .next ⟨rfl, _, _, H2.touchX (F := F) (mu0 := F.mu0) (X := fun a => a = K) (fun a o ha e => hs.extBut a o ha e) (fun a o e e' => by subst e; exact nomatch (H.lay.keep _ o e').symm.trans c.Kn) (fun a e e' => by subst e'; exact (H.lay.old _ e).not c.Kn)⟩⟩
end
end Mine

namespace Mine
noncomputable section
variable {prog : Program} {w : World} {D : Nat} {A : Around} {E : Value → Shared → Prop} {s s' : Shared} {sa : List Addr} {σ : SE} {h h' : Heap} {ob : Obs} {b : Str → Option Value} {F : Fx}

abbrev XS (prog : Program) (w : World) (D : Nat) (σ : SE) (st : Stmt) (σ' : SE) : Prop := SSound prog w D σ (exec st) (.next, σ')
theorem x_three {x y z : Str} {px py pz cp pos : Pos} {k : Const} {ck : Nat} {v : AV} (hx : ∀ t ∈ [x, y, z], ownS σ.sc t) (hk : ∀ {σ : SE}, ConstS prog w D σ k v) (hv : ∀ {mu mu' : Addr → Prop} {sa sa' : List Addr} {h h' : Heap} {u : Value}, Val mu sa h v u → Val mu' sa' h' v u) : XS prog w D σ (.Assign [.Name x px, .Name y py, .Name z pz] (.Constant k ck cp) pos) ⟨σ.sc, (z, v) :: (y, v) :: (x, v) :: σ.vs, σ.ob⟩ :=
  ⟨rfl, fun {A E s F Q} C N ⟨sa, b, H⟩ g => wpAny_Assign_three ((ES.st hk) C N H fun u h1 tk1 kk H1 hu =>
    wpAny_assign_Name (put_st (s := { s with heap := h1, toks := tk1 }) H1 N (hx _ (.head _)) (hv hu) fun h2 tk2 H2 _ =>
    wpAny_assign_Name (put_st (s := { s with heap := h2, toks := tk2 }) H2 N (hx _ (.tail _ (.head _))) (hv hu) fun h3 tk3 H3 _ =>
    wpAny_assign_Name (put_st (s := { s with heap := h3, toks := tk3 }) H3 N (hx _ (.tail _ (.tail _ (.head _)))) (hv hu) fun h4 tk4 H4 _ => g h4 tk4 .next ⟨rfl, _, _, H4⟩))))⟩
theorem x_unpack {ts : List Expr} {k : Nat} {tp pos ap : Pos} {o : Expr} {a : Str} {v : AV} {bs : List (Str × AV)} (hx : ∀ t ∈ namesT (.Tuple ts k tp), ownS σ.sc t) (he : ES prog w D σ (.Attribute o a ap) v) (hb : BindS (.Tuple ts k tp) v bs) : XS prog w D σ (.Assign [.Tuple ts k tp] (.Attribute o a ap) pos) ⟨σ.sc, bs ++ σ.vs, σ.ob⟩ :=
  ⟨rfl, fun C N ⟨sa, b, H⟩ g => wpAny_Assign_stores (he.st C N H fun u h' tk kk H1 hu => hb.run C N.kind H1.frm (fun z hz => own_of N (hx z hz)) hu fun h2 tk2 b2 F2 Bd W2 => g h2 tk2 .next ⟨rfl, _, _, H1.puts F2 W2 Bd⟩) rfl rfl⟩
/-- an in-place operator gives so -/
noncomputable def IopS (prog : Program) (w : World) (op : Operator) (x y v : AV) : Prop := ∀ {A : Around} {E : Value → Shared → Prop} {s : Shared} {mu : Addr → Prop} {sa : List Addr} {Q : Value → Shared → Prop} {a b : Value}, Val mu sa s.heap x a → Val mu sa s.heap y b → Gives mu sa s v Q → wpAny (model prog w) A (inplaceOp op a b) Q E s
noncomputable def iopC : (op : Operator) → (x y : AV) → Rz (IopS prog w op x y)
  | .Add, .int p a, .int q b => ret (.int (p || q) (a + b)) fun hx hy g => by obtain ⟨t, rfl⟩ := hx; obtain ⟨u, rfl⟩ := hy; exact AutoIntOps.iadd_0 (g.int _ _)
  | .Sub, .int p a, .int q b => ret (.int (p || q) (a - b)) fun hx hy g => by obtain ⟨t, rfl⟩ := hx; obtain ⟨u, rfl⟩ := hy; exact AutoIntOps.isub_0 (g.int _ _)
  | .Add, .str a, .str b => mapR (need (a.length + b.length ≤ sizeLine)) (fun _ => .str (a ++ b)) fun _ hk => fun hx hy g => by obtain ⟨t, rfl⟩ := hx; obtain ⟨u, rfl⟩ := hy; exact PyProof.Rows.iadd_str (fun t' k => g.str t' k) hk
  | _, _, _ => none
theorem load_st {x : Str} {v : AV} {Q : Value → Shared → Prop} (hx : ownS σ.sc x) (hv : σ.vs.lookup x = some v) (N : FnE F σ.sc) (H : St1 w F σ s.heap sa b) (k : ∀ u, Val (muOf F sa σ.ob) sa s.heap v u → Q u s) : wpAny (model prog w) A (loadName F.env x) Q E s := by
  have ho := own_of N hx
  obtain ⟨u, p, q⟩ := H.vars x ho v hv
  rcases H.frm.loads ho p with ⟨e, m, q1, q2⟩ | ⟨e, cc, q1, q2⟩
  · exact wpAny_loadName_local N.kind e q1 q2 (k u q)
  · refine wpAny_loadName_cell N.kind (e.resolve_right fun e => ?_) q1 q2 (k u q)
    rcases hx with h | h <;> cases (N.names x _ h).symm.trans e
theorem x_aug {x : Str} {px pos : Pos} {op : Operator} {e : Expr} {a c v : AV} (hx : ownS σ.sc x) (ha : σ.vs.lookup x = some a) (he : ES prog w D σ e c) (ho : IopS prog w op a c v) : XS prog w D σ (.AugAssign (.Name x px) op e pos) ⟨σ.sc, (x, v) :: σ.vs, σ.ob⟩ :=
  ⟨rfl, fun {A E s F Q} C N ⟨sa, b, H⟩ g => wpAny_AugAssign_Name (load_st hx ha N H fun u hu => he.st C N H fun u2 h' tk kk H1 hu2 => ho (hu.up kk) hu2 fun u3 s3 k3 hu3 => by
    obtain ⟨h3', tk3, rfl, kk3⟩ := k3
    exact put_st (H1.up kk3) N hx hu3 fun h4 tk4 H4 _ => g h4 tk4 .next ⟨rfl, _, _, H4⟩)⟩
theorem x_if {t : Expr} {a bb : List Stmt} {pos : Pos} {d : Bool} {r : Fl × SE} (ht : TS prog w D σ t d) (hr : SSound prog w D σ (execs (if d then a else bb)) r) : SSound prog w D σ (exec (.If t a bb pos)) r :=
  ⟨hr.sc, fun {A E s F Q} C N ⟨sa, b, H⟩ k => wpAny_If (ht (H.at_ N C) fun s' ks => by
    obtain ⟨h', tk, rfl, kk⟩ := ks
    have := hr.run (A := A) (E := E) (s := { s with heap := h', toks := tk }) C N ⟨_, _, H.up kk⟩ k
    cases d with
    | true => exact this
    | false => exact this)⟩
/-- what goes out -/
noncomputable def FrzS (σ : SE) (v u : AV) : Prop := ∀ {w : World} {F : Fx} {h : Heap} {sa : List Addr} {b : Str → Option Value} {x : Value}, St1 w F σ h sa b → Val (muOf F sa σ.ob) sa h v x → Val F.mu0 [] h u x
theorem frz_val {v : AV} (hn : noRef v = true) : FrzS σ v v := fun H hv => (noRef_val (sa' := []) hn hv).to ⟨fun _ _ _ e => e, fun a _ ha e => ha (.inl e)⟩
theorem frz_own {i : Nat} {l : List AV} (ho : σ.ob[i]? = some (some l)) (hn : noRefs l = true) : FrzS σ (.ref i) (.lst l) := fun H hv => by
  obtain ⟨a, ws, p, q, r⟩ := H.objs i l ho
  obtain ⟨a', p', rfl⟩ := hv
  cases p.symm.trans p'
  exact ⟨a, ws, rfl, H.lay.sa0 i a p, q, (noRefs_vals (sa' := []) hn r).to ⟨fun _ _ _ e => e, fun a _ ha e => ha (.inl e)⟩⟩
noncomputable def frzC (σ : SE) : (v : AV) → Rz (FrzS σ v)
  | .ref i => match h : σ.ob[i]? with
    | some (some l) => mapR (chk false (noRefs l = true)) (fun _ => .lst l) fun _ hn => frz_own h hn
    | _ => none
  | v => mapR (chk false (noRef v = true)) (fun _ => v) fun _ hn => frz_val hn
theorem x_ret {e : Expr} {p : Pos} {v u : AV} (he : ES prog w D σ e v) (hf : FrzS σ v u) : SSound prog w D σ (exec (.Return (some e) p)) (.ret u, σ) :=
  ⟨rfl, fun C N ⟨sa, b, H⟩ k => wpAny_Return_some (he.st C N H fun x h' tk kk H1 hu => k h' tk _ ⟨x, rfl, H1.lay.keep, hf H1 hu⟩)⟩
theorem x_append {o e : Expr} {ap p pos : Pos} {i : Nat} {l : List AV} {v : AV} (hb : BaseOk o) (hp : ap.endLine = p.line) (ho : ES prog w D σ o (.ref i)) (he : ES prog w D σ e v) (hl : σ.ob[i]? = some (some l)) (hlen : l.length ≤ 4096) : XS prog w D σ (.Expr (.Call (.Attribute o (nm "append") ap) [e] [] p) pos) ⟨σ.sc, σ.vs, σ.ob.set i (some (l ++ [v]))⟩ :=
  ⟨rfl, fun {A E s F Q} C N ⟨sa, b, H⟩ k => by
    have htr : backTo p (starEach [e] F.env) = [(false, eval e F.env)] := by rw [no_star he.form]; rfl
    refine wpAny_Expr_any (wpAny_Call_append (hb _ _ _) (by rw [htr]; rfl) (by rw [hp]; exact beq_self_eq_true _) htr (ho.st C N H fun u h' tk kk H1 hu => ?_)) N.quiet rfl
    obtain ⟨ad, had, rfl⟩ := hu
    obtain ⟨a1, ws, p1, ⟨nn, q1⟩, r1⟩ := H1.objs i l hl
    cases had.symm.trans p1
    refine ⟨ad, ws.toArray, rfl, ⟨_, nn, q1, rfl, rfl, rfl⟩, he.st C N H1 fun u2 h'' tk2 kk2 H2 hu2 => ?_⟩
    refine wpAny_list_append_plain ⟨nn, kk2 _ _ q1⟩ (fun h3 hp hs => k h3 tk2 .next ⟨rfl, _, _, H2.setList (ws := ws ++ [u2]) had hl hs ?_ (Vals.snoc (r1.up kk2) hu2)⟩) (by rw [List.size_toArray, r1.length, sizeLine_eq]; omega)
    rw [List.push_toArray] at hp
    exact hp⟩
theorem setItem_plain {l : Addr} {ws : List Value} {k : Int} {t : Tok} {v : Value} {Q : Unit → Shared → Prop} (hl : s.heap.PlainList l ws.toArray) (h0 : 0 ≤ k) (hfit : k < 2 ^ 63) (hn : k < ws.length)
    (hQ : ∀ h', h'.PlainList l (List.toArray (ws.set k.toNat v)) → Heap.SameBut l s.heap h' → Q () { s with heap := h' }) : wpAny (model prog w) A (setItem (.ref l) (.int k t) v) Q E s := by
  obtain ⟨n, ho⟩ := id hl
  have hT := hl.isList.typeIs (s := s)
  unfold setItem
  try with_reducible refine wpAny_holding ?_
  first | refine wpAny_bind (wpAny_pure ?_) | skip
  refine wpAny_bind (wpAny_sequenceKey hT (by decide) ?_)
  refine wpAny_bind (wpAny_callSpecial?_slot (name := Str.ofString "__setitem__") hT slot_list_setitem
    (wpAny_call_entry slot_list_setitem hT entry_list_setitem ?_ (args_list_setitem _ _ _)))
  show wpAny _ _ (Builtin.List.listSubscript? (.int k t) >>= _) _ _ s
  refine wpAny_bind (wpAny_listSubscript_int (fitsIndex_of h0 hfit) ?_)
  clear hfit
  obtain ⟨j, rfl⟩ := Int.eq_ofNat_of_zero_le h0
  have hj : j < ws.toArray.size := by rw [List.size_toArray]; omega
  have hx' : ws.toArray[j]? = some ws.toArray[j] := Array.getElem?_eq_getElem hj
  show wpAny _ _ ((seqItemAt l j >>= fun r => pure (r.map (j, ·))) >>= _) _ _ s
  refine wpAny_bind (wpAny_bind (wpAny_seqItemAt ho rfl (wpAny_pure ?_)))
  rw [hx']
  show wpAny _ _ (setSeqItemAt l j v >>= _) _ _ s
  have hfin : (s.heap.update l (Obj.mapSeq (·.setIfInBounds j v))).PlainList l (List.toArray (ws.set j v)) := by
    have q := IsL.update (l := l) (items := ws.toArray) (n := n) ho (·.setIfInBounds j v)
    rw [List.setIfInBounds_toArray] at q
    exact ⟨_, q⟩
  refine wpAny_bind (wpAny_setSeqItemAt ho rfl ?_)
  first
    | exact wpAny_bind (wpAny_pure (wpAny_pure ⟨.none, rfl, wpAny_pure (hQ _ hfin (Heap.SameBut.update ..))⟩))
    | exact wpAny_pure ⟨.none, rfl, wpAny_pure (hQ _ hfin (Heap.SameBut.update ..))⟩
theorem set_st {i : Nat} {l : List AV} {v : AV} {k : Int} {t : Tok} {ad : Addr} {u : Value} {Q : Unit → Shared → Prop} (H : St1 w F σ s.heap sa b) (had : sa[i]? = some ad) (hl : σ.ob[i]? = some (some l)) (hk : 0 ≤ k ∧ k < l.length ∧ l.length ≤ 4096) (hv : Val (muOf F sa σ.ob) sa s.heap v u)
    (g : ∀ h', St w F ⟨σ.sc, σ.vs, σ.ob.set i (some (l.set k.toNat v))⟩ h' → Q () { s with heap := h' }) : wpAny (model prog w) A (setItem (.ref ad) (.int k t) u) Q E s := by
  obtain ⟨a1, ws, p1, q1, r1⟩ := H.objs i l hl
  cases had.symm.trans p1
  have hws := r1.length
  exact setItem_plain q1 hk.1 (by omega) (by omega) fun g4 hp hs => g g4 ⟨_, _, H.setList (ws := ws.set k.toNat u) had hl hs hp (Vals.set r1 hv _)⟩
theorem x_set {o i e : Expr} {ip pos : Pos} {j : Nat} {l : List AV} {v : AV} {p : Bool} {k : Int} (he : ES prog w D σ e v) (ho : ES prog w D σ o (.ref j)) (hi : ES prog w D σ i (.int p k)) (hl : σ.ob[j]? = some (some l)) (hk : 0 ≤ k ∧ k < l.length ∧ l.length ≤ 4096) : XS prog w D σ (.Assign [.Subscript o i ip] e pos) ⟨σ.sc, σ.vs, σ.ob.set j (some (l.set k.toNat v))⟩ :=
  ⟨rfl, fun {A E s F Q} C N ⟨sa, b, H⟩ g => wpAny_Assign_Subscript (he.st C N H fun u1 g1 t1 k1 H1 hu1 => ho.st C N H1 fun u2 g2 t2 k2 H2 hu2 => hi.st C N H2 fun u3 g3 t3 k3 H3 hu3 => by
    obtain ⟨ad, had, rfl⟩ := hu2
    obtain ⟨tt, rfl⟩ := hu3
    exact set_st (s := { s with heap := g3, toks := t3 }) H3 had hl hk ((hu1.up k2).up k3) fun g4 hg => g g4 t3 .next ⟨rfl, hg⟩) swap_sub⟩
theorem x_seq {st : Stmt} {rest : List Stmt} {σ1 : SE} {r : Fl × SE} (h1 : XS prog w D σ st σ1) (h2 : SSound prog w D σ1 (execs rest) r) : SSound prog w D σ (execs (st :: rest)) r :=
  ⟨h2.sc.trans h1.sc, fun C N H k => wpAny_execs_cons (h1.run C N H fun h' tk fl ho => by
    obtain ⟨rfl, hg⟩ := ho
    exact h2.run C (h1.sc ▸ N) hg k)⟩
theorem x_stop {st : Stmt} {rest : List Stmt} {r : Fl × SE} (hr : r.1 ≠ .next) (h1 : SSound prog w D σ (exec st) r) : SSound prog w D σ (execs (st :: rest)) r :=
  ⟨h1.sc, fun C N H k => wpAny_execs_cons (h1.run C N H fun h' tk fl ho => by
    have ho' := ho
    obtain ⟨fl0, σ1⟩ := r
    cases fl0 with
    | next => exact absurd rfl hr
    | brk => obtain ⟨rfl, _⟩ := ho; exact k h' tk _ ho'
    | ret v => obtain ⟨u, rfl, _⟩ := ho; exact k h' tk _ ho')⟩
theorem x_nil : SSound prog w D σ (execs []) (.next, σ) := ⟨rfl, fun {A E s F Q} C N H k => wpAny_execs_nil (k s.heap s.toks .next ⟨rfl, H⟩)⟩
theorem x_break {p : Pos} : SSound prog w D σ (exec (.Break p)) (.brk, σ) := ⟨rfl, fun {A E s F Q} C N H k => wpAny_Break (k s.heap s.toks .brk ⟨rfl, H⟩)⟩

/-- an iterable, in a state -/
noncomputable def ItS (prog : Program) (w : World) (D : Nat) (σ : SE) (it t : Expr) (items : List AV) : Prop := ∀ {A : Around} {E : Value → Shared → Prop} {s : Shared} {F : Fx} {sa : List Addr} {b : Str → Option Value} {K : Value → Shared → Prop}, Cx A D → FnE F σ.sc → St1 w F σ s.heap sa b →
  (∀ I fp wr St Mid h₁ h₂ tk, St1 w F σ h₁ sa b → Iter prog w A (muOf F sa σ.ob) sa items t h₁ h₂ I fp wr St Mid → (∀ b ∈ fp, b ∈ wr ∨ (¬ muOf F sa σ.ob b ∧ Lives h₁ b)) → K (.ref I) { s with heap := h₂, toks := tk }) →
  wpAny (model prog w) A (eval it F.env) (fun u s₁ => wpAny (model prog w) A (pyIter u) K E s₁) E s
theorem its_val {it t : Expr} {x : AV} {items : List AV} (hx : ES prog w D σ it x) (hi : IterS σ.ob x items) (ht : OkT t) (hn : noRef x = true) : ItS prog w D σ it t items := fun {A E s F sa b K} C N H k =>
  hx.st C N H fun u h' tk kk H1 hu => hi (s := { s with heap := h', toks := tk }) C ht H1.objs hu fun I fp wr St Mid h₂ It hfp => k I fp wr St Mid h' h₂ tk H1 It (hfp hn)
theorem for_at {A : Around} {E : Value → Shared → Prop} {s : Shared} {F : Fx} {sa : List Addr} {b : Str → Option Value} {Q : Flow → Shared → Prop} {t it : Expr} {body : List Stmt} {pos : Pos} {items : List AV} {r : Fl × SE} (C : Cx A D) (N : FnE F σ.sc) (hI : ∀ {E : Value → Shared → Prop} {K : Value → Shared → Prop}, (∀ I fp wr St Mid h₁ h₂ tk, St1 w F σ h₁ sa b → Iter prog w A (muOf F sa σ.ob) sa items t h₁ h₂ I fp wr St Mid → (∀ b ∈ fp, b ∈ wr ∨ (¬ muOf F sa σ.ob b ∧ Lives h₁ b)) → K (.ref I) { s with heap := h₂, toks := tk }) →
    wpAny (model prog w) A (eval it F.env) (fun u s₁ => wpAny (model prog w) A (pyIter u) K E s₁) E s) (hf : okForm it = true) (hn : noRefs items = true) (hown : ∀ x ∈ namesT t, ownS σ.sc x) (R : Runs prog w D t body items σ r) (k : ∀ h' tk fl, Out w F r h' fl → Q fl { s with heap := h', toks := tk }) : wpAny (model prog w) A (exec (.For t it body [] pos) F.env) Q E s :=
  wpAny_For (hI fun I fp wr St Mid h₁ h₂ tk H1 It hfp => by
    have K : LK.Ok prog w D ⟨F, σ, sa, b, items, h₁, { s with heap := h₂, toks := tk }, I, fp, wr, St, Mid, r, t, body, A, fun r s' => match r with | .ok f => Q f s' | .error e => cameBackBy (model prog w) A F.env E e s'⟩ := ⟨C, N, H1, It, hfp, hn, fun y hy => own_of N (hown y hy), fun h' tk' fl ho => k h' tk' fl ho⟩
    exact codeAny_forLoop_any (LK.At' prog w D _) (fun n s S => LK.turn K S) (items.length + 1) ⟨h₂, tk, 0, σ, sa, b, rfl, rfl, Nat.zero_le _, R, rfl, It.start, K.S3⟩) (fun y => not_set hf F.env y)
theorem x_for {t it : Expr} {body : List Stmt} {pos : Pos} {items : List AV} {r : Fl × SE} (hI : ItS prog w D σ it t items) (hf : okForm it = true) (hn : noRefs items = true) (hown : ∀ x ∈ namesT t, ownS σ.sc x) (R : Runs prog w D t body items σ r) : SSound prog w D σ (exec (.For t it body [] pos)) r :=
  ⟨R.sc, fun C N ⟨_, _, H⟩ k => for_at C N (fun k => hI C N H k) hf hn hown R k⟩
end
end Mine

namespace Mine
noncomputable section
variable {prog : Program} {w : World} {D : Nat} {σ : SE}

/-- no comprehension -/
noncomputable def ncC : (e : Expr) → Option (PLift (NoComp e))
  | .Constant .. | .Name .. | .BinOp .. | .IfExp .. | .Compare .. | .List .. | .Tuple .. | .Attribute .. | .Subscript .. | .Call .. => some ⟨fun _ _ _ => rfl⟩
  | _ => none
section
variable (fn : CFn prog w D) (md : CMd prog w D) (n : Nat)
noncomputable def asgValC (σ : SE) (x : Str) (hx : ownS σ.sc x) (e : Expr) : Rz (AsgS prog w D σ x e) := match ncC e with
  | some hs => mapR (evC fn md n σ e) (fun v => ⟨σ.sc, (x, v) :: σ.vs, σ.ob⟩) fun _ h => asg_val hx h hs.1
  | none => none
noncomputable def asgCatC (σ : SE) (x : Str) (hx : ownS σ.sc x) (l r : Expr) (p : Pos) : Rz (AsgS prog w D σ x (.BinOp l .Add r p)) := bnd (evC fn md n σ l) fun a => bnd (evC fn md n σ r) fun c => match listC σ.ob a, listC σ.ob c with
  | some u, some v => mapR (chk false (u.1.length + v.1.length ≤ 4096)) (fun _ => ⟨σ.sc, (x, .ref σ.ob.length) :: σ.vs, σ.ob ++ [some (u.1 ++ v.1)]⟩) fun _ hn hr hl => asg_cat hx hl hr u.2 v.2 hn
  | _, _ => mapR (binC σ .Add a c) (fun v => ⟨σ.sc, (x, v) :: σ.vs, σ.ob⟩) fun _ h hr hl => asg_val hx (r_bin hl hr h) fun _ _ _ => rfl
noncomputable def asgC (σ : SE) (x : Str) (hx : ownS σ.sc x) : (e : Expr) → Rz (AsgS prog w D σ x e)
  | .List [.List [] _, .List [] _, .List [] _] _ => ret _ (asg_three hx)
  | .List es p => bnd (allC (evC fn md n σ) es) fun l => mapR (chk false (l.length ≤ 64)) (fun _ => ⟨σ.sc, (x, .ref σ.ob.length) :: σ.vs, σ.ob ++ [some l]⟩) fun _ hn h => asg_list hx h hn
  | .BinOp l .Add r p => asgCatC fn md n σ x hx l r p
  | .ListComp elt [⟨t, it, ifs, 0⟩] sc' p => mapR (compC (evC fn md n) σ elt t it ifs sc' p) (fun l => ⟨σ.sc, (x, .lst l) :: σ.vs, σ.ob⟩) fun _ h => asg_comp hx h
  | e => asgValC fn md n σ x hx e
/-- a constant, wherever it stands -/
noncomputable def litC : (k : Const) → Option {v : AV // (∀ {σ : SE}, ConstS prog w D σ k v) ∧ ∀ {mu mu' : Addr → Prop} {sa sa' : List Addr} {h h' : Heap} {u : Value}, Val mu sa h v u → Val mu' sa' h' v u}
  | .int i => some ⟨.int false i, ⟨rfl, fun _ g => wpAny_Constant_int (g.int _ _)⟩, fun e => e⟩
  | _ => none
noncomputable def augC (σ : SE) (x : Str) (px : Pos) (op : Operator) (e : Expr) (pos : Pos) : Rz (XS prog w D σ (.AugAssign (.Name x px) op e pos)) := match ownC σ.sc x, look σ.vs x with
  | some hx, some a => bnd (evC fn md n σ e) fun c => mapR (iopC op a.1 c) (fun v => ⟨σ.sc, (x, v) :: σ.vs, σ.ob⟩) fun _ ho he => x_aug hx.1 a.2 he ho
  | _, _ => none
noncomputable def meetC : (q : Bool × Bool) → (o : List Bool) → Rz fun p : Bool × List Bool => p.1 = q.2
  | (false, b), o => ret (b, o) rfl
  | (true, b), d :: r => mapR (need (b = d)) (fun _ => (d, r)) fun _ h => h.symm
  | (true, _), [] => none
noncomputable def appC (σ : SE) (o : Expr) (m : Str) (ap : Pos) (e : Expr) (p pos : Pos) : Rz (XS prog w D σ (.Expr (.Call (.Attribute o m ap) [e] [] p) pos)) := match baseC o with
  | none => none
  | some hb => bnd (chk false (m = nm "append" ∧ ap.endLine = p.line)) fun _ => bnd (evC fn md n σ o) fun x => bnd (evC fn md n σ e) fun v => match x with
    | .ref i => match seen σ.ob[i]? with
      | some ⟨some l, hl⟩ => mapR (need (l.length ≤ 4096)) (fun _ => ⟨σ.sc, σ.vs, σ.ob.set i (some (l ++ [v]))⟩) fun _ hn he ho k => by rw [k.1]; exact x_append hb.1 k.2 ho he hl hn
      | _ => none
    | _ => none
noncomputable def setC (σ : SE) (o i e : Expr) (ip pos : Pos) : Rz (XS prog w D σ (.Assign [.Subscript o i ip] e pos)) := bnd (evC fn md n σ e) fun v => bnd (evC fn md n σ o) fun x => bnd (evC fn md n σ i) fun k => match x, k with
  | .ref j, .int p k => match seen σ.ob[j]? with
    | some ⟨some l, hl⟩ => mapR (need (0 ≤ k ∧ k < l.length ∧ l.length ≤ 4096)) (fun _ => ⟨σ.sc, σ.vs, σ.ob.set j (some (l.set k.toNat v))⟩) fun _ hk hi ho he => x_set he ho hi hl hk
    | _ => none
  | _, _ => none
/-- the statements that no other holds -/
noncomputable def flatC (σ : SE) : (st : Stmt) → Rz (XS prog w D σ st)
  | .Assign [.Name x px] e pos => match ownC σ.sc x with
    | some hx => mapR (asgC fn md n σ x hx.1 e) id fun _ h => h
    | none => none
  | .Assign [.Name x px, .Name y py, .Name z pz] (.Constant k ck cp) pos => match ownsC σ.sc [x, y, z], litC (prog := prog) (w := w) (D := D) k with
    | some hx, some v => ret _ (x_three hx.1 v.2.1 v.2.2)
    | _, _ => none
  | .Assign [.Tuple ts k tp] (.Attribute o a ap) pos => match ownsC σ.sc (namesT (.Tuple ts k tp)) with
    | some hx => bnd (evC fn md n σ (.Attribute o a ap)) fun v => match takeC (.Tuple ts k tp) v with
      | some bs => ret ⟨σ.sc, bs.1 ++ σ.vs, σ.ob⟩ fun he => x_unpack hx.1 he bs.2
      | none => none
    | none => none
  | .Assign [.Subscript o i ip] e pos => setC fn md n σ o i e ip pos
  | .AugAssign (.Name x px) op e pos => augC fn md n σ x px op e pos
  | .Expr (.Call (.Attribute o m ap) [e] [] p) pos => appC fn md n σ o m ap e p pos
  | _ => none
end
abbrev RS := (Fl × SE) × List Bool
theorem x_if' {t : Expr} {a bb : List Stmt} {pos : Pos} {d c : Bool} {r : Fl × SE} (hd : d = c) (ht : TS prog w D σ t c) (hr : SSound prog w D σ (execs (if d then a else bb)) r) : SSound prog w D σ (exec (.If t a bb pos)) r := by subst hd; exact x_if ht hr
mutual
noncomputable def exC (fn : CFn prog w D) (md : CMd prog w D) : (n : Nat) → (σ : SE) → (o : List Bool) → (ss : List Stmt) → Rz fun r : RS => SSound prog w D σ (execs ss) r.1
  | 0, _, _, _ => none
  | n + 1, σ, o, ss => match ss with
    | [] => ret ((.next, σ), o) x_nil
    | st :: rest => bnd (ex1C fn md n σ o st) fun r => match r with
      | ((.next, σ1), o1) => mapR (exC fn md n σ1 o1 rest) id fun _ h2 h1 => x_seq h1 h2
      | ((.brk, σ1), o1) => ret ((.brk, σ1), o1) fun h1 => x_stop (fun e => nomatch e) h1
      | ((.ret v, σ1), o1) => ret ((.ret v, σ1), o1) fun h1 => x_stop (fun e => nomatch e) h1
noncomputable def ex1C (fn : CFn prog w D) (md : CMd prog w D) : (n : Nat) → (σ : SE) → (o : List Bool) → (st : Stmt) → Rz fun r : RS => SSound prog w D σ (exec st) r.1
  | 0, _, _, _ => none
  | n + 1, σ, o, st => match st with
    | .If t a b pos => bnd (testC (evC fn md n σ) t) fun q => bnd (meetC q o) fun d => match d with
      | (true, o1) => mapR (exC fn md n σ o1 a) id fun _ hr hd ht => x_if' (d := true) hd ht hr
      | (false, o1) => mapR (exC fn md n σ o1 b) id fun _ hr hd ht => x_if' (d := false) hd ht hr
    | .For t it body [] pos => match tgtC t, ownsC σ.sc (namesT t) with
      | some ht, some hown => bnd (evC fn md n σ it) fun x => match itemsC σ.ob x with
        | none => none
        | some items => bnd (chk false (noRef x = true ∧ noRefs items.1 = true)) fun _ => mapR (exFC fn md n σ o t body items.1) id fun _ R hn hx => x_for (its_val hx items.2 ht.1 hn.1) hx.form hn.2 hown.1 R
      | _, _ => none
    | .Return (some e) pos => bnd (evC fn md n σ e) fun v => mapR (frzC σ v) (fun u => ((.ret u, σ), o)) fun _ hf he => x_ret he hf
    | .Break pos => ret ((.brk, σ), o) x_break
    | st => mapR (flatC fn md n σ st) (fun σ1 => ((.next, σ1), o)) fun _ h => h
noncomputable def exFC (fn : CFn prog w D) (md : CMd prog w D) : (n : Nat) → (σ : SE) → (o : List Bool) → (t : Expr) → (body : List Stmt) → (items : List AV) → Rz fun r : RS => Runs prog w D t body items σ r.1
  | 0, _, _, _, _, _ => none
  | n + 1, σ, o, t, body, items => match items with
    | [] => ret ((.next, σ), o) (.nil σ)
    | x :: xs => match takeC t x with
      | none => none
      | some bs => bnd (exC fn md n ⟨σ.sc, bs.1 ++ σ.vs, σ.ob⟩ o body) fun r => match r with
        | ((.next, σ1), o1) => mapR (exFC fn md n σ1 o1 t body xs) id fun _ R h => .step bs.2 h R
        | ((.brk, σ1), o1) => ret ((.next, σ1), o1) fun h => .brk bs.2 h
        | ((.ret v, σ1), o1) => ret ((.ret v, σ1), o1) fun h => .ret bs.2 h
end
end
end Mine

namespace Mine
noncomputable section
variable {prog : Program} {w : World} {D : Nat} {A : Around} {E : Value → Shared → Prop} {s : Shared} {mu : Addr → Prop} {sa : List Addr} {env : Env} {h h' : Heap} {Q : Value → Shared → Prop}

noncomputable def ownOf (sc : Scope) : List Str := (sc.names.filter fun p => p.2 == .local || p.2 == .cell).map (·.1)
theorem mem_own {sc : Scope} {x : Str} : x ∈ ownOf sc ↔ ∃ k, (x, k) ∈ sc.names ∧ (k = .local ∨ k = .cell) := by
  unfold ownOf
  simp only [List.mem_map, List.mem_filter, Bool.or_eq_true, beq_iff_eq]
  exact ⟨fun ⟨p, ⟨h1, h2⟩, e⟩ => ⟨p.2, e ▸ h1, h2⟩, fun ⟨k, h1, h2⟩ => ⟨(x, k), ⟨h1, h2⟩, rfl⟩⟩
/-- a plain function's record -/
structure FnRec (fd : FuncData) : Prop where
  kind : fd.scope.kind = .function
  co : fd.scope.isCoroutine = false
  gen : fd.scope.isGenerator = false
  clo : fd.closure = []
  glob : fd.globals = mainGlobals
  blt : fd.builtins = builtinsNs
  nofree : ∀ p ∈ fd.scope.names, p.2 ≠ .free
  uniq : ∀ p ∈ fd.scope.names, fd.scope.names.lookup p.1 = some p.2
  body : ∃ b, fd.body = .stmts b
noncomputable def bodyOf (fd : FuncData) : List Stmt := match fd.body with | .stmts b => b | _ => []
theorem FnRec.stmts {fd : FuncData} (R : FnRec fd) : fd.body = .stmts (bodyOf fd) := by
  obtain ⟨b, e⟩ := R.body
  unfold bodyOf; rw [e]
/-- the names that are bound, local or cell -/
structure Binds (fd : FuncData) (names : List Str) : Prop where
  own : ∀ x ∈ names, ownS fd.scope x
  nodup : names.Nodup
theorem fnE_of {fd : FuncData} (R : FnRec fd) {F : Fx} (hs : F.env.scope = fd.scope) (hg : F.env.globals = fd.globals) (hb : F.env.builtins = fd.builtins) (ho : F.own = ownOf fd.scope) (hc : ∀ x, fd.scope.names.lookup x = some .cell → ∃ c, F.env.cells.lookup x = some c) : FnE F fd.scope where
  kind := hs ▸ R.kind
  globals := hg.trans R.glob
  builtins := hb.trans R.blt
  names := fun x k e => by unfold Env.kindOf; rw [hs]; exact e
  owned := fun x k e hk => ho ▸ mem_own.mpr ⟨k, lookup_mem' e, hk.elim .inl fun hk => hk.elim .inr fun hk => absurd hk (R.nofree _ (lookup_mem' e))⟩
  cells := fun x e => by
    unfold Env.kindOf at e; rw [hs] at e
    exact e.elim (hc x) fun e => absurd rfl (R.nofree _ (lookup_mem' e))
  func := by unfold Env.blockKind; rw [hs, R.kind]; rfl
  quiet := by unfold interactive; rw [hs, R.kind]; rfl
theorem zip_lookup {x : Str} : ∀ {names : List Str} {as : List AV} {vals : List Value} {v : AV}, (names.zip as).lookup x = some v → Vals mu sa h as vals → ∃ u, (names.zip vals).lookup x = some u ∧ Val mu sa h v u
  | y :: names, a :: as, _, v, e, ⟨u, r, rfl, hu, hr⟩ => by
    rw [List.zip_cons_cons] at e ⊢
    by_cases hb : x = y
    · cases hb; rw [lookup_cons_eq] at e ⊢; cases e; exact ⟨u, rfl, hu⟩
    · rw [lookup_cons_ne hb] at e ⊢; exact zip_lookup e hr
theorem lookup_notmem {α : Type} {x : Str} : ∀ {l : List (Str × α)}, x ∉ l.map (·.1) → l.lookup x = none
  | [], _ => rfl
  | (y, v) :: l, h => by
    rw [lookup_cons_ne fun e => h (by rw [e]; exact .head _)]
    exact lookup_notmem fun e => h (.tail _ e)
theorem reverse_lookup {α : Type} {x : Str} : ∀ {l : List (Str × α)}, (l.map (·.1)).Nodup → l.reverse.lookup x = l.lookup x
  | [], _ => rfl
  | (y, v) :: l, h => by
    rw [List.map_cons, List.nodup_cons] at h
    rw [List.reverse_cons, lookup_app, reverse_lookup h.2]
    by_cases hb : x = y
    · cases hb; rw [lookup_notmem h.1, lookup_cons_eq, lookup_cons_eq]; rfl
    · rw [lookup_cons_ne hb, lookup_cons_ne hb]; cases l.lookup x <;> rfl
theorem zip_map_fst_sub {α : Type} : ∀ (l : List Str) (r : List α), List.Sublist ((l.zip r).map (·.1)) l
  | [], _ => .slnil
  | x :: l, [] => List.nil_sublist _
  | x :: l, y :: r => (zip_map_fst_sub l r).cons_cons x
theorem bindL_at {kindOf : Str → Option NameKind} {x : Str} (hk : kindOf x = some .local) : ∀ (l : List (Str × Value)) (m : Str → Option Value), bindL kindOf l m x = (l.reverse.lookup x).or (m x)
  | [], m => rfl
  | (y, v) :: l, m => by
    rw [bindL, bindL_at hk l, List.reverse_cons, lookup_app]
    by_cases hxy : x = y
    · cases hxy; rw [lookup_cons_eq, if_pos hk, if_pos rfl]; cases l.reverse.lookup x <;> rfl
    · rw [lookup_cons_ne hxy, show (if kindOf y = some NameKind.local then fun z => if z = y then some v else m z else m) x = m x by split; exact if_neg hxy; rfl]
      cases l.reverse.lookup x <;> rfl
theorem bindC_at {kindOf : Str → Option NameKind} {x : Str} (hk : kindOf x ≠ some .local) : ∀ (l : List (Str × Value)) (m : Str → Option Value), bindC kindOf l m x = (l.reverse.lookup x).or (m x)
  | [], m => rfl
  | (y, v) :: l, m => by
    rw [bindC, bindC_at hk l, List.reverse_cons, lookup_app]
    by_cases hxy : x = y
    · cases hxy; rw [lookup_cons_eq, if_neg hk, if_pos rfl]; cases l.reverse.lookup x <;> rfl
    · rw [lookup_cons_ne hxy, show (if kindOf y = some NameKind.local then m else fun z => if z = y then some v else m z) x = m x by split; rfl; exact if_neg hxy]
      cases l.reverse.lookup x <;> rfl
/-- the frame at the call's start -/
noncomputable def callF (s : Shared) (mu : Addr → Prop) (env : Env) (fd : FuncData) : Fx := ⟨fun b o => s.heap.get? b = some o, mu, env, ownOf fd.scope⟩
theorem start_st {fd : FuncData} {names : List Str} {as : List AV} {vals : List Value} (hb : names.Nodup) (hv : Vals mu [] s.heap as vals) (hB : BB w s.heap) (M : MuIn mu s.heap) (hk : KeepH s.heap h') (hfr : ∀ c : Nat, frameAt env (ownOf fd.scope) c → s.heap.objs.size ≤ c) (Fr : Frm env (ownOf fd.scope) h' fun x => (names.zip vals).reverse.lookup x) :
    St w (callF s mu env fd) ⟨fd.scope, names.zip as, []⟩ h' := by
  have hn : ∀ c, frameAt env (ownOf fd.scope) c → s.heap.get? c = none := fun c hc => Heap.get?_none_of_le (hfr c hc)
  have wf : ∀ c, wrs (callF s mu env fd) [] [] c → frameAt env (ownOf fd.scope) c := fun c hc => hc.elim id fun ⟨i, l, e, _⟩ => nil_get e
  have L : Later mu (muOf (callF s mu env fd) [] []) s.heap h' := ⟨fun b o _ e => hk b o e, fun c hc hm e => e.elim hm fun e => hc.not (hn c (wf c e))⟩
  refine ⟨[], _, Fr, fun x hx v e => ?_, fun i l e => nil_get e, rfl, fun i j c e => nil_get e, fun i c e => nil_get e, fun i c e => nil_get e, fun c hc => ?_, hk, fun h2 e => hB.up e, fun c e => (M c e).up hk, fun i c e => nil_get e⟩
  · obtain ⟨u, q1, q2⟩ := zip_lookup e hv
    exact ⟨u, by rw [reverse_lookup ((zip_map_fst_sub names vals).nodup hb)]; exact q1, q2.to L⟩
  · exact ⟨fun o e => (nomatch (hn c (wf c hc)).symm.trans e), fun e => (M c e).not (hn c (wf c hc))⟩
theorem cells_st {a : Addr} {fd : FuncData} {names : List Str} {as : List AV} {vals : List Value} {s₁ : Shared} (R : FnRec fd) (hb : Binds fd names) (hv : Vals mu [] s.heap as vals) (hB : BB w s.heap) (M : MuIn mu s.heap)
    (I : InCallC s (callEnvC fd s.heap.objs.size a).locals (bindL (callEnvC fd s.heap.objs.size a).kindOf (names.zip vals) fun _ => none) (callEnvC fd s.heap.objs.size a).cells (bindC (callEnvC fd s.heap.objs.size a).kindOf (names.zip vals) fun _ => none) s₁) :
    FnE (callF s mu (callEnvC fd s.heap.objs.size a) fd) fd.scope ∧ St w (callF s mu (callEnvC fd s.heap.objs.size a) fd) ⟨fd.scope, names.zip as, []⟩ s₁.heap := by
  have hcs : ∀ x, fd.scope.names.lookup x = some .cell → ∃ c, (callEnvC fd s.heap.objs.size a).cells.lookup x = some c := fun x e => cellsFrom_some _ _ _ (.inl (lookup_mem' e))
  refine ⟨fnE_of R rfl rfl rfl rfl hcs, start_st hb.nodup hv hB M I.toInCall.keep (fun c hc => ?_) ⟨fun x hx => ?_, ⟨_, I.toInCall.ns, fun x hx hk u hu => ?_⟩, fun x hx hk => ?_, fun x hx y hy hk1 hk2 hne e => ?_, fun x hx hk e => ?_⟩⟩
  · rcases hc with rfl | ⟨x, hx, hk, hc⟩
    · exact Nat.le_refl _
    · exact Nat.le_of_lt (I.above x c (lookup_mem' hc))
  · obtain ⟨k, hk1, hk2⟩ := mem_own.mp hx
    have := R.uniq _ hk1
    exact hk2.imp (fun e => by cases e; exact this) fun e => by cases e; exact this
  · rw [bindL_at hk, hu]; rfl
  · obtain ⟨c, hc⟩ := hcs x hk
    refine ⟨c, _, hc, I.cell x c hc, fun u hu => ?_⟩
    rw [bindC_at (by rw [hk]; exact fun e => nomatch e), hu]; rfl
  · obtain ⟨c1, q1⟩ := hcs x hk1
    obtain ⟨c2, q2⟩ := hcs y hk2
    cases (q1.symm.trans e).trans q2
    exact hne (name_of_addr I.apart (lookup_mem' q1) (lookup_mem' q2))
  · exact absurd (I.above x _ (lookup_mem' e)) (Nat.lt_irrefl _)
theorem Cx.deeper (C : Cx A D) (hD : D < 600) (env : Env) : Cx (A.deeper env) (D + 1) := ⟨C.hh, Nat.succ_le_succ C.depth, by rw [Around.deeper_units]; have := C.units; omega, hD⟩
theorem Cx.roomy (C : Cx A D) : A.depth < recursionLimit := by
  have h1 := C.depth; have h2 := C.top
  have : recursionLimit = 1000 ∨ 601 ≤ recursionLimit := by decide
  omega
/-- a def of the text -/
structure Def (P : Params) (a : Addr) (names : List Str) : Prop where
  at_ : FnAt P a (fdAt P a)
  fn : FnRec (fdAt P a)
  code : codeIn (KP P) (fdAt P a).code (fdAt P a).qualname = true
  binds : Binds (fdAt P a) names
/-- a body gives so -/
noncomputable def BodyS (prog : Program) (w : World) (D : Nat) (a : Addr) (names : List Str) (as : List AV) (r : AV) : Prop := ∃ σ', SSound prog w (D + 1) ⟨(fdAt w.params a).scope, names.zip as, []⟩ (execs (bodyOf (fdAt w.params a))) (.ret r, σ')
theorem fn_cells {a : Addr} {names : List Str} {as : List AV} {vals : List Value} {r : AV} (d : Def w.params a names) (hD : D < 600) (C : Cx A D) (hbind : bindArgs (fdAt w.params a) ⟨vals, []⟩ = pure (names.zip vals)) (hv : Vals mu [] s.heap as vals) (hB : BB w s.heap) (M : MuIn mu s.heap) (run : BodyS prog w D a names as r) (g : Gives mu [] s r Q) :
    wpAny (model prog w) A (call (.ref a) vals []) Q E s := by
  obtain ⟨o, ho, hdata⟩ := d.at_
  obtain ⟨_, _, mg, mb, t⟩ := hB.2
  obtain ⟨σ', run⟩ := run
  have hm : ∀ p ∈ names.zip vals, p.1 ∈ names := fun p hp => (zip_map_fst_sub names vals).subset (List.mem_map.mpr ⟨p, hp, rfl⟩)
  refine wpAny_call (codeAny_call_cells C.roomy (hB.1 _ _ ho) hdata t.nolimit (codeRec_of hB.1 d.code) d.fn.stmts hbind d.fn.clo (fun p hp => (d.binds.own _ (hm p hp)).imp id fun e => ⟨e, ?_⟩) (fun s₁ I => ?_) d.fn.co d.fn.gen d.fn.kind)
  · obtain ⟨c, hc⟩ := cellsFrom_some (x := p.1) (fdAt w.params a).scope.names (s.heap.objs.size + 1) [] (.inl (lookup_mem' e))
    rw [hc]; rfl
  · obtain ⟨N, S⟩ := cells_st d.fn d.binds hv hB M I
    obtain ⟨h1, tk1, rfl⟩ := I.toInCall.same
    refine run.run (F := callF s mu (callEnvC (fdAt w.params a) s.heap.objs.size a) (fdAt w.params a)) (C.deeper hD _) N S fun h' tk fl ho => ?_
    obtain ⟨u, rfl, hk', hu⟩ := ho
    exact g u _ (keeps_heap s hk' tk) hu
theorem fn_call {a : Addr} {names : List Str} {first : List Value} {as : List AV} {r : AV} {pos : Pos} {args : List (Bool × Sem Value)} {keywords : List (Option Str × Sem Value)} (d : Def w.params a names) (hD : D < 600) (C : Cx A D) (hbind : ∀ vals, vals.length = names.length → bindArgs (fdAt w.params a) ⟨vals, []⟩ = pure (names.zip vals)) (hl : as.length = names.length) (run : BodyS prog w D a names as r) (hB : BB w s.heap) (M : MuIn mu s.heap)
    (h : wpAny (model prog w) A (evalArgs (.ref a) true args keywords) (fun x s₁ => KeepH s.heap s₁.heap ∧ x.kw = [] ∧ Vals mu [] s₁.heap as (first ++ x.pos) ∧ Gives mu [] s₁ r Q) E s) :
    wpAny (model prog w) A (callWith pos (.ref a) first args keywords) Q E s := by
  obtain ⟨o, ho, hdata⟩ := d.at_
  refine callWith_function_kw (o := o) (fd := fdAt w.params a) (wpAny_mono h (fun x s₁ hx => ?_) fun _ _ e => e)
  obtain ⟨hk, hkw, hv, g⟩ := hx
  have hB₁ := BB.up hk hB
  refine ⟨⟨hB₁.1 _ _ ho, hdata⟩, ?_⟩
  rw [hkw]
  exact fn_cells d hD C (hbind _ (hv.length.trans hl)) hv hB₁ (M.up hk) run g
end
end Mine

namespace Mine
noncomputable section
variable {prog : Program} {w : World} {D : Nat} {A : Around} {E : Value → Shared → Prop} {s : Shared} {mu : Addr → Prop} {Q : Value → Shared → Prop}

theorem getP {p : Prop} {o : Option (PLift p)} (h : o.isSome = true) : p := by
  cases o with
  | none => cases h
  | some x => exact x.down
noncomputable def bodyC (fd : FuncData) : Option (PLift (∃ b, fd.body = .stmts b)) := match h : fd.body with
  | .stmts b => some ⟨b, rfl⟩
  | _ => none
noncomputable def recC (fd : FuncData) : Option (PLift (FnRec fd)) :=
  if h1 : fd.scope.kind = .function then if h2 : fd.scope.isCoroutine = false then if h3 : fd.scope.isGenerator = false then if h5 : fd.globals = mainGlobals ∧ fd.builtins = builtinsNs then
    if h6 : ∀ p ∈ fd.scope.names, p.2 ≠ .free then if h7 : ∀ p ∈ fd.scope.names, fd.scope.names.lookup p.1 = some p.2 then match h4 : fd.closure, bodyC fd with
      | [], some b => some ⟨⟨h1, h2, h3, h4, h5.1, h5.2, h6, h7, b.1⟩⟩
      | _, _ => none else none else none else none else none else none else none
noncomputable def defC (P : Params) (a : Addr) (names : List Str) : Option (PLift (Def P a names)) :=
  if h1 : (fnIn P a).isSome = true then match recC (fdAt P a), ownsC (fdAt P a).scope names with
    | some h2, some h3 => if h4 : codeIn (KP P) (fdAt P a).code (fdAt P a).qualname = true then if h5 : names.Nodup then some ⟨⟨isFn_get h1, h2.1, h4, h3.1, h5⟩⟩ else none else none
    | _, _ => none else none
abbrev dNames : List Str := [nm "data"]
theorem d41 (P : Params) : Def P 41 dNames := getP (o := defC P 41 _) (by kernel_rfl)
theorem d48 (P : Params) : Def P 48 dNames := getP (o := defC P 48 _) (by kernel_rfl)
theorem d55 (P : Params) : Def P 55 dNames := getP (o := defC P 55 _) (by kernel_rfl)
abbrev qNames : List Str := [nm "data", nm "n", nm "method"]
theorem d63 (P : Params) : Def P 63 qNames := getP (o := defC P 63 _) (by kernel_rfl)
abbrev pNames : List Str := [nm "window", nm "way", nm "place"]
theorem d136 (P : Params) : Def P 136 pNames := getP (o := defC P 136 _) (by kernel_rfl)
theorem b41 (P : Params) (v : Value) : bindArgs (fdAt P 41) ⟨[v], []⟩ = pure (dNames.zip [v]) := by kernel_rfl
theorem b48 (P : Params) (v : Value) : bindArgs (fdAt P 48) ⟨[v], []⟩ = pure (dNames.zip [v]) := by kernel_rfl
theorem b55 (P : Params) (v : Value) : bindArgs (fdAt P 55) ⟨[v], []⟩ = pure (dNames.zip [v]) := by kernel_rfl
theorem b136 (P : Params) (u v x : Value) : bindArgs (fdAt P 136) ⟨[u, v, x], []⟩ = pure (pNames.zip [u, v, x]) := by kernel_rfl
/-- the arguments of a def by place -/
noncomputable def BindP (P : Params) (a : Addr) (names : List Str) : Prop := ∀ vals, vals.length = names.length → bindArgs (fdAt P a) ⟨vals, []⟩ = pure (names.zip vals)
theorem lenS {α : Type} {l : List α} {n : Nat} (h : l.length = n + 1) : ∃ a t, l = a :: t ∧ t.length = n := by
  cases l with
  | nil => cases h
  | cons a t => exact ⟨a, t, rfl, Nat.succ.inj h⟩
theorem len0 {α : Type} {l : List α} (h : l.length = 0) : l = [] := List.eq_nil_of_length_eq_zero h
theorem bind1 {P : Params} {a : Addr} {x : Str} (h : ∀ v, bindArgs (fdAt P a) ⟨[v], []⟩ = pure ([x].zip [v])) : BindP P a [x] := fun vals hl => by
  obtain ⟨v, t1, rfl, h1⟩ := lenS hl
  cases len0 h1; exact h v
theorem bind2 {P : Params} {a : Addr} {x y : Str} (h : ∀ u v, bindArgs (fdAt P a) ⟨[u, v], []⟩ = pure ([x, y].zip [u, v])) : BindP P a [x, y] := fun vals hl => by
  obtain ⟨u, t1, rfl, h1⟩ := lenS hl
  obtain ⟨v, t2, rfl, h2⟩ := lenS h1
  cases len0 h2; exact h u v
theorem bind3 {P : Params} {a : Addr} {x y z : Str} (h : ∀ u v t, bindArgs (fdAt P a) ⟨[u, v, t], []⟩ = pure ([x, y, z].zip [u, v, t])) : BindP P a [x, y, z] := fun vals hl => by
  obtain ⟨u, t1, rfl, h1⟩ := lenS hl
  obtain ⟨v, t2, rfl, h2⟩ := lenS h1
  obtain ⟨x, t3, rfl, h3⟩ := lenS h2
  cases len0 h3; exact h u v x
theorem fnS_of {a : Addr} {names : List Str} {as : List AV} {r : AV} (d : Def w.params a names) (hb : BindP w.params a names) (hD : D < 600) (hl : as.length = names.length) (run : BodyS prog w D a names as r) : FnS prog w D a as [] r := fun C hB M _ _ h =>
  fn_call (first := []) d hD C hb hl run hB M (wpAny_mono h (fun x s₁ hx => ⟨hx.1, by obtain ⟨_, _, ⟨us, e, _⟩, _⟩ := hx; exact e, hx.2.1, hx.2.2.2⟩) fun _ _ e => e)
noncomputable def runC (fn : CFn prog w (D + 1)) (md : CMd prog w (D + 1)) (a : Addr) (names : List Str) (as : List AV) (o : List Bool) : Rz fun r => BodyS prog w D a names as r := bnd (exC fn md 60 ⟨(fdAt w.params a).scope, names.zip as, []⟩ o (bodyOf (fdAt w.params a))) fun r => match r with
  | ((.ret v, σ'), _) => ret v fun h => ⟨σ', h⟩
  | _ => none
/-- a call, worked out -/
noncomputable def inlC (fn : CFn prog w (D + 1)) (md : CMd prog w (D + 1)) (hD : D < 600) {a : Addr} {names : List Str} (d : Def w.params a names) (hb : BindP w.params a names) (as : List AV) : Rz (FnS prog w D a as []) := match decEq as.length names.length with
  | .isTrue hl => mapR (runC fn md a names as []) id fun _ h => fnS_of d hb hD hl h
  | .isFalse _ => none
noncomputable def fn0 : CFn prog w D := fun _ _ _ => none
noncomputable def md0 : CMd prog w D := fun _ _ _ => none

-- quantiles
noncomputable def ob56 (P : Params) : Obj := match (KP P).lookup 56 with | some o => o | none => dictObj
theorem at56 (P : Params) : (KP P).lookup 56 = some (ob56 P) := by kernel_rfl
noncomputable def loadK {α : Type} (x : Sem α) (o : Obj) : Sem α := match x with | .load _ _ k => k o | _ => .unsupported ""
noncomputable def tokOf (x : Sem (List (Str × Value))) : Tok := match x with | .pure [_, _, (_, .str _ t)] => t | _ => 0
noncomputable def tok56 (P : Params) : Tok := tokOf (loadK (bindArgs (fdAt P 63) ⟨[.none], [(nm "n", .none)]⟩) (ob56 P))
theorem ld63 (P : Params) (v k : Value) : bindArgs (fdAt P 63) ⟨[v], [(nm "n", k)]⟩ = (loadPart 56 (some (.str (nm "method") 0)) >>= fun o => loadK (bindArgs (fdAt P 63) ⟨[v], [(nm "n", k)]⟩) o) := by kernel_rfl
theorem lk63 (P : Params) (v k : Value) : loadK (bindArgs (fdAt P 63) ⟨[v], [(nm "n", k)]⟩) (ob56 P) = pure (qNames.zip [v, k, .str (nm "exclusive") (tok56 P)]) := by kernel_rfl
theorem nc63 (P : Params) : ∀ x ∈ (fdAt P 63).scope.names, x.2 ≠ .cell := of_decide_eq_true (by kernel_rfl)
theorem ln63 (P : Params) : ∀ x ∈ qNames, (fdAt P 63).scope.names.lookup x = some .local := of_decide_eq_true (by kernel_rfl)
/-- a call by place and name, of a function without cells -/
theorem fn_63 {l : List AV} {m : Int} {y : Bool} {r : AV} (hD : D < 600) (run : BodyS prog w D 63 qNames [.lst l, .int false m, .str (nm "exclusive")] r) : FnS prog w D 63 [.lst l] [(nm "n", .int y m)] r := fun {A E s mu Q pos args keywords} C hB M _ _ h => by
  have d := d63 w.params
  obtain ⟨o, ho, hdata⟩ := d.at_
  refine callWith_function_kw (o := o) (fd := fdAt w.params 63) (wpAny_mono h (fun x s₁ hx => ?_) fun _ _ e => e)
  obtain ⟨hk, ⟨v, _, e1, hv, rfl⟩, ⟨us, hkw, u, _, rfl, ⟨t, rfl⟩, rfl⟩, g⟩ := hx
  have hB₁ := BB.up hk hB
  obtain ⟨_, _, mg, mb, tr⟩ := hB₁.2
  obtain ⟨σ', run⟩ := run
  refine ⟨⟨hB₁.1 _ _ ho, hdata⟩, ?_⟩
  rw [e1, hkw]
  have hvs : Vals mu [] s₁.heap [.lst l, .int false m, .str (nm "exclusive")] [v, .int m t, .str (nm "exclusive") (tok56 w.params)] := ⟨v, _, rfl, hv, _, _, rfl, ⟨t, rfl⟩, _, _, rfl, ⟨_, rfl⟩, rfl⟩
  refine wpAny_call (codeAny_call_def (binds := qNames.zip [v, .int m t, .str (nm "exclusive") (tok56 w.params)]) C.roomy (hB₁.1 _ _ ho) hdata tr.nolimit (codeRec_of hB₁.1 d.code) d.fn.stmts (fun M A E Q hQ => ?_) (nc63 _) (fun p hp => ln63 _ _ ((zip_map_fst_sub _ _).subset (List.mem_map.mpr ⟨p, hp, rfl⟩))) (fun h₀ hns hk0 => ?_) d.fn.co d.fn.gen d.fn.kind)
  · show wpAny M A (bindArgs (fdAt w.params 63) ⟨[v], [(nm "n", .int m t)]⟩) Q E s₁
    rw [ld63]
    refine wpAny_bind (wpAny_loadPart (hB₁.1 _ _ (at56 _)) ?_)
    rw [lk63]
    exact wpAny_pure hQ
  · have hl : ∀ x ∈ ownOf (fdAt w.params 63).scope, (callEnv (fdAt w.params 63) s₁.heap.objs.size 63).kindOf x = some .local := fun x hx => by
      obtain ⟨k, hk1, hk2⟩ := mem_own.mp hx
      exact (d.fn.uniq _ hk1).trans (congrArg some (hk2.resolve_right fun e => nc63 _ _ hk1 e))
    have nk : ∀ x ∈ ownOf (fdAt w.params 63).scope, (callEnv (fdAt w.params 63) s₁.heap.objs.size 63).kindOf x ≠ some .cell := fun x hx e => nomatch (hl x hx).symm.trans e
    have S := start_st (w := w) (env := callEnv (fdAt w.params 63) s₁.heap.objs.size 63) d.binds.nodup hvs hB₁ (M.up hk) hk0 (fun c hc => hc.elim (fun e => Nat.le_of_eq e.symm) fun ⟨x, hx, hk, _⟩ => absurd hk (nk x hx))
      ⟨fun x hx => .inl (hl x hx), ⟨_, hns, fun x hx _ u hu => hu⟩, fun x hx hk => absurd hk (nk x hx), fun x hx y hy hk => absurd hk (nk x hx), fun x hx hk => absurd hk (nk x hx)⟩
    refine run.run (F := callF s₁ mu (callEnv (fdAt w.params 63) s₁.heap.objs.size 63) (fdAt w.params 63)) (C.deeper hD _) (fnE_of d.fn rfl rfl rfl rfl fun x e => absurd rfl (nc63 _ _ (lookup_mem' e))) S fun h' tk fl ho => ?_
    obtain ⟨u, rfl, hk', hu⟩ := ho
    exact g u _ (keeps_heap s₁ hk' tk) hu
end
end Mine

namespace Mine
noncomputable section
variable {prog : Program} {w : World} {D : Nat}

/-- a run that gives so on what is given -/
theorem body_of {a : Addr} {names : List Str} {as : List AV} {r r' : AV} {c : List Prop} {fn : CFn prog w (D + 1)} {md : CMd prog w (D + 1)} {o : List Bool} (h : valOf (runC fn md a names as o) = some r) (hc : obsOf (runC fn md a names as o) = c) (hp : AllP c) (e : r = r') : BodyS prog w D a names as r' := e ▸ got h hc hp
abbrev in25 (g : List Int) : Prop := ∀ x ∈ g, 0 ≤ x ∧ x < 25
theorem srt_in {l : List Int} (h : in25 l) {i : Nat} (hi : i < l.length) : 0 ≤ (srt l).getD i 0 ∧ (srt l).getD i 0 < 25 := by
  refine h _ ((srt_perm l).subset ?_)
  have hl := srt_length l
  rw [List.getD_eq_getElem?_getD, List.getElem?_eq_getElem (by omega)]
  exact List.getElem_mem _
theorem in64 {l : List Int} (h : in25 l) : ∀ a ∈ l, 0 ≤ a ∧ a < 64 := fun a ha => ⟨(h a ha).1, Int.lt_trans (h a ha).2 (by decide)⟩
/-- the two weights of a cut: one is the whole, the other none -/
inductive Wt (n : Int) : Int → Int → Int → Int → Int → Prop
  | l {a b} (ha : 0 ≤ a ∧ a < 25) (hb : 0 ≤ b ∧ b < 25) : Wt n a b n 0 a
  | r {a b} (ha : 0 ≤ a ∧ a < 25) (hb : 0 ≤ b ∧ b < 25) : Wt n a b 0 n b
theorem Wt.val {n a b x y v : Int} (h : Wt n a b x y v) (hn : 0 < n) : a * x + b * y = n * v ∧ (a * x + b * y).ediv n = v ∧ 0 ≤ v ∧ v < 25 := by
  have e : a * x + b * y = n * v := by cases h with
    | l => rw [Int.mul_zero, Int.add_zero, Int.mul_comm]
    | r => rw [Int.mul_zero, Int.zero_add, Int.mul_comm]
  refine ⟨e, ?_, ?_⟩
  · rw [e]; exact Int.mul_ediv_cancel_left v (Int.ne_of_gt hn)
  · cases h with
    | l ha hb => exact ha
    | r ha hb => exact hb
noncomputable def dv (n a b x y : Int) : Int := (a * x + b * y).ediv n
noncomputable def divOk (n a b x y : Int) : Prop := (0 ≤ dv n a b x y ∧ dv n a b x y < 64 ∧ 0 < n ∧ n < 8) ∧ n * dv n a b x y = a * x + b * y
theorem Wt.div {n a b x y v : Int} (h : Wt n a b x y v) (hn : 0 < n ∧ n < 8) : divOk n a b x y := by
  obtain ⟨h1, h2, h3, h4⟩ := h.val hn.1
  unfold divOk dv
  rw [h2, h1]
  exact ⟨⟨h3, Int.lt_trans h4 (by decide), hn⟩, rfl⟩
/-- what a cut of whole numbers asks -/
noncomputable def obsI (n : Int) (q : Int × Int × Int × Int) : List Prop := [small q.1, small q.2.1, divOk n q.1 q.2.1 q.2.2.1 q.2.2.2]
noncomputable def mulF (a x : Int) : Prop := 0 ≤ a ∧ a < 64 ∧ 0 ≤ x ∧ x < 8
noncomputable def addF (a b : Int) : Prop := 0 ≤ a ∧ a < 128 ∧ 0 ≤ b ∧ b < 128 ∧ (a = 0 ∨ b = 0)
noncomputable def obsF (n : Int) (q : Int × Int × Int × Int) : List Prop := [mulF q.1 q.2.2.1, mulF q.2.1 q.2.2.2, addF (q.1 * q.2.2.1) (q.2.1 * q.2.2.2), divOk n q.1 q.2.1 q.2.2.1 q.2.2.2]
noncomputable def flatL (f : (Int × Int × Int × Int) → List Prop) : Nat → List (Int × Int × Int × Int) → List Prop
  | _, [] => []
  | k, q :: l => f q ++ ((k ≤ 4096) :: flatL f (k + 1) l)
theorem small25 {a : Int} (h : 0 ≤ a ∧ a < 25) : small a := ⟨Int.le_trans (by decide) h.1, Int.le_trans (Int.le_of_lt h.2) (by decide)⟩
theorem Wt.a {n a b x y v : Int} (h : Wt n a b x y v) : 0 ≤ a ∧ a < 25 := by cases h <;> assumption
theorem Wt.b {n a b x y v : Int} (h : Wt n a b x y v) : 0 ≤ b ∧ b < 25 := by cases h <;> assumption
inductive Wts (n : Int) : List (Int × Int × Int × Int) → List Int → Prop
  | nil : Wts n [] []
  | cons {a b x y v l r} (h : Wt n a b x y v) (k : Wts n l r) : Wts n ((a, b, x, y) :: l) (v :: r)
theorem allP_app {c d : List Prop} (h : AllP c) (k : AllP d) : AllP (c ++ d) := fun p hp => (List.mem_append.mp hp).elim (h p) (k p)
theorem Wts.obsI {n l r} (h : Wts n l r) (hn : 0 < n ∧ n < 8) : ∀ k, k + l.length ≤ 4096 → AllP (flatL (obsI n) k l) := by
  induction h with
  | nil => exact fun _ _ => AllP.nil
  | cons h k ih => exact fun i hi => allP_app (.cons (small25 h.a) (.cons (small25 h.b) (.cons (h.div hn) .nil))) (.cons (Nat.le_of_add_right_le hi) (ih (i + 1) (by rw [List.length_cons] at hi; omega)))
theorem Wt.flt {n a b x y v : Int} (h : Wt n a b x y v) (hn : 0 < n ∧ n < 6) : mulF a x ∧ mulF b y ∧ addF (a * x) (b * y) := by
  have hA := h.a
  have hB := h.b
  unfold mulF addF
  have h1 : ∀ c : Int, 0 ≤ c ∧ c < 25 → 0 ≤ c * n ∧ c * n ≤ 24 * 5 := fun c hc => ⟨Int.mul_nonneg hc.1 (Int.le_of_lt hn.1), Int.mul_le_mul (Int.le_of_lt_add_one (b := 24) hc.2) (Int.le_of_lt_add_one (b := 5) hn.2) (Int.le_of_lt hn.1) (by decide)⟩
  have g1 := h1 a hA
  have g2 := h1 b hB
  cases h with
  | l =>
    rw [Int.mul_zero]
    exact ⟨⟨hA.1, Int.lt_trans hA.2 (by decide), Int.le_of_lt hn.1, Int.lt_trans hn.2 (by decide)⟩, ⟨hB.1, Int.lt_trans hB.2 (by decide), by decide, by decide⟩, g1.1, Int.lt_of_le_of_lt g1.2 (by decide), by decide, by decide, .inr rfl⟩
  | r =>
    rw [Int.mul_zero]
    exact ⟨⟨hA.1, Int.lt_trans hA.2 (by decide), by decide, by decide⟩, ⟨hB.1, Int.lt_trans hB.2 (by decide), Int.le_of_lt hn.1, Int.lt_trans hn.2 (by decide)⟩, by decide, by decide, g2.1, Int.lt_of_le_of_lt g2.2 (by decide), .inl rfl⟩
theorem Wts.obsF {n l r} (h : Wts n l r) (hn : 0 < n ∧ n < 6) : ∀ k, k + l.length ≤ 4096 → AllP (flatL (obsF n) k l) := by
  induction h with
  | nil => exact fun _ _ => AllP.nil
  | cons h k ih => exact fun i hi => allP_app (.cons (h.flt hn).1 (.cons (h.flt hn).2.1 (.cons (h.flt hn).2.2 (.cons (h.div ⟨hn.1, Int.lt_trans hn.2 (by decide)⟩) .nil)))) (.cons (Nat.le_of_add_right_le hi) (ih (i + 1) (by rw [List.length_cons] at hi; omega)))
noncomputable def dvs (n : Int) : List (Int × Int × Int × Int) → List AV
  | [] => []
  | (a, b, x, y) :: l => .flt (dv n a b x y) :: dvs n l
theorem Wts.vals {n l r} (h : Wts n l r) (hn : 0 < n) : dvs n l = r.map .flt := by
  induction h with
  | nil => rfl
  | cons h k ih => rw [dvs, ih, List.map_cons, show dv n _ _ _ _ = _ from (h.val hn).2.1]
abbrev qArgs (l : List AV) (m : Int) : List AV := [.lst l, .int false m, .str (nm "exclusive")]
abbrev S (l : List Int) (i : Nat) : Int := (srt l).getD i 0
/-- the cuts of one row: weights for two, three, four items -/
noncomputable def cuts (l : List Int) : Nat → List (Int × Int × Int × Int)
  | 2 => [(S l 0, S l 1, 3, 0), (S l 0, S l 1, 0, 3)]
  | 3 => [(S l 0, S l 1, 4, 0), (S l 1, S l 2, 4, 0), (S l 1, S l 2, 0, 4)]
  | 4 => [(S l 0, S l 1, 5, 0), (S l 1, S l 2, 5, 0), (S l 2, S l 3, 5, 0), (S l 2, S l 3, 0, 5)]
  | _ => []
theorem cuts2 {l : List Int} (h : in25 l) (hl : l.length = 2) : Wts 3 (cuts l 2) (outL id (srt l) 0 2) :=
  have a := srt_in h (i := 0) (by omega); have b := srt_in h (i := 1) (by omega)
  .cons (.l a b) (.cons (.r a b) .nil)
theorem cuts3 {l : List Int} (h : in25 l) (hl : l.length = 3) : Wts 4 (cuts l 3) (outL id (srt l) 0 3) :=
  have a := srt_in h (i := 0) (by omega); have b := srt_in h (i := 1) (by omega); have c := srt_in h (i := 2) (by omega)
  .cons (.l a b) (.cons (.l b c) (.cons (.r b c) .nil))
theorem cuts4 {l : List Int} (h : in25 l) (hl : l.length = 4) : Wts 5 (cuts l 4) (outL id (srt l) 0 4) :=
  have a := srt_in h (i := 0) (by omega); have b := srt_in h (i := 1) (by omega); have c := srt_in h (i := 2) (by omega); have d := srt_in h (i := 3) (by omega)
  .cons (.l a b) (.cons (.l b c) (.cons (.l c d) (.cons (.r c d) .nil)))
section
variable {p q r t : Bool} {x y z u : Int}
theorem q_i1 : BodyS prog w D 63 qNames (qArgs [.int p x] 2) (.lst [.int true x]) := body_of (fn := fn0) (md := md0) (o := []) (r := .lst [.int true x]) (by kernel_rfl) (c := []) (by kernel_rfl) .nil rfl
theorem q_f1 (h : in25 [x]) : BodyS prog w D 63 qNames (qArgs [.flt x] 2) (.lst [.flt x]) := body_of (fn := fn0) (md := md0) (o := []) (r := .lst [.flt x]) (by kernel_rfl) (c := [∀ a ∈ [x], 0 ≤ a ∧ a < 64]) (by kernel_rfl) (.cons (in64 h) .nil) rfl
theorem q_i2 (h : in25 [x, y]) : BodyS prog w D 63 qNames (qArgs [.int p x, .int q y] 3) (.lst ((outL id (srt [x, y]) 0 2).map .flt)) :=
  body_of (fn := fn0) (md := md0) (o := []) (r := .lst (dvs 3 (cuts [x, y] 2))) (by kernel_rfl) (c := flatL (obsI 3) 0 (cuts [x, y] 2)) (by kernel_rfl) ((cuts2 h rfl).obsI (by decide) 0 (Nat.le_of_ble_eq_true rfl)) (congrArg AV.lst ((cuts2 h rfl).vals (by decide)))
theorem q_f2 (h : in25 [x, y]) : BodyS prog w D 63 qNames (qArgs [.flt x, .flt y] 3) (.lst ((outL id (srt [x, y]) 0 2).map .flt)) :=
  body_of (fn := fn0) (md := md0) (o := []) (r := .lst (dvs 3 (cuts [x, y] 2))) (by kernel_rfl) (c := (∀ a ∈ [x, y], 0 ≤ a ∧ a < 64) :: flatL (obsF 3) 0 (cuts [x, y] 2)) (by kernel_rfl) (.cons (in64 h) ((cuts2 h rfl).obsF (by decide) 0 (Nat.le_of_ble_eq_true rfl))) (congrArg AV.lst ((cuts2 h rfl).vals (by decide)))
theorem q_i3 (h : in25 [x, y, z]) : BodyS prog w D 63 qNames (qArgs [.int p x, .int q y, .int r z] 4) (.lst ((outL id (srt [x, y, z]) 0 3).map .flt)) :=
  body_of (fn := fn0) (md := md0) (o := []) (r := .lst (dvs 4 (cuts [x, y, z] 3))) (by kernel_rfl) (c := flatL (obsI 4) 0 (cuts [x, y, z] 3)) (by kernel_rfl) ((cuts3 h rfl).obsI (by decide) 0 (Nat.le_of_ble_eq_true rfl)) (congrArg AV.lst ((cuts3 h rfl).vals (by decide)))
theorem q_f3 (h : in25 [x, y, z]) : BodyS prog w D 63 qNames (qArgs [.flt x, .flt y, .flt z] 4) (.lst ((outL id (srt [x, y, z]) 0 3).map .flt)) :=
  body_of (fn := fn0) (md := md0) (o := []) (r := .lst (dvs 4 (cuts [x, y, z] 3))) (by kernel_rfl) (c := (∀ a ∈ [x, y, z], 0 ≤ a ∧ a < 64) :: flatL (obsF 4) 0 (cuts [x, y, z] 3)) (by kernel_rfl) (.cons (in64 h) ((cuts3 h rfl).obsF (by decide) 0 (Nat.le_of_ble_eq_true rfl))) (congrArg AV.lst ((cuts3 h rfl).vals (by decide)))
theorem q_i4 (h : in25 [x, y, z, u]) : BodyS prog w D 63 qNames (qArgs [.int p x, .int q y, .int r z, .int t u] 5) (.lst ((outL id (srt [x, y, z, u]) 0 4).map .flt)) :=
  body_of (fn := fn0) (md := md0) (o := []) (r := .lst (dvs 5 (cuts [x, y, z, u] 4))) (by kernel_rfl) (c := flatL (obsI 5) 0 (cuts [x, y, z, u] 4)) (by kernel_rfl) ((cuts4 h rfl).obsI (by decide) 0 (Nat.le_of_ble_eq_true rfl)) (congrArg AV.lst ((cuts4 h rfl).vals (by decide)))
theorem q_f4 (h : in25 [x, y, z, u]) : BodyS prog w D 63 qNames (qArgs [.flt x, .flt y, .flt z, .flt u] 5) (.lst ((outL id (srt [x, y, z, u]) 0 4).map .flt)) :=
  body_of (fn := fn0) (md := md0) (o := []) (r := .lst (dvs 5 (cuts [x, y, z, u] 4))) (by kernel_rfl) (c := (∀ a ∈ [x, y, z, u], 0 ≤ a ∧ a < 64) :: flatL (obsF 5) 0 (cuts [x, y, z, u] 4)) (by kernel_rfl) (.cons (in64 h) ((cuts4 h rfl).obsF (by decide) 0 (Nat.le_of_ble_eq_true rfl))) (congrArg AV.lst ((cuts4 h rfl).vals (by decide)))
end
end
end Mine

namespace Mine
noncomputable section
variable {prog : Program} {w : World} {D : Nat} {σ : SE} {F : Fx} {h : Heap} {mu : Addr → Prop} {sa : List Addr}

-- the flags of letters, left out
mutual
noncomputable def er : AV → AV
  | .int _ i => .int false i
  | .bool _ b => .bool false b
  | .lst l => .lst (ers l)
  | .tup l => .tup (ers l)
  | x => x
noncomputable def ers : List AV → List AV
  | [] => []
  | x :: l => er x :: ers l
end
mutual
theorem er_val : ∀ {x : AV} {v : Value}, Val mu sa h (er x) v ↔ Val mu sa h x v
  | .none, _ | .flt _, _ | .str _, _ | .con _, _ | .ref _, _ | .tupI _, _ | .rng .., _ | .inst .., _ => Iff.rfl
  | .int _ _, _ => Iff.rfl
  | .bool _ _, _ => Iff.rfl
  | .lst l, v => exists_congr fun a => exists_congr fun ws => and_congr_right fun _ => and_congr_right fun _ => and_congr_right fun _ => ers_vals
  | .tup l, v => exists_congr fun a => exists_congr fun ws => exists_congr fun n => and_congr_right fun _ => and_congr_right fun _ => and_congr_right fun _ => ers_vals
theorem ers_vals : ∀ {l : List AV} {ws : List Value}, Vals mu sa h (ers l) ws ↔ Vals mu sa h l ws
  | [], ws => Iff.rfl
  | x :: l, ws => exists_congr fun v => exists_congr fun r => and_congr_right fun _ => and_congr er_val ers_vals
end
theorem er_same {x y : AV} (e : er x = er y) {v : Value} (hv : Val mu sa h x v) : Val mu sa h y v := er_val.mp (e ▸ er_val.mpr hv)
theorem ers_same {x y : List AV} (e : ers x = ers y) {v : List Value} (hv : Vals mu sa h x v) : Vals mu sa h y v := ers_vals.mp (e ▸ ers_vals.mpr hv)
noncomputable def erO (ob : Obs) : Obs := ob.map (·.map ers)
theorem erO_get {ob ob' : Obs} (e : erO ob = erO ob') {i : Nat} : (ob[i]?).map (·.map ers) = (ob'[i]?).map (·.map ers) := by
  have := congrArg (·[i]?) e
  simpa only [erO, List.getElem?_map] using this
theorem erO_list {ob ob' : Obs} (e : erO ob = erO ob') {i : Nat} {l' : List AV} (hl : ob'[i]? = some (some l')) : ∃ l, ob[i]? = some (some l) ∧ ers l = ers l' := by
  have := erO_get e (i := i)
  rw [hl] at this
  obtain ⟨x, q, e1⟩ := Option.map_eq_some_iff.mp this
  obtain ⟨l, rfl, e2⟩ := Option.map_eq_some_iff.mp e1
  exact ⟨l, q, e2⟩
/-- a state that says no more -/
theorem says_of {vs' : List (Str × AV)} {ob' : Obs} (hv : ∀ x v', vs'.lookup x = some v' → ∃ v, σ.vs.lookup x = some v ∧ ∀ {mu sa h u}, Val mu sa h v u → Val mu sa h v' u) (ho : erO σ.ob = erO ob') : Says w σ ⟨σ.sc, vs', ob'⟩ := ⟨rfl, fun F h ⟨sa, b, S⟩ => by
  have hw : wrs F sa ob' = wrs F sa σ.ob := funext fun a => propext (or_congr_right ⟨fun ⟨i, l, e1, e2⟩ => let ⟨l', q, _⟩ := erO_list ho e2; ⟨i, l', e1, q⟩, fun ⟨i, l, e1, e2⟩ => let ⟨l', q, _⟩ := erO_list ho.symm e2; ⟨i, l', e1, q⟩⟩)
  have hmu : muOf F sa ob' = muOf F sa σ.ob := by unfold muOf; rw [hw]
  refine ⟨sa, b, S.frm, fun x hx v e => ?_, fun i l e => ?_, S.lay.fewer ?_ fun a e => hw ▸ e⟩
  · obtain ⟨v', q1, q2⟩ := hv x v e
    obtain ⟨u, p1, p2⟩ := S.vars x hx v' q1
    exact ⟨u, p1, hmu.symm ▸ q2 p2⟩
  · obtain ⟨l', q1, q2⟩ := erO_list ho e
    obtain ⟨a, ws, p1, p2, p3⟩ := S.objs i l' q1
    exact ⟨a, ws, p1, p2, hmu.symm ▸ ers_same q2 p3⟩
  · have := congrArg List.length ho
    unfold erO at this
    rw [List.length_map, List.length_map] at this
    exact this.symm⟩
/-- what a run leaves, read at some names -/
noncomputable def rd {P : RS → Prop} (x : Rz P) (names : List Str) : Option (List (Option AV) × Obs) := match x with
  | some p => match p.v with
    | ((.next, σ1), _) => some (names.map fun n => (σ1.vs.lookup n).map er, erO σ1.ob)
    | _ => none
  | none => none
abbrev want (vs' : List (Str × AV)) (ob' : Obs) : Option (List (Option AV) × Obs) := some (vs'.map fun p => some (er p.2), erO ob')
theorem goto_ {ss : List Stmt} {x : Rz fun r : RS => SSound prog w D σ (execs ss) r.1} {vs' : List (Str × AV)} {ob' : Obs} {c : List Prop} (h : rd x (vs'.map (·.1)) = want vs' ob') (hc : obsOf x = c) (hp : AllP c) : SSound prog w D σ (execs ss) (.next, ⟨σ.sc, vs', ob'⟩) := by
  cases x with
  | none => cases h
  | some p =>
    obtain ⟨⟨⟨fl, σ1⟩, o⟩, c', ok⟩ := p
    cases fl with
    | next =>
      obtain ⟨h1, h2⟩ := Prod.mk.inj (Option.some.inj h)
      cases hc
      have S : SSound prog w D σ (execs ss) (.next, σ1) := ok hp
      have e : σ1.sc = σ.sc := S.sc
      refine e ▸ S.says (says_of (fun x v' e => ?_) h2)
      rw [List.map_map] at h1
      obtain ⟨v, q1, q2⟩ := Option.map_eq_some_iff.mp (List.map_inj_left.mp h1 _ (lookup_mem' e))
      exact ⟨v, q1, er_same q2⟩
    | _ => cases h
/-- a for of the text, taken apart -/
noncomputable def asFor : (st : Stmt) → Option {q : Expr × Expr × List Stmt × Pos // st = .For q.1 q.2.1 q.2.2.1 [] q.2.2.2}
  | .For t it body [] p => some ⟨(t, it, body, p), rfl⟩
  | _ => none
noncomputable def noPos : Pos := ⟨0, 0, 0, 0⟩
noncomputable def stAt (ss : List Stmt) (i : Nat) : Stmt := ss.getD i (.Pass noPos)
noncomputable def forQ (st : Stmt) : Expr × Expr × List Stmt × Pos := match asFor st with | some q => q.1 | none => (.Name (nm "") noPos, .Name (nm "") noPos, [], noPos)
abbrev forT (st : Stmt) : Expr := (forQ st).1
abbrev forIt (st : Stmt) : Expr := (forQ st).2.1
abbrev forB (st : Stmt) : List Stmt := (forQ st).2.2.1
theorem for_eq {st : Stmt} (h : (asFor st).isSome = true) : st = .For (forT st) (forIt st) (forB st) [] (forQ st).2.2.2 := by
  unfold forT forIt forB forQ
  cases q : asFor st with
  | none => rw [q] at h; cases h
  | some x => exact x.2
theorem cons_of {ss : List Stmt} (h : ss.isEmpty = false) : ss = stAt ss 0 :: ss.tail := by
  cases ss with
  | nil => cases h
  | cons a l => rfl
/-- blocks one behind the other -/
theorem execs_append : ∀ (a b : List Stmt) (env : Env), execs (a ++ b) env = (execs a env >>= fun f => match f with | .next => execs b env | f => pure f)
  | [], b, env => (pure_bind Flow.next (fun f => match f with | .next => execs b env | f => (pure f : Sem Flow))).symm
  | st :: a, b, env => by
    rw [List.cons_append, execs_cons, execs_cons, bind_assoc]
    congr 1
    funext f
    cases f with
    | next => exact execs_append a b env
    | _ => exact (pure_bind _ _).symm
theorem blocks {σ1 : SE} {a b : List Stmt} {r : Fl × SE} (S : SSound prog w D σ (execs a) (.next, σ1)) (k : SSound prog w D σ1 (execs b) r) : SSound prog w D σ (execs (a ++ b)) r := by
  refine ⟨k.sc.trans S.sc, fun {A E s F Q} C N H hk => ?_⟩
  show wpAny _ A (execs (a ++ b) F.env) Q E s
  rw [execs_append]
  refine wpAny_bind (S.run C N H fun h' tk fl ho => ?_)
  obtain ⟨rfl, hg⟩ := ho
  exact k.run C (S.sc ▸ N) hg hk
end
end Mine

namespace Mine
noncomputable section
variable {prog : Program} {w : World} {D : Nat}

noncomputable def quantC (hD : D < 600) (y : Bool) (m : Int) : (as : List AV) → Rz (FnS prog w D 63 as [(nm "n", .int y m)])
  | [.lst [.int p x]] => if h : m = 2 then ret _ (fn_63 hD (h ▸ q_i1)) else none
  | [.lst [.flt x]] => if h : m = 2 then mapR (need (in25 [x])) (fun _ => _) fun _ k => fn_63 hD (h ▸ q_f1 k) else none
  | [.lst [.int p x, .int q y]] => if h : m = 3 then mapR (need (in25 [x, y])) (fun _ => _) fun _ k => fn_63 hD (h ▸ q_i2 k) else none
  | [.lst [.flt x, .flt y]] => if h : m = 3 then mapR (need (in25 [x, y])) (fun _ => _) fun _ k => fn_63 hD (h ▸ q_f2 k) else none
  | [.lst [.int p x, .int q y, .int r z]] => if h : m = 4 then mapR (need (in25 [x, y, z])) (fun _ => _) fun _ k => fn_63 hD (h ▸ q_i3 k) else none
  | [.lst [.flt x, .flt y, .flt z]] => if h : m = 4 then mapR (need (in25 [x, y, z])) (fun _ => _) fun _ k => fn_63 hD (h ▸ q_f3 k) else none
  | [.lst [.int p x, .int q y, .int r z, .int t u]] => if h : m = 5 then mapR (need (in25 [x, y, z, u])) (fun _ => _) fun _ k => fn_63 hD (h ▸ q_i4 k) else none
  | [.lst [.flt x, .flt y, .flt z, .flt u]] => if h : m = 5 then mapR (need (in25 [x, y, z, u])) (fun _ => _) fun _ k => fn_63 hD (h ▸ q_f4 k) else none
  | _ => none
/-- the middles and the cuts -/
noncomputable def fnM (hD : D < 600) : CFn prog w D := fun a as ks => match ks with
  | [] => if h : a = 41 then mapR (inlC fn0 md0 hD (d41 w.params) (bind1 (b41 _)) as) id fun _ k => by rw [h]; exact k
    else if h : a = 48 then mapR (inlC fn0 md0 hD (d48 w.params) (bind1 (b48 _)) as) id fun _ k => by rw [h]; exact k
    else if h : a = 55 then mapR (inlC fn0 md0 hD (d55 w.params) (bind1 (b55 _)) as) id fun _ k => by rw [h]; exact k
    else none
  | [(k, .int y m)] => if h : k = nm "n" ∧ a = 63 then mapR (quantC hD y m as) id fun _ k => by rw [h.1, h.2]; exact k else none
  | _ => none
theorem lt6 {D : Nat} (h : D < 590) : D + 1 < 600 ∧ D < 600 ∧ D + 1 < 591 := ⟨Nat.lt_of_lt_of_le (Nat.succ_lt_succ h) (by decide), Nat.lt_trans h (by decide), Nat.succ_lt_succ h⟩
/-- _law_pick, worked out -/
noncomputable def fnP (hD : D < 590) : CFn prog w D := fun a as ks => match ks with
  | [] => if h : a = 136 then mapR (inlC (fnM (lt6 hD).1) md0 (lt6 hD).2.1 (d136 w.params) (bind3 (b136 _)) as) id fun _ k => by rw [h]; exact k else none
  | _ => none

noncomputable def win (g : List Int) (i s : Nat) : List Int := (List.range s).map fun t => g.getD ((i + t) % 4) 0
noncomputable def nxt (g : List Int) (s k : Nat) : List Int := [0, 1, 2, 3].map fun i => (srt (win g i s)).getD k 0
abbrev Step3 := Int × Int × Int
noncomputable def combos : List Step3 := [(1, 0, 0), (1, 1, 0), (1, 2, 0), (1, 3, 0), (2, 0, 0), (2, 1, 1), (2, 3, 0), (2, 3, 1), (3, 0, 1), (3, 1, 1), (3, 2, 1), (3, 3, 0), (3, 3, 1), (3, 3, 2), (4, 0, 1), (4, 1, 2), (4, 3, 0), (4, 3, 1), (4, 3, 2), (4, 3, 3)]
noncomputable def cut (c : Step3) : Bool := c.2.1 == 3 && !(c.1 == 1)
noncomputable def mkA (f : Bool) (a : Int) : AV := match f with | true => .flt a | false => .int true a
noncomputable def rowAV (f : Bool) (g : List Int) : AV := .lst (g.map (mkA f))
noncomputable def lid (c : Step3) : Int := if c.2.1 == 3 then 25 else 64
noncomputable def obsT (f : Bool) (g : List Int) (c : Step3) : List Prop := match f || cut c with
  | true => [0, 1, 2, 3].map fun i => ∀ a ∈ win g i c.1.toNat, 0 ≤ a ∧ a < lid c
  | false => []
noncomputable def sc141 (P : Params) : Scope := (fdAt P 141).scope
noncomputable def lp141 (P : Params) : Stmt := stAt (bodyOf (fdAt P 141)) 0
noncomputable def tupC (c : Step3) : AV := .tup [.int false c.1, .int false c.2.1, .int false c.2.2]
noncomputable def bs3 (c : Step3) : List (Str × AV) := [(nm "place", .int false c.2.2), (nm "way", .int false c.2.1), (nm "size", .int false c.1)]
noncomputable def st141 (f : Bool) (g : List Int) (X : AV) : List (Str × AV) := [(nm "row", rowAV f g), (nm "steps", X)]
noncomputable def tr141 (hD : D < 590) (f : Bool) (g : List Int) (X : AV) (c : Step3) := exC (prog := prog) (w := w) (fnP hD) md0 60 ⟨sc141 w.params, bs3 c ++ st141 f g X, []⟩ [] (forB (lp141 w.params))
noncomputable def tL (hD : D < 590) (f : Bool) (a b c d : Int) (X : AV) (t : Step3) := (rd (tr141 (prog := prog) (w := w) hD f [a, b, c, d] X t) [nm "row", nm "steps"], obsOf (tr141 (prog := prog) (w := w) hD f [a, b, c, d] X t))
noncomputable def tR (f : Bool) (a b c d : Int) (X : AV) (t : Step3) := (want (st141 (f || cut t) (nxt [a, b, c, d] t.1.toNat t.2.2.toNat) X) [], obsT f [a, b, c, d] t)
theorem map_app2 {α β : Type _} {F G : α → β} {l r : List α} (h : l.map F = l.map G) (k : r.map F = r.map G) : (l ++ r).map F = (l ++ r).map G := by rw [List.map_append, List.map_append, h, k]
noncomputable def c4 (k : Nat) : List Step3 := (combos.drop (4 * k)).take 4
theorem turn_f0 (hD : D < 590) (a b c d : Int) (X : AV) : (c4 0).map (tL (prog := prog) (w := w) hD false a b c d X) = (c4 0).map (tR false a b c d X) := by kernel_rfl
theorem turn_f1 (hD : D < 590) (a b c d : Int) (X : AV) : (c4 1).map (tL (prog := prog) (w := w) hD false a b c d X) = (c4 1).map (tR false a b c d X) := by kernel_rfl
theorem turn_f2 (hD : D < 590) (a b c d : Int) (X : AV) : (c4 2).map (tL (prog := prog) (w := w) hD false a b c d X) = (c4 2).map (tR false a b c d X) := by kernel_rfl
theorem turn_f3 (hD : D < 590) (a b c d : Int) (X : AV) : (c4 3).map (tL (prog := prog) (w := w) hD false a b c d X) = (c4 3).map (tR false a b c d X) := by kernel_rfl
theorem turn_f4 (hD : D < 590) (a b c d : Int) (X : AV) : (c4 4).map (tL (prog := prog) (w := w) hD false a b c d X) = (c4 4).map (tR false a b c d X) := by kernel_rfl
theorem turn_t0 (hD : D < 590) (a b c d : Int) (X : AV) : (c4 0).map (tL (prog := prog) (w := w) hD true a b c d X) = (c4 0).map (tR true a b c d X) := by kernel_rfl
theorem turn_t1 (hD : D < 590) (a b c d : Int) (X : AV) : (c4 1).map (tL (prog := prog) (w := w) hD true a b c d X) = (c4 1).map (tR true a b c d X) := by kernel_rfl
theorem turn_t2 (hD : D < 590) (a b c d : Int) (X : AV) : (c4 2).map (tL (prog := prog) (w := w) hD true a b c d X) = (c4 2).map (tR true a b c d X) := by kernel_rfl
theorem turn_t3 (hD : D < 590) (a b c d : Int) (X : AV) : (c4 3).map (tL (prog := prog) (w := w) hD true a b c d X) = (c4 3).map (tR true a b c d X) := by kernel_rfl
theorem turn_t4 (hD : D < 590) (a b c d : Int) (X : AV) : (c4 4).map (tL (prog := prog) (w := w) hD true a b c d X) = (c4 4).map (tR true a b c d X) := by kernel_rfl
theorem turns (hD : D < 590) (f : Bool) (a b c d : Int) (X : AV) : combos.map (tL (prog := prog) (w := w) hD f a b c d X) = combos.map (tR f a b c d X) := by
  show (c4 0 ++ (c4 1 ++ (c4 2 ++ (c4 3 ++ c4 4)))).map _ = (c4 0 ++ (c4 1 ++ (c4 2 ++ (c4 3 ++ c4 4)))).map _
  cases f with
  | false => exact map_app2 (turn_f0 hD ..) (map_app2 (turn_f1 hD ..) (map_app2 (turn_f2 hD ..) (map_app2 (turn_f3 hD ..) (turn_f4 hD ..))))
  | true => exact map_app2 (turn_t0 hD ..) (map_app2 (turn_t1 hD ..) (map_app2 (turn_t2 hD ..) (map_app2 (turn_t3 hD ..) (turn_t4 hD ..))))
end
end Mine

namespace Mine
noncomputable section
variable {prog : Program} {w : World} {D : Nat}

theorem nxt_len (g : List Int) (s k : Nat) : (nxt g s k).length = 4 := rfl
theorem win_in {g : List Int} {b : Int} (h : ∀ x ∈ g, 0 ≤ x ∧ x < b) (hl : g.length = 4) (i s : Nat) : ∀ x ∈ win g i s, 0 ≤ x ∧ x < b := fun x hx => by
  obtain ⟨t, _, rfl⟩ := List.mem_map.mp hx
  have : (i + t) % 4 < g.length := by rw [hl]; exact Nat.mod_lt _ (by decide)
  rw [List.getD_eq_getElem?_getD, List.getElem?_eq_getElem this]
  exact h _ (List.getElem_mem this)
theorem win_len (g : List Int) (i s : Nat) : (win g i s).length = s := by unfold win; rw [List.length_map, List.length_range]
theorem nxt_in {g : List Int} (h : in25 g) (hl : g.length = 4) {s k : Nat} (hk : k < s) : in25 (nxt g s k) := fun x hx => by
  obtain ⟨i, _, rfl⟩ := List.mem_map.mp hx
  exact srt_in (win_in h hl i s) (by rw [win_len]; exact hk)
/-- the row behind the steps, and whether it ends in floats -/
noncomputable def smG : List Int → List Step3 → List Int
  | g, [] => g
  | g, c :: L => smG (nxt g c.1.toNat c.2.2.toNat) L
noncomputable def smF : Bool → List Step3 → Bool
  | f, [] => f
  | f, c :: L => smF (f || cut c) L
theorem combo_k : ∀ c ∈ combos, c.2.2.toNat < c.1.toNat := by decide
theorem smG_len : ∀ (L : List Step3) (g : List Int), g.length = 4 → (smG g L).length = 4
  | [], _, h => h
  | c :: L, g, _ => smG_len L _ (nxt_len ..)
theorem list4 {l : List Int} (h : l.length = 4) : ∃ a b c d, l = [a, b, c, d] := by
  obtain ⟨a, t1, rfl, h1⟩ := lenS h
  obtain ⟨b, t2, rfl, h2⟩ := lenS h1
  obtain ⟨c, t3, rfl, h3⟩ := lenS h2
  obtain ⟨d, t4, rfl, h4⟩ := lenS h3
  exact ⟨a, b, c, d, by rw [len0 h4]⟩
theorem turn141 (hD : D < 590) {f : Bool} {g : List Int} (hg : g.length = 4) (hb : in25 g) {c : Step3} (hc : c ∈ combos) (X : AV) :
    SSound prog w D ⟨sc141 w.params, bs3 c ++ st141 f g X, []⟩ (execs (forB (lp141 w.params))) (.next, ⟨sc141 w.params, st141 (f || cut c) (nxt g c.1.toNat c.2.2.toNat) X, []⟩) := by
  obtain ⟨x, y, z, u, rfl⟩ := list4 hg
  obtain ⟨h1, h2⟩ := Prod.mk.inj (List.map_inj_left.mp (turns (prog := prog) (w := w) hD f x y z u X) c hc)
  refine goto_ h1 h2 fun p hp => ?_
  unfold obsT at hp
  split at hp
  · obtain ⟨i, _, rfl⟩ := List.mem_map.mp hp
    refine fun a ha => ⟨(win_in hb hg i _ a ha).1, Int.lt_of_lt_of_le (win_in hb hg i _ a ha).2 ?_⟩
    unfold lid; split <;> decide
  · nomatch hp
theorem taken {t : Expr} {x : AV} {bs : List (Str × AV)} (h : (takeC t x).map (·.1) = some bs) : BindS t x bs := by
  obtain ⟨⟨_, k⟩, _, e⟩ := Option.map_eq_some_iff.mp h
  cases e; exact k
noncomputable def forOk (sc : Scope) (st : Stmt) : Bool := (asFor st).isSome && (tgtC (forT st)).isSome && (ownsC sc (namesT (forT st))).isSome
theorem for_of {σ : SE} {st : Stmt} {x : AV} {items : List AV} {r : Fl × SE} (h : forOk σ.sc st = true) (hx : ES prog w D σ (forIt st) x) (hi : IterS σ.ob x items) (hn : noRef x = true) (hns : noRefs items = true) (R : Runs prog w D (forT st) (forB st) items σ r) : SSound prog w D σ (exec st) r := by
  rw [for_eq (and_l (and_l h))]
  exact x_for (its_val hx hi (getP (and_r (and_l h))) hn) hx.form hns (getP (and_r h)) R
/-- a block that returns -/
noncomputable def retOf {P : RS → Prop} (x : Rz P) : Option AV := match x with
  | some p => match p.v with
    | ((.ret v, _), _) => some v
    | _ => none
  | none => none
theorem ret_of {σ : SE} {ss : List Stmt} {x : Rz fun r : RS => SSound prog w D σ (execs ss) r.1} {v : AV} {c : List Prop} (h : retOf x = some v) (hc : obsOf x = c) (hp : AllP c) : ∃ σ', SSound prog w D σ (execs ss) (.ret v, σ') := by
  cases x with
  | none => cases h
  | some p =>
    obtain ⟨⟨⟨fl, σ1⟩, o⟩, c', ok⟩ := p
    cases fl with
    | ret u => cases h; cases hc; exact ⟨σ1, ok hp⟩
    | _ => cases h
theorem lookup_er {vs : List (Str × AV)} {x : Str} : (vs.map fun p => (p.1, er p.2)).lookup x = (vs.lookup x).map er := by
  induction vs with
  | nil => rfl
  | cons p l ih =>
    by_cases hx : x = p.1
    · rw [List.map_cons, hx, lookup_cons_eq, show p :: l = (p.1, p.2) :: l from rfl, lookup_cons_eq]; rfl
    · rw [List.map_cons, lookup_cons_ne hx, show p :: l = (p.1, p.2) :: l from rfl, lookup_cons_ne hx]; exact ih
theorem says_er {sc : Scope} {vs vs' : List (Str × AV)} {ob ob' : Obs} (h : (vs.map fun p => (p.1, er p.2)) = vs'.map fun p => (p.1, er p.2)) (ho : erO ob = erO ob') : Says w ⟨sc, vs, ob⟩ ⟨sc, vs', ob'⟩ := says_of (fun x v' e => by
  have e1 := lookup_er (vs := vs) (x := x)
  rw [h, lookup_er, show vs'.lookup x = some v' from e] at e1
  obtain ⟨v, q1, q2⟩ := Option.map_eq_some_iff.mp e1.symm
  exact ⟨v, q1, er_same q2⟩) ho
abbrev sNames : List Str := [nm "row", nm "steps"]
theorem d141 (P : Params) : Def P 141 sNames := getP (o := defC P 141 _) (by kernel_rfl)
theorem b141 (P : Params) (u v : Value) : bindArgs (fdAt P 141) ⟨[u, v], []⟩ = pure (sNames.zip [u, v]) := by kernel_rfl
theorem f141 (P : Params) : forOk (sc141 P) (lp141 P) = true := by kernel_rfl
theorem k141 (P : Params) (c : Step3) : BindS (forT (lp141 P)) (tupC c) (bs3 c) := taken (by kernel_rfl)
theorem i141 (P : Params) (f : Bool) (g : List Int) (X : AV) : ES prog w D ⟨sc141 P, st141 f g X, []⟩ (forIt (lp141 P)) X := got (x := evC fn0 md0 9 ⟨sc141 P, st141 f g X, []⟩ (forIt (lp141 P))) (by kernel_rfl) (c := []) (by kernel_rfl) .nil
theorem runs141 (hD : D < 590) (X : AV) : ∀ (L : List Step3) {f : Bool} {g : List Int}, (∀ c ∈ L, c ∈ combos) → g.length = 4 → in25 g →
    Runs prog w D (forT (lp141 w.params)) (forB (lp141 w.params)) (L.map tupC) ⟨sc141 w.params, st141 f g X, []⟩ (.next, ⟨sc141 w.params, st141 (smF f L) (smG g L) X, []⟩)
  | [], f, g, _, _, _ => .nil _
  | c :: L, f, g, hL, hg, hb => .step (k141 _ c) (turn141 hD hg hb (hL c (.head _)) X) (runs141 hD X L (fun d hd => hL d (.tail _ hd)) (nxt_len ..) (nxt_in hb hg (combo_k c (hL c (.head _)))))
theorem tups_noRef : ∀ L : List Step3, noRefs (L.map tupC) = true
  | [] => rfl
  | c :: L => tups_noRef L
noncomputable def tl141 (P : Params) : List Stmt := (bodyOf (fdAt P 141)).tail
theorem body141 (P : Params) : bodyOf (fdAt P 141) = lp141 P :: tl141 P := cons_of (by kernel_rfl)
theorem r141 (f : Bool) (a b c d : Int) (X : AV) : ∃ σ', SSound prog w D ⟨sc141 w.params, st141 f [a, b, c, d] X, []⟩ (execs (tl141 w.params)) (.ret (rowAV f [a, b, c, d]), σ') := by
  cases f
  · exact ret_of (x := exC fn0 md0 9 _ [] _) (by kernel_rfl) (c := []) (by kernel_rfl) .nil
  · exact ret_of (x := exC fn0 md0 9 _ [] _) (by kernel_rfl) (c := []) (by kernel_rfl) .nil
theorem smooth_run (hD : D < 589) {L : List Step3} {f : Bool} {g : List Int} (hL : ∀ c ∈ L, c ∈ combos) (hg : g.length = 4) (hb : in25 g) : BodyS prog w D 141 sNames [rowAV f g, .lst (L.map tupC)] (rowAV (smF f L) (smG g L)) := by
  have hfor := for_of (f141 w.params) (i141 (prog := prog) (D := D + 1) w.params f g (.lst (L.map tupC))) (iter_list tup_is lst_not) (by exact tups_noRef L) (tups_noRef L) (runs141 (Nat.succ_lt_succ hD) _ L hL hg hb)
  obtain ⟨a, b, c, d, e⟩ := list4 (smG_len L g hg)
  obtain ⟨σ', hr⟩ := r141 (prog := prog) (w := w) (D := D + 1) (smF f L) a b c d (.lst (L.map tupC))
  rw [← e] at hr
  exact ⟨σ', by rw [body141]; exact x_seq hfor hr⟩
/-- the steps of a list -/
noncomputable def StepsL (l : List AV) (L : List Step3) : Prop := ers l = ers (L.map tupC)
noncomputable def stepsC : (l : List AV) → Option {L : List Step3 // StepsL l L}
  | [] => some ⟨[], rfl⟩
  | .tup [.int _ s, .int _ v, .int _ p] :: l => match stepsC l with
    | some r => some ⟨(s, v, p) :: r.1, congrArg (er (tupC (s, v, p)) :: ·) r.2⟩
    | none => none
  | _ => none
theorem IntsL.er {l : List AV} {g : List Int} (h : IntsL l g) : ers l = ers (g.map (mkA false)) := by
  induction h with
  | nil => rfl
  | cons y a k ih => exact congrArg (AV.int false a :: ·) ih
theorem smooth_fn (hD : D < 589) {l st : List AV} {g : List Int} {L : List Step3} (hl : IntsL l g) (hs : StepsL st L) (hL : ∀ c ∈ L, c ∈ combos) (hg : g.length = 4) (hb : in25 g) : FnS prog w D 141 [.lst l, .lst st] [] (rowAV (smF false L) (smG g L)) := by
  obtain ⟨σ', hr⟩ := smooth_run (prog := prog) (w := w) hD (f := false) hL hg hb
  refine fnS_of (d141 _) (bind2 (b141 _)) (Nat.lt_trans hD (by decide)) rfl ⟨σ', hr.from (says_er ?_ rfl)⟩
  show [(nm "row", AV.lst (ers l)), (nm "steps", AV.lst (ers st))] = [(nm "row", AV.lst (ers (g.map (mkA false)))), (nm "steps", AV.lst (ers (L.map tupC)))]
  rw [hl.er, hs]
end
end Mine

namespace Mine
noncomputable section
variable {prog : Program} {w : World} {D : Nat}

-- _law_column
noncomputable def signs : List Nat := [32, 9, 120]
noncomputable def colS (d c : Int) (ch : Nat) : Int := match ch == 9 with | true => c + (d - c.fmod d) | false => c + 1
noncomputable def colL (d : Int) : Int → List Nat → Int
  | c, [] => c
  | c, ch :: l => colL d (colS d c ch) l
abbrev cNames : List Str := [nm "text", nm "d"]
theorem d148 (P : Params) : Def P 148 cNames := getP (o := defC P 148 _) (by kernel_rfl)
theorem b148 (P : Params) (u v : Value) : bindArgs (fdAt P 148) ⟨[u, v], []⟩ = pure (cNames.zip [u, v]) := by kernel_rfl
noncomputable def sc148 (P : Params) : Scope := (fdAt P 148).scope
noncomputable def bd148 (P : Params) : List Stmt := bodyOf (fdAt P 148)
noncomputable def lp148 (P : Params) : Stmt := stAt (bd148 P) 1
theorem body148 (P : Params) : bd148 P = (bd148 P).take 1 ++ lp148 P :: (bd148 P).drop 2 := by kernel_rfl
noncomputable def cv (x : Str) (d c : Int) : List (Str × AV) := [(nm "column", .int true c), (nm "text", .str x), (nm "d", .int true d)]
noncomputable def tr148 (x : Str) (d c : Int) (ch : Nat) := exC (prog := prog) (w := w) (D := D) fn0 md0 60 ⟨sc148 w.params, [(nm "sign", chr ch)] ++ cv x d c, []⟩ [] (forB (lp148 w.params))
theorem turns148 (x : Str) (d c : Int) : signs.map (fun t => (rd (tr148 (prog := prog) (w := w) (D := D) x d c t) [nm "column", nm "text", nm "d"], obsOf (tr148 (prog := prog) (w := w) (D := D) x d c t))) = signs.map fun t => (want (cv x d (colS d c t)) [], if t == 9 then [d ≠ 0] else []) := by kernel_rfl
theorem f148 (P : Params) : forOk (sc148 P) (lp148 P) = true := by kernel_rfl
theorem k148 (P : Params) (c : Nat) : BindS (forT (lp148 P)) (chr c) [(nm "sign", chr c)] := taken (by kernel_rfl)
theorem i148 (x : Str) (d c : Int) : ES prog w D ⟨sc148 w.params, cv x d c, []⟩ (forIt (lp148 w.params)) (.str x) := got (x := evC fn0 md0 9 _ _) (by kernel_rfl) (c := []) (by kernel_rfl) .nil
theorem runs148 {x : Str} {d : Int} (hd : d ≠ 0) : ∀ (l : List Nat) {c : Int}, (∀ ch ∈ l, ch ∈ signs) → Runs prog w D (forT (lp148 w.params)) (forB (lp148 w.params)) (l.map chr) ⟨sc148 w.params, cv x d c, []⟩ (.next, ⟨sc148 w.params, cv x d (colL d c l), []⟩)
  | [], c, _ => .nil _
  | ch :: l, c, hl => by
    obtain ⟨h1, h2⟩ := Prod.mk.inj (List.map_inj_left.mp (turns148 (prog := prog) (w := w) (D := D) x d c) ch (hl _ (.head _)))
    exact .step (k148 _ ch) (goto_ h1 h2 (by split; exact .cons hd .nil; exact .nil)) (runs148 hd l fun y hy => hl y (.tail _ hy))
theorem chrs_noRef : ∀ l : List Nat, noRefs (l.map chr) = true
  | [] => rfl
  | c :: l => chrs_noRef l
theorem column_run {x : Str} {d : Int} (hd : d ≠ 0) (hx : ∀ ch ∈ x.cps.toList, ch ∈ signs) {y : Bool} : BodyS prog w D 148 cNames [.str x, .int y d] (.int true (colL d 0 x.cps.toList)) := by
  have S1 : SSound prog w (D + 1) ⟨sc148 w.params, cNames.zip [.str x, .int y d], []⟩ (execs ((bd148 w.params).take 1)) (.next, ⟨sc148 w.params, cv x d 0, []⟩) := goto_ (x := exC fn0 md0 9 _ [] _) (by kernel_rfl) (c := []) (by kernel_rfl) .nil
  have hfor := for_of (f148 w.params) (i148 (prog := prog) (D := D + 1) x d 0) iter_str rfl (chrs_noRef _) (runs148 hd x.cps.toList hx)
  obtain ⟨σ', hr⟩ := ret_of (prog := prog) (w := w) (D := D + 1) (x := exC fn0 md0 9 ⟨sc148 w.params, cv x d (colL d 0 x.cps.toList), []⟩ [] ((bd148 w.params).drop 2)) (v := .int true (colL d 0 x.cps.toList)) (by kernel_rfl) (c := []) (by kernel_rfl) .nil
  exact ⟨σ', by show SSound _ _ _ _ (execs (bd148 w.params)) _; rw [body148]; exact blocks S1 (x_seq hfor hr)⟩

-- the methods
structure Wsp where
  raw : Str
  n : Int
  nt : Int
  cnt : List Int
  b : Int
  sim : Bool
noncomputable def Wsp.av (v : Wsp) : AV := .inst v.raw v.n v.nt v.cnt v.b v.sim
noncomputable def longest (v : Wsp) : Int := if (v.cnt.length : Int) - 1 < v.b then v.b else (v.cnt.length : Int) - 1
theorem d87 (P : Params) : Def P 87 [nm "self"] := getP (o := defC P 87 _) (by kernel_rfl)
theorem d94 (P : Params) : Def P 94 [nm "self", nm "tabsize"] := getP (o := defC P 94 _) (by kernel_rfl)
theorem d108 (P : Params) : Def P 108 [nm "self", nm "other"] := getP (o := defC P 108 _) (by kernel_rfl)
theorem d115 (P : Params) : Def P 115 [nm "self", nm "other"] := getP (o := defC P 115 _) (by kernel_rfl)
theorem b87 (P : Params) (u : Value) : bindArgs (fdAt P 87) ⟨[u], []⟩ = pure ([nm "self"].zip [u]) := by kernel_rfl
theorem b94 (P : Params) (u v : Value) : bindArgs (fdAt P 94) ⟨[u, v], []⟩ = pure ([nm "self", nm "tabsize"].zip [u, v]) := by kernel_rfl
theorem b108 (P : Params) (u v : Value) : bindArgs (fdAt P 108) ⟨[u, v], []⟩ = pure ([nm "self", nm "other"].zip [u, v]) := by kernel_rfl
theorem b115 (P : Params) (u v : Value) : bindArgs (fdAt P 115) ⟨[u, v], []⟩ = pure ([nm "self", nm "other"].zip [u, v]) := by kernel_rfl
/-- a method of the class -/
structure IsMeth (P : Params) (m : Str) (f : Addr) : Prop where
  at_ : findIn (KP P) (.ref 125) m = some (some (.ref f))
  ty : typeIn (KP P) (.ref f) = some (.type "function")
  off : m ∉ [nm "raw", nm "n", nm "nt", nm "norm", nm "is_simple"]
theorem m87 (P : Params) : IsMeth P (nm "longest_run_of_spaces") 87 := ⟨by kernel_rfl, by kernel_rfl, by decide +kernel⟩
theorem m94 (P : Params) : IsMeth P (nm "indent_level") 94 := ⟨by kernel_rfl, by kernel_rfl, by decide +kernel⟩
theorem m108 (P : Params) : IsMeth P (nm "not_equal_witness") 108 := ⟨by kernel_rfl, by kernel_rfl, by decide +kernel⟩
theorem m115 (P : Params) : IsMeth P (nm "less") 115 := ⟨by kernel_rfl, by kernel_rfl, by decide +kernel⟩
theorem meth_of {v : Wsp} {m : Str} {f : Addr} {names : List Str} {as : List AV} {r : AV} (hm : IsMeth w.params m f) (d : Def w.params f names) (hb : BindP w.params f names) (hD : D < 600) (hl : (v.av :: as).length = names.length) (run : BodyS prog w D f names (v.av :: as) r) : MethS prog w D v.av m as f r where
  get := fun {A E s mu u pl Q} hB hu hQ => by
    obtain ⟨ad, dx, mm, tn, tc, cs, rfl, _, W⟩ := hu
    obtain ⟨o, e1, e2⟩ := ns1_look W.ns
    obtain ⟨ox, q1, q2, q3, q4⟩ := W.ob
    refine method_fn hB.1 (show PySem.W.InstAt s.heap ad ox 125 (some o) from ⟨q1, q2, q4, by rw [q3]; exact e1⟩) (cls_ga _) (cls_getattr _) hm.at_ hm.ty ?_ (hQ s.toks)
    unfold shadowIn
    dsimp only
    rw [e2, W.other m hm.off]; rfl
  call := fun {A E s mu u Q pos args} C hB M hu hst h => fn_call d hD C hb hl run hB M (wpAny_mono h (fun y s₁ hy => ⟨hy.1, hy.2.1, ⟨u, y.pos, rfl, hu.up hy.1, hy.2.2.1⟩, hy.2.2.2⟩) fun _ _ e => e)
theorem run87 (v : Wsp) (h : v.cnt.length ≤ 64) : BodyS prog w D 87 [nm "self"] [v.av] (.int true (longest v)) := body_of (fn := fn0) (md := md0) (o := []) (r := .int true (longest v)) (by kernel_rfl) (c := [v.cnt.length ≤ 4096]) (by kernel_rfl) (.cons (Nat.le_trans h (by decide)) .nil) rfl
end
end Mine

namespace Mine
noncomputable section
variable {prog : Program} {w : World} {D : Nat}

-- indent_level
abbrev iNames : List Str := [nm "self", nm "tabsize"]
noncomputable def sc94 (P : Params) : Scope := (fdAt P 94).scope
noncomputable def bd94 (P : Params) : List Stmt := bodyOf (fdAt P 94)
noncomputable def lp94 (P : Params) : Stmt := stAt (bd94 P) 2
theorem body94 (P : Params) : bd94 P = (bd94 P).take 2 ++ lp94 P :: (bd94 P).drop 3 := by kernel_rfl
noncomputable def iv (v : Wsp) (ts il : Int) : List (Str × AV) := [(nm "il", .int true il), (nm "trailing", .int true v.b), (nm "count", .tupI v.cnt), (nm "self", v.av), (nm "tabsize", .int true ts)]
noncomputable def indS (cnt : List Int) (ts il i : Int) : Int := il + (i.fdiv ts) * cnt.getD i.toNat 0
noncomputable def indL (cnt : List Int) (ts : Int) : Int → Int → Nat → Int
  | il, _, 0 => il
  | il, i, k + 1 => indL cnt ts (indS cnt ts il i) (i + 1) k
theorem fdiv_small {i ts : Int} (hi : 0 ≤ i ∧ i ≤ 64) (ht : 1 ≤ ts) : small (i.fdiv ts) := by
  rw [Int.fdiv_eq_ediv_of_nonneg _ (Int.le_trans (by decide) ht)]
  have h1 : 0 ≤ i / ts := Int.ediv_nonneg hi.1 (Int.le_trans (by decide) ht)
  have h2 : i / ts ≤ i := Int.ediv_le_self _ hi.1
  exact ⟨Int.le_trans (by decide) h1, Int.le_trans (Int.le_trans h2 hi.2) (by decide)⟩
abbrev tsOk (ts : Int) : Prop := 1 ≤ ts ∧ ts ≤ 80
theorem turn94 {v : Wsp} {ts il i : Int} (h : v.cnt.length ≤ 64) (ht : tsOk ts) (hi : 0 ≤ i ∧ i < v.cnt.length) : SSound prog w D ⟨sc94 w.params, [(nm "i", .int false i)] ++ iv v ts il, []⟩ (execs (forB (lp94 w.params))) (.next, ⟨sc94 w.params, iv v ts (indS v.cnt ts il i), []⟩) :=
  goto_ (x := exC fn0 md0 9 _ [] _) (by kernel_rfl) (c := [ts ≠ 0 ∧ ts.natAbs < 1073741824, 0 ≤ i ∧ i < ↑v.cnt.length ∧ v.cnt.length ≤ 4096, small (i.fdiv ts)]) (by kernel_rfl)
    (.cons (by omega) (.cons ⟨hi.1, hi.2, Nat.le_trans h (by decide)⟩ (.cons (fdiv_small ⟨hi.1, by omega⟩ ht.1) .nil)))
theorem f94 (P : Params) : forOk (sc94 P) (lp94 P) = true := by kernel_rfl
theorem k94 (P : Params) (i : Int) : BindS (forT (lp94 P)) (.int false i) [(nm "i", .int false i)] := taken (by kernel_rfl)
theorem runs94 {v : Wsp} {ts : Int} (h : v.cnt.length ≤ 64) (ht : tsOk ts) : ∀ (k : Nat) {il i : Int}, 0 ≤ i → i + k ≤ v.cnt.length →
    Runs prog w D (forT (lp94 w.params)) (forB (lp94 w.params)) (rngL i k) ⟨sc94 w.params, iv v ts il, []⟩ (.next, ⟨sc94 w.params, iv v ts (indL v.cnt ts il i k), []⟩)
  | 0, il, i, _, _ => .nil _
  | k + 1, il, i, h0, h1 => .step (k94 _ i) (turn94 h ht ⟨h0, by omega⟩) (runs94 h ht k (by omega) (by omega))
theorem rng_noRef : ∀ (k : Nat) (i : Int), noRefs (rngL i k) = true
  | 0, _ => rfl
  | k + 1, i => rng_noRef k (i + 1)
noncomputable def ind (v : Wsp) (ts : Int) : Int := v.b + ts * (indL v.cnt ts 0 ts (v.cnt.length - ts).toNat + v.nt)
theorem indent_run {v : Wsp} {ts : Int} (h : v.cnt.length ≤ 64) (ht : tsOk ts) : BodyS prog w D 94 iNames [v.av, .int true ts] (.int true (ind v ts)) := by
  have S1 : SSound prog w (D + 1) ⟨sc94 w.params, iNames.zip [v.av, .int true ts], []⟩ (execs ((bd94 w.params).take 2)) (.next, ⟨sc94 w.params, iv v ts 0, []⟩) := goto_ (x := exC fn0 md0 9 _ [] _) (by kernel_rfl) (c := []) (by kernel_rfl) .nil
  have hi : ES prog w (D + 1) ⟨sc94 w.params, iv v ts 0, []⟩ (forIt (lp94 w.params)) (.rng ts v.cnt.length) := got (x := evC fn0 md0 9 _ _) (by kernel_rfl) (c := [v.cnt.length ≤ 4096, small ts ∧ small ↑v.cnt.length]) (by kernel_rfl) (.cons (Nat.le_trans h (by decide)) (.cons (by unfold small; omega) .nil))
  have hr : Runs prog w (D + 1) (forT (lp94 w.params)) (forB (lp94 w.params)) (rngL ts (v.cnt.length - ts).toNat) ⟨sc94 w.params, iv v ts 0, []⟩ (.next, ⟨sc94 w.params, iv v ts (indL v.cnt ts 0 ts (v.cnt.length - ts).toNat), []⟩) := by
    by_cases hk : (v.cnt.length : Int) - ts ≤ 0
    · rw [Int.toNat_of_nonpos hk]; exact .nil _
    · exact runs94 h ht _ (by omega) (by omega)
  have hfor := for_of (f94 w.params) hi iter_rng rfl (rng_noRef _ _) hr
  obtain ⟨σ', hr⟩ := ret_of (prog := prog) (w := w) (D := D + 1) (x := exC fn0 md0 9 ⟨sc94 w.params, iv v ts (indL v.cnt ts 0 ts (v.cnt.length - ts).toNat), []⟩ [] ((bd94 w.params).drop 3)) (v := .int true (ind v ts)) (by kernel_rfl) (c := [small ts]) (by kernel_rfl) (.cons ⟨by omega, by omega⟩ .nil)
  exact ⟨σ', by show SSound _ _ _ _ (execs (bd94 w.params)) _; rw [body94]; exact blocks S1 (x_seq hfor hr)⟩
-- the contracts of a first and a second method, for the two methods that lean on them
theorem mS87 (hD : D < 600) (v : Wsp) (h : v.cnt.length ≤ 64) : MethS prog w D v.av (nm "longest_run_of_spaces") [] 87 (.int true (longest v)) := meth_of (as := []) (m87 _) (d87 _) (bind1 (b87 _)) hD rfl (run87 v h)
theorem mS94 (hD : D < 600) (v : Wsp) (y : Bool) {ts : Int} (h : v.cnt.length ≤ 64) (ht : tsOk ts) : MethS prog w D v.av (nm "indent_level") [.int y ts] 94 (.int true (ind v ts)) := by
  obtain ⟨σ', hr⟩ := indent_run (prog := prog) (w := w) (D := D) h ht
  exact meth_of (as := [.int y ts]) (m94 _) (d94 _) (bind2 (b94 _)) hD rfl ⟨σ', hr.from (says_er rfl rfl)⟩
noncomputable def wspC : (x : AV) → Option {v : Wsp // x = v.av}
  | .inst raw n nt cnt b sim => some ⟨⟨raw, n, nt, cnt, b, sim⟩, rfl⟩
  | _ => none
/-- longest_run_of_spaces and indent_level -/
noncomputable def md2 (hD : D < 600) : CMd prog w D := fun x m as => match wspC x with
  | none => none
  | some ⟨v, hx⟩ => if h1 : m = nm "longest_run_of_spaces" then match as with
      | [] => mapR (need (v.cnt.length ≤ 64)) (fun _ => .int true (longest v)) fun _ h => ⟨_, hx ▸ h1 ▸ mS87 hD v h⟩
      | _ => none
    else if h2 : m = nm "indent_level" then match as with
      | [.int y ts] => mapR (need (v.cnt.length ≤ 64 ∧ tsOk ts)) (fun _ => .int true (ind v ts)) fun _ h => ⟨_, hx ▸ h2 ▸ mS94 hD v y h.1 h.2⟩
      | _ => none
    else none
end
end Mine

namespace Mine
noncomputable section
variable {prog : Program} {w : World} {D : Nat}

/-- marks within bounds -/
abbrev Wsp.ok' (v : Wsp) : Prop := v.cnt.length ≤ 64 ∧ 0 ≤ v.b ∧ v.b ≤ 64
noncomputable def topN (v o : Wsp) : Int := (if longest v < longest o then longest o else longest v) + 1
theorem longest_bd {v : Wsp} (h : v.ok') : 0 ≤ longest v ∧ longest v ≤ 64 := by
  unfold longest; split <;> omega
theorem top_bd {v o : Wsp} (hv : v.ok') (ho : o.ok') : 1 ≤ topN v o ∧ topN v o ≤ 65 := by
  have := longest_bd hv; have := longest_bd ho
  unfold topN; split <;> omega
theorem small_top {v o : Wsp} (hv : v.ok') (ho : o.ok') : small (topN v o + 1) := by
  have := top_bd hv ho
  unfold small; omega
abbrev oNames : List Str := [nm "self", nm "other"]
-- less
noncomputable def sc115 (P : Params) : Scope := (fdAt P 115).scope
noncomputable def bd115 (P : Params) : List Stmt := bodyOf (fdAt P 115)
noncomputable def lp115 (P : Params) : Stmt := stAt (bd115 P) 3
theorem body115 (P : Params) : bd115 P = (bd115 P).take 3 ++ lp115 P :: (bd115 P).drop 4 := by kernel_rfl
noncomputable def lv (v o : Wsp) : List (Str × AV) := [(nm "n", .int true (topN v o)), (nm "self", v.av), (nm "other", o.av)]
noncomputable def below (v o : Wsp) : Int → Nat → Bool
  | _, 0 => true
  | i, k + 1 => match decide (ind v i ≥ ind o i) with | true => false | false => below v o (i + 1) k
noncomputable def lessB (v o : Wsp) : Bool := match decide (v.n ≥ o.n) with
  | true => false
  | false => match v.sim && o.sim with
    | true => decide (v.nt ≤ o.nt)
    | false => below v o 2 (topN v o + 1 - 2).toNat
section
variable (v o : Wsp)
noncomputable def hd115 (hD : D < 600) (ss : List Stmt) (orc : List Bool) := exC (prog := prog) (w := w) fn0 (md2 hD) 20 ⟨sc115 w.params, oNames.zip [v.av, o.av], []⟩ orc ss
noncomputable def tr115 (hD : D < 600) (ts : Int) (orc : List Bool) := exC (prog := prog) (w := w) fn0 (md2 hD) 20 ⟨sc115 w.params, [(nm "ts", .int false ts)] ++ lv v o, []⟩ orc (forB (lp115 w.params))
theorem f115 (P : Params) : forOk (sc115 P) (lp115 P) = true := by kernel_rfl
theorem k115 (P : Params) (i : Int) : BindS (forT (lp115 P)) (.int false i) [(nm "ts", .int false i)] := taken (by kernel_rfl)
noncomputable def obs115 (ts : Int) (r : Bool) : List Prop := [v.cnt.length ≤ 64 ∧ tsOk ts, o.cnt.length ≤ 64 ∧ tsOk ts, decide (ind v ts ≥ ind o ts) = r]
end
theorem ret_flag {σ σ' : SE} {go : Env → Sem Flow} {x y : AV} (e : er x = er y) (S : SSound prog w D σ go (.ret x, σ')) : SSound prog w D σ go (.ret y, σ') :=
  ⟨S.sc, fun C N H k => S.run C N H fun h' tk fl ho => by
    obtain ⟨u, q1, q2, q3⟩ := ho
    exact k h' tk fl ⟨u, q1, q2, er_same e q3⟩⟩
theorem runs115 (hD : D < 600) {v o : Wsp} (hv : v.ok') (ho : o.ok') : ∀ (k : Nat) {i : Int}, 1 ≤ i → i + k ≤ 80 → ∃ σ', ∀ b, below v o i k = b →
    Runs prog w D (forT (lp115 w.params)) (forB (lp115 w.params)) (rngL i k) ⟨sc115 w.params, lv v o, []⟩ (match b with | true => (.next, ⟨sc115 w.params, lv v o, []⟩) | false => (.ret (.bool false false), σ'))
  | 0, i, _, _ => ⟨⟨sc115 w.params, [], []⟩, fun b h => by cases h; exact .nil _⟩
  | k + 1, i, h1, h2 => by
    have hts : tsOk i := ⟨h1, by omega⟩
    cases hc : decide (ind v i ≥ ind o i) with
    | true =>
      obtain ⟨σ', S⟩ := ret_of (x := tr115 (prog := prog) (w := w) v o hD i [true]) (v := .bool false false) (by kernel_rfl) (c := obs115 v o i true) (by kernel_rfl) (.cons ⟨hv.1, hts⟩ (.cons ⟨ho.1, hts⟩ (.cons hc .nil)))
      refine ⟨σ', fun b hb => ?_⟩
      rw [below, hc] at hb
      cases hb
      exact .ret (k115 _ i) S
    | false =>
      have S : SSound prog w D _ _ _ := goto_ (x := tr115 (prog := prog) (w := w) v o hD i [false]) (vs' := lv v o) (ob' := []) (by kernel_rfl) (c := obs115 v o i false) (by kernel_rfl) (.cons ⟨hv.1, hts⟩ (.cons ⟨ho.1, hts⟩ (.cons hc .nil)))
      obtain ⟨σ', q⟩ := runs115 hD hv ho k (i := i + 1) (by omega) (by omega)
      refine ⟨σ', fun b hb => .step (k115 _ i) S (q b ?_)⟩
      rw [below, hc] at hb
      exact hb
theorem less_run (hD : D < 599) {v o : Wsp} (hv : v.ok') (ho : o.ok') : BodyS prog w D 115 oNames [v.av, o.av] (.bool true (lessB v o)) := by
  have hD1 : D + 1 < 600 := Nat.succ_lt_succ hD
  show ∃ σ', SSound prog w (D + 1) ⟨sc115 w.params, oNames.zip [v.av, o.av], []⟩ (execs (bd115 w.params)) (.ret (.bool true (lessB v o)), σ')
  unfold lessB
  cases h1 : decide (v.n ≥ o.n) with
  | true => exact (ret_of (x := hd115 (prog := prog) (w := w) v o hD1 (bd115 w.params) [true]) (v := .bool false false) (by kernel_rfl) (c := [decide (v.n ≥ o.n) = true]) (by kernel_rfl) (.cons h1 .nil)).imp fun _ S => ret_flag (x := .bool false false) rfl S
  | false =>
    cases h2 : (v.sim && o.sim) with
    | true => exact ret_of (x := hd115 (prog := prog) (w := w) v o hD1 (bd115 w.params) [false, true]) (by kernel_rfl) (c := [decide (v.n ≥ o.n) = false, (v.sim && o.sim) = true]) (by kernel_rfl) (.cons h1 (.cons h2 .nil))
    | false =>
      have ht := top_bd hv ho
      rw [body115]
      have S1 : SSound prog w (D + 1) _ _ _ := goto_ (x := hd115 (prog := prog) (w := w) v o hD1 ((bd115 w.params).take 3) [false, false]) (vs' := lv v o) (ob' := []) (by kernel_rfl) (c := [decide (v.n ≥ o.n) = false, (v.sim && o.sim) = false, v.cnt.length ≤ 64, o.cnt.length ≤ 64]) (by kernel_rfl) (.cons h1 (.cons h2 (.cons hv.1 (.cons ho.1 .nil))))
      have hi : ES prog w (D + 1) ⟨sc115 w.params, lv v o, []⟩ (forIt (lp115 w.params)) (.rng 2 (topN v o + 1)) := got (x := evC fn0 md0 9 _ _) (by kernel_rfl) (c := [small 2 ∧ small (topN v o + 1)]) (by kernel_rfl) (.cons ⟨by decide, small_top hv ho⟩ .nil)
      obtain ⟨σ', q⟩ := runs115 (prog := prog) (w := w) hD1 hv ho (topN v o + 1 - 2).toNat (i := 2) (by decide) (by omega)
      have F := for_of (f115 w.params) hi iter_rng rfl (rng_noRef _ _) (q _ rfl)
      cases hb : below v o 2 (topN v o + 1 - 2).toNat with
      | true =>
        rw [hb] at F
        obtain ⟨σ2, R⟩ := ret_of (x := exC (prog := prog) (w := w) (D := D + 1) fn0 md0 9 ⟨sc115 w.params, lv v o, []⟩ [] ((bd115 w.params).drop 4)) (v := .bool false true) (by kernel_rfl) (c := []) (by kernel_rfl) .nil
        exact ⟨_, ret_flag (x := .bool false true) rfl (blocks S1 (x_seq F R))⟩
      | false =>
        rw [hb] at F
        exact ⟨_, ret_flag (x := .bool false false) rfl (blocks S1 (x_stop (fun e => nomatch e) F))⟩
end
end Mine

namespace Mine
noncomputable section
variable {prog : Program} {w : World} {D : Nat}

-- not_equal_witness
noncomputable def asRet : (st : Stmt) → Option {q : Expr × Pos // st = .Return (some q.1) q.2}
  | .Return (some e) p => some ⟨(e, p), rfl⟩
  | _ => none
noncomputable def retE (st : Stmt) : Expr × Pos := match asRet st with | some q => q.1 | none => (.Name (nm "") noPos, noPos)
theorem ret_eq {st : Stmt} (h : (asRet st).isSome = true) : st = .Return (some (retE st).1) (retE st).2 := by
  unfold retE
  cases q : asRet st with
  | none => rw [q] at h; cases h
  | some x => exact x.2
noncomputable def sc108 (P : Params) : Scope := (fdAt P 108).scope
noncomputable def bd108 (P : Params) : List Stmt := bodyOf (fdAt P 108)
noncomputable def lp108 (P : Params) : Stmt := stAt (bd108 P) 2
noncomputable def rt108 (P : Params) : Stmt := stAt (bd108 P) 3
theorem body108 (P : Params) : bd108 P = (bd108 P).take 2 ++ lp108 P :: rt108 P :: (bd108 P).drop 4 := by kernel_rfl
theorem ret108 (P : Params) : (asRet (rt108 P)).isSome = true := by kernel_rfl
noncomputable def wv (v o : Wsp) : List (Str × AV) := [(nm "a", .ref 0), (nm "n", .int true (topN v o)), (nm "self", v.av), (nm "other", o.av)]
noncomputable def witT (v o : Wsp) (ts : Int) : AV := .tup [.int false ts, .int true (ind v ts), .int true (ind o ts)]
noncomputable def witL (v o : Wsp) : Int → Nat → List AV
  | _, 0 => []
  | i, k + 1 => match ind v i != ind o i with | true => witT v o i :: witL v o (i + 1) k | false => witL v o (i + 1) k
theorem witL_noRef (v o : Wsp) : ∀ (k : Nat) (i : Int), noRefs (witL v o i k) = true
  | 0, _ => rfl
  | k + 1, i => by
    rw [witL]
    cases ind v i != ind o i with
    | true => exact witL_noRef v o k (i + 1)
    | false => exact witL_noRef v o k (i + 1)
noncomputable def tr108 (v o : Wsp) (L : List AV) (hD : D < 600) (ts : Int) (orc : List Bool) := exC (prog := prog) (w := w) fn0 (md2 hD) 20 ⟨sc108 w.params, [(nm "ts", .int false ts)] ++ wv v o, [some L]⟩ orc (forB (lp108 w.params))
theorem f108 (P : Params) : forOk (sc108 P) (lp108 P) = true := by kernel_rfl
theorem k108 (P : Params) (i : Int) : BindS (forT (lp108 P)) (.int false i) [(nm "ts", .int false i)] := taken (by kernel_rfl)
theorem runs108 (hD : D < 600) {v o : Wsp} (hv : v.ok') (ho : o.ok') : ∀ (k : Nat) {i : Int} {L : List AV}, 1 ≤ i → i + k ≤ 80 → L.length + k ≤ 4096 →
    Runs prog w D (forT (lp108 w.params)) (forB (lp108 w.params)) (rngL i k) ⟨sc108 w.params, wv v o, [some L]⟩ (.next, ⟨sc108 w.params, wv v o, [some (L ++ witL v o i k)]⟩)
  | 0, i, L, _, _, _ => by rw [witL, List.append_nil]; exact .nil _
  | k + 1, i, L, h1, h2, h3 => by
    have hts : tsOk i := ⟨h1, by omega⟩
    rw [witL]
    cases hc : ind v i != ind o i with
    | true =>
      have S : SSound prog w D _ _ _ := goto_ (x := tr108 (prog := prog) (w := w) v o L hD i [true]) (vs' := wv v o) (ob' := [some (L ++ [witT v o i])]) (by kernel_rfl) (c := [v.cnt.length ≤ 64 ∧ tsOk i, o.cnt.length ≤ 64 ∧ tsOk i, (ind v i != ind o i) = true, v.cnt.length ≤ 64 ∧ tsOk i, o.cnt.length ≤ 64 ∧ tsOk i, L.length ≤ 4096]) (by kernel_rfl)
        (.cons ⟨hv.1, hts⟩ (.cons ⟨ho.1, hts⟩ (.cons hc (.cons ⟨hv.1, hts⟩ (.cons ⟨ho.1, hts⟩ (.cons (by omega) .nil))))))
      have q := runs108 hD hv ho k (i := i + 1) (L := L ++ [witT v o i]) (by omega) (by omega) (by rw [List.length_append, List.length_singleton]; omega)
      rw [List.append_assoc] at q
      exact .step (k108 _ i) S q
    | false =>
      have S : SSound prog w D _ _ _ := goto_ (x := tr108 (prog := prog) (w := w) v o L hD i [false]) (vs' := wv v o) (ob' := [some L]) (by kernel_rfl) (c := obs115 v o i true |>.take 2 |> (· ++ [(ind v i != ind o i) = false])) (by kernel_rfl)
        (.cons ⟨hv.1, hts⟩ (.cons ⟨ho.1, hts⟩ (.cons hc .nil)))
      exact .step (k108 _ i) S (runs108 hD hv ho k (i := i + 1) (L := L) (by omega) (by omega) (by omega))
noncomputable def wit (v o : Wsp) : List AV := witL v o 1 (topN v o + 1 - 1).toNat
theorem wit_run (hD : D < 599) {v o : Wsp} (hv : v.ok') (ho : o.ok') : BodyS prog w D 108 oNames [v.av, o.av] (.lst (wit v o)) := by
  have hD1 : D + 1 < 600 := Nat.succ_lt_succ hD
  have ht := top_bd hv ho
  have S1 : SSound prog w (D + 1) _ _ _ := goto_ (x := exC (prog := prog) (w := w) fn0 (md2 hD1) 20 ⟨sc108 w.params, oNames.zip [v.av, o.av], []⟩ [] ((bd108 w.params).take 2)) (vs' := wv v o) (ob' := [some []]) (by kernel_rfl) (c := [v.cnt.length ≤ 64, o.cnt.length ≤ 64]) (by kernel_rfl) (.cons hv.1 (.cons ho.1 .nil))
  have hi : ES prog w (D + 1) ⟨sc108 w.params, wv v o, [some []]⟩ (forIt (lp108 w.params)) (.rng 1 (topN v o + 1)) := got (x := evC fn0 md0 9 _ _) (by kernel_rfl) (c := [small 1 ∧ small (topN v o + 1)]) (by kernel_rfl) (.cons ⟨by decide, small_top hv ho⟩ .nil)
  have F := for_of (f108 w.params) hi iter_rng rfl (rng_noRef _ _) (runs108 (prog := prog) (w := w) hD1 hv ho (topN v o + 1 - 1).toNat (i := 1) (L := []) (by decide) (by omega) (by rw [List.length_nil]; omega))
  have e : ES prog w (D + 1) ⟨sc108 w.params, wv v o, [some (wit v o)]⟩ (retE (rt108 w.params)).1 (.ref 0) := got (x := evC fn0 md0 9 _ _) (by kernel_rfl) (c := []) (by kernel_rfl) .nil
  have R := x_ret (p := (retE (rt108 w.params)).2) e (frz_own (l := wit v o) rfl (witL_noRef ..))
  rw [← ret_eq (ret108 w.params)] at R
  show ∃ σ', SSound prog w (D + 1) ⟨sc108 w.params, oNames.zip [v.av, o.av], []⟩ (execs (bd108 w.params)) (.ret (.lst (wit v o)), σ')
  rw [body108]
  exact ⟨_, blocks S1 (x_seq F (x_stop (fun e => nomatch e) R))⟩
theorem mS115 (hD : D < 599) {v o : Wsp} (hv : v.ok') (ho : o.ok') : MethS prog w D v.av (nm "less") [o.av] 115 (.bool true (lessB v o)) := meth_of (as := [o.av]) (m115 _) (d115 _) (bind2 (b115 _)) (Nat.lt_trans hD (by decide)) rfl (less_run hD hv ho)
theorem mS108 (hD : D < 599) {v o : Wsp} (hv : v.ok') (ho : o.ok') : MethS prog w D v.av (nm "not_equal_witness") [o.av] 108 (.lst (wit v o)) := meth_of (as := [o.av]) (m108 _) (d108 _) (bind2 (b108 _)) (Nat.lt_trans hD (by decide)) rfl (wit_run hD hv ho)
/-- the methods as law calls them -/
noncomputable def md4 (hD : D < 599) : CMd prog w D := fun x m as => match wspC x with
  | none => none
  | some ⟨v, hx⟩ => if h2 : m = nm "indent_level" then match as with
      | [.int y ts] => mapR (need (v.cnt.length ≤ 64 ∧ tsOk ts)) (fun _ => .int true (ind v ts)) fun _ h => ⟨_, hx ▸ h2 ▸ mS94 (Nat.lt_trans hD (by decide)) v y h.1 h.2⟩
      | _ => none
    else match as with
      | [y] => match wspC y with
        | none => none
        | some ⟨o, hy⟩ => if h1 : m = nm "less" then mapR (need (v.ok' ∧ o.ok')) (fun _ => .bool true (lessB v o)) fun _ h => ⟨_, hx ▸ hy ▸ h1 ▸ mS115 hD h.1 h.2⟩
          else if h3 : m = nm "not_equal_witness" then mapR (need (v.ok' ∧ o.ok')) (fun _ => .lst (wit v o)) fun _ h => ⟨_, hx ▸ hy ▸ h3 ▸ mS108 hD h.1 h.2⟩
          else none
      | _ => none
end
end Mine

namespace Mine
noncomputable section
variable {prog : Program} {w : World} {D : Nat} {σ : SE}

-- S, T = (a.b, c.d): the stores go the other way round
theorem swap_names {env : Env} {x y a1 a2 : Str} {px py tp p1 p2 tp2 : Pos} {k kt : Nat} {o1 o2 : Expr} (hf : env.blockKind = .function) (h1 : env.kindOf x = some .local) (h2 : env.kindOf y = some .local) (hl : py.line = px.line) (hne : x ≠ y) :
    swappedStores [.Tuple [.Name x px, .Name y py] k tp] (.Tuple [.Attribute o1 a1 p1, .Attribute o2 a2 p2] kt tp2) env = pure (some [x, y]) := by
  have hne' : (y == x) = false := beq_false_of_ne fun e => hne e.symm
  have e1 : [Expr.Attribute o1 a1 p1, .Attribute o2 a2 p2].all (foldedForSure 8) = false := rfl
  have e2 : [Expr.Attribute o1 a1 p1, .Attribute o2 a2 p2].all (constantsAlone 8) = false := rfl
  have en : ([Expr.Name x px, .Name y py].filterMap fun
    | .Name id pos => if env.kindOf id == some .local && pos.line == px.line then some id else none
    | _ => none) = [x, y] := by
    rw [List.filterMap_cons_some (b := x) (by dsimp only; rw [h1]; simp), List.filterMap_cons_some (b := y) (by dsimp only; rw [h2, hl]; simp)]; rfl
  have ed : [x, y].eraseDups = [x, y] := by
    show List.eraseDupsBy.loop _ [x, y] [] = _
    simp only [List.eraseDupsBy.loop, List.any_nil, List.any_cons, hne']
    rfl
  unfold swappedStores
  dsimp only
  rw [hf]
  generalize hz : List.filterMap _ [Expr.Name x px, Expr.Name y py] = z
  cases hz.symm.trans en
  rw [ed]
  rfl
theorem x_swap {x y a1 a2 : Str} {px py tp p1 p2 tp2 pos : Pos} {k kt : Nat} {o1 o2 : Expr} {u v : AV} (h1 : σ.sc.names.lookup x = some .local) (h2 : σ.sc.names.lookup y = some .local) (hl : py.line = px.line) (hne : x ≠ y) (he : ES prog w D σ (.Tuple [.Attribute o1 a1 p1, .Attribute o2 a2 p2] kt tp2) (.tup [u, v])) :
    XS prog w D σ (.Assign [.Tuple [.Name x px, .Name y py] k tp] (.Tuple [.Attribute o1 a1 p1, .Attribute o2 a2 p2] kt tp2) pos) ⟨σ.sc, (x, u) :: (y, v) :: σ.vs, σ.ob⟩ :=
  ⟨rfl, fun {A E s F Q} C N ⟨sa, b, H⟩ g => Assign_Tuple_swapped (names := [x, y]) (he.st C N H fun t h1' tk kk H1 hu => by
    obtain ⟨a, ws, n, rfl, _, hg, hv⟩ := hu
    obtain ⟨u1, r, rfl, hu1, v1, r', rfl, hv1, rfl⟩ := hv
    refine unpackItems_tuple (s := { s with heap := h1', toks := tk }) (items := #[u1, v1]) C.hh ⟨_, hg, rfl, _, rfl⟩ fun h2' he2 => ?_
    have k2 : KeepH h1' h2' := fun b o e => he2 b o (Nat.ne_of_lt (Heap.lt_size e)) e
    refine assignInOrder_cons (wpAny_bindName (put_st (s := { s with heap := h2', toks := tk }) (H1.up k2) N (.inl h2) (hv1.up k2) fun h3 tk3 H3 W3 => assignInOrder_cons (wpAny_bindName (put_st (s := { s with heap := h3, toks := tk3 }) H3 N (.inl h1) ?_ fun h4 tk4 H4 _ => assignInOrder_nil (g h4 tk4 .next ⟨rfl, _, _, H4⟩)))))
    exact (hu1.up k2).to (.but fun b o hb e => W3.keep b o (fun hf => hb (.inr (.inl hf))) e)) rfl (swap_names N.func (N.names _ _ h1) (N.names _ _ h2) hl hne)⟩
noncomputable def swapC (ev : (e : Expr) → Rz (ES prog w D σ e)) : (st : Stmt) → Rz (XS prog w D σ st)
  | .Assign [.Tuple [.Name x px, .Name y py] k tp] (.Tuple [.Attribute o1 a1 p1, .Attribute o2 a2 p2] kt tp2) pos => bnd (chk false (σ.sc.names.lookup x = some .local ∧ σ.sc.names.lookup y = some .local ∧ py.line = px.line ∧ x ≠ y)) fun _ => match seen (valOf (ev (.Tuple [.Attribute o1 a1 p1, .Attribute o2 a2 p2] kt tp2))) with
    | some ⟨.tup [u, v], hv⟩ => some ⟨⟨σ.sc, (x, u) :: (y, v) :: σ.vs, σ.ob⟩, obsOf (ev (.Tuple [.Attribute o1 a1 p1, .Attribute o2 a2 p2] kt tp2)), fun hc h => x_swap h.1 h.2.1 h.2.2.1 h.2.2.2 (got hv rfl hc)⟩
    | _ => none
  | _ => none

/-- a frame beside an object that is under way -/
structure InSt (w : World) (F : Fx) (σ : SE) (h : Heap) (x dx : Addr) (fs : List (Str × AV)) : Prop where
  st : ∃ sa b mA, St1 w F σ h sa b ∧ h.Ns1 dx mA ∧ ∀ y, match fs.lookup y with | some v => ∃ u, mA y = some u ∧ Val (muOf F sa σ.ob) sa h v u | none => mA y = none
  nr : noRefs (fs.map (·.2)) = true
  ob : ∃ ox, h.get? x = some ox ∧ ox.cls = .ref wsCls ∧ ox.dict = some dx ∧ notCls ox = true
  ne : dx ≠ x
  mx : F.mu0 x
  md : F.mu0 dx
  kx : ∀ o, ¬ F.Kp x o
  kd : ∀ o, ¬ F.Kp dx o
  nc : x ≠ 125
theorem lookup_noRef {fs : List (Str × AV)} (hn : noRefs (fs.map (·.2)) = true) {y : Str} {v : AV} (h : fs.lookup y = some v) : noRef v = true := by
  induction fs with
  | nil => cases h
  | cons p l ih =>
    by_cases hy : y = p.1
    · rw [hy, show p :: l = (p.1, p.2) :: l from rfl, lookup_cons_eq] at h; cases h; exact and_l hn
    · rw [show p :: l = (p.1, p.2) :: l from rfl, lookup_cons_ne hy] at h; exact ih (and_r hn) h
section
variable {A : Around} {E : Value → Shared → Prop} {s : Shared} {F : Fx} {Q : Flow → Shared → Prop} {x dx : Addr} {fs : List (Str × AV)}
theorem nX {F : Fx} : ∀ (a : Addr) (o : Obj), False → ¬ F.Kp a o := fun _ _ e => e.elim
theorem InSt.locked (I : InSt w F σ s.heap x dx fs) (k : ∀ sa b, St1 w F σ s.heap sa b → St1 w (F.lock (fun _ => False) sa σ.ob s.heap) σ s.heap sa b →
    (∀ σ1 h', St w (F.lock (fun _ => False) sa σ.ob s.heap) σ1 h' → InSt w F σ1 h' x dx fs) → (∃ mA, s.heap.Ns1 dx mA ∧ ∀ y v, fs.lookup y = some v → ∃ u, mA y = some u ∧ Val (muOf F sa σ.ob) sa s.heap v u) → wpAny (model prog w) A go Q E s) : wpAny (model prog w) A go Q E s := by
  obtain ⟨sa, b, mA, H, hns, hm⟩ := I.st
  obtain ⟨ox, q1, q2⟩ := I.ob
  have nw : ∀ {a}, F.mu0 a → ¬ wrs F sa σ.ob a := fun e hw => (H.lay.new _ hw).2 e
  refine k sa b H (H.locked nX) (fun σ1 h' H' => ?_) ⟨mA, hns, fun y v e => by have := hm y; rw [e] at this; exact this⟩
  obtain ⟨sa', b', H'⟩ := H'
  have kp : ∀ a o, s.heap.get? a = some o → ¬ wrs F sa σ.ob a → h'.get? a = some o := fun a o e n => H'.lay.keep a o ⟨e, n, fun e => e⟩
  have L : Later (muOf F sa σ.ob) (muOf F sa' σ1.ob) s.heap h' := ⟨fun a o n e => kp a o e fun hw => n (.inr hw), fun c hc n e => e.elim (fun e => n (.inl e)) fun e => by
    obtain ⟨o, hc⟩ := hc
    exact (H'.lay.new c e).1 o ⟨hc, fun hw => n (.inr hw), fun e => e⟩⟩
  refine ⟨⟨sa', b', mA, ?_, Ns1.kept hns fun o e => kp dx o e (nw I.md), fun y => ?_⟩, I.nr, ⟨ox, kp x ox q1 (nw I.mx), q2⟩, I.ne, I.mx, I.md, I.kx, I.kd, I.nc⟩
  · exact H'.sub (fun a o e => H.kp nX e) H.lay.top
  · have := hm y
    split at this
    · rename_i v e
      exact this.imp fun u p => ⟨p.1, noRef_val (lookup_noRef I.nr e) (p.2.to L)⟩
    · rename_i e
      exact this
theorem fne_lock {sc : Scope} {X : Addr → Prop} {sa : List Addr} {ob : Obs} {h : Heap} (N : FnE F sc) : FnE (F.lock X sa ob h) sc := ⟨N.kind, N.globals, N.builtins, N.names, N.owned, N.cells, N.func, N.quiet⟩
/-- a block that leaves the object alone -/
theorem InSt.seg {go : Env → Sem Flow} {σ1 : SE} (I : InSt w F σ s.heap x dx fs) (S : SSound prog w D σ go (.next, σ1)) (C : Cx A D) (N : FnE F σ.sc) (k : ∀ h' tk, InSt w F σ1 h' x dx fs → Q .next { s with heap := h', toks := tk }) : wpAny (model prog w) A (go F.env) Q E s :=
  I.locked fun sa b H HL back _ => S.run (F := F.lock (fun _ => False) sa σ.ob s.heap) C (fne_lock N) ⟨_, _, HL⟩ fun h' tk fl ho => by
    obtain ⟨rfl, H'⟩ := ho
    exact k h' tk (back _ _ H')
end
end
end Mine

namespace Mine
noncomputable section
variable {prog : Program} {w : World} {D : Nat} {σ : SE}

-- the class and its namespace
noncomputable def ob125 (P : Params) : Obj := match (KP P).lookup 125 with | some o => o | none => dictObj
noncomputable def sl125 (P : Params) (i : Nat) : Option Value := ((ob125 P).slots.toList).getD i none
abbrev clsObj (P : Params) : Obj := excClassObj (cdOf P).name (cdOf P).qualname 125 124 (cdOf P).bases [.type "object"] true (cdOf P).slotNames (cdOf P).subclasses false (cdOf P).collection (ob125 P).dict (sl125 P 0) (sl125 P 1) (sl125 P 2) (sl125 P 3) (sl125 P 5) "object.__new__"
theorem at125 (P : Params) : (KP P).lookup 125 = some (clsObj P) := by kernel_rfl
noncomputable def ob124 (P : Params) : Obj := match (KP P).lookup 124 with | some o => o | none => dictObj
theorem at124 (P : Params) : (KP P).lookup 124 = some (ob124 P) := by kernel_rfl
noncomputable def es124 (P : Params) : Array DictEntry := match (ob124 P).data with | .dict es _ => es | _ => #[]
noncomputable def ep124 (P : Params) := match (ob124 P).data with | .dict _ ep => ep | _ => default
theorem data124 (P : Params) : (ob124 P).data = .dict (es124 P) (ep124 P) := by kernel_rfl
noncomputable def strKeyB (e : DictEntry) : Bool := match e.key with | .str _ _ => true | _ => false
theorem keys124 (P : Params) : (es124 P).toList.all strKeyB = true := by kernel_rfl
theorem ns124 {P : Params} {h : Heap} (X : (KP P).In h) : h.Ns 124 (nsFind (es124 P)) := by
  refine ⟨_, _, _, X _ _ (at124 P), data124 P, fun x hx => ?_, fun _ => rfl⟩
  have := List.all_eq_true.mp (keys124 P) x (Array.mem_def.mp hx)
  unfold strKeyB at this
  cases e : x.key with
  | str n t => exact ⟨n, t, rfl⟩
  | _ => rw [e] at this; cases this
theorem ns_init (P : Params) : nsFind (es124 P) (nm "__init__") = some (.ref 80) := by kernel_rfl
theorem ns_setattr (P : Params) : nsFind (es124 P) "__setattr__" = none := by kernel_rfl
/-- a field that may be stored -/
structure FieldOk (P : Params) (m : Str) : Prop where
  ns : nsFind (es124 P) m = none
  obj : typeLookup (.type "object") m = pure none
theorem f_raw (P : Params) : FieldOk P (nm "raw") := ⟨by kernel_rfl, by rw [typeLookup_type, builtinLookup_eq_fast]; kernel_rfl⟩
theorem f_n (P : Params) : FieldOk P (nm "n") := ⟨by kernel_rfl, by rw [typeLookup_type, builtinLookup_eq_fast]; kernel_rfl⟩
theorem f_nt (P : Params) : FieldOk P (nm "nt") := ⟨by kernel_rfl, by rw [typeLookup_type, builtinLookup_eq_fast]; kernel_rfl⟩
theorem f_norm (P : Params) : FieldOk P (nm "norm") := ⟨by kernel_rfl, by rw [typeLookup_type, builtinLookup_eq_fast]; kernel_rfl⟩
theorem f_sim (P : Params) : FieldOk P (nm "is_simple") := ⟨by kernel_rfl, by rw [typeLookup_type, builtinLookup_eq_fast]; kernel_rfl⟩

/-- a store into a field, taken apart -/
noncomputable def asStore : (st : Stmt) → Option {q : Str × Pos × Str × Pos × Expr × Pos // st = .Assign [.Attribute (.Name q.1 q.2.1) q.2.2.1 q.2.2.2.1] q.2.2.2.2.1 q.2.2.2.2.2}
  | .Assign [.Attribute (.Name x p) m ap] e pos => some ⟨(x, p, m, ap, e, pos), rfl⟩
  | _ => none
noncomputable def stoQ (st : Stmt) : Str × Pos × Str × Pos × Expr × Pos := match asStore st with | some q => q.1 | none => (nm "", noPos, nm "", noPos, .Name (nm "") noPos, noPos)
theorem sto_eq {st : Stmt} (h : (asStore st).isSome = true) : st = .Assign [.Attribute (.Name (stoQ st).1 (stoQ st).2.1) (stoQ st).2.2.1 (stoQ st).2.2.2.1] (stoQ st).2.2.2.2.1 (stoQ st).2.2.2.2.2 := by
  unfold stoQ
  cases q : asStore st with
  | none => rw [q] at h; cases h
  | some x => exact x.2
section
variable {A : Around} {E : Value → Shared → Prop} {s : Shared} {F : Fx} {Q : Flow → Shared → Prop} {x dx : Addr} {fs : List (Str × AV)}
theorem InSt.store {st : Stmt} {v : AV} {m : Str} (I : InSt w F σ s.heap x dx fs) (hst : (asStore st).isSome = true) (hm : (stoQ st).2.2.1 = m) (fm : FieldOk w.params m) (hc : (ncC (stoQ st).2.2.2.2.1).isSome = true) (he : ES prog w D σ (stoQ st).2.2.2.2.1 v) (hv : noRef v = true) (hs : ES prog w D σ (.Name (stoQ st).1 (stoQ st).2.1) (.con (.ref x))) (hl : fs.length ≤ 9) (C : Cx A D) (N : FnE F σ.sc)
    (k : ∀ h' tk, InSt w F σ h' x dx ((m, v) :: fs) → Q .next { s with heap := h', toks := tk }) : wpAny (model prog w) A (exec st F.env) Q E s := by
  obtain ⟨sa, b, mA, H, hns, hA⟩ := I.st
  obtain ⟨ox, q1, q2, q3, q4⟩ := I.ob
  rw [sto_eq hst, hm]
  refine plainObj_wpAny_Assign_Attribute (he.st C N H fun u h1 tk1 kk1 H1 hu => hs.st (s := { s with heap := h1, toks := tk1 }) C N H1 fun u2 h2 tk2 kk2 H2 hu2 => ?_) ((getP hc) _ _ _)
  cases hu2
  have B := H2.lay.top _ H2.lay.keep
  have kk := KeepH.trans kk1 kk2
  refine store_attr (ns := fs.map (·.1)) PySem.F.store_object (B.1 _ _ (at125 _)) (ns124 B.1) (ns_setattr _) fm.ns fm.obj I.nc (mA := mA) ⟨ox, kk _ _ q1, q2, fun c e => ?_, .inr ⟨dx, q3, I.ne, Ns1.kept hns fun o e => kk _ _ e⟩⟩ (fun h' tk' I' hk hsame => ?_) (fun y hy => ?_) (by rw [List.length_map, sizeLine_eq]; omega)
  · unfold notCls at q4; rw [e] at q4; cases q4
  · obtain ⟨o₁, p1, p2, p3, _, p4⟩ := hsame ox (kk _ _ q1)
    have p4 := p4 dx q3
    have ns' : h'.Ns1 dx (fun y => if y = m then some u else mA y) := by
      obtain ⟨o2, e1, _, _, e3⟩ := I'
      cases p1.symm.trans e1
      rcases e3 with ⟨e3, _⟩ | ⟨d, e3, _, e4⟩
      · cases p4.symm.trans e3
      · cases p4.symm.trans e3; exact e4
    have kp : ∀ a o, ¬ F.mu0 a → h2.get? a = some o → h'.get? a = some o := fun a o n e => hk a o (fun e' => n (e' ▸ I.mx)) (fun o₀ d e1 e2 e' => by
      cases (kk _ _ q1).symm.trans e1
      cases q3.symm.trans e2
      exact n (e' ▸ I.md)) e
    have L : Later (muOf F sa σ.ob) (muOf F sa σ.ob) h2 h' := .but fun a o n e => kp a o (fun e' => n (.inl e')) e
    have lv : ∀ a, Lives h2 a → Lives h' a := fun a e => by
      by_cases ex : a = x
      · exact ex ▸ ⟨o₁, p1⟩
      · by_cases ed : a = dx
        · obtain ⟨o, _, _, e, _⟩ := ns'; exact ed ▸ ⟨o, e⟩
        · exact e.imp fun o e => hk a o ex (fun o₀ d e1 e2 e' => by
            cases (kk _ _ q1).symm.trans e1
            cases q3.symm.trans e2
            exact ed e') e
    have St' : St1 w F σ h' sa b := H2.re (Kp := F.Kp) (mu0 := F.mu0) L (fun a hw o e => kp a o (H2.lay.new a hw).2 e) (H2.lay.move lv fun a o e q => hk a o (fun e' => I.kx o (e' ▸ e)) (fun o₀ d e1 e2 e' => by
      cases (kk _ _ q1).symm.trans e1
      cases q3.symm.trans e2
      exact I.kd o (e' ▸ e)) q)
    refine k h' tk' ⟨⟨sa, b, _, St', ns', fun y => ?_⟩, ?_, ⟨o₁, p1, p2.trans q2, p4, ?_⟩, I.ne, I.mx, I.md, I.kx, I.kd, I.nc⟩
    · by_cases hy : y = m
      · subst hy; rw [lookup_cons_eq, if_pos rfl]; exact ⟨u, rfl, (hu.up kk2).to L⟩
      · rw [lookup_cons_ne hy, if_neg hy]
        have := hA y
        split at this
        · exact this.imp fun u p => ⟨p.1, (p.2.up kk).to L⟩
        · exact this
    · show (noRef v && noRefs (fs.map (·.2))) = true
      rw [hv, I.nr]; rfl
    · unfold notCls at q4 ⊢; rw [p3]; exact q4
  · by_cases hn : y ∈ fs.map (·.1)
    · exact hn
    · have := hA y
      rw [lookup_notmem hn] at this
      exact absurd this hy
end
end
end Mine

namespace Mine
noncomputable section
variable {prog : Program} {w : World} {D : Nat}

-- __init__ of Whitespace
abbrev wNames : List Str := [nm "self", nm "ws"]
theorem d80 (P : Params) : Def P 80 wNames := getP (o := defC P 80 _) (by kernel_rfl)
theorem b80 (P : Params) (u v : Value) : bindArgs (fdAt P 80) ⟨[u, v], []⟩ = pure (wNames.zip [u, v]) := by kernel_rfl
noncomputable def sc80 (P : Params) : Scope := (fdAt P 80).scope
noncomputable def bd80 (P : Params) : List Stmt := bodyOf (fdAt P 80)
noncomputable def lp80 (P : Params) : Stmt := stAt (bd80 P) 4
noncomputable def iv80 (a : Addr) (x : Str) (n nt b : Int) (i : Nat) : List (Str × AV) := [(nm "count", .ref i), (nm "b", .int true b), (nm "n", .int true n), (nm "nt", .int true nt), (nm "S", .str (nm " ")), (nm "T", .str (nm "\t")), (nm "self", .con (.ref a)), (nm "ws", .str x)]
noncomputable def jv80 (a : Addr) (x : Str) (n nt b : Int) (i : Nat) : List (Str × AV) := [(nm "count", .ref i), (nm "b", .int false b), (nm "n", .int true n), (nm "nt", .int true nt), (nm "S", .str (nm " ")), (nm "T", .str (nm "\t")), (nm "self", .con (.ref a)), (nm "ws", .str x)]
abbrev wst (P : Params) (a : Addr) (x : Str) (n nt : Int) (b i : Nat) (ob : Obs) : SE := ⟨sc80 P, iv80 a x n nt b i, ob⟩
noncomputable def tr80 (a : Addr) (x : Str) (n nt b : Int) (i : Nat) (ob : Obs) (c : Nat) := exC (prog := prog) (w := w) (D := D) fn0 md0 30 ⟨sc80 w.params, [(nm "ch", chr c)] ++ jv80 a x n nt b i, ob⟩ [] (forB (lp80 w.params))
/-- place of the count, its length, blanks: as a tab finds them -/
noncomputable def cIn : List (Nat × Nat × Nat) := (List.range 7).map (fun b => (0, 0, b)) ++ (List.range 7).map (fun b => (1, 1, b)) ++ (List.range 5).map fun b => (1, 5, b)
abbrev ltr (l : List Int) : List AV := l.map (.int true)
abbrev rngC (c : Nat → Int) (len : Nat) : List Int := (List.range len).map c
abbrev obI (i : Nat) (l : List Int) : Obs := List.replicate i none ++ [some (ltr l)]
noncomputable def grow (l : List Int) (b : Nat) : List Int := l ++ List.replicate (b + 1 - l.length) 0
noncomputable def bump (l : List Int) (b : Nat) : List Int := l.set b (l.getD b 0 + 1)
noncomputable def tabI (i len b : Nat) : Nat := if b < len then i else i + 1
noncomputable def tabL (l : List Int) (b : Nat) : List Int := if b < l.length then bump l b else bump (grow l b) b
noncomputable def tabO (i : Nat) (l : List Int) (b : Nat) : Obs := if b < l.length then obI i (bump l b) else obI i l ++ [some (ltr (bump (grow l b) b))]
theorem tabs80 (a : Addr) (x : Str) (n nt : Int) (c : Nat → Int) : cIn.map (fun t => (rd (tr80 (prog := prog) (w := w) (D := D) a x n nt t.2.2 t.1 (obI t.1 (rngC c t.2.1)) 9) ((iv80 a x n nt t.2.2 t.1).map (·.1)), obsOf (tr80 (prog := prog) (w := w) (D := D) a x n nt t.2.2 t.1 (obI t.1 (rngC c t.2.1)) 9))) =
    cIn.map fun t => (want (iv80 a x (n + 1) (nt + 1) 0 (tabI t.1 t.2.1 t.2.2)) (tabO t.1 (rngC c t.2.1) t.2.2), [0 ≤ (t.2.2 : Int) ∧ (t.2.2 : Int) < ((max t.2.1 (t.2.2 + 1) : Nat) : Int) ∧ max t.2.1 (t.2.2 + 1) ≤ 4096]) := by kernel_rfl
theorem rng_is (l : List Int) : l = rngC (fun j => l.getD j 0) l.length := by
  refine List.ext_getElem (by simp) fun i h1 h2 => ?_
  simp [h1]
/-- what is not looked at again is let go -/
theorem says_free {sc : Scope} {vs : List (Str × AV)} {i : Nat} {l : List Int} {r : Obs} : Says w ⟨sc, vs, obI i l ++ r⟩ ⟨sc, vs, List.replicate (i + 1) none ++ r⟩ := ⟨rfl, fun F h ⟨sa, b, S⟩ => ⟨sa, b, by
  have hn : ∀ l : List Int, noRefs (ltr l) = true := fun l => by induction l with
    | nil => rfl
    | cons a l ih => exact ih
  have := S.freeze (i := i) (l := ltr l) (vs := vs) (by simp) (hn l) fun x v e => .inl e
  have e : (obI i l ++ r).set i none = List.replicate (i + 1) none ++ r := by
    rw [List.append_assoc, List.set_append_right _ _ (by simp)]
    simp [List.replicate_succ']
  rw [← e]; exact this⟩⟩
theorem SSound.saysB {σ : SE} {go : Env → Sem Flow} {σ1 σ2 : SE} (S : SSound prog w D σ go (.brk, σ1)) (h : Says w σ1 σ2) : SSound prog w D σ go (.brk, σ2) := ⟨h.1.trans S.sc, fun C N H k => S.run C N H fun h' tk fl ho => k h' tk fl ⟨ho.1, h.2 _ _ ho.2⟩⟩
section
variable {a : Addr} {x : Str} {n nt : Int} {b i : Nat} {l : List Int}
theorem tab80 (h : (i, l.length, b) ∈ cIn) : SSound prog w D ⟨sc80 w.params, [(nm "ch", chr 9)] ++ iv80 a x n nt b i, obI i l⟩ (execs (forB (lp80 w.params))) (.next, wst w.params a x (n + 1) (nt + 1) 0 (tabI i l.length b) (obI (tabI i l.length b) (tabL l b))) := by
  obtain ⟨h1, h2⟩ := Prod.mk.inj (List.map_inj_left.mp (tabs80 (prog := prog) (w := w) (D := D) a x n nt fun j => l.getD j 0) _ h)
  dsimp only at h1 h2
  rw [← rng_is] at h1 h2
  have S := (goto_ (vs' := iv80 a x (n + 1) (nt + 1) 0 (tabI i l.length b)) h1 h2 (.cons ⟨by omega, by omega, by
    have : ∀ t ∈ cIn, max t.2.1 (t.2.2 + 1) ≤ 4096 := by decide
    exact this _ h⟩ .nil)).from (σ0 := ⟨sc80 w.params, [(nm "ch", chr 9)] ++ iv80 a x n nt b i, obI i l⟩) (says_er rfl rfl)
  refine S.says ?_
  unfold tabO tabI tabL
  split
  · exact ⟨rfl, fun _ _ H => H⟩
  · exact says_free
theorem blank80 {ob : Obs} : SSound prog w D ⟨sc80 w.params, [(nm "ch", chr 32)] ++ iv80 a x n nt b i, ob⟩ (execs (forB (lp80 w.params))) (.next, wst w.params a x (n + 1) nt (b + 1) i ob) :=
  goto_ (x := exC fn0 md0 30 _ [] _) (by kernel_rfl) (c := []) (by kernel_rfl) .nil
theorem brk80 {ob : Obs} : SSound prog w D ⟨sc80 w.params, [(nm "ch", chr 120)] ++ iv80 a x n nt b i, ob⟩ (execs (forB (lp80 w.params))) (.brk, wst w.params a x n nt b i ob) :=
  (got (P := fun r : RS => SSound prog w D _ _ r.1) (x := exC fn0 md0 30 _ [] _) (a := ((.brk, ⟨sc80 w.params, [(nm "ch", chr 120)] ++ iv80 a x n nt b i, ob⟩), [])) (by kernel_rfl) (c := []) (by kernel_rfl) .nil).saysB (says_of (fun y v' e => ⟨v', (lookup_cons_ne fun e' => by subst e'; cases e).trans e, fun h => h⟩) rfl)
end
end
end Mine

namespace Mine
noncomputable section
variable {prog : Program} {w : World} {D : Nat}

/-- how far the signs are told -/
structure WsR where
  n : Int
  nt : Int
  b : Nat
  i : Nat
  l : List Int
noncomputable def WsR.blank (r : WsR) : WsR := ⟨r.n + 1, r.nt, r.b + 1, r.i, r.l⟩
noncomputable def WsR.tab (r : WsR) : WsR := ⟨r.n + 1, r.nt + 1, 0, tabI r.i r.l.length r.b, tabL r.l r.b⟩
noncomputable def wsRun : WsR → List Nat → WsR
  | r, [] => r
  | r, c :: l => match c == 32, c == 9 with
    | true, _ => wsRun r.blank l
    | false, true => wsRun r.tab l
    | false, false => r
/-- the cases that are laid out -/
noncomputable def wsOk : WsR → List Nat → Bool
  | r, [] => true
  | r, c :: l => match c == 32, c == 9 with
    | true, _ => wsOk r.blank l
    | false, true => decide ((r.i, r.l.length, r.b) ∈ cIn) && wsOk r.tab l
    | false, false => c == 120
noncomputable def WsR.st (P : Params) (a : Addr) (x : Str) (r : WsR) : SE := wst P a x r.n r.nt r.b r.i (obI r.i r.l)
theorem k80 (P : Params) (c : Nat) : BindS (forT (lp80 P)) (chr c) [(nm "ch", chr c)] := taken (by kernel_rfl)
theorem runs80 {a : Addr} {x : Str} : ∀ (l : List Nat) {r : WsR}, wsOk r l = true → Runs prog w D (forT (lp80 w.params)) (forB (lp80 w.params)) (l.map chr) (r.st w.params a x) (.next, (wsRun r l).st w.params a x)
  | [], r, _ => .nil _
  | c :: l, r, h => by
    unfold wsRun
    unfold wsOk at h
    cases h1 : c == 32 with
    | true =>
      rw [h1] at h
      rw [eq_of_beq h1]
      exact .step (k80 _ _) blank80 (runs80 l h)
    | false =>
      rw [h1] at h
      cases h2 : c == 9 with
      | true =>
        rw [h2] at h
        rw [eq_of_beq h2]
        exact .step (k80 _ _) (tab80 (of_decide_eq_true (and_l h))) (runs80 l (and_r h))
      | false =>
        rw [h2] at h
        rw [eq_of_beq h]
        exact .brk (k80 _ _) brk80
noncomputable def r0 : WsR := ⟨0, 0, 0, 0, []⟩
/-- what stands once all signs are told -/
noncomputable def fins : List (Nat × Nat) := (0, 0) :: ((List.range 7).map (fun k => (1, k + 1)) ++ (List.range 7).map fun k => (2, k + 1))
noncomputable def endR (x : Str) : WsR := wsRun r0 x.cps.toList
noncomputable def endOk (x : Str) : Bool := wsOk r0 x.cps.toList && decide (((endR x).i, (endR x).l.length) ∈ fins)
noncomputable def wspOf (x : Str) : Wsp := ⟨x, (endR x).n, (endR x).nt, (endR x).l, (endR x).b, decide ((endR x).l.length ≤ 1)⟩
-- the stores
noncomputable def sE (P : Params) (k : Nat) : Expr := (stoQ (stAt (bd80 P) k)).2.2.2.2.1
theorem norm80 (a : Addr) (x : Str) (n nt b : Int) (c : Nat → Int) : fins.map (fun t => (valOf (evC (prog := prog) (w := w) (D := D) fn0 md0 9 ⟨sc80 w.params, iv80 a x n nt b t.1, obI t.1 (rngC c t.2)⟩ (sE w.params 7)), obsOf (evC (prog := prog) (w := w) (D := D) fn0 md0 9 ⟨sc80 w.params, iv80 a x n nt b t.1, obI t.1 (rngC c t.2)⟩ (sE w.params 7)))) =
    fins.map fun t => (some (.tup [.tup (ltr (rngC c t.2)), .int true b]), []) := by kernel_rfl
theorem sim80 (a : Addr) (x : Str) (n nt b : Int) (c : Nat → Int) : fins.map (fun t => (valOf (evC (prog := prog) (w := w) (D := D) fn0 md0 9 ⟨sc80 w.params, iv80 a x n nt b t.1, obI t.1 (rngC c t.2)⟩ (sE w.params 8)), obsOf (evC (prog := prog) (w := w) (D := D) fn0 md0 9 ⟨sc80 w.params, iv80 a x n nt b t.1, obI t.1 (rngC c t.2)⟩ (sE w.params 8)))) =
    fins.map fun t => (some (.bool false (decide (t.2 ≤ 1))), []) := by kernel_rfl
section
variable {a : Addr} {x : Str} {n nt b : Int} {i : Nat} {l : List Int}
theorem e_norm (h : (i, l.length) ∈ fins) : ES prog w D ⟨sc80 w.params, iv80 a x n nt b i, obI i l⟩ (sE w.params 7) (.tup [.tup (ltr l), .int true b]) := by
  obtain ⟨h1, h2⟩ := Prod.mk.inj (List.map_inj_left.mp (norm80 (prog := prog) (w := w) (D := D) a x n nt b fun j => l.getD j 0) _ h)
  dsimp only at h1 h2
  rw [← rng_is] at h1 h2
  exact got h1 h2 .nil
theorem e_sim (h : (i, l.length) ∈ fins) : ES prog w D ⟨sc80 w.params, iv80 a x n nt b i, obI i l⟩ (sE w.params 8) (.bool false (decide (l.length ≤ 1))) := by
  obtain ⟨h1, h2⟩ := Prod.mk.inj (List.map_inj_left.mp (sim80 (prog := prog) (w := w) (D := D) a x n nt b fun j => l.getD j 0) _ h)
  dsimp only at h1 h2
  rw [← rng_is] at h1 h2
  exact got h1 h2 .nil
end
end
end Mine

namespace Mine
noncomputable section
variable {prog : Program} {w : World} {D : Nat} {σ : SE}

section
variable {A : Around} {E : Value → Shared → Prop} {s : Shared} {F : Fx} {Q : Flow → Shared → Prop} {x dx : Addr} {fs : List (Str × AV)}
/-- a loop over a field -/
theorem InSt.loop {st : Stmt} {sn m t : Str} {sp ap : Pos} {σ1 : SE} (I : InSt w F σ s.heap x dx fs) (hst : forOk σ.sc st = true) (hit : forIt st = .Attribute (.Name sn sp) m ap) (hm : fs.lookup m = some (.str t)) (hf : findIn (KP w.params) (.ref 125) m = some none) (hs : ES prog w D σ (.Name sn sp) (.con (.ref x))) (R : Runs prog w D (forT st) (forB st) (t.cps.toList.map chr) σ (.next, σ1)) (C : Cx A D) (N : FnE F σ.sc)
    (k : ∀ h' tk, InSt w F σ1 h' x dx fs → Q .next { s with heap := h', toks := tk }) : wpAny (model prog w) A (exec st F.env) Q E s := by
  refine I.locked fun sa b H HL back hA => ?_
  obtain ⟨mA, hns, hA⟩ := hA
  obtain ⟨ox, q1, q2, q3, q4⟩ := I.ob
  obtain ⟨u, hu, t', rfl⟩ := hA m _ hm
  rw [for_eq (and_l (and_l hst))]
  refine for_at (F := F.lock (fun _ => False) sa σ.ob s.heap) (sa := sa) (b := b) C (fne_lock N) (fun {E K} kk => ?_) (by rw [hit]; rfl) (chrs_noRef _) (getP (and_r hst)) R fun h' tk fl ho => by
    obtain ⟨rfl, H'⟩ := ho
    exact k h' tk (back _ _ H')
  rw [hit]
  refine Attribute_ok (fun _ _ _ => rfl) (hs.st C (fne_lock N) HL fun u2 h1 tk1 kk1 H1 hu2 => ?_)
  cases hu2
  obtain ⟨o, e1, e2⟩ := ns1_look (Ns1.kept hns fun o e => kk1 _ _ e)
  refine get_value (s := { s with heap := h1, toks := tk1 }) (H1.lay.top _ H1.lay.keep).1 (show PySem.W.InstAt h1 x ox 125 (some o) from ⟨kk1 _ _ q1, q2, q4, by rw [q3]; exact e1⟩) (cls_ga _) (find_own hf (by rw [e2, hu])) rfl ?_
  exact iter_str (s := { s with heap := h1, toks := tk1 + 1 }) C (getP (and_r (and_l hst))) H1.objs ⟨t', rfl⟩ fun I fp wr St Mid h₂ It hfp => kk I fp wr St Mid h1 h₂ (tk1 + 1) H1 It (hfp rfl)
end
noncomputable def blk80 (P : Params) : List Stmt := (bd80 P).drop 1 |>.take 3
theorem body80 (P : Params) : bd80 P = stAt (bd80 P) 0 :: (blk80 P ++ lp80 P :: stAt (bd80 P) 5 :: stAt (bd80 P) 6 :: stAt (bd80 P) 7 :: stAt (bd80 P) 8 :: []) := by kernel_rfl
theorem blkIs (P : Params) : blk80 P = stAt (bd80 P) 1 :: (blk80 P).tail := by kernel_rfl
theorem f80 (P : Params) : forOk (sc80 P) (lp80 P) = true := by kernel_rfl
noncomputable def nmPos (st : Stmt) : Pos × Pos := match forIt st with | .Attribute (.Name _ p) _ ap => (p, ap) | _ => (noPos, noPos)
theorem it80 (P : Params) : forIt (lp80 P) = .Attribute (.Name (nm "self") (nmPos (lp80 P)).1) (nm "raw") (nmPos (lp80 P)).2 := by kernel_rfl
noncomputable def storeOk (P : Params) (k : Nat) (m : Str) : Bool := (asStore (stAt (bd80 P) k)).isSome && decide ((stoQ (stAt (bd80 P) k)).2.2.1 = m) && (ncC (sE P k)).isSome
theorem st0 (P : Params) : storeOk P 0 (nm "raw") = true := by kernel_rfl
theorem st5 (P : Params) : storeOk P 5 (nm "n") = true := by kernel_rfl
theorem st6 (P : Params) : storeOk P 6 (nm "nt") = true := by kernel_rfl
theorem st7 (P : Params) : storeOk P 7 (nm "norm") = true := by kernel_rfl
theorem st8 (P : Params) : storeOk P 8 (nm "is_simple") = true := by kernel_rfl
theorem fi_raw (P : Params) : findIn (KP P) (.ref 125) (nm "raw") = some none := by kernel_rfl
section
variable {A : Around} {E : Value → Shared → Prop} {s : Shared} {F : Fx} {Q : Flow → Shared → Prop} {a dx : Addr} {x : Str}
theorem blkS (a : Addr) (x : Str) : SSound prog w D ⟨sc80 w.params, wNames.zip [.con (.ref a), .str x], []⟩ (execs (blk80 w.params)) (.next, r0.st w.params a x) := by
  rw [blkIs]
  have h1 : XS prog w D ⟨sc80 w.params, wNames.zip [.con (.ref a), .str x], []⟩ (stAt (bd80 w.params) 1) ⟨sc80 w.params, [(nm "S", .str (nm " ")), (nm "T", .str (nm "\t"))] ++ wNames.zip [.con (.ref a), .str x], []⟩ := got (x := swapC (evC fn0 md0 9 _) _) (by kernel_rfl) (c := []) (by kernel_rfl) .nil
  exact x_seq h1 (goto_ (x := exC fn0 md0 9 _ [] _) (by kernel_rfl) (c := []) (by kernel_rfl) .nil)
noncomputable def fs80 (x : Str) (r : WsR) : List (Str × AV) := [(nm "is_simple", .bool false (decide (r.l.length ≤ 1))), (nm "norm", .tup [.tup (ltr r.l), .int true r.b]), (nm "nt", .int true r.nt), (nm "n", .int true r.n), (nm "raw", .str x)]
theorem ltr_noRef : ∀ l : List Int, noRefs (ltr l) = true
  | [] => rfl
  | _ :: l => ltr_noRef l
theorem norm_noRef (l : List Int) (b : Int) : noRef (.tup [.tup (ltr l), .int true b]) = true := by
  show (noRefs (ltr l) && true) = true
  rw [ltr_noRef]; rfl
theorem init80 (hx : endOk x = true) (I : InSt w F ⟨sc80 w.params, wNames.zip [.con (.ref a), .str x], []⟩ s.heap a dx []) (C : Cx A D) (N : FnE F (sc80 w.params)) (k : ∀ h' tk, InSt w F ((endR x).st w.params a x) h' a dx (fs80 x (endR x)) → Q .next { s with heap := h', toks := tk }) : wpAny (model prog w) A (execs (bd80 w.params) F.env) Q E s := by
  have hfin := of_decide_eq_true (and_r hx)
  rw [body80]
  refine wpAny_execs_cons (I.store (and_l (and_l (st0 _))) (of_decide_eq_true (and_r (and_l (st0 _)))) (f_raw _) (and_r (st0 _)) (v := .str x) (got (x := evC fn0 md0 9 _ _) (by kernel_rfl) (c := []) (by kernel_rfl) .nil) rfl (got (x := evC fn0 md0 9 _ _) (by kernel_rfl) (c := []) (by kernel_rfl) .nil) (Nat.zero_le _) C N fun h1 tk1 I => ?_)
  show wpAny _ A (execs (blk80 w.params ++ _) F.env) _ _ _
  rw [execs_append]
  refine wpAny_bind (I.seg (s := { s with heap := h1, toks := tk1 }) (blkS a x) C N fun h2 tk2 I => ?_)
  refine wpAny_execs_cons (I.loop (s := { s with heap := h2, toks := tk2 }) (f80 _) (it80 _) rfl (fi_raw _) (got (x := evC fn0 md0 9 _ _) (by kernel_rfl) (c := []) (by kernel_rfl) .nil) (runs80 x.cps.toList (and_l hx)) C N fun h3 tk3 I => ?_)
  refine wpAny_execs_cons (I.store (s := { s with heap := h3, toks := tk3 }) (and_l (and_l (st5 _))) (of_decide_eq_true (and_r (and_l (st5 _)))) (f_n _) (and_r (st5 _)) (v := .int true (endR x).n) (got (x := evC fn0 md0 9 _ _) (by kernel_rfl) (c := []) (by kernel_rfl) .nil) rfl (got (x := evC fn0 md0 9 _ _) (by kernel_rfl) (c := []) (by kernel_rfl) .nil) (Nat.le_of_ble_eq_true rfl) C N fun h4 tk4 I => ?_)
  refine wpAny_execs_cons (I.store (s := { s with heap := h4, toks := tk4 }) (and_l (and_l (st6 _))) (of_decide_eq_true (and_r (and_l (st6 _)))) (f_nt _) (and_r (st6 _)) (v := .int true (endR x).nt) (got (x := evC fn0 md0 9 _ _) (by kernel_rfl) (c := []) (by kernel_rfl) .nil) rfl (got (x := evC fn0 md0 9 _ _) (by kernel_rfl) (c := []) (by kernel_rfl) .nil) (Nat.le_of_ble_eq_true rfl) C N fun h5 tk5 I => ?_)
  refine wpAny_execs_cons (I.store (s := { s with heap := h5, toks := tk5 }) (and_l (and_l (st7 _))) (of_decide_eq_true (and_r (and_l (st7 _)))) (f_norm _) (and_r (st7 _)) (e_norm hfin) (norm_noRef _ _) (got (x := evC fn0 md0 9 _ _) (by kernel_rfl) (c := []) (by kernel_rfl) .nil) (Nat.le_of_ble_eq_true rfl) C N fun h6 tk6 I => ?_)
  refine wpAny_execs_cons (I.store (s := { s with heap := h6, toks := tk6 }) (and_l (and_l (st8 _))) (of_decide_eq_true (and_r (and_l (st8 _)))) (f_sim _) (and_r (st8 _)) (e_sim hfin) rfl (got (x := evC fn0 md0 9 _ _) (by kernel_rfl) (c := []) (by kernel_rfl) .nil) (Nat.le_of_ble_eq_true rfl) C N fun h7 tk7 I => ?_)
  exact wpAny_execs_nil (k h7 tk7 I)
end
end
end Mine

namespace Mine
noncomputable section
variable {prog : Program} {w : World} {D : Nat} {A : Around} {E : Value → Shared → Prop} {s : Shared} {mu : Addr → Prop}

theorem vals_ints {mu : Addr → Prop} {sa : List Addr} {h : Heap} : ∀ {l : List Int} {ws : List Value}, Vals mu sa h (ltr l) ws → IntsAre ws l
  | [], _, rfl => .nil
  | a :: l, _, h => by
    obtain ⟨v, r, rfl, ⟨t, rfl⟩, k⟩ := h
    exact .cons a t (vals_ints k)
theorem made_val {F : Fx} {σ : SE} {h : Heap} {a dx : Addr} {x : Str} (I : InSt w F σ h a dx (fs80 x (endR x))) (hm : ∀ c, mu c → F.mu0 c) (ha : ¬ mu a) (hd : ¬ mu dx) : Val mu [] h (wspOf x).av (.ref a) := by
  obtain ⟨sa, b, mA, H, hns, hA⟩ := I.st
  obtain ⟨u1, e1, t1, rfl⟩ := hA (nm "raw")
  obtain ⟨u2, e2, t2, rfl⟩ := hA (nm "n")
  obtain ⟨u3, e3, t3, rfl⟩ := hA (nm "nt")
  obtain ⟨u4, e4, tn, ws, n1, rfl, m4, g4, u5, r5, rfl, ⟨tc, ws2, n2, rfl, m6, g6, v6⟩, u7, r7, rfl, ⟨t7, rfl⟩, rfl⟩ := hA (nm "norm")
  obtain ⟨u8, e8, rfl⟩ := hA (nm "is_simple")
  have out : ∀ {c}, ¬ muOf F sa σ.ob c → ¬ mu c := fun n e => n (.inl (hm _ e))
  have oth : ∀ y, y ∉ [nm "raw", nm "n", nm "nt", nm "norm", nm "is_simple"] → mA y = none := fun y hy => by
    have := hA y
    rw [lookup_notmem (l := fs80 x (endR x)) fun e => hy (List.mem_reverse.mp e)] at this
    exact this
  exact ⟨a, dx, mA, tn, tc, ws2.toArray, rfl, ha, ⟨hd, out m4, out m6, I.ob, hns, ⟨t1, e1⟩, ⟨t2, e2⟩, ⟨t3, e3⟩, e4, e8, ⟨t7, n1, g4⟩, ⟨n2, g6⟩, vals_ints v6, oth⟩⟩
theorem init_run (hD : D < 600) (C : Cx A D) {h : Heap} {a dx : Addr} {x : Str} {t : Tok} {Q : Value → Shared → Prop} (B : BB w h) (M : MuIn mu h) (Mk : Heap.MadeObj h s.heap a dx 125) (hx : endOk x = true) (k : ∀ h' tk, KeepH h h' → Val mu [] h' (wspOf x).av (.ref a) → Q .none { s with heap := h', toks := tk }) :
    wpAny (model prog w) A (call (.ref 80) [.ref a, .str x t]) Q E s := by
  have d := d80 w.params
  have B' := B.up Mk.keeps
  obtain ⟨o, ho, hdata⟩ := d.at_
  obtain ⟨_, _, mg, mb, tr⟩ := B'.2
  obtain ⟨ox, p1, p2, p3, p4⟩ := Mk.inst
  have pd := Mk.dict ox p1
  have lx : Lives s.heap a := ⟨ox, p1⟩
  obtain ⟨hne, hns⟩ : dx ≠ a ∧ s.heap.Ns1 dx fun _ => none := by
    rcases p4 with ⟨e, _⟩ | ⟨d', e, hne, hns⟩
    · cases e.symm.trans pd
    · cases e.symm.trans pd; exact ⟨hne, hns⟩
  have ld : Lives s.heap dx := let ⟨o, _, _, e, _⟩ := hns; ⟨o, e⟩
  have M' : MuIn (fun c => mu c ∨ c = a ∨ c = dx) s.heap := fun c hc => by
    rcases hc with e | rfl | rfl
    · exact (M c e).up Mk.keeps
    · exact lx
    · exact ld
  refine wpAny_call (codeAny_call_cells (binds := wNames.zip [.ref a, .str x t]) C.roomy (B'.1 _ _ ho) hdata tr.nolimit (codeRec_of B'.1 d.code) d.fn.stmts (b80 _ _ _) d.fn.clo (fun p hp => ?_) (fun s₁ I => ?_) d.fn.co d.fn.gen d.fn.kind)
  · refine (d.binds.own _ ((zip_map_fst_sub wNames _).subset (List.mem_map.mpr ⟨p, hp, rfl⟩))).imp id fun e => ⟨e, ?_⟩
    obtain ⟨c, hc⟩ := cellsFrom_some (x := p.1) (fdAt w.params 80).scope.names (s.heap.objs.size + 1) [] (.inl (lookup_mem' e))
    rw [hc]; rfl
  · have hv : Vals (fun c => mu c ∨ c = a ∨ c = dx) [] s.heap [.con (.ref a), .str x] [.ref a, .str x t] := ⟨_, _, rfl, rfl, _, _, rfl, ⟨t, rfl⟩, rfl⟩
    obtain ⟨N, sa, b, S⟩ := cells_st d.fn d.binds hv B' M' I
    obtain ⟨h1, tk1, rfl⟩ := I.toInCall.same
    have kk : KeepH s.heap h1 := I.toInCall.keep
    have S' : St1 w ⟨fun b o => h.get? b = some o, fun c => mu c ∨ c = a ∨ c = dx, (callF s (fun c => mu c ∨ c = a ∨ c = dx) (callEnvC (fdAt w.params 80) s.heap.objs.size 80) (fdAt w.params 80)).env, ownOf (fdAt w.params 80).scope⟩ ⟨sc80 w.params, wNames.zip [.con (.ref a), .str x], []⟩ h1 sa b := S.sub (fun c o e => Mk.keeps c o e) fun h2 e => B.up e
    have hno : notCls ox = true := by
      unfold notCls; split
      · exact absurd ‹_› (p3 _)
      · rfl
    have IS : InSt w ⟨fun b o => h.get? b = some o, fun c => mu c ∨ c = a ∨ c = dx, (callF s (fun c => mu c ∨ c = a ∨ c = dx) (callEnvC (fdAt w.params 80) s.heap.objs.size 80) (fdAt w.params 80)).env, ownOf (fdAt w.params 80).scope⟩ ⟨sc80 w.params, wNames.zip [.con (.ref a), .str x], []⟩ h1 a dx [] :=
      ⟨⟨sa, b, _, S', Ns1.kept hns fun o e => kk _ _ e, fun y => rfl⟩, rfl, ⟨ox, kk _ _ p1, p2, pd, hno⟩, hne, .inr (.inl rfl), .inr (.inr rfl), (fun o e => nomatch Mk.newX.symm.trans e), (fun o e => nomatch Mk.newD.symm.trans e), fun e => (nomatch (e ▸ Mk.newX : h.get? 125 = none).symm.trans (B.1 _ _ (at125 _)))⟩
    refine init80 (F := ⟨fun b o => h.get? b = some o, fun c => mu c ∨ c = a ∨ c = dx, (callF s (fun c => mu c ∨ c = a ∨ c = dx) (callEnvC (fdAt w.params 80) s.heap.objs.size 80) (fdAt w.params 80)).env, ownOf (fdAt w.params 80).scope⟩) hx IS (C.deeper hD _) ⟨N.kind, N.globals, N.builtins, N.names, N.owned, N.cells, N.func, N.quiet⟩ fun h' tk I' => ?_
    obtain ⟨sa', b', mA', H', _⟩ := I'.st
    exact k h' tk (fun c o e => H'.lay.keep c o e) (made_val I' (fun c e => .inl e) (fun e => (M a e).not Mk.newX) fun e => (M dx e).not Mk.newD)
theorem fi80 (P : Params) : ((KP P).lookup 80).map Obj.cls = some (.type "function") := by kernel_rfl
theorem cx_under (C : Cx A D) (hD : D < 600) {vals : List Value} : Cx (A.under (.builtin "type.__call__" ⟨.ref 125 :: vals, []⟩)) (D + 1) := ⟨C.hh, Nat.succ_le_succ C.depth, by
  show A.units + _ ≤ _
  have := C.units
  have e : (Code.builtin "type.__call__" ⟨.ref 125 :: vals, []⟩).cUnits = 1 := by kernel_rfl
  omega, hD⟩
theorem ws_made (hD : D < 599) {x : Str} (hx : endOk x = true) : FnS prog w D 125 [.str x] [] (wspOf x).av := fun {A E s mu Q pos args keywords} C hB M ha hk h => by
  unfold callWith
  refine wpAny_bind (wpAny_holding (wpAny_mono h (fun as s₁ h₁ => ?_) fun _ _ x => x))
  obtain ⟨kk, ⟨v, r, e1, ⟨t, rfl⟩, rfl⟩, ⟨us, hkw, _⟩, g⟩ := h₁
  have B := hB.up kk
  have M₁ := M.up kk
  obtain ⟨hh, gs, dr, tk, os⟩ := s₁
  have hC : hh.get? 125 = some (clsObj w.params) := B.1 _ _ (at125 _)
  have f1 := tc_lookup
  have hT : (⟨hh, gs, dr, tk, os⟩ : Shared).TypeIs (.ref 125) "type" := ⟨_, hC, rfl⟩
  refine wpAny_bind (wpAny_standAt ?_)
  show wpAny _ _ (keeperOf (.ref 125) >>= _) _ _ _
  unfold keeperOf specialOf
  repeat (any_goals (first | assumption | with_reducible refine wpAny_loadPart_at hC ?_ | with_reducible refine wpAny_load' hC ?_ | wp_step))
  have hst : (args.any (fun x => x.fst) || keywords.any fun x => x.fst.isNone) = false := by
    rw [show args.any (fun x => x.fst) = false from ha, show keywords.any (fun x => x.fst.isNone) = false from hk]; rfl
  rw [if_pos (by rfl), hst, e1, show as.kw = [] from hkw]
  show wpAny _ _ (call (.ref 125) [.str x t] [] >>= fun r => do holding [r] point; pure r) _ _ _
  obtain ⟨o, ho, hdata⟩ := (d80 w.params).at_
  have hcls : o.cls = .type "function" := Option.some.inj ((congrArg (Option.map Obj.cls) ho).symm.trans (fi80 _))
  refine wpAny_bind (wpAny_call_obj_init PySem.F.objNew hC (ns124 B.1) (ns_init _) (B.1 _ _ ho) hcls fun h' a dx Mk => ?_)
  exact init_run (s := ⟨h', gs, dr, tk, os⟩) (Nat.lt_of_lt_of_le (Nat.succ_lt_succ hD) (Nat.le_refl _)) (cx_under C (Nat.lt_trans hD (by decide))) B M₁ Mk hx fun h2 tk2 k2 hv => ⟨rfl, wpAny_bind (wpAny_holding (wpAny_point (wpAny_pure (g _ _ (keeps_heap _ k2 tk2) hv))))⟩
end
end Mine

namespace Mine
noncomputable section
variable {prog : Program} {w : World} {D : Nat}

-- what law calls
theorem column_fn (hD : D < 600) {x : Str} {y : Bool} {d : Int} (hd : d ≠ 0) (hx : ∀ ch ∈ x.cps.toList, ch ∈ signs) : FnS prog w D 148 [.str x, .int y d] [] (.int true (colL d 0 x.cps.toList)) := fnS_of (d148 _) (bind2 (b148 _)) hD rfl (column_run hd hx)
noncomputable def row4 (f : Bool) (g : List Int) : AV := .lst [mkA f (g.getD 0 0), mkA f (g.getD 1 0), mkA f (g.getD 2 0), mkA f (g.getD 3 0)]
theorem row4_is {f : Bool} {g : List Int} (h : g.length = 4) : rowAV f g = row4 f g := by
  obtain ⟨a, b, c, d, rfl⟩ := list4 h
  cases f <;> rfl
theorem smooth4 (hD : D < 589) {f : Bool} {l st : List AV} {g : List Int} {L : List Step3} (hl : IntsL l g) (hs : StepsL st L) (h : (∀ c ∈ L, c ∈ combos) ∧ g.length = 4 ∧ in25 g ∧ smF false L = f) : FnS prog w D 141 [.lst l, .lst st] [] (row4 f (smG g L)) := by
  rw [← h.2.2.2, ← row4_is (smG_len _ _ h.2.1)]
  exact smooth_fn hD hl hs h.1 h.2.1 h.2.2.1
/-- smooth, column and the class; f: whether the rows end in floats -/
noncomputable def fnL (hD : D < 589) (f : Bool) : CFn prog w D := fun a as ks => match ks with
  | [] => if h : a = 125 then match as with
      | [.str x] => mapR (need (endOk x = true)) (fun _ => (wspOf x).av) fun _ hx => h ▸ ws_made (Nat.lt_trans hD (by decide)) hx
      | _ => none
    else if h : a = 148 then match as with
      | [.str x, .int y d] => mapR (need (d ≠ 0 ∧ ∀ ch ∈ x.cps.toList, ch ∈ signs)) (fun _ => .int true (colL d 0 x.cps.toList)) fun _ hx => h ▸ column_fn (Nat.lt_trans hD (by decide)) hx.1 hx.2
      | _ => none
    else if h : a = 141 then match as with
      | [.lst l, .lst st] => match intsC l, stepsC st with
        | some g, some L => mapR (need ((∀ c ∈ L.1, c ∈ combos) ∧ g.1.length = 4 ∧ in25 g.1 ∧ smF false L.1 = f)) (fun _ => row4 f (smG g.1 L.1)) fun _ hx => h ▸ smooth4 hD g.2 L.2 hx
        | _, _ => none
      | _ => none
    else none
  | _ => none
abbrev lNames : List Str := [nm "script"]
theorem d153 (P : Params) : Def P 153 lNames := getP (o := defC P 153 _) (by kernel_rfl)
theorem b153 (P : Params) (u : Value) : bindArgs (fdAt P 153) ⟨[u], []⟩ = pure (lNames.zip [u]) := by kernel_rfl
noncomputable def scL (P : Params) : Scope := (fdAt P 153).scope
noncomputable def bdL (P : Params) : List Stmt := bodyOf (fdAt P 153)
noncomputable def stL (P : Params) (i : Nat) : Stmt := stAt (bdL P) i
noncomputable def partL (P : Params) (i n : Nat) : List Stmt := ((bdL P).drop i).take n
end
end Mine

namespace Mine
noncomputable section
variable {prog : Program} {w : World} {D : Nat}

-- the ring and the steps
noncomputable def c8 (C : Nat → Int) : AV := .lst (ltr (rngC C 8))
noncomputable def ring (C : Nat → Int) : List Int := rngC (fun j => (C j).fmod 4) 4
noncomputable def vB (C : Nat → Int) : List (Str × AV) := [(nm "steps", .ref 1), (nm "ring", .lst (ltr (ring C))), (nm "cells", c8 C)]
theorem segB (C : Nat → Int) (X : AV) : SSound prog w D ⟨scL w.params, [(nm "cells", c8 C), (nm "script", X)], [none]⟩ (execs (partL w.params 2 2)) (.next, ⟨scL w.params, vB C, [none, some []]⟩) :=
  goto_ (x := exC fn0 md0 20 _ [] _) (by kernel_rfl) (c := []) (by kernel_rfl) .nil
noncomputable def sz0 (z : Int) : Int := 1 + z.fmod 4
noncomputable def wy (z : Int) : Int := (z.fdiv 4).fmod 4
noncomputable def sz1 (z : Int) : Int := sz0 z - (1 - (sz0 z).fmod 2)
noncomputable def plc (s z : Int) : List Int := [(s - 1).fdiv 2, s.fdiv 2, s.fdiv 2, (z.fdiv 16).fmod s]
noncomputable def szOf (z : Int) : Int := match wy z == 2 with | true => sz1 z | false => sz0 z
noncomputable def stepOf (z : Int) : Step3 := (szOf z, wy z, (plc (szOf z) z).getD (wy z).toNat 0)
noncomputable def tupT (c : Step3) : AV := .tup [.int true c.1, .int true c.2.1, .int true c.2.2]
noncomputable def stp (s z : Int) : AV := tupT (s, wy z, (plc s z).getD (wy z).toNat 0)
theorem fmod_bd {a : Int} {k : Int} (hk : 0 < k) : 0 ≤ a.fmod k ∧ a.fmod k < k := ⟨Int.fmod_nonneg_of_pos _ hk, Int.fmod_lt_of_pos _ hk⟩
theorem sz_pos (z : Int) : sz0 z ≠ 0 ∧ sz1 z ≠ 0 := by
  have h := fmod_bd (a := z) (k := 4) (by decide)
  unfold sz1 sz0
  rw [Int.fmod_eq_emod_of_nonneg (1 + z.fmod 4) (by decide : (0 : Int) ≤ 2)]
  generalize z.fmod 4 = r at h ⊢
  exact ⟨by omega, by omega⟩
theorem f4L (P : Params) : forOk (scL P) (stL P 4) = true := by kernel_rfl
theorem k4L (P : Params) (z : Int) : BindS (forT (stL P 4)) (.int true z) [(nm "cell", .int true z)] := taken (by kernel_rfl)
theorem turn4 (C : Nat → Int) (L : List AV) (z : Int) (hL : L.length ≤ 64) : SSound prog w D ⟨scL w.params, [(nm "cell", .int true z)] ++ vB C, [none, some L]⟩ (execs (forB (stL w.params 4))) (.next, ⟨scL w.params, vB C, [none, some (L ++ [tupT (stepOf z)])]⟩) := by
  have hw : 0 ≤ (z.fdiv 4).fmod 4 ∧ (z.fdiv 4).fmod 4 < 4 := fmod_bd (by decide)
  have hl : L.length ≤ 4096 := Nat.le_trans hL (by decide)
  have hs := sz_pos z
  unfold stepOf szOf
  cases h : wy z == 2 with
  | true => exact goto_ (x := exC fn0 md0 20 _ [true] _) (vs' := vB C) (ob' := [none, some (L ++ [stp (sz1 z) z])]) (by kernel_rfl) (c := [(wy z == 2) = true, sz1 z ≠ 0, 0 ≤ (z.fdiv 4).fmod 4 ∧ (z.fdiv 4).fmod 4 < 4, L.length ≤ 4096]) (by kernel_rfl) (.cons h (.cons hs.2 (.cons hw (.cons hl .nil))))
  | false => exact goto_ (x := exC fn0 md0 20 _ [false] _) (vs' := vB C) (ob' := [none, some (L ++ [stp (sz0 z) z])]) (by kernel_rfl) (c := [(wy z == 2) = false, sz0 z ≠ 0, 0 ≤ (z.fdiv 4).fmod 4 ∧ (z.fdiv 4).fmod 4 < 4, L.length ≤ 4096]) (by kernel_rfl) (.cons h (.cons hs.1 (.cons hw (.cons hl .nil))))
theorem runs4 (C : Nat → Int) : ∀ (zs : List Int) {L : List AV}, L.length + zs.length ≤ 64 → Runs prog w D (forT (stL w.params 4)) (forB (stL w.params 4)) (zs.map (.int true)) ⟨scL w.params, vB C, [none, some L]⟩ (.next, ⟨scL w.params, vB C, [none, some (L ++ (zs.map stepOf).map tupT)]⟩)
  | [], L, _ => by rw [show L ++ (List.map stepOf []).map tupT = L from List.append_nil L]; exact .nil _
  | z :: zs, L, h => by
    rw [List.length_cons] at h
    have q := runs4 C zs (L := L ++ [tupT (stepOf z)]) (by rw [List.length_append, List.length_singleton]; omega)
    rw [List.append_assoc] at q
    exact .step (k4L _ z) (turn4 C L z (by omega)) q
/-- a list that grows no more -/
theorem says_frz {sc : Scope} {x : Str} {vs : List (Str × AV)} {ob : Obs} {i : Nat} {l : List AV} (ho : ob[i]? = some (some l)) (hn : noRefs l = true) : Says w ⟨sc, (x, .ref i) :: vs, ob⟩ ⟨sc, (x, .lst l) :: vs, ob.set i none⟩ := ⟨rfl, fun F h ⟨sa, b, S⟩ => ⟨sa, b, S.freeze ho hn fun y v e => by
  by_cases hy : y = x
  · subst hy; rw [lookup_cons_eq] at e; cases e; exact .inr ⟨lookup_cons_eq, rfl⟩
  · rw [lookup_cons_ne hy] at e; exact .inl ((lookup_cons_ne hy).trans e)⟩⟩
noncomputable def steps (C : Nat → Int) : List Step3 := [C 4, C 5, C 6].map stepOf
noncomputable def vC (C : Nat → Int) : List (Str × AV) := [(nm "steps", .lst ((steps C).map tupC)), (nm "ring", .lst (ltr (ring C))), (nm "cells", c8 C)]
theorem seg4 (C : Nat → Int) : XS prog w D ⟨scL w.params, vB C, [none, some []]⟩ (stL w.params 4) ⟨scL w.params, vC C, [none, none]⟩ := by
  have hi : ES prog w D ⟨scL w.params, vB C, [none, some []]⟩ (forIt (stL w.params 4)) (.lst (ltr [C 4, C 5, C 6])) := got (x := evC fn0 md0 9 _ _) (by kernel_rfl) (c := []) (by kernel_rfl) .nil
  exact (for_of (f4L w.params) hi (iter_list tup_is lst_not) rfl rfl (runs4 C [C 4, C 5, C 6] (Nat.le_of_ble_eq_true rfl))).says (says_frz (i := 1) (l := (steps C).map tupT) rfl rfl) |>.says (says_er rfl rfl)
end
end Mine

namespace Mine
noncomputable section
variable {prog : Program} {w : World} {D : Nat}

-- the remainders of the last cell: ahead, tabs, blanks between, head
abbrev Rm := Int × Int × Int × Int
noncomputable def rms : List Rm := [0, 1].flatMap fun a => [0, 1, 2].flatMap fun t => [0, 1, 2, 3].flatMap fun k => [0, 1, 2].map fun e => (a, t, k, e)
noncomputable def rm (C : Nat → Int) : Rm := ((C 7).fmod 2, ((C 7).fdiv 2).fmod 3, ((C 7).fdiv 6).fmod 4, ((C 7).fdiv 24).fmod 3)
theorem fmod_mem (a : Int) (k : Nat) (hk : 0 < k) : a.fmod k ∈ (List.range k).map Int.ofNat := by
  have h := fmod_bd (a := a) (k := k) (by omega)
  exact List.mem_map.mpr ⟨(a.fmod k).toNat, List.mem_range.mpr (by omega), Int.toNat_of_nonneg h.1⟩
theorem rm_mem (C : Nat → Int) : rm C ∈ rms := by
  unfold rms
  refine List.mem_flatMap.mpr ⟨_, fmod_mem (C 7) 2 (by decide), List.mem_flatMap.mpr ⟨_, fmod_mem ((C 7).fdiv 2) 3 (by decide), List.mem_flatMap.mpr ⟨_, fmod_mem ((C 7).fdiv 6) 4 (by decide), List.mem_map.mpr ⟨_, fmod_mem ((C 7).fdiv 24) 3 (by decide), rfl⟩⟩⟩⟩
noncomputable def sp (n : Int) : Str := Txt.mul (nm " ") n
noncomputable def tb (n : Int) : Str := Txt.mul (nm "\t") n
noncomputable def tail_ (q : Rm) : Str := nm "\t" ++ sp q.2.2.1 ++ tb (q.2.1 - 1)
noncomputable def wordOf (q : Rm) : Str := match decide (q.2.1 > 0) with | true => sp q.1 ++ tail_ q | false => sp q.1
noncomputable def hd3 (q : Rm) : Str := [nm "", nm "\t", nm " \t"].getD q.2.2.2.toNat (nm "")
noncomputable def headOf (q : Rm) : Str := nm "    \t" ++ hd3 q
noncomputable def obD (q : Rm) (b : Bool) : List Prop := match b with
  | true => [1 = 1 ∧ 0 ≤ q.1 ∧ q.1 < 64, decide (q.2.1 > 0) = true, 1 = 1 ∧ 0 ≤ q.2.2.1 ∧ q.2.2.1 < 64, (nm "\t").length + (sp q.2.2.1).length ≤ sizeLine, 1 = 1 ∧ 0 ≤ q.2.1 - 1 ∧ q.2.1 - 1 < 64,
      (nm "\t" ++ sp q.2.2.1).length + (tb (q.2.1 - 1)).length ≤ sizeLine, (sp q.1).length + (tail_ q).length ≤ sizeLine, 0 ≤ q.2.2.2 ∧ q.2.2.2 < 3, (nm "    \t").length + (hd3 q).length ≤ sizeLine]
  | false => [1 = 1 ∧ 0 ≤ q.1 ∧ q.1 < 64, decide (q.2.1 > 0) = false, 0 ≤ q.2.2.2 ∧ q.2.2.2 < 3, (nm "    \t").length + (hd3 q).length ≤ sizeLine]
abbrev len9 (x : Str) : Prop := x.length ≤ 64
theorem lens_q : ∀ q ∈ rms, (0 ≤ q.1 ∧ q.1 < 64) ∧ (0 ≤ q.2.2.1 ∧ q.2.2.1 < 64) ∧ (q.2.1 > 0 → 0 ≤ q.2.1 - 1 ∧ q.2.1 - 1 < 64) ∧ (0 ≤ q.2.2.2 ∧ q.2.2.2 < 3) ∧ len9 (nm "\t") ∧ len9 (sp q.2.2.1) ∧ len9 (nm "\t" ++ sp q.2.2.1) ∧ len9 (tb (q.2.1 - 1)) ∧ len9 (sp q.1) ∧ len9 (tail_ q) ∧ len9 (nm "    \t") ∧ len9 (hd3 q) := of_decide_eq_true (by kernel_rfl)
theorem two_len {x y : Str} (h : len9 x) (k : len9 y) : x.length + y.length ≤ sizeLine := by
  rw [sizeLine_eq]; omega
theorem obD_all {q : Rm} (hq : q ∈ rms) {b : Bool} (h : decide (q.2.1 > 0) = b) : AllP (obD q b) := by
  obtain ⟨h1, h2, h3, h4, l1, l2, l3, l4, l5, l6, l7, l8⟩ := lens_q q hq
  cases b with
  | true => exact .cons ⟨rfl, h1⟩ (.cons h (.cons ⟨rfl, h2⟩ (.cons (two_len l1 l2) (.cons ⟨rfl, h3 (of_decide_eq_true h)⟩ (.cons (two_len l3 l4) (.cons (two_len l5 l6) (.cons h4 (.cons (two_len l7 l8) .nil))))))))
  | false => exact .cons ⟨rfl, h1⟩ (.cons h (.cons h4 (.cons (two_len l7 l8) .nil)))
noncomputable def vF (C : Nat → Int) (f : Bool) : List (Str × AV) := (nm "made", .bool true f) :: vC C
noncomputable def vD (C : Nat → Int) (f : Bool) : List (Str × AV) := [(nm "head", .str (headOf (rm C))), (nm "word", .str (wordOf (rm C))), (nm "tabs", .int true (rm C).2.1), (nm "ahead", .int true (rm C).1)] ++ vF C f
theorem segD (C : Nat → Int) (f : Bool) : SSound prog w D ⟨scL w.params, vF C f, [none, none]⟩ (execs (partL w.params 6 5)) (.next, ⟨scL w.params, vD C f, [none, none]⟩) := by
  unfold vD wordOf
  cases h : decide ((rm C).2.1 > 0) with
  | true =>
    exact goto_ (x := exC fn0 md0 20 _ [true] _) (vs' := [(nm "head", .str (headOf (rm C))), (nm "word", .str (sp (rm C).1 ++ tail_ (rm C))), (nm "tabs", .int true (rm C).2.1), (nm "ahead", .int true (rm C).1)] ++ vF C f) (by kernel_rfl) (c := obD (rm C) true) (by kernel_rfl) (obD_all (rm_mem C) h)
  | false =>
    exact goto_ (x := exC fn0 md0 20 _ [false] _) (vs' := [(nm "head", .str (headOf (rm C))), (nm "word", .str (sp (rm C).1)), (nm "tabs", .int true (rm C).2.1), (nm "ahead", .int true (rm C).1)] ++ vF C f) (by kernel_rfl) (c := obD (rm C) false) (by kernel_rfl) (obD_all (rm_mem C) h)
end
end Mine

namespace Mine
noncomputable section
variable {prog : Program} {w : World} {D : Nat}

-- made
noncomputable def asCmp : (st : Stmt) → Option {q : Str × Pos × Expr × CmpOp × Expr × Pos × Pos // st = .Assign [.Name q.1 q.2.1] (.Compare q.2.2.1 [q.2.2.2.1] [q.2.2.2.2.1] q.2.2.2.2.2.1) q.2.2.2.2.2.2}
  | .Assign [.Name x p] (.Compare l [op] [r] cp) pos => some ⟨(x, p, l, op, r, cp, pos), rfl⟩
  | _ => none
noncomputable def cmpQ (st : Stmt) : Str × Pos × Expr × CmpOp × Expr × Pos × Pos := match asCmp st with | some q => q.1 | none => (nm "", noPos, .Name (nm "") noPos, .Eq, .Name (nm "") noPos, noPos, noPos)
theorem cmp_eq' {st : Stmt} (h : (asCmp st).isSome = true) : st = .Assign [.Name (cmpQ st).1 (cmpQ st).2.1] (.Compare (cmpQ st).2.2.1 [(cmpQ st).2.2.2.1] [(cmpQ st).2.2.2.2.1] (cmpQ st).2.2.2.2.2.1) (cmpQ st).2.2.2.2.2.2 := by
  unfold cmpQ
  cases q : asCmp st with
  | none => rw [q] at h; cases h
  | some x => exact x.2
noncomputable def cutB (c : Step3) : Bool := c.2.1 == 3 && decide (c.1 > 1)
theorem cutB_is : ∀ c ∈ combos, cutB c = cut c := by decide
noncomputable def cutL (L : List Step3) : List AV := outB (L.map fun c => (cutB c, .int false c.1))
noncomputable def m5 (P : Params) := cmpQ (stL P 5)
theorem m5_is (P : Params) : (asCmp (stL P 5)).isSome = true := by kernel_rfl
theorem m5_own (P : Params) : (ownC (scL P) (m5 P).1).isSome = true := by kernel_rfl
theorem m5_nm (P : Params) : (m5 P).1 = nm "made" := by kernel_rfl
theorem m5_op (P : Params) : (m5 P).2.2.2.1 = .NotEq := by kernel_rfl
theorem m5_l (C : Nat → Int) : ES prog w D ⟨scL w.params, vC C, [none, none]⟩ (m5 w.params).2.2.1 (.lst (cutL (steps C))) := got (x := evC fn0 md0 9 _ _) (by kernel_rfl) (c := []) (by kernel_rfl) .nil
theorem m5_r (C : Nat → Int) : ES prog w D ⟨scL w.params, vC C, [none, none]⟩ (m5 w.params).2.2.2.2.1 (.lst []) := got (x := evC fn0 md0 9 _ _) (by kernel_rfl) (c := []) (by kernel_rfl) .nil
theorem m5_c {σ : SE} (b1 b2 b3 : Bool) (x y z : AV) : okOp .NotEq = true ∧ CmpS prog w D σ .NotEq (.lst (outB [(b1, x), (b2, y), (b3, z)])) (.lst []) (.bool true (b1 || b2 || b3)) := by
  cases b1 <;> cases b2 <;> cases b3 <;> exact got (x := cmpC σ .NotEq _ _) (by kernel_rfl) (c := []) (by kernel_rfl) .nil
theorem seg5 (C : Nat → Int) (hc : ∀ c ∈ steps C, c ∈ combos) : XS prog w D ⟨scL w.params, vC C, [none, none]⟩ (stL w.params 5) ⟨scL w.params, vF C (smF false (steps C)), [none, none]⟩ := by
  have e : smF false (steps C) = (cutB (stepOf (C 4)) || cutB (stepOf (C 5)) || cutB (stepOf (C 6))) := by
    rw [cutB_is _ (hc _ (.head _)), cutB_is _ (hc _ (.tail _ (.head _))), cutB_is _ (hc _ (.tail _ (.tail _ (.head _))))]
    show (((false || _) || _) || _) = _
    rw [Bool.false_or]
  rw [cmp_eq' (m5_is w.params), e]
  have hv : ES prog w D ⟨scL w.params, vC C, [none, none]⟩ (.Compare (m5 w.params).2.2.1 [(m5 w.params).2.2.2.1] [(m5 w.params).2.2.2.2.1] (m5 w.params).2.2.2.2.2.1) (.bool true (cutB (stepOf (C 4)) || cutB (stepOf (C 5)) || cutB (stepOf (C 6)))) := r_cmp (m5_l C) (m5_r C) (by rw [m5_op]; exact m5_c _ _ _ _ _ _)
  have h : XS prog w D _ _ _ := asg_val (px := (m5 w.params).2.1) (pos := (m5 w.params).2.2.2.2.2.2) (x := (m5 w.params).1) (getP (m5_own _)) hv fun _ _ _ => rfl
  rw [m5_nm] at h
  have e2 : (cmpQ (stL w.params 5)).1 = nm "made" := m5_nm _
  rw [e2]
  exact h.says (says_er rfl rfl)
-- the leads
noncomputable def lead (q : Rm) (v : Int) : Str := headOf q ++ sp v ++ wordOf q ++ nm "x\t "
noncomputable def leads (q : Rm) : List Wsp := [0, 1, 2, 3].map fun v => wspOf (lead q v)
abbrev leadsAV (q : Rm) : AV := .lst ((leads q).map Wsp.av)
theorem lead_q : ∀ q ∈ rms, len9 (headOf q) ∧ len9 (wordOf q) ∧ ∀ v ∈ [(0 : Int), 1, 2, 3], len9 (sp v) ∧ len9 (headOf q ++ sp v) ∧ len9 (headOf q ++ sp v ++ wordOf q) ∧ endOk (lead q v) = true := of_decide_eq_true (by kernel_rfl)
noncomputable def obE (q : Rm) (v : Int) : List Prop := [1 = 1 ∧ 0 ≤ v ∧ v < 64, (headOf q).length + (sp v).length ≤ sizeLine, (headOf q ++ sp v).length + (wordOf q).length ≤ sizeLine, (headOf q ++ sp v ++ wordOf q).length + (nm "x\t ").length ≤ sizeLine, endOk (lead q v) = true]
theorem obE_all {q : Rm} (hq : q ∈ rms) {v : Int} (hv : v ∈ [(0 : Int), 1, 2, 3]) : AllP (obE q v) := by
  obtain ⟨h1, h2, h3⟩ := lead_q q hq
  obtain ⟨l1, l2, l3, l4⟩ := h3 v hv
  have hb : 0 ≤ v ∧ v < 64 := by
    have : ∀ v ∈ [(0 : Int), 1, 2, 3], 0 ≤ v ∧ v < 64 := by decide
    exact this v hv
  exact .cons ⟨rfl, hb⟩ (.cons (two_len h1 l1) (.cons (two_len l2 h2) (.cons (two_len l3 (by decide +kernel)) (.cons l4 .nil))))
noncomputable def vE (C : Nat → Int) (f : Bool) : List (Str × AV) := (nm "leads", leadsAV (rm C)) :: vD C f
theorem segE (hD : D < 589) (C : Nat → Int) (f : Bool) : SSound prog w D ⟨scL w.params, vD C f, [none, none]⟩ (execs (partL w.params 11 1)) (.next, ⟨scL w.params, vE C f, [none, none]⟩) :=
  goto_ (x := exC (fnL hD f) md0 20 _ [] _) (by kernel_rfl) (c := obE (rm C) 0 ++ (obE (rm C) 1 ++ (obE (rm C) 2 ++ (obE (rm C) 3)))) (by kernel_rfl)
    (allP_app (obE_all (rm_mem C) (by decide)) (allP_app (obE_all (rm_mem C) (by decide)) (allP_app (obE_all (rm_mem C) (by decide)) (obE_all (rm_mem C) (by decide)))))
end
end Mine

namespace Mine
noncomputable section
variable {prog : Program} {w : World} {D : Nat}

-- out: told by yes and no alone
noncomputable def b2i (b : Bool) : Int := if b then 1 else 0
noncomputable def nx1 (r : List Int) (c : Step3) : List Int := [0, 1, 2, 3].map fun i => b2i (decide (sumI (win r i c.1.toNat) ≥ c.1 - c.2.2))
noncomputable def thG : List Int → List Step3 → List Int
  | r, [] => r
  | r, c :: L => thG (nx1 r c) L
noncomputable def th0 (g : List Int) (v : Int) : List Int := g.map fun a => b2i (decide (a ≥ v))
noncomputable def addL (O R : List Int) : List Int := [0, 1, 2, 3].map fun i => O.getD i 0 + R.getD i 0
abbrev in01 (g : List Int) : Prop := ∀ x ∈ g, 0 ≤ x ∧ x < 64
theorem b2i_in (b : Bool) : 0 ≤ b2i b ∧ b2i b < 64 := by cases b <;> decide
theorem nx1_in (r : List Int) (c : Step3) : in01 (nx1 r c) := fun x hx => by
  obtain ⟨i, _, rfl⟩ := List.mem_map.mp hx; exact b2i_in _
theorem th0_in (g : List Int) (v : Int) : in01 (th0 g v) := fun x hx => by
  obtain ⟨i, _, rfl⟩ := List.mem_map.mp hx; exact b2i_in _
noncomputable def vO (C : Nat → Int) (f : Bool) (O : List Int) : List (Str × AV) := (nm "out", .lst (ltr O)) :: vE C f
noncomputable def vR (C : Nat → Int) (f : Bool) (O R : List Int) : List (Str × AV) := (nm "row", .lst (ltr R)) :: vO C f O
noncomputable def in13 (P : Params) : Stmt := stAt (forB (stL P 13)) 1
theorem body13 (P : Params) : forB (stL P 13) = (forB (stL P 13)).take 1 ++ in13 P :: (forB (stL P 13)).drop 2 := by kernel_rfl
noncomputable def tr13 (C : Nat → Int) (f : Bool) (O R : List Int) (c : Step3) := exC (prog := prog) (w := w) (D := D) fn0 md0 30 ⟨scL w.params, bs3 c ++ vR C f O R, [none, none]⟩ [] (forB (in13 w.params))
theorem turns13 (C : Nat → Int) (f : Bool) (O : List Int) (x y z u : Int) : combos.map (fun c => (rd (tr13 (prog := prog) (w := w) (D := D) C f O [x, y, z, u] c) ((vR C f O []).map (·.1)), obsOf (tr13 (prog := prog) (w := w) (D := D) C f O [x, y, z, u] c))) =
    combos.map fun c => (want (vR C f O (nx1 [x, y, z, u] c)) [none, none], [0, 1, 2, 3].map fun i => ∀ a ∈ win [x, y, z, u] i c.1.toNat, 0 ≤ a ∧ a < 64) := by kernel_rfl
theorem turn13 (C : Nat → Int) (f : Bool) (O : List Int) {R : List Int} (hl : R.length = 4) (hR : in01 R) {c : Step3} (hc : c ∈ combos) : SSound prog w D ⟨scL w.params, bs3 c ++ vR C f O R, [none, none]⟩ (execs (forB (in13 w.params))) (.next, ⟨scL w.params, vR C f O (nx1 R c), [none, none]⟩) := by
  obtain ⟨x, y, z, u, rfl⟩ := list4 hl
  obtain ⟨h1, h2⟩ := Prod.mk.inj (List.map_inj_left.mp (turns13 (prog := prog) (w := w) (D := D) C f O x y z u) c hc)
  refine goto_ (vs' := vR C f O (nx1 [x, y, z, u] c)) h1 h2 fun p hp => ?_
  obtain ⟨i, _, rfl⟩ := List.mem_map.mp hp
  exact win_in hR hl i _
theorem f13i (P : Params) : forOk (scL P) (in13 P) = true := by kernel_rfl
theorem k13i (P : Params) (c : Step3) : BindS (forT (in13 P)) (tupC c) (bs3 c) := taken (by kernel_rfl)
theorem runs13 (C : Nat → Int) (f : Bool) (O : List Int) : ∀ (L : List Step3) {R : List Int}, (∀ c ∈ L, c ∈ combos) → R.length = 4 → in01 R →
    Runs prog w D (forT (in13 w.params)) (forB (in13 w.params)) (L.map tupC) ⟨scL w.params, vR C f O R, [none, none]⟩ (.next, ⟨scL w.params, vR C f O (thG R L), [none, none]⟩)
  | [], R, _, _, _ => .nil _
  | c :: L, R, hL, hl, hR => .step (k13i _ c) (turn13 C f O hl hR (hL c (.head _))) (runs13 C f O L (fun d hd => hL d (.tail _ hd)) rfl (nx1_in _ _))
theorem thG_len : ∀ (L : List Step3) {R : List Int}, R.length = 4 → (thG R L).length = 4
  | [], R, h => h
  | c :: L, R, h => thG_len L rfl
noncomputable def outT (C : Nat → Int) (v : Int) : List Int := thG (th0 (ring C) v) (steps C)
theorem turn13o (C : Nat → Int) (f : Bool) (hc : ∀ c ∈ steps C, c ∈ combos) {O : List Int} (hO : O.length = 4) (v : Int) : SSound prog w D ⟨scL w.params, [(nm "v", .int false v)] ++ vO C f O, [none, none]⟩ (execs (forB (stL w.params 13))) (.next, ⟨scL w.params, vO C f (addL O (outT C v)), [none, none]⟩) := by
  have S1 : SSound prog w D ⟨scL w.params, [(nm "v", .int false v)] ++ vO C f O, [none, none]⟩ (execs ((forB (stL w.params 13)).take 1)) (.next, ⟨scL w.params, vR C f O (th0 (ring C) v), [none, none]⟩) := goto_ (x := exC fn0 md0 20 _ [] _) (by kernel_rfl) (c := []) (by kernel_rfl) .nil
  have hi : ES prog w D ⟨scL w.params, vR C f O (th0 (ring C) v), [none, none]⟩ (forIt (in13 w.params)) (.lst ((steps C).map tupC)) := got (x := evC fn0 md0 9 _ _) (by kernel_rfl) (c := []) (by kernel_rfl) .nil
  have F := for_of (f13i w.params) hi (iter_list tup_is lst_not) rfl (tups_noRef _) (runs13 C f O (steps C) hc rfl (th0_in _ _))
  obtain ⟨x, y, z, u, rfl⟩ := list4 hO
  obtain ⟨a, b, c, d, e⟩ := list4 (thG_len (steps C) (R := th0 (ring C) v) rfl)
  rw [body13]
  unfold outT
  rw [e] at F ⊢
  exact blocks S1 (x_seq F (goto_ (x := exC fn0 md0 20 _ [] _) (by kernel_rfl) (c := []) (by kernel_rfl) .nil))
noncomputable def out (C : Nat → Int) : List Int := addL (addL (addL [0, 0, 0, 0] (outT C 1)) (outT C 2)) (outT C 3)
theorem f13 (P : Params) : forOk (scL P) (stL P 13) = true := by kernel_rfl
theorem k13 (P : Params) (v : Int) : BindS (forT (stL P 13)) (.int false v) [(nm "v", .int false v)] := taken (by kernel_rfl)
theorem segF (C : Nat → Int) (f : Bool) (hc : ∀ c ∈ steps C, c ∈ combos) : SSound prog w D ⟨scL w.params, vE C f, [none, none]⟩ (execs (partL w.params 12 1 ++ [stL w.params 13])) (.next, ⟨scL w.params, vO C f (out C), [none, none]⟩) := by
  have S1 : SSound prog w D ⟨scL w.params, vE C f, [none, none]⟩ (execs (partL w.params 12 1)) (.next, ⟨scL w.params, vO C f [0, 0, 0, 0], [none, none]⟩) := goto_ (x := exC fn0 md0 20 _ [] _) (by kernel_rfl) (c := []) (by kernel_rfl) .nil
  have hi : ES prog w D ⟨scL w.params, vO C f [0, 0, 0, 0], [none, none]⟩ (forIt (stL w.params 13)) (.rng 1 4) := got (x := evC fn0 md0 9 _ _) (by kernel_rfl) (c := []) (by kernel_rfl) .nil
  have F := for_of (f13 w.params) hi iter_rng rfl rfl (.step (k13 _ 1) (turn13o C f hc rfl 1) (.step (k13 _ 2) (turn13o C f hc rfl 2) (.step (k13 _ 3) (turn13o C f hc rfl 3) (.nil _))))
  exact blocks S1 (x_seq F x_nil)
end
end Mine

namespace Mine
noncomputable section
variable {prog : Program} {w : World} {D : Nat}

-- the columns of the leads, and the fences
noncomputable def vG (C : Nat → Int) (f : Bool) : List (Str × AV) := (nm "fences", .ref 5) :: vO C f (out C)
noncomputable def obG (F1 F2 F3 : List AV) (k : Nat) : Obs := [none, none, some F1, some F2, some F3, some [.ref 2, .ref 3, .ref 4]] ++ List.replicate k none
theorem seg14 (C : Nat → Int) (f : Bool) : SSound prog w D ⟨scL w.params, vO C f (out C), [none, none]⟩ (execs (partL w.params 14 1)) (.next, ⟨scL w.params, vG C f, obG [] [] [] 0⟩) :=
  goto_ (x := exC fn0 md0 20 _ [] _) (by kernel_rfl) (c := []) (by kernel_rfl) .nil
/-- none: no tab is typed; else: whether it ends at a stop, for each run -/
abbrev Pt := Option (Bool × Bool × Bool)
noncomputable def pats : List Pt := none :: [true, false].flatMap fun a => [true, false].flatMap fun b => [true, false].map fun c => some (a, b, c)
noncomputable def orcOf : Pt → List Bool
  | none => [false, false, false]
  | some (a, b, c) => [true, a, true, b, true, c]
noncomputable def hitOf : Pt → Nat → Bool
  | none, _ => true
  | some (a, b, c), v => match v with | 0 => a | 1 => b | _ => c
noncomputable def rise (q : Rm) (d : Int) (p : Pt) (v : Nat) : Int := match p with
  | none => 1
  | some _ => d * b2i (((v + 1 : Nat) + q.1).fmod d == 0)
noncomputable def colQ (q : Rm) (d : Int) (p : Pt) : Nat → Int
  | 0 => colL d 0 (headOf q ++ wordOf q).cps.toList
  | v + 1 => colQ q d p v + rise q d p v
noncomputable def fence (q : Rm) (d : Int) (p : Pt) (v : Nat) : AV := .tup [.int false d, .int true (colQ q d p v), .int true (colQ q d p (v + 1))]
noncomputable def fenced (q : Rm) (d : Int) (p : Pt) (v : Nat) (F : List AV) : List AV := match hitOf p v with | true => F ++ [fence q d p v] | false => F
noncomputable def obV (q : Rm) (d : Int) (p : Pt) (v : Nat) (F : List AV) : List Prop := match p with
  | none => [decide (q.2.1 > 0) = false, v + 1 ≤ 4096, F.length ≤ 4096]
  | some _ => [decide (q.2.1 > 0) = true, small d, v + 1 ≤ 4096, decide (rise q d p v > 0) = hitOf p v] ++ match hitOf p v with | true => [F.length ≤ 4096] | false => []
noncomputable def obHd (q : Rm) (d : Int) : List Prop := [(headOf q).length + (wordOf q).length ≤ sizeLine, d ≠ 0 ∧ ∀ ch ∈ (headOf q ++ wordOf q).cps.toList, ch ∈ signs]
noncomputable def tr15 (hD : D < 589) (C : Nat → Int) (f : Bool) (F1 F2 F3 : List AV) (k : Nat) (o : List Bool) := exC (prog := prog) (w := w) (fnL hD f) md0 30 ⟨scL w.params, (nm "d", .int false (k + 1 : Nat)) :: vG C f, obG F1 F2 F3 k⟩ o ((forB (stL w.params 15)).take 2)
noncomputable def kps : List (Nat × Pt) := (List.range 5).flatMap fun k => pats.map fun p => (k, p)
noncomputable def dv15 (k : Nat) : Int := (k + 1 : Nat)
noncomputable def cL (hD : D < 589) (C : Nat → Int) (f : Bool) (F1 F2 F3 : List AV) (t : Nat × Pt) := (rd (tr15 (prog := prog) (w := w) hD C f F1 F2 F3 t.1 (orcOf t.2)) (nm "columns" :: nm "d" :: (vG C f).map (·.1)), obsOf (tr15 (prog := prog) (w := w) hD C f F1 F2 F3 t.1 (orcOf t.2)))
noncomputable def cR (C : Nat → Int) (f : Bool) (F1 F2 F3 : List AV) (t : Nat × Pt) := (want ((nm "columns", .ref (6 + t.1)) :: (nm "d", .int false (dv15 t.1)) :: vG C f) (obG (fenced (rm C) (dv15 t.1) t.2 0 F1) (fenced (rm C) (dv15 t.1) t.2 1 F2) (fenced (rm C) (dv15 t.1) t.2 2 F3) t.1 ++ [some (ltr ((List.range 4).map (colQ (rm C) (dv15 t.1) t.2)))]),
  obHd (rm C) (dv15 t.1) ++ (obV (rm C) (dv15 t.1) t.2 0 F1 ++ (obV (rm C) (dv15 t.1) t.2 1 F2 ++ obV (rm C) (dv15 t.1) t.2 2 F3)))
noncomputable def kp (k : Nat) : List (Nat × Pt) := pats.map fun p => (k, p)
theorem cols_a (hD : D < 589) (C : Nat → Int) (f : Bool) (F1 F2 F3 : List AV) : (kp 0).map (cL (prog := prog) (w := w) hD C f F1 F2 F3) = (kp 0).map (cR C f F1 F2 F3) := by kernel_rfl
theorem cols_b (hD : D < 589) (C : Nat → Int) (f : Bool) (F1 F2 F3 : List AV) : (kp 1).map (cL (prog := prog) (w := w) hD C f F1 F2 F3) = (kp 1).map (cR C f F1 F2 F3) := by kernel_rfl
theorem cols_c (hD : D < 589) (C : Nat → Int) (f : Bool) (F1 F2 F3 : List AV) : (kp 2).map (cL (prog := prog) (w := w) hD C f F1 F2 F3) = (kp 2).map (cR C f F1 F2 F3) := by kernel_rfl
theorem cols_d (hD : D < 589) (C : Nat → Int) (f : Bool) (F1 F2 F3 : List AV) : (kp 3).map (cL (prog := prog) (w := w) hD C f F1 F2 F3) = (kp 3).map (cR C f F1 F2 F3) := by kernel_rfl
theorem cols_e (hD : D < 589) (C : Nat → Int) (f : Bool) (F1 F2 F3 : List AV) : (kp 4).map (cL (prog := prog) (w := w) hD C f F1 F2 F3) = (kp 4).map (cR C f F1 F2 F3) := by kernel_rfl
theorem cols15 (hD : D < 589) (C : Nat → Int) (f : Bool) (F1 F2 F3 : List AV) : kps.map (cL (prog := prog) (w := w) hD C f F1 F2 F3) = kps.map (cR C f F1 F2 F3) := by
  show (kp 0 ++ (kp 1 ++ (kp 2 ++ (kp 3 ++ kp 4)))).map _ = (kp 0 ++ (kp 1 ++ (kp 2 ++ (kp 3 ++ kp 4)))).map _
  exact map_app2 (cols_a hD ..) (map_app2 (cols_b hD ..) (map_app2 (cols_c hD ..) (map_app2 (cols_d hD ..) (cols_e hD ..))))
end
end Mine

namespace Mine
noncomputable section
variable {prog : Program} {w : World} {D : Nat}

-- the tests of one size
noncomputable def lvl (q : Rm) (d : Int) (v : Int) : Int := ind (wspOf (lead q v)) d
noncomputable def lvs (q : Rm) (d : Int) : List Int := [0, 1, 2, 3].map (lvl q d)
noncomputable def vH (C : Nat → Int) (f : Bool) (d : Int) (cs : List Int) : List (Str × AV) := (nm "columns", .lst (ltr cs)) :: (nm "d", .int false d) :: vG C f
noncomputable def ts15 (hD : D < 589) (C : Nat → Int) (f : Bool) (F1 F2 F3 : List AV) (k : Nat) (x y z u : Int) (o : List Bool) := exC (prog := prog) (w := w) (fnL hD f) (md4 (Nat.lt_trans hD (by decide))) 30 ⟨scL w.params, vH C f (dv15 k) [x, y, z, u], obG F1 F2 F3 (k + 1)⟩ o ((forB (stL w.params 15)).drop 2)
noncomputable def obL (q : Rm) (d : Int) : List Prop := [0, 1, 2, 3].map fun v => (wspOf (lead q v)).cnt.length ≤ 64 ∧ tsOk d
noncomputable def eqs (l r : List Int) : List Bool := [0, 1, 2, 3].map fun i => l.getD i 0 == r.getD i 0
noncomputable def pick4 (l g : List Int) : List Int := [0, 1, 2, 3].map fun i => l.getD (g.getD i 0).toNat 0
noncomputable def obI4 (g : List Int) : List Prop := [0, 1, 2, 3].map fun i => 0 ≤ g.getD i 0 ∧ g.getD i 0 < 4
noncomputable def obS (C : Nat → Int) (g : List Int) (f : Bool) : Prop := (∀ c ∈ steps C, c ∈ combos) ∧ g.length = 4 ∧ in25 g ∧ smF false (steps C) = f
noncomputable def told (C : Nat → Int) (d : Int) : List Int := smG (pick4 (lvs (rm C) d) (ring C)) (steps C)
noncomputable def want4 (C : Nat → Int) (d : Int) : List Int := pick4 (lvs (rm C) d) (out C)
noncomputable def obFl (A B : List Int) (f : Bool) : List Prop := match f with | true => [0, 1, 2, 3].map fun i => 0 ≤ A.getD i 0 ∧ A.getD i 0 < 64 ∧ 0 ≤ B.getD i 0 ∧ B.getD i 0 < 64 | false => []
noncomputable def obTold (C : Nat → Int) (d : Int) (f : Bool) : List Prop := obI4 (ring C) ++ (obS C (pick4 (lvs (rm C) d) (ring C)) f :: (obI4 (out C) ++ (obFl (told C d) (want4 C d) f ++ [((!allB (eqs (told C d) (want4 C d))) || false) = false])))
noncomputable def obT (C : Nat → Int) (k : Nat) (f : Bool) (cs : List Int) : List Prop := obL (rm C) (dv15 k) ++ (((!allB (eqs (lvs (rm C) (dv15 k)) cs)) = false) :: match decide (k < 4) with | true => obTold C (dv15 k) f | false => [])
noncomputable def orc15 (k : Nat) : List Bool := match decide (k < 4) with | true => [false, false] | false => [false]
noncomputable def kfs : List (Nat × Bool) := (List.range 5).flatMap fun k => [(k, true), (k, false)]
theorem tests15 (hD : D < 589) (C : Nat → Int) (F1 F2 F3 : List AV) (x y z u : Int) : kfs.map (fun t => (rd (ts15 (prog := prog) (w := w) hD C t.2 F1 F2 F3 t.1 x y z u (orc15 t.1)) ((vG C t.2).map (·.1)), obsOf (ts15 (prog := prog) (w := w) hD C t.2 F1 F2 F3 t.1 x y z u (orc15 t.1)))) =
    kfs.map fun t => (want (vG C t.2) (obG F1 F2 F3 (t.1 + 1)), obT C t.1 t.2 [x, y, z, u]) := by kernel_rfl
-- what is so of the 72 remainders
noncomputable def patOf (q : Rm) (d : Int) : Pt := match decide (q.2.1 > 0) with | true => some ((1 + q.1).fmod d == 0, (2 + q.1).fmod d == 0, (3 + q.1).fmod d == 0) | false => none
noncomputable def cols (q : Rm) (d : Int) : List Int := (List.range 4).map (colQ q d (patOf q d))
noncomputable def okV (q : Rm) (d : Int) (v : Nat) : Bool := match patOf q d with
  | none => decide (decide (q.2.1 > 0) = false)
  | some p => decide (decide (q.2.1 > 0) = true ∧ decide (rise q d (some p) v > 0) = hitOf (some p) v)
noncomputable def upB (l : List Int) : Bool := decide (l.getD 0 0 ≤ l.getD 1 0) && decide (l.getD 1 0 ≤ l.getD 2 0) && decide (l.getD 2 0 ≤ l.getD 3 0)
theorem q_lv : ∀ q ∈ rms, ∀ k ∈ List.range 5, lvs q (dv15 k) = cols q (dv15 k) := of_decide_eq_true (by kernel_rfl)
theorem q_col : ∀ q ∈ rms, ∀ k ∈ List.range 5, patOf q (dv15 k) ∈ pats ∧ (k < 4 → upB (cols q (dv15 k)) = true ∧ ∀ x ∈ cols q (dv15 k), 0 ≤ x ∧ x < 25) ∧ ∀ v ∈ List.range 3, okV q (dv15 k) v = true := of_decide_eq_true (by kernel_rfl)
theorem q_ok : ∀ q ∈ rms, (∀ ch ∈ (headOf q ++ wordOf q).cps.toList, ch ∈ signs) ∧ (∀ v ∈ [(0 : Int), 1, 2, 3], (wspOf (lead q v)).ok') := of_decide_eq_true (by kernel_rfl)
theorem q_all : ∀ q ∈ rms, (∀ ch ∈ (headOf q ++ wordOf q).cps.toList, ch ∈ signs) ∧ (∀ v ∈ [(0 : Int), 1, 2, 3], (wspOf (lead q v)).ok') ∧ ∀ k ∈ List.range 5, lvs q (dv15 k) = cols q (dv15 k) ∧ patOf q (dv15 k) ∈ pats ∧ (k < 4 → ∀ x ∈ lvs q (dv15 k), 0 ≤ x ∧ x < 25) ∧ ∀ v ∈ List.range 3, okV q (dv15 k) v = true := fun q hq => ⟨(q_ok q hq).1, (q_ok q hq).2, fun k hk => ⟨q_lv q hq k hk, (q_col q hq k hk).1, fun h => q_lv q hq k hk ▸ ((q_col q hq k hk).2.1 h).2, (q_col q hq k hk).2.2⟩⟩
end
end Mine

namespace Mine
noncomputable section

-- the plain law: the steps go through any map that keeps the order
/-- sorting goes through a map that keeps the order -/
theorem srt_map {f : Int → Int} (hf : ∀ a b, a ≤ b → f a ≤ f b) (l : List Int) : srt (l.map f) = (srt l).map f := by
  symm
  refine srt_uniq ((srt_perm l).map f) ?_
  rw [List.pairwise_map]
  exact (srt_sorted l).imp fun h => hf _ _ h
theorem getD_map {f : Int → Int} {l : List Int} {k : Nat} (hk : k < l.length) : (l.map f).getD k 0 = f (l.getD k 0) := by
  rw [List.getD_eq_getElem?_getD, List.getD_eq_getElem?_getD, List.getElem?_map, List.getElem?_eq_getElem hk]; rfl
theorem srt_getD_map {f : Int → Int} (hf : ∀ a b, a ≤ b → f a ≤ f b) {l : List Int} {k : Nat} (hk : k < l.length) : (srt (l.map f)).getD k 0 = f ((srt l).getD k 0) := by
  rw [srt_map hf, getD_map (by rw [srt_length]; exact hk)]
theorem win_map {f : Int → Int} {g : List Int} (hg : g.length = 4) (i s : Nat) : win (g.map f) i s = (win g i s).map f := by
  unfold win
  rw [List.map_map]
  refine List.map_congr_left fun t _ => ?_
  exact getD_map (by rw [hg]; exact Nat.mod_lt _ (by decide))
theorem nxt_map {f : Int → Int} (hf : ∀ a b, a ≤ b → f a ≤ f b) {g : List Int} (hg : g.length = 4) {s k : Nat} (hk : k < s) : nxt (g.map f) s k = (nxt g s k).map f := by
  unfold nxt
  rw [List.map_map]
  refine List.map_congr_left fun i _ => ?_
  rw [win_map hg]
  exact srt_getD_map hf (by rw [win_len]; exact hk)
theorem smG_map {f : Int → Int} (hf : ∀ a b, a ≤ b → f a ≤ f b) : ∀ (L : List Step3) (g : List Int), (∀ c ∈ L, c ∈ combos) → g.length = 4 → smG (g.map f) L = (smG g L).map f
  | [], g, _, _ => rfl
  | c :: L, g, hL, hg => by
    unfold smG
    rw [nxt_map hf hg (combo_k c (hL c (.head _)))]
    exact smG_map hf L _ (fun d hd => hL d (.tail _ hd)) (nxt_len ..)
noncomputable def thr (v a : Int) : Int := if v ≤ a then 1 else 0
theorem thr_mono (v : Int) : ∀ a b, a ≤ b → thr v a ≤ thr v b := fun a b h => by unfold thr; split <;> split <;> omega
noncomputable def b01 (l : List Int) : Prop := ∀ x ∈ l, x = 0 ∨ x = 1
theorem sumI_perm {a b : List Int} (h : a.Perm b) : sumI a = sumI b := by
  induction h with
  | nil => rfl
  | cons x _ ih => simp only [sumI, ih]
  | swap x y l => simp only [sumI]; omega
  | trans _ _ h1 h2 => exact h1.trans h2
theorem sum01 : ∀ {l : List Int}, b01 l → 0 ≤ sumI l ∧ sumI l ≤ l.length
  | [], _ => by simp [sumI]
  | a :: l, h => by
    have h1 := h a (List.mem_cons_self ..)
    have h2 := sum01 (l := l) fun x hx => h x (List.mem_cons_of_mem _ hx)
    simp only [sumI, List.length_cons]; omega
/-- in a sorted list of noughts and ones, a place holds a one just if so many are ones -/
theorem sorted01 : ∀ {l : List Int}, b01 l → l.Pairwise (· ≤ ·) → ∀ k : Nat, k < l.length → (l.getD k 0 = 1 ↔ (l.length : Int) - k ≤ sumI l)
  | [], _, _, k, h => by simp at h
  | a :: l, hb, hs, k, hk => by
    have h1 := hb a (List.mem_cons_self ..)
    have hb' : b01 l := fun x hx => hb x (List.mem_cons_of_mem _ hx)
    have h2 := sum01 hb'
    rw [List.pairwise_cons] at hs
    cases k with
    | zero =>
      simp only [List.getD_cons_zero, sumI, List.length_cons]
      constructor
      · intro e
        have : sumI l = l.length := by
          have : ∀ x ∈ l, x = 1 := fun x hx => by
            have := hs.1 x hx; rcases hb' x hx with q | q <;> omega
          clear hs hb hb' h2 hk
          induction l with
          | nil => rfl
          | cons y l ih =>
            have e1 := this y (List.mem_cons_self ..)
            have e2 := ih fun x hx => this x (List.mem_cons_of_mem _ hx)
            simp only [sumI, List.length_cons]; omega
        omega
      · intro e; omega
    | succ k =>
      have ih := sorted01 hb' hs.2 k (by simpa using hk)
      simp only [List.getD_cons_succ, sumI, List.length_cons]
      rcases h1 with rfl | rfl
      · rw [ih]; constructor <;> intro e <;> omega
      · have hall : ∀ x ∈ l, x = 1 := fun x hx => by
          have := hs.1 x hx; rcases hb' x hx with q | q <;> omega
        have hk' : k < l.length := by simpa using hk
        have e1 : l.getD k 0 = 1 := by
          rw [List.getD_eq_getElem?_getD, List.getElem?_eq_getElem hk']
          exact hall _ (List.getElem_mem hk')
        have e2 := ih.mp e1
        constructor
        · intro _; omega
        · intro _; exact e1
theorem srt01 {l : List Int} (hb : b01 l) {k : Nat} (hk : k < l.length) : (srt l).getD k 0 = if (l.length : Int) - k ≤ sumI l then 1 else 0 := by
  have hb' : b01 (srt l) := fun x hx => hb x ((srt_perm l).subset hx)
  have h := sorted01 hb' (srt_sorted l) k (by rw [srt_length]; exact hk)
  rw [srt_length, sumI_perm (srt_perm l)] at h
  have hm : (srt l).getD k 0 ∈ srt l := by
    have hk2 : k < (srt l).length := by rw [srt_length]; exact hk
    rw [List.getD_eq_getElem?_getD, List.getElem?_eq_getElem hk2]; exact List.getElem_mem hk2
  split
  · rename_i q; exact h.mpr q
  · rename_i q
    rcases hb' _ hm with e | e
    · exact e
    · exact absurd (h.mp e) q
theorem combo_n : ∀ c ∈ combos, ((c.1.toNat : Int) - c.2.2.toNat = c.1 - c.2.2) := by decide
theorem win01 {r : List Int} (h : b01 r) (hl : r.length = 4) (i s : Nat) : b01 (win r i s) := fun x hx => by
  obtain ⟨t, _, rfl⟩ := List.mem_map.mp hx
  have : (i + t) % 4 < r.length := by rw [hl]; exact Nat.mod_lt _ (by decide)
  rw [List.getD_eq_getElem?_getD, List.getElem?_eq_getElem this]
  exact h _ (List.getElem_mem this)
theorem nx1_is {r : List Int} (h : b01 r) (hl : r.length = 4) {c : Step3} (hc : c ∈ combos) : nx1 r c = nxt r c.1.toNat c.2.2.toNat := by
  unfold nx1 nxt
  refine List.map_congr_left fun i _ => ?_
  rw [srt01 (win01 h hl i _) (by rw [win_len]; exact combo_k c hc), win_len, combo_n c hc]
  unfold b2i
  by_cases q : c.1 - c.2.2 ≤ sumI (win r i c.1.toNat)
  · rw [if_pos q, if_pos (decide_eq_true q)]
  · rw [if_neg q, if_neg (by simpa using q)]
theorem b2i_01 (b : Bool) : b2i b = 0 ∨ b2i b = 1 := by cases b; exact .inl rfl; exact .inr rfl
theorem nx1_01 (r : List Int) (c : Step3) : b01 (nx1 r c) := fun x hx => by
  obtain ⟨i, _, rfl⟩ := List.mem_map.mp hx
  exact b2i_01 _
theorem thG_is : ∀ (L : List Step3) {r : List Int}, b01 r → r.length = 4 → (∀ c ∈ L, c ∈ combos) → thG r L = smG r L
  | [], r, _, _, _ => rfl
  | c :: L, r, h, hl, hL => by
    unfold thG smG
    rw [← nx1_is h hl (hL c (.head _))]
    exact thG_is L (nx1_01 r c) rfl fun d hd => hL d (.tail _ hd)
theorem th0_is (g : List Int) (v : Int) : th0 g v = g.map (thr v) := by
  refine List.map_congr_left fun a _ => ?_
  unfold b2i thr
  by_cases h : v ≤ a
  · rw [if_pos h, if_pos (decide_eq_true h)]
  · rw [if_neg h, if_neg (by simpa using h)]
theorem th0_01 (g : List Int) (v : Int) : b01 (th0 g v) := fun x hx => by
  obtain ⟨i, _, rfl⟩ := List.mem_map.mp hx
  exact b2i_01 _
abbrev in4 (g : List Int) : Prop := ∀ x ∈ g, 0 ≤ x ∧ x < 4
theorem smG_in4 : ∀ (L : List Step3) {g : List Int}, (∀ c ∈ L, c ∈ combos) → g.length = 4 → in4 g → in4 (smG g L)
  | [], g, _, _, h => h
  | c :: L, g, hL, hg, h => smG_in4 L (fun d hd => hL d (.tail _ hd)) (nxt_len ..) fun x hx => by
    obtain ⟨i, _, rfl⟩ := List.mem_map.mp hx
    refine win_in (i := i) (s := c.1.toNat) h hg _ ((srt_perm _).subset ?_)
    have hk : c.2.2.toNat < (srt (win g i c.1.toNat)).length := by rw [srt_length, win_len]; exact combo_k c (hL c (.head _))
    rw [List.getD_eq_getElem?_getD, List.getElem?_eq_getElem hk]
    exact List.getElem_mem hk
theorem ring_in (C : Nat → Int) : in4 (ring C) := fun x hx => by
  obtain ⟨j, _, rfl⟩ := List.mem_map.mp hx; exact fmod_bd (by decide)
theorem out_is (C : Nat → Int) (hc : ∀ c ∈ steps C, c ∈ combos) : out C = smG (ring C) (steps C) := by
  have h : ∀ v, outT C v = (smG (ring C) (steps C)).map (thr v) := fun v => by
    unfold outT
    rw [thG_is _ (th0_01 _ v) rfl hc, th0_is]
    exact smG_map (thr_mono v) _ _ hc rfl
  have hi := smG_in4 (steps C) hc rfl (ring_in C)
  obtain ⟨a, b, c, d, e⟩ := list4 (smG_len (steps C) (ring C) rfl)
  unfold out
  rw [h, h, h, e]
  rw [e] at hi
  have k : ∀ x, 0 ≤ x ∧ x < 4 → 0 + thr 1 x + thr 2 x + thr 3 x = x := fun x hx => by
    unfold thr; split <;> split <;> split <;> omega
  show [0 + thr 1 a + thr 2 a + thr 3 a, 0 + thr 1 b + thr 2 b + thr 3 b, 0 + thr 1 c + thr 2 c + thr 3 c, 0 + thr 1 d + thr 2 d + thr 3 d] = _
  rw [k a (hi a (by simp)), k b (hi b (by simp)), k c (hi c (by simp)), k d (hi d (by simp))]
noncomputable def at4 (l : List Int) (a : Int) : Int := l.getD (min a.toNat 3) 0
theorem pick_is {l g : List Int} (hg : g.length = 4) (h : in4 g) : pick4 l g = g.map (at4 l) := by
  obtain ⟨a, b, c, d, rfl⟩ := list4 hg
  have k : ∀ x, 0 ≤ x ∧ x < 4 → l.getD x.toNat 0 = at4 l x := fun x hx => by unfold at4; rw [Nat.min_eq_left (by omega)]
  show [l.getD a.toNat 0, l.getD b.toNat 0, l.getD c.toNat 0, l.getD d.toNat 0] = [at4 l a, at4 l b, at4 l c, at4 l d]
  rw [k a (h a (by simp)), k b (h b (by simp)), k c (h c (by simp)), k d (h d (by simp))]
theorem up_mono {l : List Int} (h : upB l = true) : ∀ a b : Int, a ≤ b → at4 l a ≤ at4 l b := fun a b hab => by
  have st : ∀ n : Nat, n < 3 → l.getD n 0 ≤ l.getD (n + 1) 0
    | 0, _ => of_decide_eq_true (and_l (and_l h))
    | 1, _ => of_decide_eq_true (and_r (and_l h))
    | 2, _ => of_decide_eq_true (and_r h)
  have k : ∀ d m : Nat, m + d ≤ 3 → l.getD m 0 ≤ l.getD (m + d) 0 := fun d => by
    induction d with
    | zero => exact fun m _ => Int.le_refl _
    | succ d ih => exact fun m h => Int.le_trans (ih m (Nat.le_of_succ_le h)) (st (m + d) (Nat.lt_of_succ_le h))
  have h1 : min a.toNat 3 ≤ min b.toNat 3 := Nat.le_min.mpr ⟨Nat.le_trans (Nat.min_le_left ..) (Int.toNat_le_toNat hab), Nat.min_le_right ..⟩
  obtain ⟨d, e⟩ := Nat.exists_eq_add_of_le h1
  have h2 : min a.toNat 3 + d ≤ 3 := Nat.le_trans (Nat.le_of_eq e.symm) (Nat.min_le_right ..)
  have h3 := k d _ h2
  rw [← e] at h3
  exact h3
theorem q_up {q : Rm} (hq : q ∈ rms) {k : Nat} (hk : k ∈ List.range 4) : upB (lvs q (dv15 k)) = true := by
  have h4 := List.mem_range.mp hk
  have h5 : k ∈ List.range 5 := List.mem_range.mpr (Nat.lt_succ_of_lt h4)
  rw [q_lv q hq k h5]
  exact ((q_col q hq k h5).2.1 h4).1
theorem told_is (C : Nat → Int) (hc : ∀ c ∈ steps C, c ∈ combos) {k : Nat} (hk : k ∈ List.range 4) : told C (dv15 k) = want4 C (dv15 k) := by
  have hu := up_mono (q_up (rm_mem C) hk)
  unfold told want4
  rw [out_is C hc, pick_is rfl (ring_in C), pick_is (smG_len _ _ rfl) (smG_in4 _ hc rfl (ring_in C))]
  exact smG_map hu _ _ hc rfl
end
end Mine

namespace Mine
noncomputable section
variable {prog : Program} {w : World} {D : Nat}

noncomputable def sizeP (r y : Int) : Int := match y == 2 with | true => 1 + r - (1 - (1 + r).fmod 2) | false => 1 + r
noncomputable def stepP (r y m : Int) : Step3 := (sizeP r y, y, [(sizeP r y - 1).fdiv 2, (sizeP r y).fdiv 2, (sizeP r y).fdiv 2, m].getD y.toNat 0)
theorem stepP_mem : ∀ r ∈ [(0 : Int), 1, 2, 3], ∀ y ∈ [(0 : Int), 1, 2, 3], (0 < sizeP r y ∧ sizeP r y ≤ 4) ∧ ∀ m ∈ [(0 : Int), 1, 2, 3], m < sizeP r y → stepP r y m ∈ combos := by decide
theorem mem4 {x : Int} (h : 0 ≤ x ∧ x < 4) : x ∈ [(0 : Int), 1, 2, 3] := by
  have : x = 0 ∨ x = 1 ∨ x = 2 ∨ x = 3 := by omega
  rcases this with rfl | rfl | rfl | rfl <;> decide
theorem stepOf_mem (z : Int) : stepOf z ∈ combos := by
  obtain ⟨h1, h2⟩ := stepP_mem _ (mem4 (fmod_bd (a := z) (k := 4) (by decide))) _ (mem4 (fmod_bd (a := z.fdiv 4) (k := 4) (by decide)))
  have hm := fmod_bd (a := z.fdiv 16) h1.1
  exact h2 _ (mem4 ⟨hm.1, Int.lt_of_lt_of_le hm.2 h1.2⟩) hm.2
theorem steps_mem (C : Nat → Int) : ∀ c ∈ steps C, c ∈ combos := fun c hc => by
  obtain ⟨z, _, rfl⟩ := List.mem_map.mp hc; exact stepOf_mem z
theorem obHd_all {q : Rm} (hq : q ∈ rms) (k : Nat) : AllP (obHd q (dv15 k)) :=
  .cons (two_len (lead_q q hq).1 (lead_q q hq).2.1) (.cons ⟨by unfold dv15; omega, (q_all q hq).1⟩ .nil)
theorem obV_all {q : Rm} {d : Int} {v : Nat} {F : List AV} (h : okV q d v = true) (hd : small d) (hv : v + 1 ≤ 4096) (hF : F.length ≤ 4096) : AllP (obV q d (patOf q d) v F) := by
  unfold okV at h
  cases hp : patOf q d with
  | none =>
    rw [hp] at h
    exact .cons (of_decide_eq_true h) (.cons hv (.cons hF .nil))
  | some p =>
    rw [hp] at h
    have h := of_decide_eq_true h
    unfold obV
    refine allP_app (.cons h.1 (.cons hd (.cons hv (.cons h.2 .nil)))) ?_
    cases hitOf (some p) v with
    | true => exact .cons hF .nil
    | false => exact .nil
theorem allB_eqs {l r : List Int} (h : l = r) : (!allB (eqs l r)) = false := by subst h; simp [eqs, allB]
theorem all4 {P : Nat → Prop} (h : ∀ i : Nat, i < 4 → P i) : AllP ([0, 1, 2, 3].map P) := fun p hp => by
  obtain ⟨i, hi, rfl⟩ := List.mem_map.mp hp
  exact h i ((by decide : ∀ i ∈ [0, 1, 2, 3], i < 4) i hi)
theorem getD_in {P : Int → Prop} {g : List Int} (h : ∀ x ∈ g, P x) {i : Nat} (hi : i < g.length) : P (g.getD i 0) := by
  rw [List.getD_eq_getElem?_getD, List.getElem?_eq_getElem hi]
  exact h _ (List.getElem_mem hi)
theorem obTold_all {C : Nat → Int} {k : Nat} {f : Bool} (hf : smF false (steps C) = f) (hk : k < 4) : AllP (obTold C (dv15 k) f) := by
  have hc := steps_mem C
  have hq := (q_all _ (rm_mem C)).2.2 k (List.mem_range.mpr (by omega))
  have ho : in4 (out C) := by rw [out_is C hc]; exact smG_in4 _ hc rfl (ring_in C)
  have hl := hq.2.2.1 hk
  have hp : ∀ {g : List Int}, g.length = 4 → in4 g → in25 (pick4 (lvs (rm C) (dv15 k)) g) := fun hg h x hx => by
    obtain ⟨i, hi, rfl⟩ := List.mem_map.mp hx
    have hi : i < 4 := (by decide : ∀ i ∈ [0, 1, 2, 3], i < 4) i hi
    have := getD_in h (hg ▸ hi)
    exact getD_in hl (show _ < 4 by omega)
  have ht := told_is C hc (List.mem_range.mpr hk)
  have hw := hp (show (out C).length = 4 from rfl) ho
  refine allP_app (all4 fun i hi => getD_in (ring_in C) hi) (.cons ⟨hc, rfl, hp rfl (ring_in C), hf⟩ (allP_app (all4 fun i hi => getD_in ho hi) (allP_app ?_ (.cons ?_ .nil))))
  · cases f with
    | false => exact .nil
    | true =>
      refine all4 (P := fun i => 0 ≤ (told C (dv15 k)).getD i 0 ∧ (told C (dv15 k)).getD i 0 < 64 ∧ 0 ≤ (want4 C (dv15 k)).getD i 0 ∧ (want4 C (dv15 k)).getD i 0 < 64) fun i hi => ?_
      rw [ht]
      have := getD_in hw (i := i) hi
      show 0 ≤ (want4 C (dv15 k)).getD i 0 ∧ (want4 C (dv15 k)).getD i 0 < 64 ∧ 0 ≤ (want4 C (dv15 k)).getD i 0 ∧ (want4 C (dv15 k)).getD i 0 < 64
      unfold want4
      omega
  · rw [ht, allB_eqs rfl]; rfl
theorem obT_all {C : Nat → Int} {k : Nat} {f : Bool} (hf : smF false (steps C) = f) (hk : k < 5) : AllP (obT C k f (cols (rm C) (dv15 k))) := by
  have hq := q_all _ (rm_mem C)
  have h5 := hq.2.2 k (List.mem_range.mpr hk)
  refine allP_app (fun p hp => ?_) (.cons (allB_eqs h5.1) ?_)
  · obtain ⟨v, hv, rfl⟩ := List.mem_map.mp hp
    exact ⟨(hq.2.1 v hv).1, by unfold dv15; omega⟩
  · cases h : decide (k < 4) with
    | true => exact obTold_all hf (of_decide_eq_true h)
    | false => exact .nil
end
end Mine

namespace Mine
noncomputable section
variable {prog : Program} {w : World} {D : Nat}

/-- the fences behind so many sizes -/
noncomputable def Fk (q : Rm) (v : Nat) : Nat → List AV
  | 0 => []
  | k + 1 => fenced q (dv15 k) (patOf q (dv15 k)) v (Fk q v k)
theorem Fk_len (q : Rm) (v : Nat) : ∀ k, (Fk q v k).length ≤ k
  | 0 => Nat.le_refl _
  | k + 1 => by
    have := Fk_len q v k
    unfold Fk fenced
    split
    · rw [List.length_append, List.length_singleton]; omega
    · omega
theorem mem_kps : ∀ k ∈ List.range 5, ∀ p ∈ pats, (k, p) ∈ kps := by decide
theorem mem_kfs : ∀ k ∈ List.range 5, ∀ f, (k, f) ∈ kfs := by decide
theorem obG_set (F1 F2 F3 : List AV) (k : Nat) (x : Option (List AV)) : (obG F1 F2 F3 k ++ [x]).set (6 + k) none = obG F1 F2 F3 (k + 1) := by
  unfold obG
  rw [List.append_assoc, List.set_append_right _ _ (by simp), List.replicate_succ']
  simp
theorem obG_get (F1 F2 F3 : List AV) (k : Nat) (x : Option (List AV)) : (obG F1 F2 F3 k ++ [x])[6 + k]? = some x := by
  have : (obG F1 F2 F3 k).length = 6 + k := by simp [obG]; omega
  rw [← this]; exact List.getElem?_concat_length
theorem body15 (P : Params) : forB (stL P 15) = (forB (stL P 15)).take 2 ++ (forB (stL P 15)).drop 2 := (List.take_append_drop 2 _).symm
theorem turn15 (hD : D < 589) {C : Nat → Int} {f : Bool} (hf : smF false (steps C) = f) {k : Nat} (hk : k < 5) {F1 F2 F3 : List AV} (hF : F1.length ≤ 64 ∧ F2.length ≤ 64 ∧ F3.length ≤ 64) :
    SSound prog w D ⟨scL w.params, [(nm "d", .int false (dv15 k))] ++ vG C f, obG F1 F2 F3 k⟩ (execs (forB (stL w.params 15))) (.next, ⟨scL w.params, vG C f, obG (fenced (rm C) (dv15 k) (patOf (rm C) (dv15 k)) 0 F1) (fenced (rm C) (dv15 k) (patOf (rm C) (dv15 k)) 1 F2) (fenced (rm C) (dv15 k) (patOf (rm C) (dv15 k)) 2 F3) (k + 1)⟩) := by
  have hr := List.mem_range.mpr hk
  have h5 := (q_all _ (rm_mem C)).2.2 k hr
  have sd : small (dv15 k) := by unfold small dv15; omega
  have le : ∀ {n : Nat}, n ≤ 64 → n ≤ 4096 := fun h => Nat.le_trans h (by decide)
  obtain ⟨h1, h2⟩ := Prod.mk.inj (List.map_inj_left.mp (cols15 (prog := prog) (w := w) hD C f F1 F2 F3) _ (mem_kps k hr _ h5.2.1))
  have S1 := goto_ (vs' := (nm "columns", .ref (6 + k)) :: (nm "d", .int false (dv15 k)) :: vG C f) h1 h2 (allP_app (obHd_all (rm_mem C) k) (allP_app (obV_all (h5.2.2.2 0 (by decide)) sd (by decide) (le hF.1)) (allP_app (obV_all (h5.2.2.2 1 (by decide)) sd (by decide) (le hF.2.1)) (obV_all (h5.2.2.2 2 (by decide)) sd (by decide) (le hF.2.2)))))
  have S2 := S1.says (says_frz (i := 6 + k) (l := ltr (cols (rm C) (dv15 k))) (obG_get ..) (ltr_noRef _))
  rw [obG_set] at S2
  obtain ⟨g1, g2⟩ := Prod.mk.inj (List.map_inj_left.mp (tests15 (prog := prog) (w := w) hD C (fenced (rm C) (dv15 k) (patOf (rm C) (dv15 k)) 0 F1) (fenced (rm C) (dv15 k) (patOf (rm C) (dv15 k)) 1 F2) (fenced (rm C) (dv15 k) (patOf (rm C) (dv15 k)) 2 F3) (colQ (rm C) (dv15 k) (patOf (rm C) (dv15 k)) 0) (colQ (rm C) (dv15 k) (patOf (rm C) (dv15 k)) 1) (colQ (rm C) (dv15 k) (patOf (rm C) (dv15 k)) 2) (colQ (rm C) (dv15 k) (patOf (rm C) (dv15 k)) 3)) _ (mem_kfs k hr f))
  rw [body15]
  exact blocks S2 (goto_ (vs' := vG C f) g1 g2 (obT_all hf hk))
theorem f15 (P : Params) : forOk (scL P) (stL P 15) = true := by kernel_rfl
theorem k15 (P : Params) (d : Int) : BindS (forT (stL P 15)) (.int false d) [(nm "d", .int false d)] := taken (by kernel_rfl)
abbrev obK (q : Rm) (k : Nat) : Obs := obG (Fk q 0 k) (Fk q 1 k) (Fk q 2 k) k
theorem runs15 (hD : D < 589) {C : Nat → Int} {f : Bool} (hf : smF false (steps C) = f) : ∀ (n : Nat) {k : Nat}, k + n = 5 →
    Runs prog w D (forT (stL w.params 15)) (forB (stL w.params 15)) (rngL (dv15 k) n) ⟨scL w.params, vG C f, obK (rm C) k⟩ (.next, ⟨scL w.params, vG C f, obK (rm C) 5⟩)
  | 0, k, h => by cases h; exact .nil _
  | n + 1, k, h => by
    have l := fun v => Nat.le_trans (Fk_len (rm C) v k) (show k ≤ 64 by omega)
    exact .step (k15 _ _) (turn15 hD hf (by omega) ⟨l 0, l 1, l 2⟩) (runs15 hD hf n (k := k + 1) (by omega))
theorem seg15 (hD : D < 589) {C : Nat → Int} {f : Bool} (hf : smF false (steps C) = f) : XS prog w D ⟨scL w.params, vG C f, obK (rm C) 0⟩ (stL w.params 15) ⟨scL w.params, vG C f, obK (rm C) 5⟩ := by
  have hi : ES prog w D ⟨scL w.params, vG C f, obK (rm C) 0⟩ (forIt (stL w.params 15)) (.rng 1 6) := got (x := evC fn0 md0 9 _ _) (by kernel_rfl) (c := []) (by kernel_rfl) .nil
  exact for_of (f15 w.params) hi iter_rng rfl rfl (runs15 hD hf 5 (k := 0) rfl)
end
end Mine

namespace Mine
noncomputable section
variable {prog : Program} {w : World} {D : Nat} {σ : SE}

-- if l != r: ..., not taken
noncomputable def asIfC : (st : Stmt) → Option {q : Expr × CmpOp × Expr × Pos × List Stmt × Pos // st = .If (.Compare q.1 [q.2.1] [q.2.2.1] q.2.2.2.1) q.2.2.2.2.1 [] q.2.2.2.2.2}
  | .If (.Compare l [op] [r] cp) a [] pos => some ⟨(l, op, r, cp, a, pos), rfl⟩
  | _ => none
noncomputable def ifQ (st : Stmt) : Expr × CmpOp × Expr × Pos × List Stmt × Pos := match asIfC st with | some q => q.1 | none => (.Name (nm "") noPos, .Eq, .Name (nm "") noPos, noPos, [], noPos)
theorem ifC_eq {st : Stmt} (h : (asIfC st).isSome = true) : st = .If (.Compare (ifQ st).1 [(ifQ st).2.1] [(ifQ st).2.2.1] (ifQ st).2.2.2.1) (ifQ st).2.2.2.2.1 [] (ifQ st).2.2.2.2.2 := by
  unfold ifQ
  cases q : asIfC st with
  | none => rw [q] at h; cases h
  | some x => exact x.2
theorem x_same {st : Stmt} {x y : AV} {l : List AV} (h : (asIfC st).isSome = true) (ho : (ifQ st).2.1 = .NotEq) (hl : ES prog w D σ (ifQ st).1 x) (hr : ES prog w D σ (ifQ st).2.2.1 y) (hx : ListIs σ.ob x l) (hy : ListIs σ.ob y l) (e : ListsEq l l true) : XS prog w D σ st σ := by
  rw [ifC_eq h, ho]
  exact x_if (d := false) (test_cmp hl hr ⟨rfl, cmp_lists_ne (f := false) hx hy e⟩) x_nil
theorem eqV_wit (v o : Wsp) (i : Int) : EqV true (witT v o i) (witT v o i) (allB [i == i, ind v i == ind v i, ind o i == ind o i]) := eqV_tup (.cons eqV_ii (.cons eqV_ii (.cons eqV_ii .nil)))
theorem eqL_wit (v o : Wsp) : ∀ (k : Nat) (i : Int), ∃ bs, EqL true (witL v o i k) (witL v o i k) bs ∧ allB bs = true
  | 0, _ => ⟨[], .nil, rfl⟩
  | k + 1, i => by
    obtain ⟨bs, h1, h2⟩ := eqL_wit v o k (i + 1)
    unfold witL
    cases ind v i != ind o i with
    | true => exact ⟨_ :: bs, .cons (eqV_wit v o i) h1, by simp [allB, h2]⟩
    | false => exact ⟨bs, h1, h2⟩
theorem wit_eq (v o : Wsp) : ListsEq (wit v o) (wit v o) true := by
  obtain ⟨bs, h1, h2⟩ := eqL_wit v o (topN v o + 1 - 1).toNat 1
  have := lists_eq h1
  rw [h2] at this
  exact this
-- the leads, each and the next one
noncomputable def ld (q : Rm) (v : Nat) : Wsp := wspOf (lead q v)
abbrev wt (q : Rm) (v : Nat) : List AV := wit (ld q v) (ld q (v + 1))
theorem q_wit : rms.map (fun q => [ers (wt q 0), ers (wt q 1), ers (wt q 2)]) = rms.map fun q => [ers (Fk q 0 5), ers (Fk q 1 5), ers (Fk q 2 5)] := by kernel_rfl
theorem q_less : ∀ q ∈ rms, ∀ v ∈ List.range 3, lessB (ld q v) (ld q (v + 1)) = (q.2.1 == 0) := of_decide_eq_true (by kernel_rfl)
end
end Mine

namespace Mine
noncomputable section
variable {prog : Program} {w : World} {D : Nat}

noncomputable def obW (q : Rm) : Obs := [none, none, some (wt q 0), some (wt q 1), some (wt q 2), some [.ref 2, .ref 3, .ref 4], none, none, none, none, none]
theorem says_wit {sc : Scope} {vs : List (Str × AV)} {q : Rm} (hq : q ∈ rms) : Says w ⟨sc, vs, obK q 5⟩ ⟨sc, vs, obW q⟩ := says_of (fun y v' e => ⟨v', e, fun h => h⟩) (by
  have h := List.map_inj_left.mp q_wit q hq
  injection h with h1 h; injection h with h2 h; injection h with h3 h
  show [none, none, some (ers (Fk q 0 5)), some (ers (Fk q 1 5)), some (ers (Fk q 2 5)), _, _, _, _, _, _] = _
  rw [← h1, ← h2, ← h3]; rfl)
noncomputable def if16 (P : Params) : Stmt := stAt (forB (stL P 16)) 0
theorem body16 (P : Params) : forB (stL P 16) = if16 P :: (forB (stL P 16)).tail := cons_of (by kernel_rfl)
theorem if16_is (P : Params) : (asIfC (if16 P)).isSome = true := by kernel_rfl
theorem if16_op (P : Params) : (ifQ (if16 P)).2.1 = .NotEq := by kernel_rfl
abbrev s16 (P : Params) (C : Nat → Int) (f : Bool) (v : Nat) : SE := ⟨scL P, (nm "v", .int false (v + 1 : Nat)) :: vG C f, obW (rm C)⟩
theorem l16 (hD : D < 599) (C : Nat → Int) (f : Bool) : (List.range 3).map (fun v => (valOf (evC (prog := prog) (w := w) fn0 (md4 hD) 9 (s16 w.params C f v) (ifQ (if16 w.params)).1), obsOf (evC (prog := prog) (w := w) fn0 (md4 hD) 9 (s16 w.params C f v) (ifQ (if16 w.params)).1))) =
    (List.range 3).map fun v => (some (.lst (wt (rm C) v)), [(ld (rm C) v).ok' ∧ (ld (rm C) (v + 1)).ok']) := by kernel_rfl
theorem r16 (C : Nat → Int) (f : Bool) : (List.range 3).map (fun v => (valOf (evC (prog := prog) (w := w) (D := D) fn0 md0 9 (s16 w.params C f v) (ifQ (if16 w.params)).2.2.1), obsOf (evC (prog := prog) (w := w) (D := D) fn0 md0 9 (s16 w.params C f v) (ifQ (if16 w.params)).2.2.1))) =
    (List.range 3).map fun v => (some (.ref (v + 2)), []) := by kernel_rfl
noncomputable def x16 (hD : D < 599) (C : Nat → Int) (f : Bool) (v : Nat) := exC (prog := prog) (w := w) fn0 (md4 hD) 20 (s16 w.params C f v) [false] (forB (stL w.params 16)).tail
theorem t16 (hD : D < 599) (C : Nat → Int) (f : Bool) : (List.range 3).map (fun v => (rd (x16 (prog := prog) (w := w) hD C f v) ((vG C f).map (·.1)), obsOf (x16 (prog := prog) (w := w) hD C f v))) =
    (List.range 3).map fun v => (want (vG C f) (obW (rm C)), [(ld (rm C) v).ok' ∧ (ld (rm C) (v + 1)).ok', (!(lessB (ld (rm C) v) (ld (rm C) (v + 1)) == ((rm C).2.1 == 0))) = false]) := by kernel_rfl
theorem turn16 (hD : D < 599) (C : Nat → Int) (f : Bool) {v : Nat} (hv : v ∈ List.range 3) : SSound prog w D (s16 w.params C f v) (execs (forB (stL w.params 16))) (.next, ⟨scL w.params, vG C f, obW (rm C)⟩) := by
  have hq := q_all _ (rm_mem C)
  have ok : ∀ v ∈ List.range 3, (ld (rm C) v).ok' ∧ (ld (rm C) (v + 1)).ok' := fun v hv => by
    have := List.mem_range.mp hv
    exact ⟨hq.2.1 v (mem4 (by omega)), hq.2.1 _ (mem4 (by omega))⟩
  have hk := ok v hv
  obtain ⟨a1, a2⟩ := Prod.mk.inj (List.map_inj_left.mp (l16 (prog := prog) (w := w) hD C f) v hv)
  obtain ⟨b1, b2⟩ := Prod.mk.inj (List.map_inj_left.mp (r16 (prog := prog) (w := w) (D := D) C f) v hv)
  obtain ⟨c1, c2⟩ := Prod.mk.inj (List.map_inj_left.mp (t16 (prog := prog) (w := w) hD C f) v hv)
  have hl : ES prog w D (s16 w.params C f v) _ _ := got a1 a2 (.cons hk .nil)
  have hr : ES prog w D (s16 w.params C f v) _ _ := got b1 b2 .nil
  have hy : (obW (rm C))[v + 2]? = some (some (wt (rm C) v)) := by
    have := List.mem_range.mp hv
    have : v = 0 ∨ v = 1 ∨ v = 2 := by omega
    rcases this with rfl | rfl | rfl <;> rfl
  rw [body16]
  exact x_seq (x_same (if16_is _) (if16_op _) hl hr tup_is (list_own hy) (wit_eq _ _)) (goto_ (vs' := vG C f) c1 c2 (.cons hk (.cons (by rw [q_less _ (rm_mem C) v hv]; simp) .nil)))
theorem f16 (P : Params) : forOk (scL P) (stL P 16) = true := by kernel_rfl
theorem k16 (P : Params) (d : Int) : BindS (forT (stL P 16)) (.int false d) [(nm "v", .int false d)] := taken (by kernel_rfl)
theorem seg16 (hD : D < 599) (C : Nat → Int) (f : Bool) : XS prog w D ⟨scL w.params, vG C f, obK (rm C) 5⟩ (stL w.params 16) ⟨scL w.params, vG C f, obW (rm C)⟩ := by
  have hi : ES prog w D ⟨scL w.params, vG C f, obW (rm C)⟩ (forIt (stL w.params 16)) (.rng 1 4) := got (x := evC fn0 md0 9 _ _) (by kernel_rfl) (c := []) (by kernel_rfl) .nil
  exact (for_of (f16 w.params) hi iter_rng rfl rfl (.step (k16 _ 1) (turn16 hD C f (v := 0) (by decide)) (.step (k16 _ 2) (turn16 hD C f (v := 1) (by decide)) (.step (k16 _ 3) (turn16 hD C f (v := 2) (by decide)) (.nil _))))).from (says_wit (rm_mem C))
end
end Mine

namespace Mine
noncomputable section
variable {prog : Program} {w : World} {D : Nat}

-- near and far: fronts, first, second, behind
structure Mm where
  a : Int
  b : Int
  x : Int
  y : Int
  z : Int
noncomputable def mmOf (C : Nat → Int) : Mm := ⟨((C 2).fdiv 4).fmod 2, ((C 3).fdiv 4).fmod 2, (C 1).fmod 7, (C 0).fmod 7, (C 7).fmod 7⟩
noncomputable def mms : List Mm := [0, 1].flatMap fun a => [0, 1].flatMap fun b => [0, 1, 2, 3, 4, 5, 6].flatMap fun x => [0, 1, 2, 3, 4, 5, 6].flatMap fun y => [0, 1, 2, 3, 4, 5, 6].map fun z => ⟨a, b, x, y, z⟩
theorem mm_mem (C : Nat → Int) : mmOf C ∈ mms := by
  unfold mms
  exact List.mem_flatMap.mpr ⟨_, fmod_mem ((C 2).fdiv 4) 2 (by decide), List.mem_flatMap.mpr ⟨_, fmod_mem ((C 3).fdiv 4) 2 (by decide), List.mem_flatMap.mpr ⟨_, fmod_mem (C 1) 7 (by decide), List.mem_flatMap.mpr ⟨_, fmod_mem (C 0) 7 (by decide), List.mem_map.mpr ⟨_, fmod_mem (C 7) 7 (by decide), rfl⟩⟩⟩⟩⟩
noncomputable def near (m : Mm) : Str := tb m.a ++ sp m.x ++ nm "\t"
noncomputable def far (m : Mm) : Str := tb m.b ++ sp m.y ++ nm "\t" ++ sp m.z
noncomputable def vI (m : Mm) : List (Str × AV) := [(nm "due", .ref 12), (nm "far", (wspOf (far m)).av), (nm "near", (wspOf (near m)).av), (nm "behind", .int true m.z), (nm "second", .int true m.y), (nm "first", .int true m.x), (nm "fronts", .ref 11)]
noncomputable def obM (q : Rm) (m : Mm) (L : List AV) : Obs := obW q ++ [some [.int true m.a, .int true m.b], some L]
abbrev rep (n : Int) : Prop := 1 = 1 ∧ 0 ≤ n ∧ n < 64
noncomputable def obN (m : Mm) : List Prop := [rep m.a, rep m.x, (tb m.a).length + (sp m.x).length ≤ sizeLine, (tb m.a ++ sp m.x).length + (nm "\t").length ≤ sizeLine, endOk (near m) = true,
  rep m.b, rep m.y, (tb m.b).length + (sp m.y).length ≤ sizeLine, (tb m.b ++ sp m.y).length + (nm "\t").length ≤ sizeLine, rep m.z, (tb m.b ++ sp m.y ++ nm "\t").length + (sp m.z).length ≤ sizeLine, endOk (far m) = true]
theorem segI1 (hD : D < 589) (C : Nat → Int) (f : Bool) (hp : AllP (obN (mmOf C))) : SSound prog w D ⟨scL w.params, vG C f, obW (rm C)⟩ (execs (partL w.params 17 7)) (.next, ⟨scL w.params, vI (mmOf C), obM (rm C) (mmOf C) []⟩) :=
  goto_ (x := exC (fnL hD f) md0 20 _ [] _) (by kernel_rfl) (c := obN (mmOf C)) (by kernel_rfl) hp
end
end Mine

namespace Mine
noncomputable section
variable {prog : Program} {w : World} {D : Nat}

noncomputable def e1 (m : Mm) (d : Int) : Int := d * m.a + m.x + d - m.x.fmod d
noncomputable def e2 (m : Mm) (d : Int) : Int := d * m.b + m.y + d - m.y.fmod d + m.z
noncomputable def dueT (m : Mm) (d : Int) : AV := .tup [.int true d, .int true (e1 m d), .int true (e2 m d)]
noncomputable def dueL (m : Mm) : Int → Nat → List AV
  | _, 0 => []
  | i, k + 1 => dueT m i :: dueL m (i + 1) k
noncomputable def mx (m : Mm) : Int := if (if m.x < m.y then m.y else m.x) < m.z then m.z else if m.x < m.y then m.y else m.x
theorem turn24 (m : Mm) (q : Rm) {L : List AV} (hL : L.length ≤ 64) {d : Int} (hd : tsOk d) : SSound prog w D ⟨scL w.params, [(nm "d", .int false d)] ++ vI m, obM q m L⟩ (execs (forB (stL w.params 24))) (.next, ⟨scL w.params, vI m, obM q m (L ++ [dueT m d])⟩) := by
  have sd : small d := by unfold small; omega
  have nd : d ≠ 0 := by omega
  have S : SSound prog w D ⟨scL w.params, [(nm "d", .int true d)] ++ vI m, obM q m L⟩ (execs (forB (stL w.params 24))) (.next, ⟨scL w.params, vI m, obM q m (L ++ [dueT m d])⟩) := goto_ (x := exC fn0 md0 20 _ [] _) (by kernel_rfl) (c := [small d, d ≠ 0, small d, d ≠ 0, L.length ≤ 4096]) (by kernel_rfl) (.cons sd (.cons nd (.cons sd (.cons nd (.cons (Nat.le_trans hL (by decide)) .nil)))))
  exact S.from (says_er rfl rfl)
theorem f24 (P : Params) : forOk (scL P) (stL P 24) = true := by kernel_rfl
theorem k24 (P : Params) (d : Int) : BindS (forT (stL P 24)) (.int false d) [(nm "d", .int false d)] := taken (by kernel_rfl)
theorem runs24 (m : Mm) (q : Rm) : ∀ (k : Nat) {i : Int} {L : List AV}, 1 ≤ i → i + k ≤ 64 → L.length + k ≤ 64 → Runs prog w D (forT (stL w.params 24)) (forB (stL w.params 24)) (rngL i k) ⟨scL w.params, vI m, obM q m L⟩ (.next, ⟨scL w.params, vI m, obM q m (L ++ dueL m i k)⟩)
  | 0, i, L, _, _, _ => by rw [dueL, List.append_nil]; exact .nil _
  | k + 1, i, L, h1, h2, h3 => by
    have r := runs24 m q k (i := i + 1) (L := L ++ [dueT m i]) (by omega) (by omega) (by rw [List.length_append, List.length_singleton]; omega)
    rw [List.append_assoc] at r
    exact .step (k24 _ i) (turn24 m q (by omega) ⟨h1, by omega⟩) r
noncomputable def due (m : Mm) : List AV := dueL m 1 (mx m + 2 - 1).toNat
theorem seg24 (m : Mm) (q : Rm) (hm : 0 ≤ mx m ∧ mx m < 7) : XS prog w D ⟨scL w.params, vI m, obM q m []⟩ (stL w.params 24) ⟨scL w.params, vI m, obM q m (due m)⟩ := by
  have hi : ES prog w D ⟨scL w.params, vI m, obM q m []⟩ (forIt (stL w.params 24)) (.rng 1 (mx m + 2)) := got (x := evC fn0 md0 9 _ _) (by kernel_rfl) (c := [small 1 ∧ small (mx m + 2)]) (by kernel_rfl) (.cons ⟨by decide, by unfold small; omega⟩ .nil)
  exact for_of (f24 w.params) hi iter_rng rfl (rng_noRef _ _) (runs24 m q _ (i := 1) (L := []) (by decide) (by omega) (by rw [List.length_nil]; omega))
-- the two lists behind
noncomputable def asIs : (st : Stmt) → Option {q : Expr × Expr × CmpOp × Expr × Pos × Pos × Pos // st = .Return (some (.Compare q.1 [.Is] [.Compare q.2.1 [q.2.2.1] [q.2.2.2.1] q.2.2.2.2.1] q.2.2.2.2.2.1)) q.2.2.2.2.2.2}
  | .Return (some (.Compare l [.Is] [.Compare a [op] [b] p1] p2)) p3 => some ⟨(l, a, op, b, p1, p2, p3), rfl⟩
  | _ => none
noncomputable def isQ (st : Stmt) : Expr × Expr × CmpOp × Expr × Pos × Pos × Pos := match asIs st with | some q => q.1 | none => (.Name (nm "") noPos, .Name (nm "") noPos, .Eq, .Name (nm "") noPos, noPos, noPos, noPos)
theorem is_eq {st : Stmt} (h : (asIs st).isSome = true) : st = .Return (some (.Compare (isQ st).1 [.Is] [.Compare (isQ st).2.1 [(isQ st).2.2.1] [(isQ st).2.2.2.1] (isQ st).2.2.2.2.1] (isQ st).2.2.2.2.2.1)) (isQ st).2.2.2.2.2.2 := by
  unfold isQ
  cases q : asIs st with
  | none => rw [q] at h; cases h
  | some x => exact x.2
noncomputable def pick (m : Mm) (g : Int → Int → Bool) : Int → Nat → List (Bool × AV)
  | _, 0 => []
  | i, k + 1 => (g (e1 m i) (e2 m i), dueT m i) :: pick m g (i + 1) k
noncomputable def gne (a b : Int) : Bool := !(a == b)
noncomputable def gge (a b : Int) : Bool := decide (a ≥ b)
theorem c25 (m : Mm) (q : Rm) : (List.range 7).map (fun k => (valOf (evC (prog := prog) (w := w) (D := D) fn0 md0 9 ⟨scL w.params, vI m, obM q m (dueL m 1 (k + 1))⟩ (ifQ (stL w.params 25)).2.2.1), obsOf (evC (prog := prog) (w := w) (D := D) fn0 md0 9 ⟨scL w.params, vI m, obM q m (dueL m 1 (k + 1))⟩ (ifQ (stL w.params 25)).2.2.1))) =
    (List.range 7).map fun k => (some (.lst (outB (pick m gne 1 (k + 1)))), []) := by kernel_rfl
theorem c26 (m : Mm) (q : Rm) : (List.range 7).map (fun k => (valOf (evC (prog := prog) (w := w) (D := D) fn0 md0 9 ⟨scL w.params, vI m, obM q m (dueL m 1 (k + 1))⟩ (isQ (stL w.params 26)).2.1), obsOf (evC (prog := prog) (w := w) (D := D) fn0 md0 9 ⟨scL w.params, vI m, obM q m (dueL m 1 (k + 1))⟩ (isQ (stL w.params 26)).2.1))) =
    (List.range 7).map fun k => (some (.lst (outB (pick m gge 1 (k + 1)))), []) := by kernel_rfl
theorem l25 (hD : D < 599) (m : Mm) (q : Rm) (L : List AV) (h : (wspOf (near m)).ok' ∧ (wspOf (far m)).ok') : ES prog w D ⟨scL w.params, vI m, obM q m L⟩ (ifQ (stL w.params 25)).1 (.lst (wit (wspOf (near m)) (wspOf (far m)))) := got (x := evC fn0 (md4 hD) 9 _ _) (by kernel_rfl) (c := [(wspOf (near m)).ok' ∧ (wspOf (far m)).ok']) (by kernel_rfl) (.cons h .nil)
theorem l26 (hD : D < 599) (m : Mm) (q : Rm) (L : List AV) (h : (wspOf (near m)).ok' ∧ (wspOf (far m)).ok') : ES prog w D ⟨scL w.params, vI m, obM q m L⟩ (isQ (stL w.params 26)).1 (.bool true (lessB (wspOf (near m)) (wspOf (far m)))) := got (x := evC fn0 (md4 hD) 9 _ _) (by kernel_rfl) (c := [(wspOf (near m)).ok' ∧ (wspOf (far m)).ok']) (by kernel_rfl) (.cons h .nil)
theorem e26 (m : Mm) (q : Rm) (L : List AV) : ES prog w D ⟨scL w.params, vI m, obM q m L⟩ (isQ (stL w.params 26)).2.2.2.1 (.lst []) := got (x := evC fn0 md0 9 _ _) (by kernel_rfl) (c := []) (by kernel_rfl) .nil
theorem is25 (P : Params) : (asIfC (stL P 25)).isSome = true := by kernel_rfl
theorem op25 (P : Params) : (ifQ (stL P 25)).2.1 = .NotEq := by kernel_rfl
theorem is26 (P : Params) : (asIs (stL P 26)).isSome = true := by kernel_rfl
theorem op26 (P : Params) : (isQ (stL P 26)).2.2.1 = .Eq := by kernel_rfl
end
end Mine

namespace Mine
noncomputable section
variable {prog : Program} {w : World} {D : Nat} {σ : SE}

abbrev nM (m : Mm) : Nat := (mx m + 2 - 1).toNat
abbrev nearW (m : Mm) : Wsp := wspOf (near m)
abbrev farW (m : Mm) : Wsp := wspOf (far m)
/-- near hangs on a and x alone, far on b, y, z -/
noncomputable def nr (a x : Int) : Mm := ⟨a, 0, x, 0, 0⟩
noncomputable def fr (b y z : Int) : Mm := ⟨0, b, 0, y, z⟩
noncomputable def r2 : List Int := [0, 1]
noncomputable def r7 : List Int := [0, 1, 2, 3, 4, 5, 6]
noncomputable def r8 : List Int := [1, 2, 3, 4, 5, 6, 7]
theorem mem8 {d : Int} (h1 : 1 ≤ d) (h2 : d ≤ 7) : d ∈ r8 := by
  obtain ⟨n, rfl⟩ := Int.eq_ofNat_of_zero_le (Int.le_trans (by decide) h1)
  have k : ∀ n : Nat, n < 8 → 1 ≤ n → (n : Int) ∈ r8 := by decide
  exact k n (Nat.lt_succ_of_le (Int.ofNat_le.mp h2)) (Int.ofNat_le.mp h1)
theorem tn_f (v : Int) : v + 2 - 1 = v + 1 := Int.add_sub_assoc v 2 1
theorem tn_a {v : Int} (h : 0 ≤ v) : (v + 2 - 1).toNat = v.toNat + 1 := by
  rw [tn_f]
  obtain ⟨n, rfl⟩ := Int.eq_ofNat_of_zero_le h
  rfl
theorem tn_b {v : Int} : (v + 1 + 1 - 1).toNat = (v + 2 - 1).toNat := congrArg (fun x : Int => (x - 1).toNat) (Int.add_assoc v 1 1)
theorem tn_c {v : Int} : (v + 1 + 1 - 2).toNat = v.toNat := congrArg Int.toNat ((congrArg (· - 2) (Int.add_assoc v 1 1)).trans (Int.add_sub_cancel v 2))
theorem tn_g {v : Int} (h : 0 ≤ v) (h7 : v < 7) : v.toNat < 7 := by omega
theorem tn_d {v d : Int} (h : 0 ≤ v) (h7 : v < 7) (h1 : d < 1 + ((v + 2 - 1).toNat : Int)) : d ≤ 7 := by omega
theorem tn_e {v d : Int} (h : 0 ≤ v) (h7 : v < 7) (h1 : d < 2 + (v.toNat : Int)) : d ≤ 7 := by omega
theorem m_in : ∀ {m : Mm}, m ∈ mms → m.a ∈ r2 ∧ m.b ∈ r2 ∧ m.x ∈ r7 ∧ m.y ∈ r7 ∧ m.z ∈ r7 := fun {m} h => by
  obtain ⟨a, ha, h⟩ := List.mem_flatMap.mp h
  obtain ⟨b, hb, h⟩ := List.mem_flatMap.mp h
  obtain ⟨x, hx, h⟩ := List.mem_flatMap.mp h
  obtain ⟨y, hy, h⟩ := List.mem_flatMap.mp h
  obtain ⟨z, hz, rfl⟩ := List.mem_map.mp h
  exact ⟨ha, hb, hx, hy, hz⟩
theorem near_all : ∀ a ∈ r2, ∀ x ∈ r7, (endOk (near (nr a x)) = true ∧ (nearW (nr a x)).ok' ∧ longest (nearW (nr a x)) = x ∧ (nearW (nr a x)).n = e1 (nr a x) 1 ∧ (nearW (nr a x)).nt = a + 1 ∧ (nearW (nr a x)).sim = (x == 0)) ∧ ∀ d ∈ r8, ind (nearW (nr a x)) d = e1 (nr a x) d := of_decide_eq_true (by kernel_rfl)
theorem far_all : ∀ b ∈ r2, ∀ y ∈ r7, ∀ z ∈ r7, (endOk (far (fr b y z)) = true ∧ (farW (fr b y z)).ok' ∧ longest (farW (fr b y z)) = (if y < z then z else y) ∧ (farW (fr b y z)).n = e2 (fr b y z) 1 ∧ (farW (fr b y z)).nt = b + 1 ∧ (farW (fr b y z)).sim = (y == 0)) ∧ ∀ d ∈ r8, ind (farW (fr b y z)) d = e2 (fr b y z) d := of_decide_eq_true (by kernel_rfl)
theorem wit_pick {v o : Wsp} {m : Mm} : ∀ (k : Nat) (i : Int), (∀ d, i ≤ d → d < i + k → ind v d = e1 m d ∧ ind o d = e2 m d) → ers (witL v o i k) = ers (outB (pick m gne i k))
  | 0, _, _ => rfl
  | k + 1, i, h => by
    have ih := wit_pick k (i + 1) fun d h1 h2 => h d (by omega) (by omega)
    obtain ⟨h1, h2⟩ := h i (by omega) (by omega)
    unfold witL pick witT
    rw [h1, h2]
    show ers (match !(e1 m i == e2 m i) with | true => _ | false => _) = ers (outB ((!(e1 m i == e2 m i), _) :: _))
    cases !(e1 m i == e2 m i) with
    | true => exact congrArg (er (dueT m i) :: ·) ih
    | false => exact ih
theorem below_pick {v o : Wsp} {m : Mm} : ∀ (k : Nat) (i : Int), (∀ d, i ≤ d → d < i + k → ind v d = e1 m d ∧ ind o d = e2 m d) → below v o i k = (outB (pick m gge i k)).isEmpty
  | 0, _, _ => rfl
  | k + 1, i, h => by
    have ih := below_pick k (i + 1) fun d h1 h2 => h d (by omega) (by omega)
    obtain ⟨h1, h2⟩ := h i (by omega) (by omega)
    unfold below pick
    rw [h1, h2]
    show _ = (outB ((decide (e1 m i ≥ e2 m i), _) :: _)).isEmpty
    cases decide (e1 m i ≥ e2 m i) with
    | true => rfl
    | false => exact ih
theorem m_ok {m : Mm} (hm : m ∈ mms) : endOk (near m) = true ∧ endOk (far m) = true ∧ (nearW m).ok' ∧ (farW m).ok' := by
  obtain ⟨ha, hb, hx, hy, hz⟩ := m_in hm
  have h1 := (near_all _ ha _ hx).1
  have h2 := (far_all _ hb _ hy _ hz).1
  exact ⟨h1.1, h2.1, h1.2.1, h2.2.1⟩
theorem m_top {m : Mm} (hm : m ∈ mms) : topN (nearW m) (farW m) = mx m + 1 := by
  obtain ⟨ha, hb, hx, hy, hz⟩ := m_in hm
  have h1 : longest (nearW m) = m.x := (near_all _ ha _ hx).1.2.2.1
  have h2 : longest (farW m) = if m.y < m.z then m.z else m.y := (far_all _ hb _ hy _ hz).1.2.2.1
  unfold topN mx
  rw [h1, h2]
  (repeat' split) <;> omega
theorem m_wit {m : Mm} (hm : m ∈ mms) (hb : 0 ≤ mx m ∧ mx m < 7) : ers (wit (nearW m) (farW m)) = ers (outB (pick m gne 1 (nM m))) := by
  obtain ⟨ha, hb', hx, hy, hz⟩ := m_in hm
  unfold wit
  rw [m_top hm, tn_b]
  refine wit_pick _ 1 fun d h1 h2 => ?_
  have hd : d ∈ r8 := mem8 h1 (tn_d hb.1 hb.2 h2)
  exact ⟨(near_all _ ha _ hx).2 d hd, (far_all _ hb' _ hy _ hz).2 d hd⟩
theorem m_len : ∀ m ∈ mms, (0 ≤ m.a ∧ m.a < 64) ∧ (0 ≤ m.x ∧ m.x < 64) ∧ (0 ≤ m.b ∧ m.b < 64) ∧ (0 ≤ m.y ∧ m.y < 64) ∧ (0 ≤ m.z ∧ m.z < 64) ∧ (0 ≤ mx m ∧ mx m < 7) := fun m hm => by
  obtain ⟨ha, hb, hx, hy, hz⟩ := m_in hm
  have k2 : ∀ v ∈ r2, 0 ≤ v ∧ v < 2 := by decide
  have k7 : ∀ v ∈ r7, 0 ≤ v ∧ v < 7 := by decide
  have := k2 _ ha; have := k2 _ hb; have := k7 _ hx; have := k7 _ hy; have := k7 _ hz
  refine ⟨by omega, by omega, by omega, by omega, by omega, ?_⟩
  unfold mx
  (repeat' split) <;> omega
theorem simple_all : ∀ a ∈ r2, ∀ b ∈ r2, ∀ z ∈ r7, gge (e1 ⟨a, b, 0, 0, z⟩ 1) (e2 ⟨a, b, 0, 0, z⟩ 1) = false → decide (a + 1 ≤ b + 1) = (outB (pick ⟨a, b, 0, 0, z⟩ gge 2 (mx ⟨a, b, 0, 0, z⟩).toNat)).isEmpty := of_decide_eq_true (by kernel_rfl)
theorem m_less {m : Mm} (hm : m ∈ mms) : lessB (nearW m) (farW m) = (outB (pick m gge 1 (nM m))).isEmpty := by
  obtain ⟨ha, hb, hx, hy, hz⟩ := m_in hm
  have hmx := (m_len m hm).2.2.2.2.2
  have i1 := near_all _ ha _ hx
  have i2 := far_all _ hb _ hy _ hz
  unfold lessB
  rw [show (nearW m).n = e1 m 1 from i1.1.2.2.2.1, show (farW m).n = e2 m 1 from i2.1.2.2.2.1, show (nearW m).nt = m.a + 1 from i1.1.2.2.2.2.1, show (farW m).nt = m.b + 1 from i2.1.2.2.2.2.1, show (nearW m).sim = (m.x == 0) from i1.1.2.2.2.2.2, show (farW m).sim = (m.y == 0) from i2.1.2.2.2.2.2, show nM m = (mx m).toNat + 1 from tn_a hmx.1, m_top hm]
  unfold pick
  show (match gge (e1 m 1) (e2 m 1) with | true => _ | false => _) = (outB ((gge (e1 m 1) (e2 m 1), _) :: _)).isEmpty
  cases hg : gge (e1 m 1) (e2 m 1) with
  | true => rfl
  | false =>
    show _ = (outB (pick m gge 2 (mx m).toNat)).isEmpty
    cases h0 : (m.x == 0) && (m.y == 0) with
    | true =>
      obtain ⟨a, b, x, y, z⟩ := m
      cases eq_of_beq (and_l h0)
      cases eq_of_beq (and_r h0)
      exact simple_all a ha b hb z hz hg
    | false =>
      show below _ _ 2 _ = _
      rw [tn_c]
      refine below_pick _ 2 fun d h1 h2 => ?_
      have hd : d ∈ r8 := mem8 (Int.le_trans (by decide) h1) (tn_e hmx.1 hmx.2 h2)
      exact ⟨i1.2 d hd, i2.2 d hd⟩
end
end Mine

namespace Mine
noncomputable section
variable {prog : Program} {w : World} {D : Nat} {σ : SE}

theorem near_len : ∀ a ∈ r2, ∀ x ∈ r7, len9 (tb a) ∧ len9 (sp x) ∧ len9 (tb a ++ sp x) := of_decide_eq_true (by kernel_rfl)
theorem far_len : ∀ b ∈ r2, ∀ y ∈ r7, len9 (nm "\t") ∧ len9 (tb b) ∧ len9 (sp y) ∧ len9 (tb b ++ sp y) ∧ len9 (tb b ++ sp y ++ nm "\t") := of_decide_eq_true (by kernel_rfl)
theorem m_obN {m : Mm} (hm : m ∈ mms) : AllP (obN m) := by
  obtain ⟨h1, h2, h3, h4, h5, _⟩ := m_len m hm
  obtain ⟨ha, hb, hx, hy, hz⟩ := m_in hm
  obtain ⟨l1, l2, l3⟩ := near_len _ ha _ hx
  obtain ⟨l4, l5, l6, l7, l8⟩ := far_len _ hb _ hy
  have l9 := (near_len _ ha _ hz).2.1
  obtain ⟨k1, k2, _⟩ := m_ok hm
  exact .cons ⟨rfl, h1⟩ (.cons ⟨rfl, h2⟩ (.cons (two_len l1 l2) (.cons (two_len l3 l4) (.cons k1 (.cons ⟨rfl, h3⟩ (.cons ⟨rfl, h4⟩ (.cons (two_len l5 l6) (.cons (two_len l7 l4) (.cons ⟨rfl, h5⟩ (.cons (two_len l8 l9) (.cons k2 .nil)))))))))))
theorem ListsEq.er {l r : List AV} (h : ListsEq l l true) (e : ers l = ers r) : ListsEq l r true := ⟨fun hA hp hq vp vq => h.at_ hA hp hq vp (ers_same e.symm vq)⟩
theorem lists_nil {l : List AV} (h : l.length ≤ 64) : ListsEq l [] l.isEmpty := by
  cases l with
  | nil => exact lists_eq .nil
  | cons x l => exact lists_ne (fun e => nomatch e) ⟨h, by decide⟩
theorem x_same2 {st : Stmt} {x y : AV} {l r : List AV} (h : (asIfC st).isSome = true) (ho : (ifQ st).2.1 = .NotEq) (hl : ES prog w D σ (ifQ st).1 x) (hr : ES prog w D σ (ifQ st).2.2.1 y) (hx : ListIs σ.ob x l) (hy : ListIs σ.ob y r) (e : ListsEq l r true) : XS prog w D σ st σ := by
  rw [ifC_eq h, ho]
  exact x_if (d := false) (test_cmp hl hr ⟨rfl, cmp_lists_ne (f := false) hx hy e⟩) x_nil
theorem outB_len : ∀ (k : Nat) (m : Mm) (g : Int → Int → Bool) (i : Int), (outB (pick m g i k)).length ≤ k
  | 0, _, _, _ => Nat.le_refl _
  | k + 1, m, g, i => by
    have := outB_len k m g (i + 1)
    unfold pick
    cases h : g (e1 m i) (e2 m i) with
    | true => exact Nat.succ_le_succ this
    | false => exact Nat.le_succ_of_le this
theorem is_bb {σ : SE} (a b : Bool) : okOp .Is = true ∧ CmpS prog w D σ .Is (.bool true a) (.bool true b) (.bool true (a == b)) := got (x := cmpC σ .Is _ _) (by kernel_rfl) (c := []) (by kernel_rfl) .nil
theorem segI (hD : D < 589) (C : Nat → Int) (f : Bool) : ∃ σ', SSound prog w D ⟨scL w.params, vG C f, obW (rm C)⟩ (execs (partL w.params 17 7 ++ stL w.params 24 :: stL w.params 25 :: stL w.params 26 :: [])) (.ret (.bool true true), σ') := by
  have hm := mm_mem C
  generalize hmm : mmOf C = m at hm
  have hb := (m_len m hm).2.2.2.2.2
  have hok := (m_ok hm).2.2
  have S1 := segI1 (prog := prog) (w := w) hD C f (hmm ▸ m_obN hm)
  rw [hmm] at S1
  have S2 := seg24 (prog := prog) (w := w) (D := D) m (rm C) hb
  obtain ⟨k, hk, hn⟩ : ∃ k ∈ List.range 7, nM m = k + 1 := ⟨(mx m).toNat, List.mem_range.mpr (tn_g hb.1 hb.2), tn_a hb.1⟩
  obtain ⟨a1, a2⟩ := Prod.mk.inj (List.map_inj_left.mp (c25 (prog := prog) (w := w) (D := D) m (rm C)) k hk)
  obtain ⟨b1, b2⟩ := Prod.mk.inj (List.map_inj_left.mp (c26 (prog := prog) (w := w) (D := D) m (rm C)) k hk)
  have hd : due m = dueL m 1 (k + 1) := by unfold due; rw [show (mx m + 2 - 1).toNat = k + 1 from hn]
  rw [hd] at S2
  have hr5 : ES prog w D ⟨scL w.params, vI m, obM (rm C) m (dueL m 1 (k + 1))⟩ _ _ := got a1 a2 .nil
  have hr6 : ES prog w D ⟨scL w.params, vI m, obM (rm C) m (dueL m 1 (k + 1))⟩ _ _ := got b1 b2 .nil
  have hw := m_wit hm hb
  have hl := m_less hm
  rw [hn] at hw hl
  have S3 := x_same2 (is25 w.params) (op25 w.params) (l25 (Nat.lt_trans hD (by decide)) m (rm C) (dueL m 1 (k + 1)) hok) hr5 tup_is tup_is ((wit_eq _ _).er hw)
  have hlen := outB_len (k + 1) m gge 1
  have hk7 := List.mem_range.mp hk
  have he : ES prog w D ⟨scL w.params, vI m, obM (rm C) m (dueL m 1 (k + 1))⟩ (.Compare (isQ (stL w.params 26)).2.1 [(isQ (stL w.params 26)).2.2.1] [(isQ (stL w.params 26)).2.2.2.1] (isQ (stL w.params 26)).2.2.2.2.1) (.bool true (outB (pick m gge 1 (k + 1))).isEmpty) := r_cmp hr6 (e26 m _ _) (by rw [op26]; exact ⟨rfl, cmp_lists_eq tup_is tup_is (lists_nil (Nat.le_trans hlen (Nat.le_trans hk7 (by decide))))⟩)
  have hret := x_ret (p := (isQ (stL w.params 26)).2.2.2.2.2.2) (r_cmp (p := (isQ (stL w.params 26)).2.2.2.2.2.1) (l26 (Nat.lt_trans hD (by decide)) m (rm C) (dueL m 1 (k + 1)) hok) he (is_bb _ _)) (frz_val rfl)
  rw [← is_eq (is26 w.params), hl, beq_self_eq_true] at hret
  exact ⟨_, blocks S1 (x_seq S2 (x_seq S3 (x_stop (fun e => nomatch e) hret)))⟩
end
end Mine

namespace Mine
noncomputable section
variable {prog : Program} {w : World} {D : Nat} {σ : SE}

-- cells[i % 8] += x % 10 ** 6
theorem x_augset {o i e : Expr} {ip pos : Pos} {op : Operator} {j : Nat} {l : List AV} {p : Bool} {k : Int} {old c new : AV} (ho : ES prog w D σ o (.ref j)) (hi : ES prog w D σ i (.int p k)) (hg : IdxS l k old) (he : ES prog w D σ e c) (hop : IopS prog w op old c new) (hl : σ.ob[j]? = some (some l)) (hk : 0 ≤ k ∧ k < l.length ∧ l.length ≤ 4096)
    (ha : ∀ ov iv new, augStore i ov iv new = (do holding [new, ov, iv] (setItem ov iv new); release [new, ov, iv] []; pure .next)) : XS prog w D σ (.AugAssign (.Subscript o i ip) op e pos) ⟨σ.sc, σ.vs, σ.ob.set j (some (l.set k.toNat new))⟩ :=
  ⟨rfl, fun {A E s F Q} C N ⟨sa, b, H⟩ g => wpAny_AugAssign_Subscript_any (ho.st C N H fun u1 g1 t1 k1 H1 hu1 => hi.st (s := { s with heap := g1, toks := t1 }) C N H1 fun u2 g2 t2 k2 H2 hu2 => by
    obtain ⟨ad, had, rfl⟩ := hu1
    obtain ⟨tt, rfl⟩ := hu2
    obtain ⟨a1, ws, p1, q1, r1⟩ := H2.objs j l hl
    cases had.symm.trans p1
    obtain ⟨⟨h1, h2, h3⟩, u, hu, hvu⟩ := hg r1
    refine wpAny_getItem_list q1.isList h1 (by omega) (by simpa using hu) ?_
    exact he.st (s := { s with heap := g2, toks := t2 }) C N H2 fun u4 g4 t4 k4 H4 hu4 => hop (hvu.up k4) hu4 fun u5 s5 k5 hu5 => by
      obtain ⟨g5, t5, rfl, k5⟩ := k5
      exact set_st (s := { s with heap := g5, toks := t5 }) (H4.up k5) had hl hk hu5 fun g6 hg => g g6 t5 .next ⟨rfl, hg⟩) ha⟩
noncomputable def asAug : (st : Stmt) → Option {q : Expr × Expr × Pos × Operator × Expr × Pos // st = .AugAssign (.Subscript q.1 q.2.1 q.2.2.1) q.2.2.2.1 q.2.2.2.2.1 q.2.2.2.2.2}
  | .AugAssign (.Subscript o i p) op e pos => some ⟨(o, i, p, op, e, pos), rfl⟩
  | _ => none
noncomputable def augQ (st : Stmt) : Expr × Expr × Pos × Operator × Expr × Pos := match asAug st with | some q => q.1 | none => (.Name (nm "") noPos, .Name (nm "") noPos, noPos, .Add, .Name (nm "") noPos, noPos)
theorem aug_eq {st : Stmt} (h : (asAug st).isSome = true) : st = .AugAssign (.Subscript (augQ st).1 (augQ st).2.1 (augQ st).2.2.1) (augQ st).2.2.2.1 (augQ st).2.2.2.2.1 (augQ st).2.2.2.2.2 := by
  unfold augQ
  cases q : asAug st with
  | none => rw [q] at h; cases h
  | some x => exact x.2
noncomputable def au1 (P : Params) : Stmt := stAt (forB (stL P 1)) 0
theorem body1 (P : Params) : forB (stL P 1) = [au1 P] := by kernel_rfl
theorem au1_is (P : Params) : (asAug (au1 P)).isSome = true := by kernel_rfl
theorem au1_op (P : Params) : (augQ (au1 P)).2.2.2.1 = .Add := by kernel_rfl
theorem au1_st (P : Params) : ∀ ov iv new, augStore (augQ (au1 P)).2.1 ov iv new = (do holding [new, ov, iv] (setItem ov iv new); release [new, ov, iv] []; pure .next) := fun ov iv new => by kernel_rfl
end
end Mine

namespace Mine
noncomputable section
variable {prog : Program} {w : World} {D : Nat} {σ : SE}

theorem intsL_ltr : ∀ l : List Int, IntsL (ltr l) l
  | [] => .nil
  | a :: l => .cons true a (intsL_ltr l)
abbrev M6 : Int := 1000000
noncomputable def put1 (l : List Int) (i x : Int) : List Int := l.set (i.fmod 8).toNat (l.getD (i.fmod 8).toNat 0 + x.fmod M6)
noncomputable def v1 (X : AV) : List (Str × AV) := [(nm "cells", .ref 0), (nm "script", X)]
noncomputable def en (i x : Int) : AV := .tup [.int true i, .int true x]
noncomputable def b1 (i x : Int) : List (Str × AV) := [(nm "x", .int true x), (nm "i", .int true i)]
theorem k1 (P : Params) (i x : Int) : BindS (forT (stL P 1)) (en i x) (b1 i x) := taken (by kernel_rfl)
theorem turn1 (X : AV) {l : List Int} (hl : l.length = 8) (i x : Int) : SSound prog w D ⟨scL w.params, b1 i x ++ v1 X, [some (ltr l)]⟩ (execs (forB (stL w.params 1))) (.next, ⟨scL w.params, v1 X, [some (ltr (put1 l i x))]⟩) := by
  have hm := fmod_bd (a := i) (k := 8) (by decide)
  have hlen : (ltr l).length = 8 := (List.length_map _).trans hl
  have ho : ES prog w D ⟨scL w.params, b1 i x ++ v1 X, [some (ltr l)]⟩ (augQ (au1 w.params)).1 (.ref 0) := got (x := evC fn0 md0 9 _ _) (by kernel_rfl) (c := []) (by kernel_rfl) .nil
  have hi : ES prog w D ⟨scL w.params, b1 i x ++ v1 X, [some (ltr l)]⟩ (augQ (au1 w.params)).2.1 (.int true (i.fmod 8)) := got (x := evC fn0 md0 9 _ _) (by kernel_rfl) (c := []) (by kernel_rfl) .nil
  have he : ES prog w D ⟨scL w.params, b1 i x ++ v1 X, [some (ltr l)]⟩ (augQ (au1 w.params)).2.2.2.2.1 (.int true (x.fmod M6)) := got (x := evC fn0 md0 9 _ _) (by kernel_rfl) (c := []) (by kernel_rfl) .nil
  have hop : IopS prog w .Add (.int true (l.getD (i.fmod 8).toNat 0)) (.int true (x.fmod M6)) (.int true (l.getD (i.fmod 8).toNat 0 + x.fmod M6)) := got (x := iopC .Add _ _) (by kernel_rfl) (c := []) (by kernel_rfl) .nil
  have S := x_augset (ip := (augQ (au1 w.params)).2.2.1) (pos := (augQ (au1 w.params)).2.2.2.2.2) ho hi (idx_int (intsL_ltr l) (by omega) (by omega)) he hop (l := ltr l) rfl (by omega) (au1_st _)
  rw [← au1_op w.params, ← aug_eq (au1_is w.params)] at S
  rw [body1]
  refine x_seq (S.says (σ2 := ⟨scL w.params, v1 X, [some (ltr (put1 l i x))]⟩) ?_) x_nil
  have e : (ltr l).set (i.fmod 8).toNat (.int true (l.getD (i.fmod 8).toNat 0 + x.fmod M6)) = ltr (put1 l i x) := (List.map_set ..).symm
  show Says w ⟨scL w.params, b1 i x ++ v1 X, [some ((ltr l).set (i.fmod 8).toNat (.int true (l.getD (i.fmod 8).toNat 0 + x.fmod M6)))]⟩ _
  rw [e]
  exact says_of (fun y v' h => ⟨v', (lookup_cons_ne fun e => by subst e; cases h).trans ((lookup_cons_ne fun e => by subst e; cases h).trans h), fun h => h⟩) rfl
noncomputable def put8 : List Int → Int → List Int → List Int
  | l, _, [] => l
  | l, i, x :: xs => put8 (put1 l i x) (i + 1) xs
noncomputable def enL : Int → List Int → List AV
  | _, [] => []
  | i, x :: xs => en i x :: enL (i + 1) xs
theorem put1_len {l : List Int} (hl : l.length = 8) (i x : Int) : (put1 l i x).length = 8 := (List.length_set ..).trans hl
theorem put8_len : ∀ (xs : List Int) {l : List Int} {i : Int}, l.length = 8 → (put8 l i xs).length = 8
  | [], _, _, h => h
  | x :: xs, l, i, h => put8_len xs (put1_len h i x)
theorem runs1 (X : AV) : ∀ (xs : List Int) {l : List Int} {i : Int}, l.length = 8 → Runs prog w D (forT (stL w.params 1)) (forB (stL w.params 1)) (enL i xs) ⟨scL w.params, v1 X, [some (ltr l)]⟩ (.next, ⟨scL w.params, v1 X, [some (ltr (put8 l i xs))]⟩)
  | [], l, i, _ => .nil _
  | x :: xs, l, i, h => .step (k1 _ i x) (turn1 X h i x) (runs1 X xs (put1_len h i x))
end
end Mine

namespace Mine
noncomputable section
variable {prog : Program} {w : World} {D : Nat} {A : Around} {mu : Addr → Prop} {sa : List Addr}

theorem enL_len : ∀ (xs : List Int) (a : Int), (enL a xs).length = xs.length
  | [], _ => rfl
  | _ :: xs, a => congrArg Nat.succ (enL_len xs (a + 1))
theorem enL_get : ∀ (xs : List Int) (a : Int) (i : Nat) {y : Int}, xs[i]? = some y → (enL a xs)[i]? = some (en (a + i) y)
  | x :: xs, a, 0, y, h => by cases h; rw [enL]; exact congrArg (fun z => some (en z x)) (Int.add_zero a).symm
  | x :: xs, a, i + 1, y, h => by
    rw [enL, List.getElem?_cons_succ, enL_get xs (a + 1) i h]
    exact congrArg (fun z => some (en z y)) (by omega)
abbrev enSt (e it l : Addr) (ws : List Value) (i : Nat) (g : Heap) : Prop := (∃ old, IsEnum g e it i old) ∧ (g.IsListIter it l i ∧ g.IsList l ws.toArray)
theorem iter_enum {h h₂ : Heap} {l : Addr} {xs : List Int} {ws : List Value} {elts : List Expr} {k : Nat} {pos : Pos} (C : Cx A D) (hp : h.PlainList l ws.toArray) (hv : Vals mu sa h (ltr xs) ws) (hE : IsEnum h₂ (h.objs.size + 1) h.objs.size 0 .none) (hI : h₂.IsListIter h.objs.size l 0) (hsz : h₂.objs.size = h.objs.size + 2) (hk : KeepH h h₂) :
    Iter prog w A mu sa (enL 0 xs) (.Tuple elts k pos) h h₂ (h.objs.size + 1) [h.objs.size + 1, h.objs.size, l] [h.objs.size + 1, h.objs.size] (enSt (h.objs.size + 1) h.objs.size l ws)
      (fun i v g => ∃ T, v = .ref T ∧ ((∃ x, IsEnumOut g (h.objs.size + 1) h.objs.size ((i : Int) + 1) x T) ∧ (g.IsListIter h.objs.size l (i + 1) ∧ g.IsList l ws.toArray) ∧ T ≠ h.objs.size + 1 ∧ T ≠ h.objs.size)) := by
  have hlt : l < h.objs.size := by obtain ⟨n, hp⟩ := hp; exact Heap.lt_size hp
  have hlen : ws.toArray.size = (enL 0 xs).length := by rw [enL_len, List.size_toArray, hv.length, List.length_map]
  have Dr := Draws.list (prog := prog) (w := w) (A := A.in1) C.hh h.objs.size l (Nat.ne_of_lt hlt) ws.toArray
  have hei : h.objs.size + 1 ≠ h.objs.size := Nat.succ_ne_self _
  have hef : h.objs.size + 1 ∉ [h.objs.size, l] := fun e => (List.mem_cons.mp e).elim hei fun e => absurd ((List.mem_singleton.mp e).symm ▸ hlt : h.objs.size + 1 < h.objs.size) (Nat.not_lt.mpr (Nat.le_succ _))
  have W := WalksT.enumerateD Dr (h.objs.size + 1) hei hef (List.mem_cons_self ..)
  have hL : ∀ b, b ∈ [h.objs.size + 1, h.objs.size] → h.get? b = none := all_cons (Heap.get?_none_of_le (Nat.le_succ _)) (all_cons (Heap.get?_none_of_le (Nat.le_refl _)) all_nil)
  refine { sub := W.sub, frame := W.frame, item := fun i s Q E hi st hQ => ?_, go := fun i v s Q E m hQ => ?_, done := fun s Q E st hQ => W.done s Q E (by rw [hlen]; exact st) hQ, self := W.self, start := ⟨⟨_, hE⟩, hI, hp.isList.at fun o e => hk _ _ e⟩, below := all_cons (by rw [hsz]; exact Nat.lt_succ_self _) (all_cons (by rw [hsz]; exact Nat.lt_succ_of_lt (Nat.lt_succ_self _)) (all_cons (by rw [hsz]; exact Nat.lt_add_right 2 hlt) all_nil)), fresh := hL, keeps := hk, live := fun i g st => all_cons (let ⟨_, e⟩ := st.1; ⟨_, e⟩) (all_cons (let ⟨o, e, _⟩ := st.2.1; ⟨o, e⟩) all_nil) }
  · obtain ⟨⟨old, he⟩, hs⟩ := st
    refine wpAny_pyNext_enum_itemD Dr he hs (hlen ▸ hi) hei hef fun x h' tk hP ho hs' hT hsz' hk' => ?_
    have hix : i < xs.length := by rw [enL_len] at hi; exact hi
    have hel := Heap.lt_size he
    have hil : h.objs.size < s.heap.objs.size := by obtain ⟨o, e, _⟩ := hs.1; exact Heap.lt_size e
    refine hQ _ h' (tk + 1) ⟨en i xs[i], by rw [enL_get xs 0 i (List.getElem?_eq_getElem hix), Int.zero_add], fun mu' L M => ?_⟩ ⟨_, rfl, ⟨_, ho⟩, hs', Nat.ne_of_gt hel, Nat.ne_of_gt hil⟩ fun b o hb e => hk' b o (fun q => hb (by simp [q])) (fun q => hb (by simp [q])) e
    rw [List.getElem?_toArray] at hP
    obtain ⟨u, hu, t, rfl⟩ := hv.get (x := .int true xs[i]) (i := i) (by rw [List.getElem?_map, List.getElem?_eq_getElem hix]; rfl)
    cases hu.symm.trans hP
    exact ⟨_, _, _, rfl, fun e => (M _ e).not fresh_size, hT, _, _, rfl, ⟨tk, rfl⟩, _, _, rfl, ⟨t, rfl⟩, rfl⟩
  · obtain ⟨T, rfl, m⟩ := m
    exact W.go elts k pos i T s Q E m hQ
end
end Mine

namespace Mine
noncomputable section
variable {prog : Program} {w : World} {D : Nat}

/-- enumerate(x[:b]), taken apart -/
structure EnQ where
  f : Str
  fp : Pos
  nn : Str
  np : Pos
  b : Nat
  k1 : Nat
  p1 : Pos
  p0 : Pos
  sp : Pos
  pos : Pos
noncomputable def EnQ.sub (q : EnQ) : Expr := .Subscript (.Name q.nn q.np) (.Slice none (some (.Constant (.int (q.b : Int)) q.k1 q.p1)) none q.p0) q.sp
noncomputable def EnQ.ex (q : EnQ) : Expr := .Call (.Name q.f q.fp) [q.sub] [] q.pos
noncomputable def asEn : (e : Expr) → Option {q : EnQ // e = q.ex}
  | .Call (.Name f fp) [.Subscript (.Name nn np) (.Slice none (some (.Constant (.int (.ofNat b)) k1 p1)) none p0) sp] [] pos => some ⟨⟨f, fp, nn, np, b, k1, p1, p0, sp, pos⟩, rfl⟩
  | _ => none
noncomputable def enQ (e : Expr) : EnQ := match asEn e with | some q => q.1 | none => ⟨nm "", noPos, nm "", noPos, 0, 0, noPos, noPos, noPos, noPos⟩
theorem en_eq {e : Expr} (h : (asEn e).isSome = true) : e = (enQ e).ex := by
  unfold enQ
  cases q : asEn e with
  | none => rw [q] at h; cases h
  | some x => exact x.2
theorem e1_is (P : Params) : (asEn (forIt (stL P 1))).isSome = true := by kernel_rfl
theorem e1_b (P : Params) : (enQ (forIt (stL P 1))).b = 60 := by kernel_rfl
noncomputable def asTup : (t : Expr) → Option {q : List Expr × Nat × Pos // t = .Tuple q.1 q.2.1 q.2.2}
  | .Tuple es k p => some ⟨(es, k, p), rfl⟩
  | _ => none
theorem t1_is (P : Params) : (asTup (forT (stL P 1))).isSome = true := by kernel_rfl
theorem f1 (P : Params) : forOk (scL P) (stL P 1) = true := by kernel_rfl
theorem enL_noRef : ∀ (xs : List Int) (i : Int), noRefs (enL i xs) = true
  | [], _ => rfl
  | x :: xs, i => enL_noRef xs (i + 1)
theorem seg1 {xs : List Int} (hx : xs.length ≤ 64) {l : List Int} (hl : l.length = 8) : XS prog w D ⟨scL w.params, v1 (.lst (ltr xs)), [some (ltr l)]⟩ (stL w.params 1) ⟨scL w.params, v1 (.lst (ltr xs)), [some (ltr (put8 l 0 (xs.take 60)))]⟩ :=
  ⟨rfl, fun {A E s F Q} C N ⟨sa, b, H⟩ g => by
    rw [for_eq (and_l (and_l (f1 w.params)))]
    refine for_at (σ := ⟨scL w.params, v1 (.lst (ltr xs)), [some (ltr l)]⟩) C N (sa := sa) (b := b) (items := enL 0 (xs.take 60)) (fun {E K} kk => ?_) (by rw [en_eq (e1_is w.params)]; rfl) (enL_noRef _ _) (getP (and_r (f1 w.params))) (runs1 _ _ hl) g
    rw [en_eq (e1_is w.params)]
    have hf : NameS prog w D ⟨scL w.params, v1 (.lst (ltr xs)), [some (ltr l)]⟩ (enQ (forIt (stL w.params 1))).f (.con (.type "enumerate")) := got (x := nameC _ _) (by kernel_rfl) (c := []) (by kernel_rfl) .nil
    have hn : ES prog w D ⟨scL w.params, v1 (.lst (ltr xs)), [some (ltr l)]⟩ (.Name (enQ (forIt (stL w.params 1))).nn (enQ (forIt (stL w.params 1))).np) (.lst (ltr xs)) := got (x := evC fn0 md0 9 _ _) (by kernel_rfl) (c := []) (by kernel_rfl) .nil
    have hs : ES prog w D ⟨scL w.params, v1 (.lst (ltr xs)), [some (ltr l)]⟩ (enQ (forIt (stL w.params 1))).sub (.lst ((ltr xs).take (enQ (forIt (stL w.params 1))).b)) := r_upto hn tup_is (by rw [List.length_map]; omega)
    rw [e1_b, ← List.map_take] at hs
    have ha : AllS prog w D ⟨scL w.params, v1 (.lst (ltr xs)), [some (ltr l)]⟩ [(enQ (forIt (stL w.params 1))).sub] [.lst (ltr (xs.take 60))] := .cons hs .nil
    refine wpAny_Call_Name_kw (hf.run (H.at_ N C) fun u s₁ k₁ hu => ?_)
    cases hu
    refine PySem.callWith_type ha.star (args_pos ha ((H.at_ N C).up k₁) fun us s₂ k₂ hus => ?_)
    obtain ⟨h1, tk1, rfl, kk1⟩ := k₁
    obtain ⟨h2, tk2, rfl, kk2⟩ := k₂
    obtain ⟨v, r, rfl, ⟨la, ws, rfl, hm, hp, hv⟩, rfl⟩ := hus
    refine call_enumerate_list hp.isList fun h' hE hI hsz hk => ?_
    refine wpAny_pyIter_enum hE ?_
    obtain ⟨q, ht⟩ := Option.isSome_iff_exists.mp (t1_is w.params)
    exact kk _ _ _ _ _ h2 h' tk2 ((H.up kk1).up kk2) (by rw [q.2]; exact iter_enum C hp hv hE hI hsz hk) (all_cons (.inl (.head _)) (all_cons (.inl (.tail _ (.head _))) (all_cons (.inr ⟨hm, PlainList.lives hp⟩) all_nil)))⟩
end
end Mine

namespace Mine
noncomputable section
variable {prog : Program} {w : World} {D : Nat}

theorem bodyL (P : Params) : bdL P = partL P 0 1 ++ stL P 1 :: (partL P 2 2 ++ stL P 4 :: stL P 5 :: (partL P 6 5 ++ (partL P 11 1 ++ ((partL P 12 1 ++ [stL P 13]) ++ (partL P 14 1 ++ stL P 15 :: stL P 16 :: (partL P 17 7 ++ stL P 24 :: stL P 25 :: stL P 26 :: [])))))) := by kernel_rfl
abbrev l8 : List Int := [2, 3, 0, 3, 14, 5, 10, 9]
theorem law_run (hD : D < 588) {xs : List Int} (hx : xs.length ≤ 64) : BodyS prog w D 153 lNames [.lst (ltr xs)] (.bool true true) := by
  have hD1 : D + 1 < 589 := Nat.succ_lt_succ hD
  have hD2 : D + 1 < 599 := Nat.lt_trans hD1 (by decide)
  show ∃ σ', SSound prog w (D + 1) ⟨scL w.params, lNames.zip [.lst (ltr xs)], []⟩ (execs (bdL w.params)) (.ret (.bool true true), σ')
  have S0 : SSound prog w (D + 1) ⟨scL w.params, lNames.zip [.lst (ltr xs)], []⟩ (execs (partL w.params 0 1)) (.next, ⟨scL w.params, v1 (.lst (ltr xs)), [some (ltr l8)]⟩) := goto_ (x := exC fn0 md0 20 _ [] _) (by kernel_rfl) (c := []) (by kernel_rfl) .nil
  have h8 := put8_len (xs.take 60) (l := l8) (i := 0) rfl
  generalize hC : (fun j : Nat => (put8 l8 0 (xs.take 60)).getD j 0) = C
  have e8 : put8 l8 0 (xs.take 60) = rngC C 8 := by rw [← hC]; have := rng_is (put8 l8 0 (xs.take 60)); rw [h8] at this; exact this
  have S1 := (seg1 (prog := prog) (w := w) (D := D + 1) hx (l := l8) rfl).says (says_frz (i := 0) (l := ltr (put8 l8 0 (xs.take 60))) rfl (ltr_noRef _))
  rw [e8] at S1
  have SB := segB (prog := prog) (w := w) (D := D + 1) C (.lst (ltr xs))
  have S4 := seg4 (prog := prog) (w := w) (D := D + 1) C
  have hc := steps_mem C
  have S5 := seg5 (prog := prog) (w := w) (D := D + 1) C hc
  generalize hf : smF false (steps C) = f at S5
  have SD := segD (prog := prog) (w := w) (D := D + 1) C f
  have SE := segE (prog := prog) (w := w) hD1 C f
  have SF := segF (prog := prog) (w := w) (D := D + 1) C f hc
  have SG := seg14 (prog := prog) (w := w) (D := D + 1) C f
  have SH := seg15 (prog := prog) (w := w) hD1 hf
  have S16 := seg16 (prog := prog) (w := w) hD2 C f
  obtain ⟨σ', SI⟩ := segI (prog := prog) (w := w) hD1 C f
  rw [bodyL]
  exact ⟨σ', blocks S0 (x_seq S1 (blocks SB (x_seq S4 (x_seq S5 (blocks SD (blocks SE (blocks SF (blocks SG (x_seq SH (x_seq S16 SI))))))))))⟩
end
end Mine

namespace Mine
noncomputable section
variable {prog : Program} {w : World} {D : Nat} {A : Around} {s : Shared} {mu : Addr → Prop}

theorem fn_code {a : Addr} {names : List Str} {as : List AV} {vals : List Value} {r : AV} {R : Result → Shared → Prop} (d : Def w.params a names) (hD : D < 600) (C : Cx A D) (hbind : bindArgs (fdAt w.params a) ⟨vals, []⟩ = pure (names.zip vals)) (hv : Vals mu [] s.heap as vals) (hB : BB w s.heap) (M : MuIn mu s.heap) (run : BodyS prog w D a names as r)
    (k : ∀ u h' tk, KeepH s.heap h' → Val mu [] h' r u → R (.ok (.ret u)) { s with heap := h', toks := tk }) : codeAny (model prog w) A (.call (.ref a) ⟨vals, []⟩) R s := by
  obtain ⟨o, ho, hdata⟩ := d.at_
  obtain ⟨_, _, mg, mb, t⟩ := hB.2
  obtain ⟨σ', run⟩ := run
  have hm : ∀ p ∈ names.zip vals, p.1 ∈ names := fun p hp => (zip_map_fst_sub names vals).subset (List.mem_map.mpr ⟨p, hp, rfl⟩)
  refine codeAny_call_cells C.roomy (hB.1 _ _ ho) hdata t.nolimit (codeRec_of hB.1 d.code) d.fn.stmts hbind d.fn.clo (fun p hp => (d.binds.own _ (hm p hp)).imp id fun e => ⟨e, ?_⟩) (fun s₁ I => ?_) d.fn.co d.fn.gen d.fn.kind
  · obtain ⟨c, hc⟩ := cellsFrom_some (x := p.1) (fdAt w.params a).scope.names (s.heap.objs.size + 1) [] (.inl (lookup_mem' e))
    rw [hc]; rfl
  · obtain ⟨N, S⟩ := cells_st d.fn d.binds hv hB M I
    obtain ⟨h1, tk1, rfl⟩ := I.toInCall.same
    refine run.run (F := callF s mu (callEnvC (fdAt w.params a) s.heap.objs.size a) (fdAt w.params a)) (C.deeper hD _) N S fun h' tk fl ho => ?_
    obtain ⟨u, rfl, hk', hu⟩ := ho
    exact k u h' tk hk' hu
theorem law_code {xs : List Int} {la : Addr} {ws : List Value} (C : Cx A 580) (hB : BB w s.heap) (hx : xs.length ≤ 64) (hp : s.heap.PlainList la ws.toArray) (hi : IntsAre ws xs) {R : Result → Shared → Prop} (k : ∀ h' tk, KeepH s.heap h' → R (.ok (.ret (.bool true))) { s with heap := h', toks := tk }) : codeAny (model prog w) A (.call (.ref 153) ⟨[.ref la], []⟩) R s := by
  have hv : Vals (fun _ => False) [] s.heap (ltr xs) ws := by
    clear hp
    induction hi with
    | nil => rfl
    | cons a t _ ih => exact ⟨_, _, rfl, ⟨t, rfl⟩, ih (by rw [List.length_cons] at hx; omega)⟩
  exact fn_code (as := [.lst (ltr xs)]) (mu := fun _ => False) (d153 _) (by decide) C (b153 _ _) ⟨_, _, rfl, ⟨la, ws, rfl, fun e => e, hp, hv⟩, rfl⟩ hB (fun _ e => e.elim) (law_run (by decide) hx) fun u h' tk hk hu => by
    cases hu; exact k h' tk hk
theorem fa_is {h : Heap} {mg : Str → Option Value} (X : (KP w.params).In h) (hm : h.Ns mainGlobals mg) : mg (nm "law") = some (.ref 153) := mg_of X hm (by kernel_rfl)
end
end Mine

set_option maxHeartbeats 8000000
set_option pp.maxSteps 60
theorem Mine.plain_of {P : Params} {h : Heap} {la : Addr} {ws : List Value} {d : WData} (hL : h.IsList la ws.toArray) (hw : Well P h (.ref la) d) (hd : ∃ xs, d = .list xs) : h.PlainList la ws.toArray := by
  obtain ⟨xs, rfl⟩ := hd
  cases hw with
  | list ha _ =>
    obtain ⟨o, ho, _, n, hd⟩ := hL
    cases ha.symm.trans ho
    injection hd with e1 e2
    exact ⟨0, e1 ▸ ha⟩
theorem PySem.Challenge.cw_rs0179_01_holds : PySem.Challenge.rw_rs0179_01.Holds :=
  Mine.hd (by
  k_fill
  intro w s₀ s₁ mg mb G Y fa o pm cd doc dV kV ho hd hcd hD hmg hg args vals as hpre hlay hrd hwl hlo
  have KX := kIn_of Y
  have X := (Ground.X G).1
  have V := (Ground.X G).2
  try w_nolog (first | (have GL := glob_more (Ground.glob G (by first | k_qdec | decide +kernel) (by first | k_qdec | decide +kernel)) V) | (have GL := glob_more (Ground.glob G (by decide +kernel)) V))
  refine Ground.open G ?_
  intro T B D TE TW
  try (refine guard_noD D (by decide +kernel) ?_; clear D)
  obtain ⟨_, _, M⟩ := bmod_of_top T
  have TA := at_of_top T
  try (obtain ⟨_, _, he, B0⟩ := based_of_top T rfl hmg ho hd; have he' : cd = _ := he; subst he'; clear he)
  wrow_args hpre hlay hrd hwl hlo
  first | refine callC_kw (enter_call ?_) | refine enter_call ?_ | refine callC_kw (enter_callW ?_) | refine enter_callW ?_ | w_how
  w_top on
  try refine codeAny_mono ?_ (fun _ _ g => GoodW.toG g)
  have K0 := below_caller (Top.heap T)
  have hB : Mine.BB w s₁.heap := ⟨by unfold Mine.KP; exact KX, _, _, _, _, topRead_of T⟩
  have hfa := Mine.fa_is hB.1 T.g
  have e : some (Value.ref fa) = some (.ref 153) := hmg.symm.trans hfa
  have e2 : fa = 153 := by injection e with e; injection e
  subst e2
  rename Heap.IsList _ _ _ => hL
  rename Well _ _ _ _ => hw
  rename IntsAre _ _ => hI
  rename ¬ _ => hlen
  refine Mine.law_code ⟨rfl, by decide, by decide, by decide⟩ hB (by omega) (Mine.plain_of hL hw ⟨_, rfl⟩) hI fun h' tk hk => ?_
  exact ⟨.inl ⟨.bool true, .bool true, [], rfl, fun _ => rfl, .bool true, by kernel_rfl, fun _ => ⟨.nil, fun _ h => nomatch h⟩⟩, hk, rfl, hg⟩)

