import PyProof.Rows.All
import Wide.All
import OpenK.AllK
import Wide.FinOn
import Lean
import PySem.Challenge.RW_aq6018_01
open PySem PySem.W PyProof.Rows
set_option Elab.async false
set_option linter.unusedVariables false
set_option linter.unusedSimpArgs false

namespace Mine
set_option maxRecDepth 100000
set_option maxHeartbeats 8000000
open_top hd for PySem.Challenge.rw_aq6018_01
end Mine

namespace Mine

/-- all that stood stands -/
abbrev Kept (h h' : Heap) : Prop := ∀ b o, h.get? b = some o → h'.get? b = some o

theorem enter {prog : Program} {w : World} {A : Around} {R : Result → Shared → Prop} {s : Shared} {K : Frag} {name qual : Str} {params : Arguments} {body : List Stmt} {scope : Scope}
    {dV kV doc pm cdv ct oc : Value} {an od : Option Addr} {osl : Array (Option Value)} {f : Addr} {args : Args} {binds : List (Str × Value)}
    (X : K.In s.heap) (hlim : s.heap.NoLimit)
    (ho : K.lookup f = some ⟨oc, od, .func (fnOf name qual params body scope dV kV doc pm an cdv ct), osl⟩) (hcd : codeIn K cdv qual = true) (hroom : A.depth < recursionLimit)
    (hbind : BindsTo s (fnOf name qual params body scope dV kV doc pm an cdv ct) args binds) (hloc : ∀ y ∈ binds, scope.names.lookup y.1 = some .local)
    (h : ∀ h₁, Fr s.heap s.heap.objs.size h₁ (fun y => binds.reverse.lookup y) → News s.heap s.heap.objs.size h₁ [] →
      wpAny (model prog w) (A.deeper (envOf qual scope s.heap.objs.size f cdv)) (execs body (envOf qual scope s.heap.objs.size f cdv))
        (fun fl s' => R (.ok (.ret (match fl with | .ret v => v | _ => .none))) s') (fun _ _ => False)
        { s with heap := h₁, toks := s.toks + binds.length })
    (hco : scope.isCoroutine = false := by rfl) (hgen : scope.isGenerator = false := by rfl) (hk : scope.kind = .function := by rfl)
    (hcell : ∀ x ∈ scope.names, x.2 ≠ .cell := by decide) : codeAny (model prog w) A (.call (.ref f) args) R s := by
  refine codeAny_call_def (fd := fnOf name qual params body scope dV kV doc pm an cdv ct) (body := body) (binds := binds) hroom (X _ _ ho) rfl hlim (codeRec_of X hcd) rfl hbind hcell hloc (fun h₁ hns hk₁ => ?_) hco hgen hk
  exact wpAny_mono (h h₁ ⟨hns, hk₁, Nat.le_refl _⟩ News.nil) (fun _ _ x => x) (fun _ _ x => x.elim)

end Mine

namespace Mine
open PySem.Builtin (Bytes.order)
open PySem.Builtin.Bytes (order)

/-- a pair of the work list: a time, a name -/
abbrev It := Int × List UInt8

theorem order_refl : ∀ a : List UInt8, order a a = .eq
  | [] => rfl
  | x :: a => by
    have h : ¬ x < x := UInt8.lt_irrefl x
    simp only [order, h, if_false, gt_iff_lt]
    exact order_refl a
theorem order_iff {a b : List UInt8} : order a b = .eq ↔ a = b := by
  have h := PySem.W.order_eq a b
  constructor
  · intro e; rw [e] at h; exact eq_of_beq h.symm
  · rintro rfl; exact order_refl a
theorem order_swap : ∀ a b : List UInt8, order b a = (order a b).swap
  | [], [] => rfl
  | [], _ :: _ => rfl
  | _ :: _, [] => rfl
  | x :: a, y :: b => by
    by_cases h1 : x < y
    · have h2 : ¬ y < x := fun h => UInt8.lt_irrefl x (UInt8.lt_trans h1 h)
      simp only [order, gt_iff_lt, h1, h2, if_true, if_false, Ordering.swap]
    · by_cases h2 : y < x
      · simp only [order, gt_iff_lt, h1, h2, if_true, if_false, Ordering.swap]
      · simp only [order, gt_iff_lt, h1, h2, if_false]
        exact order_swap a b
theorem order_trans : ∀ {a b c : List UInt8}, order a b = .lt → order b c = .lt → order a c = .lt
  | [], [], _, h, _ => by simp [order] at h
  | [], _ :: _, [], _, h => by simp [order] at h
  | [], _ :: _, _ :: _, _, _ => rfl
  | _ :: _, [], _, h, _ => by simp [order] at h
  | _ :: _, _ :: _, [], _, h => by simp [order] at h
  | x :: a, y :: b, z :: c, h, k => by
    simp only [order, gt_iff_lt] at h k ⊢
    by_cases h1 : x < y
    · by_cases k1 : y < z
      · rw [if_pos (UInt8.lt_trans h1 k1)]
      · by_cases k2 : z < y
        · rw [if_neg k1, if_pos k2] at k; cases k
        · have e : y = z := UInt8.le_antisymm (UInt8.not_lt.mp k2) (UInt8.not_lt.mp k1)
          subst e; rw [if_pos h1]
    · by_cases h2 : y < x
      · rw [if_neg h1, if_pos h2] at h; cases h
      · have e : x = y := UInt8.le_antisymm (UInt8.not_lt.mp h2) (UInt8.not_lt.mp h1)
        subst e
        rw [if_neg h1, if_neg h1] at h
        by_cases k1 : x < z
        · rw [if_pos k1]
        · by_cases k2 : z < x
          · rw [if_neg k1, if_pos k2] at k; cases k
          · rw [if_neg k1, if_neg k2] at k ⊢
            exact order_trans h k

def blt (a b : List UInt8) : Bool := order a b == .lt
theorem blt_irrefl (a : List UInt8) : blt a a = false := by unfold blt; rw [order_refl]; rfl
theorem blt_trans {a b c : List UInt8} (h : blt a b = true) (k : blt b c = true) : blt a c = true := by
  unfold blt at *; rw [order_trans (eq_of_beq h) (eq_of_beq k)]; rfl
theorem blt_total {a b : List UInt8} (h : blt a b = false) (k : blt b a = false) : a = b := by
  unfold blt at h k
  rw [order_swap a b] at k
  refine order_iff.mp ?_
  cases e : order a b <;> rw [e] at h k <;> first | rfl | exact absurd h (by decide) | exact absurd k (by decide)
theorem ble_iff {a b : List UInt8} : (order a b != .gt) = !blt b a := by
  unfold blt
  rw [order_swap a b]
  cases order a b <;> rfl

/-- Python's order of the pairs -/
def ilt (p q : It) : Bool := decide (p.1 < q.1) || (decide (p.1 = q.1) && blt p.2 q.2)
def ILe (p q : It) : Prop := ilt q p = false
theorem ilt_iff {p q : It} : ilt p q = true ↔ p.1 < q.1 ∨ (p.1 = q.1 ∧ blt p.2 q.2 = true) := by
  simp [ilt]
theorem ilt_irrefl (p : It) : ilt p p = false := by
  cases h : ilt p p with
  | false => rfl
  | true =>
    rcases ilt_iff.mp h with h | ⟨_, h⟩
    · omega
    · rw [blt_irrefl] at h; cases h
theorem ilt_trans {p q r : It} (h : ilt p q = true) (k : ilt q r = true) : ilt p r = true := by
  rw [ilt_iff] at *
  rcases h with h | ⟨h1, h2⟩ <;> rcases k with k | ⟨k1, k2⟩
  · exact .inl (by omega)
  · exact .inl (by omega)
  · exact .inl (by omega)
  · exact .inr ⟨by omega, blt_trans h2 k2⟩
theorem ilt_total {p q : It} (h : ilt p q = false) (k : ilt q p = false) : p = q := by
  have h' : ¬ (p.1 < q.1 ∨ (p.1 = q.1 ∧ blt p.2 q.2 = true)) := fun x => by rw [ilt_iff.mpr x] at h; cases h
  have k' : ¬ (q.1 < p.1 ∨ (q.1 = p.1 ∧ blt q.2 p.2 = true)) := fun x => by rw [ilt_iff.mpr x] at k; cases k
  have e : p.1 = q.1 := by
    have h1 : ¬ p.1 < q.1 := fun x => h' (.inl x)
    have k1 : ¬ q.1 < p.1 := fun x => k' (.inl x)
    omega
  have e2 : p.2 = q.2 := by
    refine blt_total ?_ ?_
    · cases z : blt p.2 q.2 with
      | false => rfl
      | true => exact absurd (.inr ⟨e, z⟩) h'
    · cases z : blt q.2 p.2 with
      | false => rfl
      | true => exact absurd (.inr ⟨e.symm, z⟩) k'
  exact Prod.ext e e2
theorem ILe.refl (p : It) : ILe p p := ilt_irrefl p
theorem ILe.antisymm {p q : It} (h : ILe p q) (k : ILe q p) : p = q := ilt_total k h
theorem ILe.of_lt {p q : It} (h : ilt p q = true) : ILe p q := by
  unfold ILe
  cases k : ilt q p with
  | false => rfl
  | true => have := ilt_trans h k; rw [ilt_irrefl] at this; cases this
theorem ILe.trans {p q r : It} (h : ILe p q) (k : ILe q r) : ILe p r := by
  unfold ILe
  cases z : ilt r p with
  | false => rfl
  | true =>
    cases y : ilt p q with
    | true => have := ilt_trans z y; rw [k] at this; cases this
    | false =>
      have e : p = q := ilt_total y h
      subst e
      rw [k] at z; cases z
theorem ILe.of_not {p q : It} (h : ilt q p = false) : ILe p q := h
theorem ILe.total (p q : It) : ILe p q ∨ ILe q p := by
  cases h : ilt q p with
  | false => exact .inl h
  | true => exact .inr (ILe.of_lt h)

/-- what the heap holds of a pair -/
def neg (p : It) : It := (-p.1, p.2)
theorem neg_neg (p : It) : neg (neg p) = p := by simp [neg]
theorem neg_inj {p q : It} (h : neg p = neg q) : p = q := by rw [← neg_neg p, h, neg_neg]
/-- the law's own order -/
def ahead (p q : It) : Bool := decide (q.1 < p.1) || (decide (p.1 = q.1) && (order p.2 q.2 != .gt))
theorem ahead_iff (p q : It) : ahead p q = true ↔ ILe (neg p) (neg q) := by
  unfold ahead ILe ilt neg
  rw [ble_iff]
  simp only [Bool.or_eq_true, Bool.and_eq_true, decide_eq_true_eq, Bool.or_eq_false_iff, Bool.and_eq_false_iff, decide_eq_false_iff_not, Bool.not_eq_true']
  constructor
  · rintro (h | ⟨h, k⟩)
    · exact ⟨by omega, .inl (by omega)⟩
    · exact ⟨by omega, .inr k⟩
  · rintro ⟨h, k⟩
    by_cases e : p.1 = q.1
    · rcases k with k | k
      · omega
      · exact .inr ⟨e, k⟩
    · exact .inl (by omega)
end Mine

namespace Mine

/-- an object and the pair it bears -/
abbrev VI := Value × It
def vd : VI := (Value.none, (0, []))
/-- the pair at a place -/
def dat (l : List VI) (i : Nat) : It := (l.getD i vd).2
def swp (l : List VI) (i j : Nat) : List VI := (l.set i (l.getD j vd)).set j (l.getD i vd)

theorem getD_set {α : Type} (l : List α) (i j : Nat) (x d : α) (hi : i < l.length) : (l.set i x).getD j d = if i = j then x else l.getD j d := by
  simp only [List.getD_eq_getElem?_getD, List.getElem?_set]
  by_cases h : i = j
  · subst h; simp [hi]
  · simp [h]
theorem swp_length (l : List VI) (i j : Nat) : (swp l i j).length = l.length := by simp [swp]
theorem swp_perm {l : List VI} {i j : Nat} (hi : i < l.length) (hj : j < l.length) : (swp l i j).Perm l := by
  have e1 : l.getD i vd = l[i] := by simp [List.getD_eq_getElem?_getD, hi]
  have e2 : l.getD j vd = l[j] := by simp [List.getD_eq_getElem?_getD, hj]
  unfold swp; rw [e1, e2]
  exact List.set_set_perm hi hj
theorem dat_swp {l : List VI} {i j : Nat} (hi : i < l.length) (hj : j < l.length) (k : Nat) : dat (swp l i j) k = if k = j then dat l i else if k = i then dat l j else dat l k := by
  unfold dat swp
  rw [getD_set _ _ _ _ _ (by simpa using hj), getD_set _ _ _ _ _ hi]
  by_cases h1 : j = k
  · simp [h1]
  · by_cases h2 : i = k
    · have h1' : ¬ k = j := fun e => h1 e.symm
      simp [h1, h2, h1']
    · have h1' : ¬ k = j := fun e => h1 e.symm
      have h2' : ¬ k = i := fun e => h2 e.symm
      simp [h1, h2, h1', h2']

def IsHp (l : List VI) : Prop := ∀ j, 0 < j → j < l.length → ILe (dat l ((j - 1) / 2)) (dat l j)
def UpI (l : List VI) (p : Nat) : Prop :=
  (∀ j, 0 < j → j < l.length → j ≠ p → ILe (dat l ((j - 1) / 2)) (dat l j)) ∧ ∀ j, 0 < j → j < l.length → (j - 1) / 2 = p → 0 < p → ILe (dat l ((p - 1) / 2)) (dat l j)
def DnI (l : List VI) (p : Nat) : Prop :=
  (∀ j, 0 < j → j < l.length → j ≠ p → (j - 1) / 2 ≠ p → ILe (dat l ((j - 1) / 2)) (dat l j)) ∧ ∀ j, 0 < j → j < l.length → (j - 1) / 2 = p → 0 < p → ILe (dat l ((p - 1) / 2)) (dat l j)

theorem up_stop {l : List VI} {p : Nat} (h : UpI l p) (hp : 0 < p → ILe (dat l ((p - 1) / 2)) (dat l p)) : IsHp l := fun j h1 h2 => by
  by_cases e : j = p
  · subst e; exact hp h1
  · exact h.1 j h1 h2 e
theorem up_step {l : List VI} {p : Nat} (h : UpI l p) (h0 : 0 < p) (hn : p < l.length) (hlt : ilt (dat l p) (dat l ((p - 1) / 2)) = true) : UpI (swp l ((p - 1) / 2) p) ((p - 1) / 2) := by
  have hq : (p - 1) / 2 < l.length := by omega
  have hle := ILe.of_lt hlt
  refine ⟨fun j h1 h2 h3 => ?_, fun j h1 h2 h3 h4 => ?_⟩
  · rw [swp_length] at h2
    rw [dat_swp hq hn, dat_swp hq hn]
    by_cases e1 : j = p
    · subst e1
      have e2 : ¬ (j - 1) / 2 = j := by omega
      simp only [if_true, e2, if_false]
      exact hle
    · by_cases e2 : (j - 1) / 2 = p
      · rw [if_pos e2, if_neg e1, if_neg h3]
        exact h.2 j h1 h2 e2 h0
      · by_cases e3 : (j - 1) / 2 = (p - 1) / 2
        · rw [if_neg e2, if_pos e3, if_neg e1, if_neg h3]
          have := h.1 j h1 h2 e1
          rw [e3] at this
          exact hle.trans this
        · rw [if_neg e2, if_neg e3, if_neg e1, if_neg h3]
          exact h.1 j h1 h2 e1
  · rw [swp_length] at h2
    rw [dat_swp hq hn, dat_swp hq hn]
    have e0 : ¬ ((p - 1) / 2 - 1) / 2 = p := by omega
    have e0' : ¬ ((p - 1) / 2 - 1) / 2 = (p - 1) / 2 := by omega
    have hqq := h.1 ((p - 1) / 2) h4 hq (by omega)
    rw [if_neg e0, if_neg e0']
    by_cases e1 : j = p
    · rw [if_pos e1]; exact hqq
    · have e2 : ¬ j = (p - 1) / 2 := by omega
      rw [if_neg e1, if_neg e2]
      have := h.1 j h1 h2 e1
      rw [h3] at this
      exact hqq.trans this
theorem dn_step {l : List VI} {p c : Nat} (h : DnI l p) (h0 : 0 < c) (hc : c < l.length) (hp : (c - 1) / 2 = p) (hmin : ∀ j, 0 < j → j < l.length → (j - 1) / 2 = p → ILe (dat l c) (dat l j)) : DnI (swp l c p) c := by
  have hpl : p < l.length := by omega
  refine ⟨fun j h1 h2 h3 h4 => ?_, fun j h1 h2 h3 h4 => ?_⟩
  · rw [swp_length] at h2
    rw [dat_swp hc hpl, dat_swp hc hpl]
    by_cases e1 : j = p
    · subst e1
      have e2 : ¬ (j - 1) / 2 = j := by omega
      have e3 : ¬ (j - 1) / 2 = c := by omega
      rw [if_pos rfl, if_neg e2, if_neg e3]
      exact h.2 c h0 hc hp h1
    · rw [if_neg e1, if_neg h3]
      by_cases e2 : (j - 1) / 2 = p
      · rw [if_pos e2]; exact hmin j h1 h2 e2
      · rw [if_neg e2, if_neg h4]
        exact h.1 j h1 h2 e1 e2
  · rw [swp_length] at h2
    rw [dat_swp hc hpl, dat_swp hc hpl]
    have e1 : ¬ j = p := by omega
    have e2 : ¬ j = c := by omega
    rw [hp, if_pos rfl, if_neg e1, if_neg e2]
    have := h.1 j h1 h2 e1 (by omega)
    rw [h3] at this
    exact this
theorem dn_leaf {l : List VI} {p : Nat} (h : DnI l p) (hp : l.length ≤ 2 * p + 1) : UpI l p := by
  refine ⟨fun j h1 h2 h3 => h.1 j h1 h2 h3 (by omega), fun j h1 h2 h3 _ => by omega⟩
theorem dat_append (l : List VI) (x : VI) {i : Nat} (h : i < l.length) : dat (l ++ [x]) i = dat l i := by
  unfold dat
  simp [List.getD_eq_getElem?_getD, List.getElem?_append, h]
theorem push_up {l : List VI} (h : IsHp l) (x : VI) : UpI (l ++ [x]) l.length := by
  refine ⟨fun j h1 h2 h3 => ?_, fun j h1 h2 h3 _ => ?_⟩
  · have h4 : j < l.length := by simp at h2; omega
    rw [dat_append l x h4, dat_append l x (by omega)]
    exact h j h1 h4
  · simp at h2; omega
theorem pop_dn {l : List VI} (h : IsHp l) (hn : 2 ≤ l.length) : DnI (l.dropLast.set 0 (l.getD (l.length - 1) vd)) 0 := by
  refine ⟨fun j h1 h2 h3 h4 => ?_, fun j _ _ _ h4 => absurd h4 (Nat.lt_irrefl 0)⟩
  have hl : l.dropLast.length = l.length - 1 := List.length_dropLast
  have h5 : j < l.length - 1 := by simpa using h2
  have drop : ∀ i, 0 < i → i < l.length - 1 → dat (l.dropLast.set 0 (l.getD (l.length - 1) vd)) i = dat l i := fun i a b => by
    unfold dat
    rw [getD_set _ _ _ _ _ (by omega), if_neg (by omega)]
    have b' : i < l.length := by omega
    simp [List.getD_eq_getElem?_getD, b, b']
  rw [drop j h1 h5, drop ((j - 1) / 2) (by omega) (by omega)]
  exact h j h1 (by omega)
theorem head_min {l : List VI} (h : IsHp l) : ∀ i, i < l.length → ILe (dat l 0) (dat l i) := by
  intro i
  induction i using Nat.strongRecOn with
  | ind i ih =>
    intro hi
    by_cases h0 : i = 0
    · subst h0; exact ILe.refl _
    · exact (ih ((i - 1) / 2) (by omega) (by omega)).trans (h i (by omega) hi)
theorem pop_perm {l : List VI} (hn : 2 ≤ l.length) : (l.getD 0 vd :: l.dropLast.set 0 (l.getD (l.length - 1) vd)).Perm l := by
  match l, hn with
  | a :: b :: r, _ =>
    have e : (a :: b :: r).getD ((a :: b :: r).length - 1) vd = (b :: r).getLast (by simp) := by
      rw [List.getLast_eq_getElem]
      simp [List.getD_eq_getElem?_getD]
    rw [e]
    show (a :: (b :: r).getLast (by simp) :: (b :: r).dropLast).Perm (a :: b :: r)
    refine List.Perm.cons a ?_
    have := List.dropLast_concat_getLast (l := b :: r) (by simp)
    conv => rhs; rw [← this]
    exact (List.perm_append_comm (l₁ := [(b :: r).getLast (by simp)]) (l₂ := (b :: r).dropLast))
end Mine

namespace Mine
set_option maxRecDepth 100000
open PySem.Builtin
open PySem.Builtin.Bytes (order)

theorem slot_bytes_lt : Slot "bytes" (cmpInfo .Lt).2.1 "bytes.__lt__" :=
  .of (owner := "bytes") (n := "__lt__") (by rw [typeLookup_type, builtinLookup_eq_fast]; kernel_rfl) (by decide +kernel) (by decide +kernel) (by decide +kernel)
    (by first | exact .inl (by decide +kernel) | exact .inr (by decide +kernel)) (by rw [isSubtype_type]; kernel_rfl)
theorem entry_bytes_lt : entryFor table "bytes.__lt__" = some Builtin.«bytes.__lt__» := entryFor_of_tree (by kernel_rfl)
theorem args_bytes_lt (a b : Value) : argsOk "bytes.__lt__" ⟨[a, b], []⟩ := by
  unfold argsOk; rw [signature?_of (id := "bytes.__lt__") (n := ['_', '_', 't', 'l', '_', '_']) (o := ['s', 'e', 't', 'y', 'b']) (by kernel_rfl) PySem.W.FB.owner_bytes]; kernel_rfl
theorem slot_bytes_le : Slot "bytes" (cmpInfo .LtE).2.1 "bytes.__le__" :=
  .of (owner := "bytes") (n := "__le__") (by rw [typeLookup_type, builtinLookup_eq_fast]; kernel_rfl) (by decide +kernel) (by decide +kernel) (by decide +kernel)
    (by first | exact .inl (by decide +kernel) | exact .inr (by decide +kernel)) (by rw [isSubtype_type]; kernel_rfl)
theorem entry_bytes_le : entryFor table "bytes.__le__" = some Builtin.«bytes.__le__» := entryFor_of_tree (by kernel_rfl)
theorem args_bytes_le (a b : Value) : argsOk "bytes.__le__" ⟨[a, b], []⟩ := by
  unfold argsOk; rw [signature?_of (id := "bytes.__le__") (n := ['_', '_', 'e', 'l', '_', '_']) (o := ['s', 'e', 't', 'y', 'b']) (by kernel_rfl) PySem.W.FB.owner_bytes]; kernel_rfl

theorem gives_bytes_lt (b c : Array UInt8) (t u : Tok) : Gives («bytes.__lt__» ⟨[.bytes b t, .bytes c u], []⟩) (.val (.bool (order b.toList c.toList == .lt))) := by
  refine .of_wp fun M A E s Q hq => ?_
  show wpAny M A (isInstance (.bytes c u) (.type "bytes") >>= fun r => _) _ E s
  refine wpAny_bind (wpAny_isInstance (typeIs_bytes s c u) F.sub_bytes_bytes ?_)
  exact wpAny_pure ⟨_, rfl, hq⟩
theorem gives_bytes_le (b c : Array UInt8) (t u : Tok) : Gives («bytes.__le__» ⟨[.bytes b t, .bytes c u], []⟩) (.val (.bool (order b.toList c.toList != .gt))) := by
  refine .of_wp fun M A E s Q hq => ?_
  show wpAny M A (isInstance (.bytes c u) (.type "bytes") >>= fun r => _) _ E s
  refine wpAny_bind (wpAny_isInstance (typeIs_bytes s c u) F.sub_bytes_bytes ?_)
  exact wpAny_pure ⟨_, rfl, hq⟩

section
variable {prog : Program} {w : World} {A : Around} {E : Value → Shared → Prop} {s : Shared} {b c : Array UInt8} {t u : Tok}
theorem lt_bytes {Q : Value → Shared → Prop} (h : Q (.bool (order b.toList c.toList == .lt)) s) : wpAny (model prog w) A (compareOp .Lt (.bytes b t) (.bytes c u)) Q E s :=
  compareOp_gives (op := .Lt) (typeIs_bytes s b t) (typeIs_bytes s c u) slot_bytes_lt entry_bytes_lt (args_bytes_lt _ _) (gives_bytes_lt b c t u) (fun e => nomatch e) h
theorem le_bytes {Q : Value → Shared → Prop} (h : Q (.bool (order b.toList c.toList != .gt)) s) : wpAny (model prog w) A (compareOp .LtE (.bytes b t) (.bytes c u)) Q E s :=
  compareOp_gives (op := .LtE) (typeIs_bytes s b t) (typeIs_bytes s c u) slot_bytes_le entry_bytes_le (args_bytes_le _ _) (gives_bytes_le b c t u) (fun e => nomatch e) h
end

/-- the value is a tuple that bears the pair -/
def TupAt (h : Heap) (v : Value) (p : It) : Prop := ∃ a t u, v = .ref a ∧ h.get? a = some { cls := .type "tuple", data := .seq #[.int p.1 t, .bytes p.2.toArray u] }
theorem TupAt.keep {h h' : Heap} {v : Value} {p : It} (x : TupAt h v p) (k : ∀ b o, h.get? b = some o → o.cls = .type "tuple" → h'.get? b = some o) : TupAt h' v p := by
  obtain ⟨a, t, u, e, ho⟩ := x
  exact ⟨a, t, u, e, k _ _ ho rfl⟩
theorem TupAt.tuple {h : Heap} {v : Value} {p : It} (x : TupAt h v p) : ∃ a t u, v = .ref a ∧ h.IsTuple a #[.int p.1 t, .bytes p.2.toArray u] := by
  obtain ⟨a, t, u, e, ho⟩ := x
  exact ⟨a, t, u, e, _, ho, rfl, _, rfl⟩

open PySem.SeqAt
section
variable {A : Around} {s : Shared} {v u : Value} {p q : It}
theorem pair_eqs {a b : Addr} {t1 t2 t3 t4 : Tok} (_ : s.heap.IsTuple a #[.int p.1 t1, .bytes p.2.toArray t2]) (_ : s.heap.IsTuple b #[.int q.1 t3, .bytes q.2.toArray t4]) :
    ∀ j (h1 : j < (#[Value.int p.1 t1, .bytes p.2.toArray t2] : Array Value).size) (h2 : j < (#[Value.int q.1 t3, .bytes q.2.toArray t4] : Array Value).size),
      EqAt A s (#[Value.int p.1 t1, .bytes p.2.toArray t2][j]) (#[Value.int q.1 t3, .bytes q.2.toArray t4][j]) (if j = 0 then decide (p.1 = q.1) else decide (p.2 = q.2)) := by
  intro j h1 h2
  have hj : j = 0 ∨ j = 1 := by simp at h1; omega
  rcases hj with rfl | rfl
  · intro prog w E Q hq
    refine wpAny_eqBool_int ?_
    rw [show (p.1 == q.1) = decide (p.1 = q.1) by rw [Bool.eq_iff_iff]; simp]
    simpa using hq
  · intro prog w E Q hq
    refine eqBool_bytes ?_
    simpa using hq
theorem pair_all : ((List.range (min 2 2)).all (fun j => if j = 0 then decide (p.1 = q.1) else decide (p.2 = q.2)) && (2 == 2)) = decide (p = q) := by
  have e : List.range (min 2 2) = [0, 1] := by decide
  rw [e, Bool.eq_iff_iff]
  simp [Prod.ext_iff]
theorem rc_eq (hv : TupAt s.heap v p) (hu : TupAt s.heap u q) (hr : A.units < cLine) : RcAt A s v u (decide (p = q)) := by
  obtain ⟨a, t1, t2, rfl, ha⟩ := hv.tuple
  obtain ⟨b, t3, t4, rfl, hb⟩ := hu.tuple
  have := RcAt.tuples ha hb hr (pair_eqs ha hb)
  rw [← pair_all]; exact this
theorem rc_ne (hv : TupAt s.heap v p) (hu : TupAt s.heap u q) (hr : A.units < cLine) : RcNeAt A s v u (!decide (p = q)) := by
  obtain ⟨a, t1, t2, rfl, ha⟩ := hv.tuple
  obtain ⟨b, t3, t4, rfl, hb⟩ := hu.tuple
  have := RcNeAt.tuples ha hb hr (pair_eqs ha hb)
  rw [← pair_all]; exact this
theorem TupAt.inj {h : Heap} {v : Value} {p q : It} (x : TupAt h v p) (y : TupAt h v q) : p = q := by
  obtain ⟨a, t1, t2, rfl, o, ho, hc, n, hd⟩ := x.tuple
  obtain ⟨b, t3, t4, e, o', ho', hc', n', hd'⟩ := y.tuple
  obtain rfl := Value.ref.inj e
  rw [ho] at ho'
  obtain rfl := Option.some.inj ho'
  rw [hd] at hd'
  injection hd' with e1 e2
  have e3 : Value.int p.1 t1 = Value.int q.1 t3 := by
    have := congrArg (fun a : Array Value => a[0]?) e1
    simpa using this
  have e4 : Value.bytes p.2.toArray t2 = Value.bytes q.2.toArray t4 := by
    have := congrArg (fun a : Array Value => a[1]?) e1
    simpa using this
  injection e3 with e5 _
  injection e4 with e6 _
  exact Prod.ext e5 (by simpa using congrArg Array.toList e6)
theorem eq_at (hv : TupAt s.heap v p) (hu : TupAt s.heap u q) (hr : A.units < cLine) : EqAt A s v u (decide (p = q)) := by
  by_cases e : v = u
  · subst e
    have := TupAt.inj hv hu
    rw [decide_eq_true this]
    exact EqAt.same v
  · have r := rc_eq hv hu hr
    obtain ⟨a, t1, t2, rfl, ha⟩ := hv.tuple
    obtain ⟨b, t3, t4, rfl, hb⟩ := hu.tuple
    exact EqAt.of_refs (fun x => e (by rw [x])) r
end

section
variable {prog : Program} {w : World} {A : Around} {E : Value → Shared → Prop} {s : Shared}
theorem rlt_bytes {b c : Array UInt8} {t u : Tok} {Q : Value → Shared → Prop} (h : Q (.bool (blt b.toList c.toList)) s) : wpAny (model prog w) A (richCompare .Lt (.bytes b t) (.bytes c u)) Q E s := lt_bytes h
theorem rlt_int {a b : Int} {t u : Tok} {Q : Value → Shared → Prop} (h : Q (.bool (decide (a < b))) s) : wpAny (model prog w) A (richCompare .Lt (.int a t) (.int b u)) Q E s := wpAny_lt_int h
end
set_option maxHeartbeats 1000000 in
theorem tuple_lt (l b : Addr) (x y : Int) (c d : List UInt8) (t1 t2 t3 t4 : Tok) (n n2 : Nat) (dd dd2 : Option Addr) (sl sl2 : Array (Option Value)) :
    Meets (Builtin.«tuple.__lt__» ⟨[.ref l, .ref b], []⟩)
      (fun _ R s => s.heap.get? l = some { cls := .type "tuple", dict := dd, data := .seq #[.int x t1, .bytes c.toArray t2] n, slots := sl } ∧ s.heap.get? b = some { cls := .type "tuple", dict := dd2, data := .seq #[.int y t3, .bytes d.toArray t4] n2, slots := sl2 } ∧
        R (.ok (.ret (.bool (ilt (x, c) (y, d))))) s) :=
  .of_wp fun prog w A R s h => by
    obtain ⟨hp, g, dr, tk, os⟩ := s; obtain ⟨hl, hb, h⟩ := h
    have f2 := AutoSeq1.sub_tuple_tuple
    wp_walk using AutoSeq1.wpAny_loadPart' hl, AutoSeq1.wpAny_loadPart' hb
    refine wpAny_eqBool_int ?_
    by_cases e : x = y
    · subst e
      have e0 : (x == x) = true := beq_self_eq_true x
      rw [e0]
      wp_walk
      refine eqBool_bytes ?_
      by_cases e2 : c = d
      · subst e2
        have e3 : decide (c.toArray.toList = c.toArray.toList) = true := decide_eq_true rfl
        rw [e3]
        wp_walk
        refine ⟨_, rfl, ?_⟩
        have e4 : ilt (x, c) (x, c) = false := ilt_irrefl _
        rw [e4] at h
        exact h
      · have e3 : decide (c.toArray.toList = d.toArray.toList) = false := decide_eq_false (by simpa using e2)
        rw [e3]
        wp_walk using rlt_bytes
        refine ⟨_, rfl, ?_⟩
        have e4 : ilt (x, c) (x, d) = blt c.toArray.toList d.toArray.toList := by simp [ilt]
        rw [e4] at h
        exact h
    · have e0 : (x == y) = false := beq_eq_false_iff_ne.mpr e
      rw [e0]
      wp_walk using rlt_int
      refine ⟨_, rfl, ?_⟩
      have e4 : ilt (x, c) (y, d) = decide (x < y) := by simp [ilt, e]
      rw [e4] at h
      exact h

theorem lt_tup {prog : Program} {w : World} {A : Around} {E : Value → Shared → Prop} {s : Shared} {v u : Value} {p q : It} {Q : Value → Shared → Prop} (hv : TupAt s.heap v p) (hu : TupAt s.heap u q) (hr : A.units < cLine) (h : Q (.bool (ilt p q)) s) :
    wpAny (model prog w) A (richCompare .Lt v u) Q E s := by
  obtain ⟨a, t1, t2, rfl, ⟨cls, dd, data, sl⟩, ho, hc, n, hd⟩ := hv.tuple
  obtain ⟨b, t3, t4, rfl, ⟨cls2, dd2, data2, sl2⟩, ho2, hc2, n2, hd2⟩ := hu.tuple
  simp only at hc hd hc2 hd2
  subst hc hd hc2 hd2
  exact richCompare_meets_room (op := .Lt) ⟨_, ho, rfl⟩ ⟨_, ho2, rfl⟩ F.slot_tuple_lt F.entry_tuple_lt (F.args_tuple_lt_2 _ _) (tuple_lt a b p.1 q.1 p.2 q.2 t1 t2 t3 t4 n n2 dd dd2 sl sl2)
    ⟨ho, ho2, show Value.bool (ilt p q) ≠ Value.notImplemented ∧ Q (.bool (ilt p q)) s from ⟨(fun x => nomatch x), h⟩⟩ hr
end Mine

namespace Mine
set_option maxRecDepth 100000
set_option maxHeartbeats 1000000
open PySem.Builtin

theorem entry_sift : entryFor table "_heapq.heapify.sift" = some Builtin.«_heapq.heapify.sift» := entryFor_of_tree (by kernel_rfl)
theorem plain_sift : plainId "_heapq.heapify.sift" = true := by decide +kernel
theorem entry_push : entryFor table "_heapq.heappush" = some Builtin.«_heapq.heappush» := entryFor_of_tree (by kernel_rfl)
theorem plain_push : plainId "_heapq.heappush" = true := by decide +kernel
theorem kind_push : builtinKind "_heapq.heappush" = none := by decide +kernel
theorem args_push (a b : Value) : argsOk "_heapq.heappush" ⟨[a, b], []⟩ := by
  unfold argsOk; kernel_rfl
theorem entry_pop : entryFor table "_heapq.heappop" = some Builtin.«_heapq.heappop» := entryFor_of_tree (by kernel_rfl)
theorem plain_pop : plainId "_heapq.heappop" = true := by decide +kernel
theorem kind_pop : builtinKind "_heapq.heappop" = none := by decide +kernel
theorem args_pop (a : Value) : argsOk "_heapq.heappop" ⟨[a], []⟩ := by
  unfold argsOk; kernel_rfl

abbrev hobj (l : List VI) (n : Nat) : Obj := listOf (l.map Prod.fst).toArray n
theorem fst_at {l : List VI} {i : Nat} (h : i < l.length) : (l.map Prod.fst).toArray[i]? = some (l.getD i vd).1 := by
  simp [List.getD_eq_getElem?_getD, h]
theorem tup_at {h : Heap} {l : List VI} (hl : ∀ x ∈ l, TupAt h x.1 x.2) {i : Nat} (hi : i < l.length) : TupAt h (l.getD i vd).1 (dat l i) := by
  have e : l.getD i vd = l[i] := by simp [List.getD_eq_getElem?_getD, hi]
  unfold dat
  rw [e]
  exact hl _ (List.getElem_mem hi)


section
variable {prog : Program} {w : World} {A : Around} {E : Value → Shared → Prop} {s : Shared} {q : Addr}
theorem swap_objs {l : List VI} {i j : Nat} (hi : i < l.length) (hj : j < l.length) :
    ((l.map Prod.fst).toArray.setIfInBounds i (l.getD j vd).1).setIfInBounds j (l.getD i vd).1 = ((swp l i j).map Prod.fst).toArray := by
  unfold swp
  simp [List.map_set]
theorem upd_obj {l l' : List VI} {n : Nat} {h : Heap} (f : Array Value → Array Value) (ho : h.get? q = some (hobj l n)) (hf : f (l.map Prod.fst).toArray = (l'.map Prod.fst).toArray) :
    ∃ n', (h.update q (Obj.mapSeq f)).get? q = some (hobj l' n') := by
  have e := get?_update_seq (c := "list") ho f
  rw [hf] at e
  exact ⟨_, e⟩
end

section
variable {prog : Program} {w : World} {A : Around} {s : Shared} {R : Result → Shared → Prop} {q : Addr} {result : Value}
theorem tups_but {h h' : Heap} {l : List VI} {n : Nat} (hs : Heap.SameBut q h h') (ho : h.get? q = some (hobj l n)) {v : Value} {p : It} (x : TupAt h v p) : TupAt h' v p :=
  x.keep fun b o e hc => (hs.2 b (fun eb => by subst eb; rw [ho] at e; cases e; exact absurd (show Value.type "list" = Value.type "tuple" from hc) (by decide))).trans e

theorem sift_up : ∀ (p : Nat) (l : List VI) (n : Nat) (s : Shared), s.heap.get? q = some (hobj l n) → (∀ x ∈ l, TupAt s.heap x.1 x.2) → p < l.length → l.length < 1000 → UpI l p → A.units + 10 < cLine →
    (∀ h' l' n', Heap.SameBut q s.heap h' → h'.get? q = some (hobj l' n') → l'.Perm l → IsHp l' → R (.ok (.ret result)) { s with heap := h' }) →
    codeAny (model prog w) A (.builtin "_heapq.heapify.sift" ⟨[.ref q, .bool false, .bool false, rawInt p, rawInt 0, result, rawInt (-1)], []⟩) R s := by
  intro p
  induction p using Nat.strongRecOn with
  | ind p ih =>
    intro l n s ho ht hpl hsz hI hu hR
    refine codeAny_builtin entry_sift ?_
    rw [Around.under_plainId plain_sift]
    refine wpAny_bind ?_
    refine wpAny_bind (wpAny_seqItems ho rfl ?_)
    refine wpAny_pure ?_
    dsimp only
    rw [if_neg Bool.false_ne_true]
    have e0 : ((p : Int)).toNat = p := Int.toNat_natCast p
    rw [e0]
    by_cases hp : p = 0
    · subst hp
      rw [if_neg (by decide), if_pos (by decide)]
      exact wpAny_pure (hR s.heap l n (Heap.SameBut.refl ..) ho (List.Perm.refl _) (up_stop hI fun h => absurd h (Nat.lt_irrefl 0)))
    · have hq : (p - 1) / 2 < l.length := by omega
      rw [if_pos (by show p > 0; omega)]
      refine wpAny_bind (m := _) ?_
      show wpAny _ _ (match (l.map Prod.fst).toArray[p]? with | some v => pure v | none => _) _ _ s
      rw [fst_at hpl]
      refine wpAny_pure (wpAny_bind (m := _) ?_)
      show wpAny _ _ (match (l.map Prod.fst).toArray[(p - 1) / 2]? with | some v => pure v | none => _) _ _ s
      rw [fst_at hq]
      refine wpAny_pure ?_
      refine wpAny_bind ?_
      refine wpAny_bind ?_
      refine wpAny_holding (wpAny_bind (lt_tup (tup_at ht hpl) (tup_at ht hq) (by show A.units + 1 < cLine; omega) ?_))
      refine wpAny_of_eq (a := ilt (dat l p) (dat l ((p - 1) / 2))) rfl ?_
      refine wpAny_bind (wpAny_bind (wpAny_seqItems ho rfl (wpAny_pure ?_)))
      rw [if_neg (by simp)]
      refine wpAny_pure ?_
      cases hc : ilt (dat l p) (dat l ((p - 1) / 2)) with
      | false =>
        rw [if_neg Bool.false_ne_true, if_pos (by decide)]
        exact wpAny_pure (hR s.heap l n (Heap.SameBut.refl ..) ho (List.Perm.refl _) (up_stop hI fun _ => hc))
      | true =>
        rw [if_pos rfl]
        refine wpAny_bind (wpAny_bind ?_)
        refine wpAny_bind (wpAny_seqItems ho rfl ?_)
        refine wpAny_pure (wpAny_bind (m := _) ?_)
        show wpAny _ _ (match (l.map Prod.fst).toArray[(p - 1) / 2]? with | some v => pure v | none => _) _ _ s
        rw [fst_at hq]
        refine wpAny_pure (wpAny_bind (m := _) ?_)
        show wpAny _ _ (match (l.map Prod.fst).toArray[p]? with | some v => pure v | none => _) _ _ s
        rw [fst_at hpl]
        refine wpAny_pure ?_
        have sw := swap_objs (l := l) hq hpl
        refine wpAny_updateSeq ho rfl ?_ (by rw [sizeLine_eq]; simp; omega) (by rw [sizeLine_eq]; simp; omega)
        obtain ⟨n', ho'⟩ := upd_obj (l' := swp l ((p - 1) / 2) p) (fun xs => (xs.setIfInBounds ((p - 1) / 2) (l.getD p vd).1).setIfInBounds p (l.getD ((p - 1) / 2) vd).1) ho sw
        have sb := Heap.SameBut.update s.heap q (Obj.mapSeq fun xs => (xs.setIfInBounds ((p - 1) / 2) (l.getD p vd).1).setIfInBounds p (l.getD ((p - 1) / 2) vd).1)
        refine wpAny_pure ⟨plainId_quiet plain_sift _, ?_⟩
        have hperm := swp_perm hq hpl
        refine ih ((p - 1) / 2) (by omega) (swp l ((p - 1) / 2) p) n' _ ho' (fun x hx => tups_but sb ho (ht x (hperm.mem_iff.mp hx))) (by rw [swp_length]; exact hq) (by rw [swp_length]; exact hsz)
          (up_step hI (by omega) hpl hc) hu ?_
        intro h' l' n'' hs' ho'' hp' hh'
        exact hR h' l' n'' (sb.trans hs') ho'' (hp'.trans hperm) hh'

theorem sift_down : ∀ (k p : Nat) (l : List VI) (n : Nat) (s : Shared), l.length - p ≤ k → s.heap.get? q = some (hobj l n) → (∀ x ∈ l, TupAt s.heap x.1 x.2) → p < l.length → l.length < 1000 → DnI l p → A.units + 10 < cLine →
    (∀ h' l' n', Heap.SameBut q s.heap h' → h'.get? q = some (hobj l' n') → l'.Perm l → IsHp l' → R (.ok (.ret result)) { s with heap := h' }) →
    codeAny (model prog w) A (.builtin "_heapq.heapify.sift" ⟨[.ref q, .bool false, .bool true, rawInt p, rawInt 0, result, rawInt (-1)], []⟩) R s := by
  intro k
  induction k with
  | zero => intro p l n s h1 _ _ h2; omega
  | succ k ih =>
    intro p l n s hk ho ht hpl hsz hI hu hR
    refine codeAny_builtin entry_sift ?_
    rw [Around.under_plainId plain_sift]
    refine wpAny_bind ?_
    refine wpAny_bind (wpAny_seqItems ho rfl ?_)
    refine wpAny_pure ?_
    dsimp only
    rw [if_pos rfl]
    have e0 : ((p : Int)).toNat = p := Int.toNat_natCast p
    have es : (l.map Prod.fst).toArray.size = l.length := by simp
    rw [e0, es]
    by_cases hp : p < l.length / 2
    · rw [if_pos hp]
      have hc1 : 2 * p + 1 < l.length := by omega
      have step : ∀ c, (c - 1) / 2 = p → 0 < c → c < l.length → (∀ j, 0 < j → j < l.length → (j - 1) / 2 = p → ILe (dat l c) (dat l j)) →
          ∀ (Q : Unit → Shared → Prop), (∀ h' n', Heap.SameBut q s.heap h' → h'.get? q = some (hobj (swp l c p) n') → Q () { s with heap := h' }) →
          wpAny (model prog w) A.in1 (updateSeq q fun xs => (xs.setIfInBounds c (l.getD p vd).1).setIfInBounds p (l.getD c vd).1) Q (fun e s' => R (.error e) s') s := by
        intro c hcp h0 hcl hmin Q hQ
        have sw := swap_objs (l := l) hcl hpl
        refine wpAny_updateSeq ho rfl ?_ (by rw [sizeLine_eq]; simp; omega) (by rw [sizeLine_eq]; simp; omega)
        obtain ⟨n', ho'⟩ := upd_obj (l' := swp l c p) (fun xs => (xs.setIfInBounds c (l.getD p vd).1).setIfInBounds p (l.getD c vd).1) ho sw
        exact hQ _ n' (Heap.SameBut.update ..) ho'
      have fin : ∀ c h' n', (c - 1) / 2 = p → 0 < c → c < l.length → (∀ j, 0 < j → j < l.length → (j - 1) / 2 = p → ILe (dat l c) (dat l j)) → Heap.SameBut q s.heap h' → h'.get? q = some (hobj (swp l c p) n') →
          codeAny (model prog w) A (.builtin "_heapq.heapify.sift" ⟨[.ref q, .bool false, .bool true, rawInt c, rawInt 0, result, rawInt (-1)], []⟩) R { s with heap := h' } := by
        intro c h' n' hcp h0 hcl hmin sb ho'
        have hperm := swp_perm hcl hpl
        refine ih c (swp l c p) n' _ (by rw [swp_length]; omega) ho' (fun x hx => tups_but sb ho (ht x (hperm.mem_iff.mp hx))) (by rw [swp_length]; exact hcl) (by rw [swp_length]; exact hsz)
          (dn_step hI h0 hcl hcp hmin) hu ?_
        intro h2 l' n'' hs' ho'' hp' hh'
        exact hR h2 l' n'' (sb.trans hs') ho'' (hp'.trans hperm) hh'
      have par : ∀ j, 0 < j → (j - 1) / 2 = p → j = 2 * p + 1 ∨ j = 2 * p + 2 := fun j h1 h2 => by omega
      by_cases hr : 2 * p + 1 + 1 < l.length
      · rw [if_pos hr]
        refine wpAny_bind (m := _) ?_
        show wpAny _ _ (match (l.map Prod.fst).toArray[2 * p + 1]? with | some v => pure v | none => _) _ _ s
        rw [fst_at hc1]
        refine wpAny_pure (wpAny_bind (m := _) ?_)
        show wpAny _ _ (match (l.map Prod.fst).toArray[2 * p + 1 + 1]? with | some v => pure v | none => _) _ _ s
        rw [fst_at hr]
        refine wpAny_pure ?_
        rw [if_neg Bool.false_ne_true]
        refine wpAny_bind ?_
        refine wpAny_bind ?_
        refine wpAny_holding (wpAny_bind (lt_tup (tup_at ht hc1) (tup_at ht hr) (by show A.units + 1 < cLine; omega) ?_))
        refine wpAny_of_eq (a := ilt (dat l (2 * p + 1)) (dat l (2 * p + 1 + 1))) rfl ?_
        refine wpAny_bind (wpAny_bind (wpAny_seqItems ho rfl (wpAny_pure ?_)))
        rw [if_neg (by simp)]
        refine wpAny_pure ?_
        cases hc : ilt (dat l (2 * p + 1)) (dat l (2 * p + 1 + 1)) with
        | true =>
          rw [if_neg (by decide)]
          have hmin : ∀ j, 0 < j → j < l.length → (j - 1) / 2 = p → ILe (dat l (2 * p + 1)) (dat l j) := fun j h1 h2 h3 => by
            rcases par j h1 h3 with rfl | rfl
            · exact ILe.refl _
            · exact ILe.of_lt hc
          generalize hcc : 2 * p + 1 = c at hmin hc1 ⊢
          have hcp : (c - 1) / 2 = p := by omega
          have h0 : 0 < c := by omega
          refine wpAny_bind (wpAny_bind ?_)
          refine wpAny_bind (wpAny_seqItems ho rfl ?_)
          refine wpAny_pure (wpAny_bind (m := _) ?_)
          show wpAny _ _ (match (l.map Prod.fst).toArray[c]? with | some v => pure v | none => _) _ _ s
          rw [fst_at hc1]
          refine wpAny_pure (wpAny_bind (m := _) ?_)
          show wpAny _ _ (match (l.map Prod.fst).toArray[p]? with | some v => pure v | none => _) _ _ s
          rw [fst_at hpl]
          refine wpAny_pure (step c hcp h0 hc1 hmin _ fun h' n' sb ho' => ?_)
          exact wpAny_pure ⟨plainId_quiet plain_sift _, fin c h' n' hcp h0 hc1 hmin sb ho'⟩
        | false =>
          rw [if_pos (by decide)]
          have hmin : ∀ j, 0 < j → j < l.length → (j - 1) / 2 = p → ILe (dat l (2 * p + 1 + 1)) (dat l j) := fun j h1 h2 h3 => by
            rcases par j h1 h3 with rfl | rfl
            · exact hc
            · exact ILe.refl _
          generalize hcc : 2 * p + 1 + 1 = c at hmin hr ⊢
          have hcp : (c - 1) / 2 = p := by omega
          have h0 : 0 < c := by omega
          refine wpAny_bind (wpAny_bind ?_)
          refine wpAny_bind (wpAny_seqItems ho rfl ?_)
          refine wpAny_pure (wpAny_bind (m := _) ?_)
          show wpAny _ _ (match (l.map Prod.fst).toArray[c]? with | some v => pure v | none => _) _ _ s
          rw [fst_at hr]
          refine wpAny_pure (wpAny_bind (m := _) ?_)
          show wpAny _ _ (match (l.map Prod.fst).toArray[p]? with | some v => pure v | none => _) _ _ s
          rw [fst_at hpl]
          refine wpAny_pure (step c hcp h0 hr hmin _ fun h' n' sb ho' => ?_)
          exact wpAny_pure ⟨plainId_quiet plain_sift _, fin c h' n' hcp h0 hr hmin sb ho'⟩
      · rw [if_neg hr]
        have hmin : ∀ j, 0 < j → j < l.length → (j - 1) / 2 = p → ILe (dat l (2 * p + 1)) (dat l j) := fun j h1 h2 h3 => by
          rcases par j h1 h3 with rfl | rfl
          · exact ILe.refl _
          · omega
        generalize hcc : 2 * p + 1 = c at hmin hc1 ⊢
        have hcp : (c - 1) / 2 = p := by omega
        have h0 : 0 < c := by omega
        refine wpAny_bind (wpAny_bind ?_)
        refine wpAny_bind (wpAny_seqItems ho rfl ?_)
        refine wpAny_pure (wpAny_bind (m := _) ?_)
        show wpAny _ _ (match (l.map Prod.fst).toArray[c]? with | some v => pure v | none => _) _ _ s
        rw [fst_at hc1]
        refine wpAny_pure (wpAny_bind (m := _) ?_)
        show wpAny _ _ (match (l.map Prod.fst).toArray[p]? with | some v => pure v | none => _) _ _ s
        rw [fst_at hpl]
        refine wpAny_pure (step c hcp h0 hc1 hmin _ fun h' n' sb ho' => ?_)
        exact wpAny_pure ⟨plainId_quiet plain_sift _, fin c h' n' hcp h0 hc1 hmin sb ho'⟩
    · rw [if_neg hp]
      refine wpAny_pure ⟨plainId_quiet plain_sift _, ?_⟩
      exact sift_up p l n s ho ht hpl hsz (dn_leaf hI (by omega)) hu hR
end

section
variable {prog : Program} {w : World} {A : Around} {E : Value → Shared → Prop} {s : Shared} {q : Addr} {l : List VI} {n : Nat}
theorem call_push {v : Value} {d : It} {Q : Value → Shared → Prop} (ho : s.heap.get? q = some (hobj l n)) (ht : ∀ x ∈ l, TupAt s.heap x.1 x.2) (hv : TupAt s.heap v d) (hsz : l.length < 900) (hI : IsHp l) (hu : A.units + 20 < cLine)
    (h : ∀ h' l' n', Heap.SameBut q s.heap h' → h'.get? q = some (hobj l' n') → l'.Perm ((v, d) :: l) → IsHp l' → Q .none { s with heap := h' }) :
    wpAny (model prog w) A (call (.builtin "_heapq.heappush") [.ref q, v]) Q E s := by
  refine call_function_meets kind_push plain_push entry_push (args_push _ _) (S := fun A R s => s.heap.get? q = some (hobj l n) ∧ (∀ x ∈ l, TupAt s.heap x.1 x.2) ∧ TupAt s.heap v d ∧ A.units + 20 < cLine ∧
    ∀ h' l' n', Heap.SameBut q s.heap h' → h'.get? q = some (hobj l' n') → l'.Perm ((v, d) :: l) → IsHp l' → R (.ok (.ret .none)) { s with heap := h' }) ?_ ⟨ho, ht, hv, hu, h⟩
  rintro prog w A R s ⟨ho, ht, hv, hu, h⟩
  have hT : s.TypeIs (.ref q) "list" := ⟨_, ho, rfl⟩
  refine wpAny_bind ?_
  refine wpAny_bind ?_
  refine wpAny_of_eq (a := ()) rfl ?_
  refine wpAny_bind ?_
  refine wpAny_of_eq (a := ()) rfl ?_
  refine wpAny_bind (wpAny_bind (wpAny_isInstance hT AutoSeq1.sub_list_list ?_))
  rw [if_pos rfl]
  refine wpAny_pure (wpAny_pure ?_)
  dsimp only
  have epush : ((l.map Prod.fst).toArray.push v) = ((l ++ [(v, d)]).map Prod.fst).toArray := by simp
  refine wpAny_bind (wpAny_updateSeq ho rfl ?_ (by rw [sizeLine_eq]; simp; omega) (by rw [sizeLine_eq]; simp; omega))
  obtain ⟨n', ho'⟩ := upd_obj (l' := l ++ [(v, d)]) (fun xs => xs.push v) ho epush
  have sb := Heap.SameBut.update s.heap q (Obj.mapSeq fun xs => xs.push v)
  refine wpAny_bind (wpAny_bind (wpAny_seqItems ho' rfl (wpAny_pure ?_)))
  have esz : ((l ++ [(v, d)]).map Prod.fst).toArray.size - 1 = l.length := by simp
  rw [esz]
  refine wpAny_pure ⟨plainId_quiet plain_sift _, ?_⟩
  have hin : ∀ x ∈ l ++ [(v, d)], TupAt (s.heap.update q (Obj.mapSeq fun xs => xs.push v)) x.1 x.2 := fun x hx => by
    refine tups_but sb ho ?_
    rcases List.mem_append.mp hx with hx | hx
    · exact ht x hx
    · rw [List.mem_singleton.mp hx]; exact hv
  refine sift_up l.length (l ++ [(v, d)]) n' _ ho' hin (by simp) (by simp; omega) (push_up hI _) (by omega) ?_
  intro h2 l' n'' hs' ho'' hp' hh'
  exact h h2 l' n'' (sb.trans hs') ho'' (hp'.trans List.perm_append_comm) hh'

theorem call_pop {Q : Value → Shared → Prop} (ho : s.heap.get? q = some (hobj l n)) (ht : ∀ x ∈ l, TupAt s.heap x.1 x.2) (hne : l ≠ []) (hsz : l.length < 900) (hI : IsHp l) (hu : A.units + 20 < cLine)
    (h : ∀ h' v d l' n', Heap.SameBut q s.heap h' → h'.get? q = some (hobj l' n') → l.Perm ((v, d) :: l') → (∀ x ∈ l, ILe d x.2) → IsHp l' → Q v { s with heap := h' }) :
    wpAny (model prog w) A (call (.builtin "_heapq.heappop") [.ref q]) Q E s := by
  refine call_function_meets kind_pop plain_pop entry_pop (args_pop _) (S := fun A R s => s.heap.get? q = some (hobj l n) ∧ (∀ x ∈ l, TupAt s.heap x.1 x.2) ∧ A.units + 20 < cLine ∧
    ∀ h' v d l' n', Heap.SameBut q s.heap h' → h'.get? q = some (hobj l' n') → l.Perm ((v, d) :: l') → (∀ x ∈ l, ILe d x.2) → IsHp l' → R (.ok (.ret v)) { s with heap := h' }) ?_ ⟨ho, ht, hu, h⟩
  rintro prog w A R s ⟨ho, ht, hu, h⟩
  have hT : s.TypeIs (.ref q) "list" := ⟨_, ho, rfl⟩
  have hl0 : 0 < l.length := List.length_pos_iff.mpr hne
  have hmin : ∀ x ∈ l, ILe (dat l 0) x.2 := fun x hx => by
    obtain ⟨i, hi, rfl⟩ := List.getElem_of_mem hx
    have := head_min hI i hi
    have e : dat l i = l[i].2 := by unfold dat; simp [List.getD_eq_getElem?_getD, hi]
    rw [e] at this; exact this
  refine wpAny_bind ?_
  refine wpAny_bind ?_
  refine wpAny_of_eq (a := .ref q) rfl ?_
  refine wpAny_bind (wpAny_bind (wpAny_isInstance hT AutoSeq1.sub_list_list ?_))
  rw [if_pos rfl]
  refine wpAny_pure (wpAny_pure ?_)
  dsimp only
  refine wpAny_bind (wpAny_bind (wpAny_seqItems ho rfl (wpAny_pure ?_)))
  have eback : (l.map Prod.fst).toArray.back? = some (l.getD (l.length - 1) vd).1 := by
    rw [Array.back?_eq_getElem?]
    have := fst_at (l := l) (i := l.length - 1) (by omega)
    simpa using this
  rw [eback]
  dsimp only
  have epop : (l.map Prod.fst).toArray.pop = (l.dropLast.map Prod.fst).toArray := by simp [List.map_dropLast]
  refine wpAny_bind (wpAny_updateSeq ho rfl ?_ (by rw [sizeLine_eq]; simp; omega) (by rw [sizeLine_eq]; simp; omega))
  obtain ⟨n', ho'⟩ := upd_obj (l' := l.dropLast) (fun xs => xs.pop) ho epop
  have sb := Heap.SameBut.update s.heap q (Obj.mapSeq fun xs => xs.pop)
  by_cases h1 : l.length = 1
  · rw [if_pos (by simp [h1])]
    refine wpAny_pure ?_
    match l, h1 with
    | [x], _ =>
      refine h _ x.1 x.2 [] n' sb ho' (List.Perm.refl _) (fun y hy => by rw [List.mem_singleton.mp hy]; exact ILe.refl _) (fun j _ hj => by simp at hj)
  · rw [if_neg (by simp [h1])]
    refine wpAny_bind (m := _) ?_
    show wpAny _ _ (match (l.map Prod.fst).toArray[0]? with | some v => pure v | none => _) _ _ _
    rw [fst_at hl0]
    refine wpAny_pure ?_
    have eset : (l.dropLast.map Prod.fst).toArray.setIfInBounds 0 (l.getD (l.length - 1) vd).1 = ((l.dropLast.set 0 (l.getD (l.length - 1) vd)).map Prod.fst).toArray := by
      simp [List.map_set]
    refine wpAny_bind (wpAny_updateSeq ho' rfl ?_ (by rw [sizeLine_eq]; simp; omega) (by rw [sizeLine_eq]; simp; omega))
    obtain ⟨n2, ho2⟩ := upd_obj (l' := l.dropLast.set 0 (l.getD (l.length - 1) vd)) (fun xs => xs.setIfInBounds 0 (l.getD (l.length - 1) vd).1) ho' eset
    have sb2 := sb.trans (Heap.SameBut.update _ q (Obj.mapSeq fun xs => xs.setIfInBounds 0 (l.getD (l.length - 1) vd).1))
    have hperm := pop_perm (l := l) (by omega)
    refine wpAny_pure ⟨plainId_quiet plain_sift _, ?_⟩
    refine sift_down l.length 0 (l.dropLast.set 0 (l.getD (l.length - 1) vd)) n2 _ (by simp) ho2 (fun x hx => tups_but sb2 ho (ht x (hperm.mem_iff.mp (List.mem_cons_of_mem _ hx)))) (by simp; omega) (by simp; omega) (pop_dn hI (by omega)) (by omega) ?_
    intro h2 l' n'' hs' ho'' hp' hh'
    exact h h2 (l.getD 0 vd).1 (l.getD 0 vd).2 l' n'' (sb2.trans hs') ho'' (hperm.symm.trans (List.Perm.cons _ hp'.symm)) hmin hh'
end
end Mine

namespace Mine
set_option maxRecDepth 100000
set_option maxHeartbeats 4000000
theorem fill : hd.heap_39 = hd.heap_39 ∧ PySem.Challenge.rw_aq6018_01.foot = 6 := by
  w_top off
  k_fill
  exact ⟨rfl, rfl⟩

local macro_rules | `(tactic| walk_at "compareOp LtE bytes bytes") => `(tactic| (refine le_bytes ?_))

theorem ahead_code {p : Program} {loose : List Str} {mg mb : Str → Option Value} {prog : Program} {w : World} {A : Around} {s : Shared} {R : Result → Shared → Prop} {v u : Value} {x y : It}
    (hroom : A.depth < recursionLimit)
    (KX : (hd.heap_39 w.params).In s.heap) (T : TopRead p loose mg mb s.heap)
    (hv : TupAt s.heap v x) (hu : TupAt s.heap u y)
    (h : ∀ r h' tk, r = ahead x y → Kept s.heap h' → R (.ok (.ret (.bool r))) { s with heap := h', toks := tk }) :
    codeAny (model prog w) A (.call (.ref 98) ⟨[v, u], []⟩) R s := by
  obtain ⟨a, t1, t2, rfl, ha'⟩ := hv.tuple
  obtain ⟨c, t3, t4, rfl, hc'⟩ := hu.tuple
  obtain ⟨x, b⟩ := x
  obtain ⟨y, d⟩ := y
  have ha : IsTup s.heap a #[.int x t1, .bytes b.toArray t2] := ha'
  have hc : IsTup s.heap c #[.int y t3, .bytes d.toArray t4] := hc'
  clear ha' hc'
  refine' enter (binds := [(Str.ofString "one", .ref a), (Str.ofString "other", .ref c)]) KX T.nolimit ?ho ?hcd hroom ?hb ?hl ?_ ?c1 ?c2 ?c3 ?c4
  case ho => k_is
  case hcd => k_is
  case hb => exact BindsTo.of_eq rfl
  case hl => exact locs rfl
  case c4 => decide
  case c1 => rfl
  case c2 => rfl
  case c3 => rfl
  intro h₁ F N
  k_steps
  all_goals dsimp only
  · exact h _ _ _ (by simp_all [ahead]) F.keep
  · exact h _ _ _ (by simp_all [ahead]) F.keep
  · rename_i h1 h2
    refine h _ _ _ ?_ F.keep
    have e1 : (x == y) = false := beq_eq_false_iff_ne.mpr h2
    simp [ahead, h1, h2, e1]
end Mine

namespace Mine

section
variable {prog : Program} {w : World} {A : Around} {E : Value → Shared → Prop} {s : Shared} {env : Env} {h₀ : Heap} {x : Str} {body : List Stmt} {Q : Flow → Shared → Prop}
/-- a loop over a list that stays, the ledger kept -/
theorem iter_keep {l : Addr} {vs : List Value} {m₀ : Str → Option Value} {news : List (Addr × Obj)} (J : Nat → (Str → Option Value) → Prop)
    (hh : A.handled = none) (hl : s.heap.IsList l vs.toArray) (hin : (∃ o, h₀.get? l = some o) ∨ ∃ o, (l, o) ∈ news) (F : Fr h₀ env.locals s.heap m₀) (N : News h₀ env.locals s.heap news) (hj : J 0 m₀)
    (turn : ∀ i v m₁ h tk own, vs[i]? = some v → J i m₁ → Fr h₀ env.locals h (fun y => if y = x then some v else m₁ y) → News h₀ env.locals h (own ++ news) →
      wpAny (model prog w) A (execs body env) (InvPost h₀ env.locals (J (i + 1)) (own ++ news) { s with heap := h, toks := tk } Q) E { s with heap := h, toks := tk })
    (done : ∀ m₁ h tk, J vs.length m₁ → Fr h₀ env.locals h m₁ → News h₀ env.locals h news → Q .next { s with heap := h, toks := tk }) :
    wpAny (model prog w) A (pyIter (.ref l)) (fun it s₂ => LoopAtV prog w A h₀ env x body Q E it s₂) E s := by
  obtain ⟨ol, hol, _⟩ := id hl
  have hlL : l ≠ env.locals := by
    rcases hin with ⟨o, ho⟩ | ⟨o, ho⟩
    · exact Nat.ne_of_lt (Nat.lt_of_lt_of_le (Heap.lt_size ho) F.above)
    · exact (N _ ho).2.1
  have hne : l ≠ s.heap.objs.size := Nat.ne_of_lt (Heap.lt_size hol)
  refine wpAny_pyIter_list hl ?_
  have W := Walks.list (prog := prog) (w := w) hh s.heap.objs.size l hne vs.toArray
  have hlen : vs.toArray.size = vs.length := by simp
  rw [hlen] at W
  let J' : Nat → (Str → Option Value) → List (Addr × Obj) → Prop := fun i m₁ news₁ => news₁ = news ∧ J i m₁
  refine ⟨_, _, _, vs.length, _, _, m₀, news, J', rfl, W, ?_, ?_, ?_, ⟨⟨_, Heap.get?_push_size _ rfl, rfl, rfl⟩, hl.at fun o e => Heap.get?_push_of_some _ e⟩, F.push _, (fun p hp => ⟨Heap.get?_push_of_some _ (N p hp).1, (N p hp).2⟩), ⟨rfl, hj⟩, ?_, ?_⟩
  · intro hm
    rcases List.mem_cons.mp hm with e | hm
    · exact absurd F.ns.lt (e ▸ Nat.lt_irrefl _)
    · exact hlL (List.mem_singleton.mp hm).symm
  · intro b hb
    rw [List.mem_singleton.mp hb]
    exact next_is_new F
  · intro p hp hI
    exact absurd (Heap.lt_size (N p hp).1) ((List.mem_singleton.mp hI) ▸ Nat.lt_irrefl _)
  · rintro i v m₁ news₁ s₁ own ⟨hh', tk', rfl⟩ hin hP ⟨rfl, hJ⟩ hoff _ _ _ _ F₁ N₁
    have hP' : vs[i]? = some v := by simpa using hP
    refine wpAny_mono (turn i v m₁ hh' tk' own hP' hJ F₁ N₁) (fun f s₂ p => ?_) fun _ _ e => e
    have fin : InvEnd h₀ env.locals (J (i + 1)) (own ++ news₁) { s with heap := hh', toks := tk' } s₂ → LoopStepU h₀ env.locals [s.heap.objs.size] own (J' (i + 1)) { s with heap := hh', toks := tk' } .next s₂ := by
      rintro ⟨h', tk, m', news', e, F', N', hn, hm⟩
      exact ⟨rfl, h', tk, m', news₁, e, F', fun p hp => N' p (hn p hp), hoff, rfl, hm⟩
    cases f with
    | ret v => exact .ret p
    | brk => exact .brk p
    | next => exact .next (fin p)
    | cont => exact .cont (fin p)
  · rintro h' tk m' news' F' N' _ ⟨rfl, hJ⟩
    exact done m' h' tk hJ F' N'
end
end Mine

namespace Mine
set_option maxRecDepth 100000
set_option maxHeartbeats 4000000

section
variable {prog : Program} {w : World} {A : Around} {E : Value → Shared → Prop} {s : Shared} {h₀ : Heap} {L : Addr} {m : Str → Option Value}
theorem item_L {value slice : Expr} {l : Addr} {vs : Array Value} {k : Int} {u : Tok} {v : Value} {Q : Value → Shared → Prop}
    (hl : s.heap.IsList l vs) (h0 : 0 ≤ k) (hhi : k < 2 ^ 63) (hx : vs[k.toNat]? = some v) (h : Q v s)
    (hs : subscripted slice false (.ref l) (.int k u) = operate [.ref l, .int k u] (getItem (.ref l) (.int k u)) := by with_unfolding_all rfl) :
    wpAny (model prog w) A (subscriptTail value slice (.ref l) (.int k u)) Q E s :=
  tail_any hl.typeIs slot_list_getitem.lookup (wpAny_getItem_list hl h0 hhi hx h) hs
end

theorem first_code {p : Program} {loose : List Str} {mg mb : Str → Option Value} {prog : Program} {w : World} {A : Around} {s : Shared} {R : Result → Shared → Prop} {r : Addr} {l : List VI}
    (hroom : A.depth + 1 < recursionLimit) (hh : A.handled = none)
    (KX : (hd.heap_39 w.params).In s.heap) (T : TopRead p loose mg mb s.heap)
    (hr : s.heap.IsList r (l.map Prod.fst).toArray) (ht : ∀ x ∈ l, TupAt s.heap x.1 x.2) (hne : l ≠ [])
    (h : ∀ v d h' tk, (v, d) ∈ l → (∀ x ∈ l, ILe (neg d) (neg x.2)) → Kept s.heap h' → R (.ok (.ret v)) { s with heap := h', toks := tk }) :
    codeAny (model prog w) A (.call (.ref 105) ⟨[.ref r], []⟩) R s := by
  refine' enter (binds := [(Str.ofString "row", .ref r)]) KX T.nolimit ?ho ?hcd (by omega) ?hb ?hl ?_ ?c1 ?c2 ?c3 ?c4
  case ho => k_is
  case hcd => k_is
  case hb => exact BindsTo.of_eq rfl
  case hl => exact locs rfl
  case c4 => decide
  case c1 => rfl
  case c2 => rfl
  case c3 => rfl
  intro h₁ F N
  k_steps
  obtain ⟨x0, l', rfl⟩ : ∃ x0 l', l = x0 :: l' := by
    cases l with
    | nil => exact absurd rfl hne
    | cons a b => exact ⟨a, b, rfl⟩
  have hr1 : h₁.IsList r ((x0 :: l').map Prod.fst).toArray := hr.at fun o e => F.keep _ o e
  refine item_L hr1 (by decide) (by decide) (v := x0.1) (by simp) ?_
  k_steps
  rename_i h₂ F₂ N₂
  refine For_invV s.heap rfl rfl ?_ (hE := PassesOwn.never)
  k_steps
  refine iter_keep (l := r) (vs := (x0 :: l').map Prod.fst) (news := [])
    (fun i m₁ => ∃ bv bd iv, m₁ = (fun z => if z = Str.ofString "best" then some bv else if z = Str.ofString "item" then iv else if z = Str.ofString "row" then some (.ref r) else none) ∧ (bv, bd) ∈ x0 :: l' ∧ ∀ j x, j < i → (x0 :: l')[j]? = some x → ILe (neg bd) (neg x.2))
    hh (hr.at fun o e => F₂.keep _ o e) (.inl (let ⟨o, ho, _⟩ := hr; ⟨o, ho⟩)) F₂ N₂ ?_ ?_ ?_
  · refine ⟨x0.1, x0.2, none, ?_, List.mem_cons_self, fun j x hj => absurd hj (Nat.not_lt_zero _)⟩
    funext z
    by_cases h1 : z = Str.ofString "best"
    · subst h1; rfl
    · by_cases h2 : z = Str.ofString "item"
      · subst h2; rfl
      · by_cases h3 : z = Str.ofString "row"
        · subst h3; rfl
        · have h3' : (z == Str.ofString "row") = false := by simpa using h3
          simp [h1, h2, h3, h3', List.lookup]
  · rintro i v m₁ h₃ tk₃ own hv ⟨bv, bd, iv, rfl, hb1, hb2⟩ F₃ N₃
    k_steps
    obtain ⟨xi, hxi, rfl⟩ : ∃ xi, (x0 :: l')[i]? = some xi ∧ xi.1 = v := by
      rw [List.getElem?_map] at hv
      cases e : (x0 :: l')[i]? with
      | none => rw [e] at hv; cases hv
      | some xi => rw [e] at hv; exact ⟨xi, rfl, by simpa using hv⟩
    have hxm : xi ∈ x0 :: l' := List.mem_of_getElem? hxi
    have keepT : ∀ {v d}, (v, d) ∈ x0 :: l' → TupAt h₃ v d := fun {v d} hm => (ht (v, d) hm).keep fun b o e _ => F₃.keep b o e
    refine wpAny_call (ahead_code (A := A.deeper _) (x := bd) (y := xi.2) (by show A.depth + 1 < _; exact hroom) (KX.keeps F₃.keep) (T.keeps F₃.keep) (keepT hb1) (keepT hxm) fun r₁ h₄ tk₄ er hk => ?_)
    dsimp only
    have F₄ := F₃.kept hk
    have N₄ := N₃.grown hk
    clear F₃ N₃
    have stepT : ∀ cd : It, ILe (neg cd) (neg bd) → ILe (neg cd) (neg xi.2) → ∀ j x, j < i + 1 → (x0 :: l')[j]? = some x → ILe (neg cd) (neg x.2) := by
      intro cd h1 h2 j x hj hx
      by_cases e : j = i
      · subst e
        rw [hxi] at hx
        cases hx
        exact h2
      · exact h1.trans (hb2 j x (by omega) hx)
    cases r₁ with
    | true =>
      k_steps
      refine InvEnd.intro F₄ N₄ (fun _ hp => hp) ⟨bv, bd, some xi.1, ?_, hb1, stepT bd (ILe.refl _) ((ahead_iff _ _).mp er.symm)⟩
      funext z
      by_cases h1 : z = Str.ofString "best"
      · subst h1; rfl
      · by_cases h2 : z = Str.ofString "item"
        · subst h2; rfl
        · simp [h1, h2]
    | false =>
      k_steps
      rename_i h₅ F₅ N₅
      have hlt : ILe (neg xi.2) (neg bd) := by
        rcases ILe.total (neg bd) (neg xi.2) with z | z
        · rw [(ahead_iff _ _).mpr z] at er; cases er
        · exact z
      refine InvEnd.intro F₅ N₅ (fun _ hp => hp) ⟨xi.1, xi.2, some xi.1, ?_, hxm, stepT xi.2 hlt (ILe.refl _)⟩
      funext z
      by_cases h1 : z = Str.ofString "best"
      · subst h1; rfl
      · by_cases h2 : z = Str.ofString "item"
        · subst h2; rfl
        · simp [h1, h2]
  · rintro m₁ h₃ tk₃ ⟨bv, bd, iv, rfl, hb1, hb2⟩ F₃ N₃
    k_steps
    refine h bv bd h₃ tk₃ hb1 (fun x hx => ?_) F₃.keep
    obtain ⟨j, hj, e⟩ := List.getElem_of_mem hx
    exact hb2 j x (by simpa using hj) (by rw [← e]; simp [hj])
end Mine

namespace Mine
set_option maxRecDepth 100000
set_option maxHeartbeats 4000000

section
variable {prog : Program} {w : World} {A : Around} {E : Value → Shared → Prop} {s : Shared}
theorem call_index {r : Addr} {l : List VI} {v : Value} {d : It} {j : Nat} {Q : Value → Shared → Prop} (hr : s.heap.IsList r (l.map Prod.fst).toArray) (ht : ∀ x ∈ l, TupAt s.heap x.1 x.2) (hv : TupAt s.heap v d)
    (hj : j < l.length) (hit : (l.getD j vd).2 = d) (hno : ∀ i, i < j → (l.getD i vd).2 ≠ d) (hsz : l.length < 1000) (hu : A.units + 20 < cLine) (h : Q (.int j s.toks) { s with toks := s.toks + 1 }) :
    wpAny (model prog w) A (call (.builtin "list.index") [.ref r, v]) Q E s := by
  classical
  obtain ⟨⟨cls, dd, data, sl⟩, ho, hc, n, hd⟩ := id hr
  simp only at hc hd
  subst hc hd
  have at_ : ∀ i (hi : i < (l.map Prod.fst).toArray.size), (l.map Prod.fst).toArray[i] = (l.getD i vd).1 := fun i hi => by
    have hi' : i < l.length := by simpa using hi
    simp [List.getD_eq_getElem?_getD, hi']
  refine call_meets PySem.F.slot_list_index ⟨_, ho, rfl⟩ PySem.F.entry_list_index (PySem.F.args_list_index_2 _ _)
    (SeqAt.list_indexAt r (l.map Prod.fst).toArray n dd sl v (fun y => decide (TupAt s.heap y d)) j (by simpa using hj) (by omega) ?_ ?_) ⟨ho, fun y hy => ?_, h⟩
  · rw [at_ j (by simpa using hj)]
    have := tup_at ht hj
    unfold dat at this
    rw [hit] at this
    exact decide_eq_true this
  · intro i hi hij
    rw [at_ i hi]
    have hi' : i < l.length := by simpa using hi
    have := tup_at ht hi'
    exact decide_eq_false fun z => hno i hij (TupAt.inj this z)
  · obtain ⟨x, hx, rfl⟩ : ∃ x ∈ l, x.1 = y := by simpa using hy
    have e := eq_at (A := A.in1) (ht x hx) hv (by show A.units + 1 < cLine; omega)
    have e2 : decide (x.2 = d) = decide (TupAt s.heap x.1 d) := by
      by_cases z : x.2 = d
      · rw [decide_eq_true z, decide_eq_true (z ▸ ht x hx)]
      · rw [decide_eq_false z, decide_eq_false fun q => z (TupAt.inj (ht x hx) q)]
    rw [e2] at e
    exact e
end

/-- a plain list that bears the pairs -/
def LAt (h : Heap) (a : Addr) (l : List VI) : Prop := ∃ n, h.get? a = some (hobj l n)
theorem LAt.isList {h : Heap} {a : Addr} {l : List VI} (x : LAt h a l) : h.IsList a (l.map Prod.fst).toArray := let ⟨n, e⟩ := x; ⟨_, e, rfl, n, rfl⟩
theorem LAt.kept {h h' : Heap} {a : Addr} {l : List VI} (x : LAt h a l) (k : Kept h h') : LAt h' a l := let ⟨n, e⟩ := x; ⟨n, k _ _ e⟩
theorem LAt.noDict {h : Heap} {a : Addr} {l : List VI} (x : LAt h a l) : h.NoDictAt (.ref a) := by
  obtain ⟨n, e⟩ := x
  exact ⟨_, e, rfl⟩

end Mine

namespace Mine
set_option maxRecDepth 100000
set_option maxHeartbeats 4000000
theorem without_code {p : Program} {loose : List Str} {mg mb : Str → Option Value} {prog : Program} {w : World} {A : Around} {s : Shared} {R : Result → Shared → Prop} {r : Addr} {l : List VI} {v : Value} {d : It}
    (hroom : A.depth + 1 < recursionLimit) (hh : A.handled = none) (hu : A.units + 100 < cLine)
    (KX : (hd.heap_39 w.params).In s.heap) (T : TopRead p loose mg mb s.heap)
    (hr : LAt s.heap r l) (ht : ∀ x ∈ l, TupAt s.heap x.1 x.2) (hv : TupAt s.heap v d) (hd : ∃ x ∈ l, x.2 = d) (hsz : l.length < 900)
    (h : ∀ a l' h' tk, h'.get? a = some (listOf ((l'.map Prod.fst).toArray) 0) → s.heap.get? a = none → (∃ v', l.Perm ((v', d) :: l')) → Kept s.heap h' → R (.ok (.ret (.ref a))) { s with heap := h', toks := tk }) :
    codeAny (model prog w) A (.call (.ref 112) ⟨[.ref r, v], []⟩) R s := by
  refine' enter (binds := [(Str.ofString "row", .ref r), (Str.ofString "item", v)]) KX T.nolimit ?ho ?hcd (by omega) ?hb ?hl ?_ ?c1 ?c2 ?c3 ?c4
  case ho => k_is
  case hcd => k_is
  case hb => exact BindsTo.of_eq rfl
  case hl => exact locs rfl
  case c4 => decide
  case c1 => rfl
  case c2 => rfl
  case c3 => rfl
  intro h₁ F N
  obtain ⟨j, hj, hit, hno⟩ : ∃ j, j < l.length ∧ (l.getD j vd).2 = d ∧ ∀ i, i < j → (l.getD i vd).2 ≠ d := by
    have hex : ∃ j, j < l.length ∧ (l.getD j vd).2 = d := by
      obtain ⟨x, hx, e⟩ := hd
      obtain ⟨j, hj, rfl⟩ := List.getElem_of_mem hx
      exact ⟨j, hj, by simpa [List.getD_eq_getElem?_getD, hj] using e⟩
    obtain ⟨j, hj⟩ := hex
    induction j using Nat.strongRecOn with
    | ind j ih =>
      by_cases z : ∃ i, i < j ∧ (l.getD i vd).2 = d
      · obtain ⟨i, hi, e⟩ := z
        exact ih i hi ⟨by omega, e⟩
      · exact ⟨j, hj.1, hj.2, fun i hi e => z ⟨i, hi, e⟩⟩
  have hr1 : LAt h₁ r l := hr.kept F.keep
  have ht1 : ∀ x ∈ l, TupAt h₁ x.1 x.2 := fun x hx => (ht x hx).keep fun b o e _ => F.keep b o e
  have hv1 := hv.keep fun b o e _ => F.keep b o e
  k_steps
  refine getMethod_list_of PySem.F.slot_list_index PySem.F.type_list_index hr1.isList hr1.noDict ?_
  k_steps
  refine call_index hr1.isList ht1 hv1 hj hit hno (by omega) (by show A.units + 3 + 20 < cLine; omega) ?_
  k_steps
  rename_i h₂ F₂ N₂
  have hsize : (l.map Prod.fst).toArray.size ≤ sizeLine := by rw [sizeLine_eq]; simp; omega
  refine' kmk_slice (s := { s with heap := h₂, toks := _ }) F₂ N₂ (hr.kept F₂.keep).isList IsPart.none (IsPart.int _ _) (fun D h₃ F₃ N₃ l3 => ?_) ?s ?t hsize
  case s => with_unfolding_all rfl
  case t => intro _; with_unfolding_all rfl
  k_steps
  refine' kmk_slice (s := { s with heap := h₃, toks := _ }) F₃ N₃ (hr.kept F₃.keep).isList (IsPart.int _ _) IsPart.none (fun D' h₄ F₄ N₄ l4 => ?_) ?s ?t hsize
  case s => with_unfolding_all rfl
  case t => intro _; with_unfolding_all rfl
  have e1 : slicePick (l.map Prod.fst).toArray none (some ((j : Nat) : Int)) none = ((l.take j).map Prod.fst).toArray := by
    rw [slicePick_upto']; simp [List.map_take]
  have e2 : slicePick (l.map Prod.fst).toArray (some (((j : Nat) : Int) + 1)) none none = ((l.drop (j + 1)).map Prod.fst).toArray := by
    have := slicePick_from' (l.map Prod.fst).toArray (j + 1)
    rw [show (((j + 1 : Nat)) : Int) = ((j : Nat) : Int) + 1 by omega] at this
    rw [this]; simp [List.map_drop]
  rw [e1, e2] at N₄
  refine add_arrays F₄ N₄ (News.isList N₄ (.tail _ (.head _))) (News.isList N₄ (.head _)) (fun h₅ F₅ N₅ => ?_) (by rw [sizeLine_eq]; simp; omega)
  k_steps
  have e3 : (((l.take j).map Prod.fst).toArray.toList ++ ((l.drop (j + 1)).map Prod.fst).toArray.toList).toArray = ((l.eraseIdx j).map Prod.fst).toArray := by
    simp [List.eraseIdx_eq_take_drop_succ]
  rw [e3] at N₅
  have hperm : l.Perm (((l.getD j vd).1, d) :: l.eraseIdx j) := by
    have hx : ((l.getD j vd).1, d) = l[j] := by
      rw [← hit]; simp [List.getD_eq_getElem?_getD, hj]
    rw [hx]
    rw [List.eraseIdx_eq_take_drop_succ]
    have hl : l = l.take j ++ l[j] :: l.drop (j + 1) := by rw [List.getElem_cons_drop, List.take_append_drop]
    exact (List.Perm.of_eq hl).trans List.perm_middle
  refine h _ (l.eraseIdx j) _ _ (N₅ _ (.head _)).1 (N₅ _ (.head _)).2.2 ⟨_, hperm⟩ F₅.keep
end Mine

namespace Mine
set_option maxRecDepth 100000
set_option maxHeartbeats 4000000

/-- all but one object stands -/
abbrev KeptBut (q : Addr) (h h' : Heap) : Prop := ∀ b o, h.get? b = some o → b ≠ q → h'.get? b = some o

theorem hide_in {K : Frag} {h : Heap} {q : Addr} {oq : Obj} (X : K.In h) (hq : h.get? q = some oq) (hc : oq.cls = .type "list") (hk : K.all (fun p => p.2.cls != .type "list") = true) : K.In (h.hide q) := by
  intro a o e
  have ha := X a o e
  refine (Heap.hide_ne h fun z => ?_).trans ha
  subst z
  rw [hq] at ha
  cases ha
  have hm : (a, oq) ∈ K := by
    clear X hk
    induction K with
    | nil => cases e
    | cons p r ih =>
      obtain ⟨b, o⟩ := p
      rw [List.lookup_cons] at e
      by_cases z : (a == b) = true
      · rw [z] at e; cases e; rw [eq_of_beq z]; exact .head _
      · have z' : (a == b) = false := by simpa using z
        rw [z'] at e; exact .tail _ (ih e)
  have := List.all_eq_true.mp hk _ hm
  rw [show (a, oq).2.cls = .type "list" from hc] at this
  exact absurd this (by decide)
theorem ns_hide {h : Heap} {q a : Addr} {oq : Obj} {m : Str → Option Value} (N : h.Ns a m) (hq : h.get? q = some oq) (hd : ∀ es ep, oq.data ≠ .dict es ep) : (h.hide q).Ns a m := by
  obtain ⟨o, es, ep, ho, hdd, r⟩ := N
  refine ⟨o, es, ep, (Heap.hide_ne h fun z => ?_).trans ho, hdd, r⟩
  subst z
  rw [hq] at ho
  cases ho
  exact hd _ _ hdd
theorem hide_top {p : Program} {loose : List Str} {mg mb : Str → Option Value} {h : Heap} {q : Addr} {oq : Obj} (T : TopRead p loose mg mb h) (hq : h.get? q = some oq) (hd : ∀ es ep, oq.data ≠ .dict es ep) : TopRead p loose mg mb (h.hide q) :=
  ⟨ns_hide T.g hq hd, ns_hide T.b hq hd, let ⟨mc, a, b⟩ := T.nolimit; ⟨mc, ns_hide a hq hd, b⟩, T.builtins, T.free⟩
theorem frag_lists (P : Params) : (hd.heap_39 P).all (fun p => p.2.cls != .type "list") = true := by kernel_rfl

theorem enter_h {prog : Program} {w : World} {A : Around} {R : Result → Shared → Prop} {s : Shared} {K : Frag} {name qual : Str} {params : Arguments} {body : List Stmt} {scope : Scope}
    {dV kV doc pm cdv ct oc : Value} {an od : Option Addr} {osl : Array (Option Value)} {f : Addr} {args : Args} {binds : List (Str × Value)} {q : Addr} {oq : Obj}
    (X : K.In s.heap) (hlim : s.heap.NoLimit) (hq : s.heap.get? q = some oq)
    (ho : K.lookup f = some ⟨oc, od, .func (fnOf name qual params body scope dV kV doc pm an cdv ct), osl⟩) (hcd : codeIn K cdv qual = true) (hroom : A.depth < recursionLimit)
    (hbind : BindsTo s (fnOf name qual params body scope dV kV doc pm an cdv ct) args binds) (hloc : ∀ y ∈ binds, scope.names.lookup y.1 = some .local)
    (h : ∀ h₁, Fr (s.heap.hide q) s.heap.objs.size h₁ (fun y => binds.reverse.lookup y) → News (s.heap.hide q) s.heap.objs.size h₁ [(q, oq)] → Kept s.heap h₁ →
      wpAny (model prog w) (A.deeper (envOf qual scope s.heap.objs.size f cdv)) (execs body (envOf qual scope s.heap.objs.size f cdv))
        (fun fl s' => R (.ok (.ret (match fl with | .ret v => v | _ => .none))) s') (fun _ _ => False)
        { s with heap := h₁, toks := s.toks + binds.length })
    (hco : scope.isCoroutine = false := by rfl) (hgen : scope.isGenerator = false := by rfl) (hk : scope.kind = .function := by rfl)
    (hcell : ∀ x ∈ scope.names, x.2 ≠ .cell := by decide) : codeAny (model prog w) A (.call (.ref f) args) R s := by
  refine codeAny_call_def (fd := fnOf name qual params body scope dV kV doc pm an cdv ct) (body := body) (binds := binds) hroom (X _ _ ho) rfl hlim (codeRec_of X hcd) rfl hbind hcell hloc (fun h₁ hns hk₁ => ?_) hco hgen hk
  refine wpAny_mono (h h₁ ⟨hns, fun b o e => hk₁ b o (Heap.of_hide e), Nat.le_of_eq (Heap.hide_size ..)⟩ (fun p hp => ?_) hk₁) (fun _ _ x => x) (fun _ _ x => x.elim)
  rw [List.mem_singleton.mp hp]
  exact ⟨hk₁ _ _ hq, Nat.ne_of_lt (Heap.lt_size hq), Heap.hide_self _ _⟩

/-- a work list: its object, its dict, the list within -/
def WAt (h : Heap) (wk q : Addr) : Prop :=
  ∃ dx hs t n, InstAt h wk (instObj 80 dx) 80 (some (dictOf [⟨hs, .str (Str.ofString "pq") t, .ref q⟩] n))
theorem WAt.kept {h h' : Heap} {wk q : Addr} {b : Addr} {ob : Obj} (x : WAt h wk q) (hb : h.get? b = some ob) (hc : ob.cls = .type "list") (k : KeptBut b h h') : WAt h' wk q := by
  obtain ⟨dx, hs, t, n, I⟩ := x
  have i2 : h.get? dx = some (dictOf [⟨hs, .str (Str.ofString "pq") t, .ref q⟩] n) := I.dict
  refine ⟨dx, hs, t, n, k _ _ I.at_ (fun e => ?_), I.cls, I.no, k _ _ i2 fun e => ?_⟩
  · have := I.at_; rw [e, hb] at this; cases this; cases hc
  · rw [e, hb] at i2; cases i2; exact absurd (show Value.type "dict" = .type "list" from hc) (by decide)
theorem tup_hide {h : Heap} {q : Addr} {oq : Obj} (hq : h.get? q = some oq) (hc : oq.cls = .type "list") {v : Value} {p : It} (x : TupAt h v p) : TupAt (h.hide q) v p :=
  x.keep fun b o e ht => (Heap.hide_ne h fun z => by subst z; rw [hq] at e; cases e; rw [hc] at ht; exact absurd ht (by decide)).trans e
theorem TupAt.kept {h h' : Heap} {v : Value} {p : It} (x : TupAt h v p) (k : Kept h h') : TupAt h' v p := x.keep fun b o e _ => k b o e
theorem keptBut_of {h h' : Heap} {q : Addr} (k : Kept (h.hide q) h') : KeptBut q h h' := fun b o e hb => k b o ((Heap.hide_ne h hb).trans e)
theorem KeptBut.same {h h₁ h' : Heap} {q : Addr} (k : KeptBut q h h₁) (s : Heap.SameBut q h₁ h') : KeptBut q h h' := fun b o e hb => (s.2 b hb).trans (k b o e hb)
end Mine

namespace Mine
set_option maxRecDepth 100000
set_option maxHeartbeats 4000000

theorem instAt_kept {h h' : Heap} {x C : Addr} {ox od : Obj} (I : InstAt h x ox C (some od)) (k : ∀ b o, h.get? b = some o → h'.get? b = some o) : InstAt h' x ox C (some od) := by
  refine ⟨k _ _ I.at_, I.cls, I.no, ?_⟩
  have := I.dict
  revert this
  cases ox.dict with
  | none => exact id
  | some dx => exact k _ _
local macro_rules | `(tactic| k_inst) => `(tactic| exact instAt_kept (by assumption) (Fr.keep (by assumption)))

theorem add_code {p : Program} {loose : List Str} {mg mb : Str → Option Value} {prog : Program} {w : World} {A : Around} {s : Shared} {R : Result → Shared → Prop} {wk q : Addr} {l : List VI} {n : Nat} {v : Value} {d : It}
    (hroom : A.depth + 1 < recursionLimit) (hh : A.handled = none) (hu : A.units + 100 < cLine)
    (KX : (hd.heap_39 w.params).In s.heap) (T : TopRead p loose mg mb s.heap)
    (hw : WAt s.heap wk q) (hq : s.heap.get? q = some (hobj l n)) (ht : ∀ x ∈ l, TupAt s.heap x.1 x.2) (hI : IsHp l) (hsz : l.length < 800) (hv : TupAt s.heap v d)
    (h : ∀ h' tk v' l' n', KeptBut q s.heap h' → h'.get? q = some (hobj l' n') → l'.Perm ((v', neg d) :: l) → (∀ x ∈ l', TupAt h' x.1 x.2) → IsHp l' → R (.ok (.ret .none)) { s with heap := h', toks := tk }) :
    codeAny (model prog w) A (.call (.ref 63) ⟨[.ref wk, v], []⟩) R s := by
  obtain ⟨a, t1, t2, rfl, ha'⟩ := hv.tuple
  refine' enter_h (binds := [(Str.ofString "self", .ref wk), (Str.ofString "item", .ref a)]) KX T.nolimit hq ?ho ?hcd (by omega) ?hb ?hl ?_ ?c1 ?c2 ?c3 ?c4
  case ho => k_is
  case hcd => k_is
  case hb => exact BindsTo.of_eq rfl
  case hl => exact locs rfl
  case c4 => decide
  case c1 => rfl
  case c2 => rfl
  case c3 => rfl
  have KX' := hide_in KX hq rfl (frag_lists _)
  have T' := hide_top T hq (fun _ _ e => nomatch e)
  have ha : IsTup (s.heap.hide q) a #[.int d.1 t1, .bytes d.2.toArray t2] := by
    obtain ⟨o, ho, hc, r⟩ := ha'
    exact ⟨o, (Heap.hide_ne _ fun e => by subst e; rw [hq] at ho; cases ho; exact absurd (show Value.type "list" = .type "tuple" from hc) (by decide)).trans ho, hc, r⟩
  obtain ⟨dx, hs, t, nn, I⟩ := hw
  have I' : InstAt (s.heap.hide q) wk (instObj 80 dx) 80 (some (dictOf [⟨hs, .str (Str.ofString "pq") t, .ref q⟩] nn)) := by
    have i2 : s.heap.get? dx = some (dictOf [⟨hs, .str (Str.ofString "pq") t, .ref q⟩] nn) := I.dict
    refine ⟨(Heap.hide_ne _ fun e => ?_).trans I.at_, I.cls, I.no, (Heap.hide_ne _ fun e => ?_).trans i2⟩
    · have := I.at_; rw [e, hq] at this; cases this
    · rw [e, hq] at i2; exact absurd (show Value.type "list" = .type "dict" from congrArg Obj.cls (Option.some.inj i2)) (by decide)
  intro h₁ F N K1
  clear KX T ha'
  k_steps
  refine unpackN_ F N (IsTup.keeps ha F.keep) hh rfl rfl fun h₂ F₂ N₂ => ?_
  clear F N
  k_steps
  rename_i _ _ D h₃ F₃ N₃ l₃
  have hT3 : ∀ x ∈ l, TupAt h₃ x.1 x.2 := fun x hx => (tup_hide hq rfl (ht x hx)).kept F₃.keep
  have hD : TupAt h₃ (.ref D) (neg d) := ⟨D, _, t2, rfl, (N₃ _ (.head _)).1⟩
  refine call_push (l := l) (n := n) (d := neg d) (N₃ _ (.tail _ (.head _))).1 hT3 hD (by omega) hI (by show A.units + 3 + 20 < cLine; omega) fun h₄ l' n' sb ho' hp hI' => ?_
  have k4 : KeptBut q s.heap h₄ := (keptBut_of F₃.keep).same sb
  k_steps
  refine h h₄ _ (.ref D) l' n' k4 ho' hp (fun x hx => ?_) hI'
  rcases List.mem_cons.mp (hp.mem_iff.mp hx) with rfl | hx
  · exact tups_but sb (N₃ _ (.tail _ (.head _))).1 hD
  · exact tups_but sb (N₃ _ (.tail _ (.head _))).1 (hT3 x hx)
end Mine

namespace Mine
set_option maxRecDepth 100000
set_option maxHeartbeats 4000000

theorem instAt_keptE {h h' : Heap} {x C : Addr} {ox od : Obj} (I : InstAt h x ox C (some od)) (k : ∀ b o, h.get? b = some o → h'.get? b = some o) : InstAt h' x ox C (some od) := by
  refine ⟨k _ _ I.at_, I.cls, I.no, ?_⟩
  have := I.dict
  revert this
  cases ox.dict with
  | none => exact id
  | some dx => exact k _ _
local macro_rules | `(tactic| k_inst) => `(tactic| exact instAt_keptE (by assumption) (Fr.keep (by assumption)))

theorem get_code {p : Program} {loose : List Str} {mg mb : Str → Option Value} {prog : Program} {w : World} {A : Around} {s : Shared} {R : Result → Shared → Prop} {wk q : Addr} {l : List VI} {n : Nat}
    (hroom : A.depth + 1 < recursionLimit) (hh : A.handled = none) (hu : A.units + 100 < cLine)
    (KX : (hd.heap_39 w.params).In s.heap) (T : TopRead p loose mg mb s.heap)
    (hw : WAt s.heap wk q) (hq : s.heap.get? q = some (hobj l n)) (ht : ∀ x ∈ l, TupAt s.heap x.1 x.2) (hI : IsHp l) (hsz : l.length < 800) (hne : l ≠ [])
    (h : ∀ h' tk v' v d l' n', KeptBut q s.heap h' → h'.get? q = some (hobj l' n') → l.Perm ((v, d) :: l') → (∀ x ∈ l, ILe d x.2) → (∀ x ∈ l', TupAt h' x.1 x.2) → TupAt h' v' (neg d) → IsHp l' → R (.ok (.ret v')) { s with heap := h', toks := tk }) :
    codeAny (model prog w) A (.call (.ref 70) ⟨[.ref wk], []⟩) R s := by
  refine' enter_h (binds := [(Str.ofString "self", .ref wk)]) KX T.nolimit hq ?ho ?hcd (by omega) ?hb ?hl ?_ ?c1 ?c2 ?c3 ?c4
  case ho => k_is
  case hcd => k_is
  case hb => exact BindsTo.of_eq rfl
  case hl => exact locs rfl
  case c4 => decide
  case c1 => rfl
  case c2 => rfl
  case c3 => rfl
  have KX' := hide_in KX hq rfl (frag_lists _)
  have T' := hide_top T hq (fun _ _ e => nomatch e)
  obtain ⟨dx, hs, t, nn, I⟩ := hw
  have I' : InstAt (s.heap.hide q) wk (instObj 80 dx) 80 (some (dictOf [⟨hs, .str (Str.ofString "pq") t, .ref q⟩] nn)) := by
    have i2 : s.heap.get? dx = some (dictOf [⟨hs, .str (Str.ofString "pq") t, .ref q⟩] nn) := I.dict
    refine ⟨(Heap.hide_ne _ fun e => ?_).trans I.at_, I.cls, I.no, (Heap.hide_ne _ fun e => ?_).trans i2⟩
    · have := I.at_; rw [e, hq] at this; cases this
    · rw [e, hq] at i2; exact absurd (show Value.type "list" = .type "dict" from congrArg Obj.cls (Option.some.inj i2)) (by decide)
  intro h₁ F N K1
  clear KX T
  k_steps
  refine call_pop (l := l) (n := n) (N _ (.head _)).1 (fun x hx => (ht x hx).kept K1) hne (by omega) hI (by show A.units + 3 + 20 < cLine; omega) fun h₂ v d l' n' sb ho' hp hmin hI' => ?_
  have F₂ := kas_fr F sb (N _ (.head _)).2.1 (N _ (.head _)).2.2
  have N₂ : News (s.heap.hide q) s.heap.objs.size h₂ [(q, hobj l' n')] := fun p hp => by
    rw [List.mem_singleton.mp hp]
    exact ⟨ho', (N _ (.head _)).2⟩
  have hvl : (v, d) ∈ l := hp.mem_iff.mpr (.head _)
  obtain ⟨a, t1, t2, rfl, ha'⟩ := tup_hide hq rfl (ht _ hvl)
  have ha : IsTup (s.heap.hide q) a #[.int d.1 t1, .bytes d.2.toArray t2] := ⟨_, ha', rfl, _, rfl⟩
  have ht2 : ∀ x ∈ l', TupAt (s.heap.hide q) x.1 x.2 := fun x hx => tup_hide hq rfl (ht x (hp.mem_iff.mpr (.tail _ hx)))
  clear F N
  k_steps
  rename_i h₃ F₃ N₃
  refine ktl_truthy (F₃.keep _ _ ha') (by simp) ?_
  dsimp only
  rw [if_pos (by simp)]
  k_steps
  refine unpackN_ F₃ N₃ (IsTup.keeps ha F₃.keep) hh rfl rfl fun h₄ F₄ N₄ => ?_
  clear F₃ N₃
  k_steps
  rename_i _ _ D h₅ F₅ N₅ l₅
  refine h h₅ _ (.ref D) (.ref a) d l' n' (keptBut_of F₅.keep) (N₅ _ (.tail _ (.head _))).1 hp hmin (fun x hx => (ht2 x hx).kept F₅.keep) ⟨D, _, t2, rfl, (N₅ _ (.head _)).1⟩ hI'
end Mine

namespace Mine
set_option maxRecDepth 100000
set_option maxHeartbeats 4000000

section
variable {prog : Program} {w : World} {A : Around} {R : GenEnd} {Y : Protocol} {n : Nat} {s₀ : Shared} {c : Code} {fs : List Frame} {s : Shared} {env : Env}
  {K : Flow → Sem Fin} {H : Value → Sem Fin} {gd : Bool → Bool} {lv : List Value → List Value}

/-- a for statement in a generator: its iterable, then its own loop -/
theorem seg_For {target iter : Expr} {body orelse : List Stmt} {pos : Pos}
    (h : wpAny (model prog w) (A.over c fs) (eval iter env) (fun x s₁ => wpAny (model prog w) (A.over c fs) (pyIter x) (fun it s₂ =>
        ∀ (kk : Result → Sem Fin) (p : Pos), (∀ f, kk (.ok f) = K f) → Seg (model prog w) A R Y n s₀ (.forLoop target it body orelse env) ((model prog w).den (.forLoop target it body orelse env))
          (.ret kk none (gd false) (lv []) c p [] :: fs) s₂) (fun _ _ => False) s₁) (fun _ _ => False) s)
    (hs : ∀ x, foldedSetIterable iter env x = pure x := by intro _; rfl) :
    Seg (model prog w) A R Y n s₀ c ((exec (.For target iter body orelse pos) env).wrap K H gd lv) fs s := by
  rw [exec_For]
  refine seg_bind_wrap (wpAny_standAt ?_)
  refine seg_bind_wrap (wpAny_mono h (fun x s₁ h₁ => ?_) fun _ _ e => e.elim)
  refine seg_bind_wrap (wpAny_of_eq (hs x) ?_)
  refine seg_bind_wrap (wpAny_standAt ?_)
  refine seg_bind_wrap (wpAny_holding (wpAny_mono h₁ (fun it s₂ h₂ => ?_) fun _ _ e => e.elim))
  exact seg_call (fun p => h₂ _ p (fun f => rfl))
end


/-- what a waking leaves as it was -/
def Since (s₀ s : Shared) : Prop := ∃ h tk, s = { s₀ with heap := h, toks := tk } ∧ ∀ b o, (∀ es ep, o.data ≠ .dict es ep) → o.cls ≠ .type "list_iterator" → s₀.heap.get? b = some o → h.get? b = some o
def genY (h₀ : Heap) (S : Addr) (l : List VI) : Protocol := fun m s₀ v s kap =>
  ∃ x i, i + 1 + m = l.length ∧ l[i]? = some x ∧ (TupAt s.heap v (neg x.2) ∧ ∀ a, v = .ref a → h₀.get? a = none) ∧ Since s₀ s ∧ Kept h₀ s.heap ∧ ∀ s'' : Shared, (∀ b o, b ≠ S → s.heap.get? b = some o → s''.heap.get? b = some o) → kap (.send .none) s''
def genR (h₀ : Heap) : GenEnd := fun n s₀ r s => r = .ok (.ret .none) ∧ (n = 0 ∧ Since s₀ s ∧ Kept h₀ s.heap)

/-- a generator that stands at its start and will hand out the told rows -/
def GenUp (prog : Program) (w : World) (h₀ : Heap) (C : Addr) (m : Str → Option Value) (l : List VI) (c : Code) : Prop :=
  ∀ (A : Around) (S : Addr) (s : Shared), A.handled = none → S ≠ C → h₀.get? S = none → (∃ o, s.heap.get? S = some o) → s.heap.Ns C m → Kept h₀ s.heap →
    Seg (model prog w) A (genR h₀) (genY h₀ S l) l.length s c ((model prog w).den c) [] s

theorem Since.step {s₀ s : Shared} {h' : Heap} {tk : Nat} (x : Since s₀ s) (k : ∀ b o, (∀ es ep, o.data ≠ .dict es ep) → o.cls ≠ .type "list_iterator" → s.heap.get? b = some o → h'.get? b = some o) : Since s₀ { s with heap := h', toks := tk } := by
  obtain ⟨h, t, rfl, y⟩ := x
  exact ⟨h', tk, rfl, fun b o h1 h2 e => k b o h1 h2 (y b o h1 h2 e)⟩
theorem Since.refl (s : Shared) : Since s s := ⟨_, _, rfl, fun _ _ _ _ e => e⟩
theorem seg_rec {M : Model} {A : Around} {R : GenEnd} {Y : Protocol} {c : Code} {t : Sem Fin} {fs : List Frame} (Inv : Nat → Shared → Shared → Prop)
    (step : ∀ k s₀ s, Inv k s₀ s → (∀ k' s₀' s', k = k' + 1 → Inv k' s₀' s' → Seg M A R Y k' s₀' c t fs s') → Seg M A R Y k s₀ c t fs s) :
    ∀ n s₀ s, Inv n s₀ s → Seg M A R Y n s₀ c t fs s := by
  intro n
  induction n with
  | zero => exact fun s₀ s h => step 0 s₀ s h fun _ _ _ e => absurd e (by omega)
  | succ n ih => exact fun s₀ s h => step _ s₀ s h fun k' s₀' s' e h' => by cases e; exact ih s₀' s' h'

theorem enter_gen {prog : Program} {w : World} {A : Around} {R : Result → Shared → Prop} {s : Shared} {K : Frag} {name qual : Str} {params : Arguments} {body : List Stmt} {scope : Scope}
    {dV kV doc pm cdv ct oc : Value} {an od : Option Addr} {osl : Array (Option Value)} {f : Addr} {args : Args} {binds : List (Str × Value)}
    (X : K.In s.heap) (hlim : s.heap.NoLimit)
    (ho : K.lookup f = some ⟨oc, od, .func (fnOf name qual params body scope dV kV doc pm an cdv ct), osl⟩) (hcd : codeIn K cdv qual = true) (hroom : A.depth < recursionLimit)
    (hbind : BindsTo s (fnOf name qual params body scope dV kV doc pm an cdv ct) args binds) (hloc : ∀ y ∈ binds, scope.names.lookup y.1 = some .local)
    (h : ∀ h' tk C G, Kept s.heap h' → s.heap.get? C = none → s.heap.get? G = none → s.heap.objs.size ≤ C → C ≠ G → h'.Ns C (fun y => binds.reverse.lookup y) → h'.IsGen G s.gens.size →
      R (.ok (.ret (.ref G))) { s with heap := h', toks := tk, gens := s.gens.push (.fresh (.func body (envOf qual scope C f cdv))) })
    (hco : scope.isCoroutine = false := by rfl) (hgen : scope.isGenerator = true := by rfl) (hk : scope.kind = .function := by rfl)
    (hcell : ∀ x ∈ scope.names, x.2 ≠ .cell := by decide) : codeAny (model prog w) A (.call (.ref f) args) R s := by
  refine codeAny_call_generator (fd := fnOf name qual params body scope dV kV doc pm an cdv ct) (body := body) hroom (X _ _ ho) rfl hco hgen rfl (codeRec_of X hcd) (hbind _ _ _ _ ?_)
  refine wpAny_newFunctionEnv hcell hloc (fun h₁ hns hsb => ⟨hlim.fresh _ hsb, ?_⟩) hk
  have k1 : Kept s.heap h₁ := fun b o e => hsb.extBut b o (Nat.ne_of_lt (Heap.lt_size e)) (Heap.get?_push_of_some _ e)
  have hz : h₁.objs.size = s.heap.objs.size + 1 := by rw [hsb.1, Heap.size_push]
  refine h _ _ s.heap.objs.size h₁.objs.size (fun b o e => Heap.get?_push_of_some _ (k1 b o e)) (Heap.get?_none_of_le (Nat.le_refl _)) (Heap.get?_none_of_le (by rw [hz]; exact Nat.le_succ _)) (Nat.le_refl _) (by rw [hz]; exact Nat.ne_of_lt (Nat.lt_succ_self _)) (hns.keeps fun b o e => Heap.get?_push_of_some _ e) ⟨_, _, _, Heap.get?_push_size _ rfl, rfl, rfl, rfl⟩


local macro_rules | `(tactic| k_inst) => `(tactic| exact instAt_keptE (by assumption) (Fr.keep (by assumption)))
theorem iter_code {p : Program} {loose : List Str} {mg mb : Str → Option Value} {prog : Program} {w : World} {A : Around} {s : Shared} {R : Result → Shared → Prop} {wk q : Addr} {l : List VI} {n : Nat}
    (hroom : A.depth < recursionLimit)
    (KX : (hd.heap_39 w.params).In s.heap) (T : TopRead p loose mg mb s.heap)
    (hw : WAt s.heap wk q) (hq : s.heap.get? q = some (hobj l n)) (ht : ∀ x ∈ l, TupAt s.heap x.1 x.2)
    (h : ∀ h' tk C G c m, Kept s.heap h' → s.heap.get? C = none → s.heap.get? G = none → s.heap.objs.size ≤ C → C ≠ G → h'.Ns C m → h'.IsGen G s.gens.size → GenUp prog w s.heap C m l c →
      R (.ok (.ret (.ref G))) { s with heap := h', toks := tk, gens := s.gens.push (.fresh c) }) :
    codeAny (model prog w) A (.call (.ref 77) ⟨[.ref wk], []⟩) R s := by
  refine' enter_gen (binds := [(Str.ofString "self", .ref wk)]) KX T.nolimit ?ho ?hcd hroom ?hb ?hl ?_ ?c1 ?c2 ?c3 ?c4
  case ho => k_is
  case hcd => k_is
  case hb => exact BindsTo.of_eq rfl
  case hl => exact locs rfl
  case c4 => decide
  case c1 => rfl
  case c2 => rfl
  case c3 => rfl
  intro h' tk C G k hC hG hle hCG hns hg
  refine h h' tk C G _ _ k hC hG hle hCG hns hg ?_
  intro A S s₁ hh hSC hS0 hSo hn hk
  refine seg_func ?_
  refine seg_execs_cons ?_
  have F : Fr s.heap C s₁.heap (fun y => List.lookup y [(Str.ofString "self", Value.ref wk)].reverse) := ⟨hn, hk, hle⟩
  have N : News s.heap C s₁.heap [] := News.nil
  obtain ⟨dx, hs, t, nn, I⟩ := hw
  refine seg_For ?_
  k_steps
  have hql : Heap.IsList s₁.heap q (l.map Prod.fst).toArray := ⟨_, hk _ _ hq, rfl, n, rfl⟩
  refine wpAny_pyIter_list hql ?_
  intro kk p hkk
  have hCl : C < s₁.heap.objs.size := hn.lt
  have hI0 : s.heap.get? s₁.heap.objs.size = none := Heap.get?_none_of_le (Nat.le_trans hle (Nat.le_of_lt hCl))
  have hIC : s₁.heap.objs.size ≠ C := Nat.ne_of_gt hCl
  have hqI : q ≠ s₁.heap.objs.size := fun e => by rw [e, hI0] at hq; cases hq
  refine seg_rec (fun k s₀ s₂ => ∃ i m, i + k = l.length ∧ Since s₀ s₂ ∧ Fr s.heap C s₂.heap m ∧ s₂.heap.IsListIter s₁.heap.objs.size q i) ?_ l.length _ _ ?_
  · rintro k s₀ s₂ ⟨i, m, hik, hsi, F₂, hit⟩ ih
    have hql₂ : Heap.IsList s₂.heap q (l.map Prod.fst).toArray := ⟨_, F₂.keep _ _ hq, rfl, n, rfl⟩
    show Seg _ A _ _ _ s₀ _ ((forTurn _ _ _ _ _).onRaise _) _ s₂
    unfold forTurn
    rw [Sem.onRaise_eq_wrap]
    refine seg_bind_wrap (wpAny_standAt ?_)
    cases k with
    | zero =>
      refine seg_bind_wrap (wpAny_onRaise (wpAny_pyNext_list_end hh hit hql₂ (by simp; omega) fun h₃ hs₃ => ?_))
      refine seg_again rfl ?_
      refine seg_leaf (.ok .next) ?_
      rw [hkk]
      refine seg_end (.ok (.ret .none)) ⟨rfl, rfl, ?_, ?_⟩
      · exact hsi.step fun b o hb1 hb2 e => hs₃ b o (fun z => by subst z; obtain ⟨o', ho', hc', _⟩ := hit; rw [ho'] at e; cases e; exact hb2 hc') e
      · exact fun b o e => hs₃ b o (fun z => by subst z; rw [hI0] at e; cases e) (F₂.keep b o e)
    | succ k =>
      have hil : i < l.length := by omega
      refine seg_bind_wrap (wpAny_onRaise (wpAny_pyNext_list_item (x := (l[i]).1) hit hql₂ (by simp [hil]) fun h₃ hit₃ hs₃ => ?_))
      dsimp only
      obtain ⟨a, t1, t2, ea, ha⟩ := ht l[i] (List.getElem_mem hil)
      rw [ea]
      refine seg_bind_wrap (wpAny_letOwnedTupleGo_listiter hit₃ ?_)
      have F₃ : Fr s.heap C h₃ m := ⟨F₂.ns.at' fun o e => (hs₃.2 _ (Ne.symm hIC)).trans e, fun b o e => hs₃.extBut b o (fun z => by subst z; rw [hI0] at e; cases e) (F₂.keep b o e), hle⟩
      have N₃ : News s.heap C h₃ (ownOf s.heap ((List.range h₃.objs.size).filter (· ≠ C)) h₃) := news_ownOf (by simp)
      have ha₃ : IsTup s.heap a #[.int l[i].2.1 t1, .bytes l[i].2.2.toArray t2] := ⟨_, ha, rfl, _, rfl⟩
      clear F N
      refine seg_bind_wrap (unpackN_ F₃ N₃ (IsTup.keeps ha₃ F₃.keep) hh rfl rfl fun h₄ F₄ N₄ => ?_)
      have k3 := F₃.keep
      have hn2 := F₂.ns
      clear F₃ N₃
      k_steps
      rename_i h₅ h₆ F₆ N₆
      rw [Sem.bind_eq_wrap', Sem.wrap_wrap]
      refine seg_execs_cons ?_
      refine seg_Expr_Yield rfl rfl rfl ?_
      k_steps
      rename_i D h₇ F₇ N₇ l₇ kap hkap
      have up : ∀ b o, b ≠ C → h₃.get? b = some o → h₇.get? b = some o := fun b o hb e => by
        cases e0 : s.heap.get? b with
        | some o' => rw [k3 _ _ e0] at e; cases e; exact F₇.keep _ _ e0
        | none => exact (N₇ _ (.tail _ (mem_ownOf (by simp [hb]; exact Heap.lt_size e) e0 e))).1
      have hSI : s₁.heap.objs.size ≠ S := fun e => by obtain ⟨o, ho⟩ := hSo; exact absurd (Heap.lt_size ho) (by rw [← e]; exact Nat.lt_irrefl _)
      refine ⟨l[i], i, by omega, by simp [hil], ⟨⟨D, _, t2, rfl, (N₇ _ (.head _)).1⟩, fun a e => by cases e; exact (N₇ _ (.head _)).2.2⟩, ?_, F₇.keep, fun s'' hal => hkap .none s'' ?_⟩
      · refine hsi.step fun b o hb1 hb2 e => up b o (fun z => ?_) (hs₃.extBut b o (fun z => ?_) e)
        · subst z
          obtain ⟨o', es, ep, ho', hd', _⟩ := hn2
          rw [ho'] at e; cases e
          exact hb1 _ _ hd'
        · subst z
          obtain ⟨o', ho', hc', _⟩ := hit
          rw [ho'] at e; cases e
          exact hb2 hc'
      · refine seg_execs_nil ?_
        refine seg_again rfl (ih k s'' s'' rfl ⟨i + 1, _, by omega, Since.refl _, ⟨F₇.ns.at' fun o e => hal _ _ (Ne.symm hSC) e, fun b o e => hal b o (fun z => by subst z; rw [hS0] at e; cases e) (F₇.keep b o e), hle⟩, hit₃.at fun o e => hal _ _ hSI (up _ _ hIC e)⟩)
  · exact ⟨0, _, Nat.zero_add _, (Since.refl s₁).step fun b o _ _ e => Heap.get?_push_of_some _ e, F.push _, ⟨_, Heap.get?_push_size _ rfl, rfl, rfl⟩⟩
end Mine

namespace Mine
set_option maxRecDepth 100000
set_option maxHeartbeats 4000000

abbrev Soft (h h' : Heap) : Prop := ∀ b o, (∀ es ep, o.data ≠ .dict es ep) → o.cls ≠ .type "list_iterator" → h.get? b = some o → h'.get? b = some o
theorem TupAt.soft {h h' : Heap} {v : Value} {p : It} (x : TupAt h v p) (k : Soft h h') : TupAt h' v p := by
  obtain ⟨a, t, u, e, ho⟩ := x
  exact ⟨a, t, u, e, k _ _ (fun _ _ e => nomatch e) (show Value.type "tuple" ≠ .type "list_iterator" by decide) ho⟩
theorem IsGen.soft {h h' : Heap} {a g : Nat} (x : h.IsGen a g) (k : Soft h h') : h'.IsGen a g := by
  obtain ⟨o, nm, qn, ho, hc, hd, hs⟩ := x
  exact ⟨o, nm, qn, k _ _ (fun _ _ e => by rw [hd] at e; cases e) (by rw [hc]; decide) ho, hc, hd, hs⟩
theorem hobj_soft {h h' : Heap} {l : List VI} {n : Nat} {S : Addr} (x : h.get? S = some (hobj l n)) (k : Soft h h') : h'.get? S = some (hobj l n) :=
  k _ _ (fun _ _ e => nomatch e) (show Value.type "list" ≠ .type "list_iterator" by decide) x

section
variable {prog : Program} {w : World} {A : Around} {s : Shared} {R : Result → Shared → Prop} {h₀ : Heap} {S G g : Nat} {l : List VI} {res : Value}

def Live (prog : Program) (w : World) (A : Around) (h₀ : Heap) (S g : Nat) (l : List VI) (k : Nat) (s : Shared) : Prop :=
  ∃ gs, s.gens[g]? = some gs ∧ ∀ s'' : Shared, (∀ b o, b ≠ S → s.heap.get? b = some o → s''.heap.get? b = some o) → (∃ o, s''.heap.get? S = some o) →
    gs.Goes (model prog w) A (genR h₀) (genY h₀ S l) k (.send .none) s''

theorem ext_gen (hh : A.handled = none) (hroom : A.depth < recursionLimit) (hS0 : h₀.get? S = none) (hlim : h₀.NoLimit) (hl : l.length < 1000) :
    ∀ (k i : Nat) (s : Shared) (ys : List VI) (n : Nat), i + k = l.length → s.heap.IsGen G g → Kept h₀ s.heap → s.heap.get? S = some (hobj ys n) → ys.map Prod.snd = (l.take i).map (fun x => neg x.2) → (∀ x ∈ ys, TupAt s.heap x.1 x.2) → (∀ x ∈ ys, ∀ a, x.1 = .ref a → h₀.get? a = none) →
      Live prog w A.in1.in1 h₀ S g l k s →
      (∀ ys' n' h' tk, h'.get? S = some (hobj ys' n') → ys'.map Prod.snd = l.map (fun x => neg x.2) → (∀ x ∈ ys', TupAt h' x.1 x.2) → (∀ x ∈ ys', ∀ a, x.1 = .ref a → h₀.get? a = none) → Kept h₀ h' → R (.ok (.ret res)) { s with heap := h', toks := tk, gens := s.gens.setIfInBounds g .finished }) →
      codeAny (model prog w) A (.builtin "list.extend.loop" ⟨[.ref S, .ref G, res], []⟩) R s := by
  intro k
  induction k with
  | zero =>
    intro i s ys n hik hG hk hS hy ht hnw ⟨gs, hgs, hgo⟩ hR
    refine codeAny_builtin F.entry_extend_loop ?_
    rw [Around.under_plainId F.plain_extend_loop _]
    show wpAny _ A.in1 (pyNext (.ref G) >>= _) _ _ s
    have hlm : s.heap.NoLimit := let ⟨mc, a, b⟩ := hlim; ⟨mc, a.keeps hk, b⟩
    refine wpAny_bind (wpAny_pyNext_gen (P := fun n s₀ s => n = 0 ∧ Since s₀ s ∧ Kept h₀ s.heap) (Y := genY h₀ S l) hh hlm hroom hG hgs (hgo _ (fun _ _ _ e => e) ⟨_, hS⟩) (fun v s₁ gs' hv => ?_) (fun s₁ hp h' hk' => ?_))
    · obtain ⟨_, _, _, _, _, _, _, hkap⟩ := hv
      exact (hkap s₁ fun _ _ _ e => e).elim
    · obtain ⟨_, ⟨h₁, tk₁, rfl, hk₁⟩, hk0⟩ := hp
      have sf : Soft s.heap h' := fun b o h1 h2 e => hk' _ _ (hk₁ b o h1 h2 e)
      have := hR ys n h' tk₁ (hobj_soft hS sf) (by rw [hy, show i = l.length by omega, List.take_length]) (fun x hx => (ht x hx).soft sf) hnw (fun b o e => hk' _ _ (hk0 b o e))
      refine wpAny_pure ?_
      simpa [Shared.setGen] using this
  | succ k ih =>
    intro i s ys n hik hG hk hS hy ht hnw ⟨gs, hgs, hgo⟩ hR
    refine codeAny_builtin F.entry_extend_loop ?_
    rw [Around.under_plainId F.plain_extend_loop _]
    show wpAny _ A.in1 (pyNext (.ref G) >>= _) _ _ s
    have hlm : s.heap.NoLimit := let ⟨mc, a, b⟩ := hlim; ⟨mc, a.keeps hk, b⟩
    refine wpAny_bind (wpAny_pyNext_gen (P := fun n s₀ s => n = 0 ∧ Since s₀ s ∧ Kept h₀ s.heap) (Y := genY h₀ S l) hh hlm hroom hG hgs (hgo _ (fun _ _ _ e => e) ⟨_, hS⟩) (fun v s₁ gs' hv => ?_) (fun s₁ hp h' hk' => ?_))
    · obtain ⟨x, j, hj, hx, ⟨htx, htn⟩, ⟨h₁, tk₁, rfl, hk₁⟩, hk0, hkap⟩ := hv
      have sf : Soft s.heap h₁ := hk₁
      have hS₁ := hobj_soft hS sf
      have hji : j = i := by omega
      subst hji
      have hjl : j < l.length := by omega
      have htx' : TupAt h₁ v (neg x.2) := htx
      have hylen : ys.length = j := by
        have := congrArg List.length hy
        simpa [Nat.min_eq_left (Nat.le_of_lt hjl)] using this
      show wpAny _ A.in1 (updateSeq S (·.push v) >>= _) _ _ _
      refine wpAny_bind (wpAny_updateSeq hS₁ rfl ?_ (by simp [hylen, sizeLine]; omega) (by simp [hylen, sizeLine]; omega))
      obtain ⟨n', hS₂⟩ := upd_obj (l' := ys ++ [(v, neg x.2)]) (·.push v) hS₁ (by simp)
      have sb : Heap.SameBut S h₁ (h₁.update S (Obj.mapSeq (·.push v))) := Heap.SameBut.update ..
      have hGS : S ≠ G := fun e => by
        subst e
        obtain ⟨o, nm, qn, ho, hc, hd, hs⟩ := hG
        rw [hS] at ho; cases ho; cases hd
      have hG₁ : h₁.IsGen G g := IsGen.soft hG sf
      refine wpAny_pure ⟨plainId_quiet F.plain_extend_loop _, ih (j + 1) _ (ys ++ [(v, neg x.2)]) n' (by omega) (hG₁.sameBut sb (Ne.symm hGS)) ?_ hS₂ ?_ ?_ ?_ ?_ ?_⟩
      · exact fun b o e => (sb.2 b fun z => by subst z; rw [hS0] at e; cases e).trans (hk0 b o e)
      · rw [List.map_append, hy, List.take_add_one, hx]
        simp
      · intro y hy'
        refine tups_but sb hS₁ ?_
        rcases List.mem_append.mp hy' with z | z
        · exact (ht y z).soft sf
        · rw [List.mem_singleton.mp z]; exact htx'
      · intro y hy' a ea
        rcases List.mem_append.mp hy' with z | z
        · exact hnw y z a ea
        · rw [List.mem_singleton.mp z] at ea; exact htn a ea
      · refine ⟨gs', ?_, fun s'' hal hso => ?_⟩
        · have := setGen_self (s := s.setGen g .running) (x := gs') (setGen_self (x := .running) hgs)
          exact this
        · exact hkap s'' fun b o hb e => hal b o hb ((sb.2 b hb).trans e)
      · intro ys' n'' h' tk e1 e2 e3 e3' e4
        have := hR ys' n'' h' tk e1 e2 e3 e3' e4
        simpa [Shared.setGen] using this
    · exact absurd hp.1 (Nat.succ_ne_zero k)
end

section
variable {prog : Program} {w : World} {A : Around} {E : Value → Shared → Prop} {s : Shared} {h₀ : Heap} {C G g : Nat} {m : Str → Option Value} {l : List VI} {c : Code}

theorem list_gen {Q : Value → Shared → Prop} (hh : A.handled = none) (hroom : A.depth < recursionLimit) (hlen : l.length < 1000) (hlim : h₀.NoLimit) (hk : Kept h₀ s.heap) (hsz : h₀.objs.size ≤ s.heap.objs.size)
    (hG : s.heap.IsGen G g) (hgs : s.gens[g]? = some (.fresh c)) (hn : s.heap.Ns C m) (U : GenUp prog w h₀ C m l c)
    (hQ : ∀ S ys h' tk n, h'.get? S = some (hobj ys n) → h₀.get? S = none → ys.map Prod.snd = l.map (fun x => neg x.2) → (∀ x ∈ ys, TupAt h' x.1 x.2) → (∀ x ∈ ys, ∀ a, x.1 = .ref a → h₀.get? a = none) → Kept h₀ h' → Q (.ref S) { s with heap := h', toks := tk, gens := s.gens.setIfInBounds g .finished }) :
    wpAny (model prog w) A (call (.type "list") [.ref G]) Q E s := by
  have hGl : G < s.heap.objs.size := let ⟨_, _, _, ho, _⟩ := hG; Heap.lt_size ho
  have hCl : C < s.heap.objs.size := hn.lt
  refine callType_codes (Q₁ := fun obj s₁ => obj = .ref s.heap.objs.size ∧ s₁ = { s with heap := s.heap.push { cls := .type "list", data := .seq #[] } }) F.called_list (F.typeCall_list_1 _) F.entry_list_init
    (code_list_new _ ⟨rfl, rfl⟩) fun obj s₁ h₁ => ?_
  obtain ⟨rfl, rfl⟩ := h₁
  generalize hSe : s.heap.objs.size = S at *
  have hSG : S ≠ G := by omega
  have hSC : S ≠ C := by omega
  have hS0 : h₀.get? S = none := Heap.get?_none_of_le hsz
  have kp : Kept s.heap (s.heap.push { cls := .type "list", data := .seq #[] }) := fun b o e => Heap.get?_push_of_some _ e
  have hS : (s.heap.push { cls := .type "list", data := .seq #[] }).get? S = some { cls := .type "list", data := .seq #[] } := by rw [← hSe]; exact Heap.get?_push_size _ rfl
  have hG' := hG.keeps kp
  have hn' := hn.keeps kp
  have hk' : Kept h₀ (s.heap.push { cls := .type "list", data := .seq #[] }) := fun b o e => kp b o (hk b o e)
  generalize s.heap.push { cls := .type "list", data := .seq #[] } = hp at *
  have typ : ∀ {h : Heap} {tk}, h.IsGen G g → (({ s with heap := h, toks := tk } : Shared)).TypeIs (.ref G) "generator" := fun x => let ⟨o, _, _, ho, hc, _⟩ := x; ⟨o, ho, hc⟩
  refine ⟨⟨_, hS, rfl⟩, F.args_list_init_2 _ _, ?_⟩
  show wpAny _ A.in1.in1 (do let old ← Builtin.List.listItems (.ref S); Builtin.List.listUpdate (.ref S) (fun _ => #[]); letGo old.toList.reverse; Builtin.List.listExtendWith (.ref S) (.ref G) .none) _ _ _
  refine wpAny_bind ?_
  unfold Builtin.List.listItems
  refine wpAny_bind (wpAny_seqItems hS rfl (wpAny_pure ?_))
  show wpAny _ A.in1.in1 (updateSeq S (fun _ => #[]) >>= fun _ => letGo (#[] : Array Value).toList.reverse >>= fun _ => Builtin.List.listExtendWith (.ref S) (.ref G) .none) _ _ _
  refine wpAny_bind (wpAny_updateSeq hS rfl ?_)
  obtain ⟨n1, hS1⟩ := upd_obj (l := []) (l' := []) (n := 0) (fun _ => (#[] : Array Value)) hS rfl
  have sb1 : Heap.SameBut S hp (hp.update S (Obj.mapSeq (fun _ => (#[] : Array Value)))) := Heap.SameBut.update ..
  have hG1 := hG'.sameBut sb1 (Ne.symm hSG)
  refine wpAny_bind (wpAny_letGo ?_)
  have up1 : ∀ b o, b ≠ S → hp.get? b = some o → (hp.update S (Obj.mapSeq (fun _ => (#[] : Array Value)))).get? b = some o := fun b o hb e => (sb1.2 b hb).trans e
  generalize hp.update S (Obj.mapSeq (fun _ => (#[] : Array Value))) = hp1 at *
  unfold Builtin.List.listExtendWith
  refine wpAny_bind (wpAny_typeOf (typ hG1) ?_)
  have h1 : Builtin.List.listSameRef (.ref S) (.ref G) = false := by simp [Builtin.List.listSameRef, hSG]
  have h2 : (Value.type "generator" == Value.type "list") = false := by decide
  have h3 : (Value.type "generator" == Value.type "tuple") = false := by decide
  simp only [h1, h2, h3, Bool.or_false, Bool.false_eq_true, if_false]
  refine wpAny_bind (wpAny_pyIter_gen hG1 ?_)
  refine wpAny_bind (wpAny_holding ?_)
  unfold Builtin.List.listLengthHint
  refine wpAny_bind (wpAny_specialOf (typ hG1) F.gen_no_len ?_)
  show wpAny _ A.in1.in1 (specialOf (Value.ref G) (Str.ofString "__length_hint__") >>= _) _ _ _
  refine wpAny_bind (wpAny_specialOf (typ hG1) F.gen_no_hint ?_)
  refine wpAny_pure ?_
  show wpAny _ A.in1.in1 (rule "list.extend.makes-room" >>= fun _ => Builtin.List.listTouch (.ref S) >>= fun _ =>
    again (.builtin "list.extend.loop" ⟨[.ref S, .ref G, .none], []⟩)) _ _ _
  refine wpAny_bind (wpAny_rule ?_)
  refine wpAny_bind ?_
  show wpAny _ A.in1.in1 (updateSeq S (·.push .none) >>= fun _ => updateSeq S (·.pop)) _ _ _
  refine wpAny_bind (wpAny_updateSeq hS1 rfl ?_)
  have hS2 := Heap.get?_update_self (Obj.mapSeq (·.push Value.none)) hS1 rfl
  refine wpAny_updateSeq (hz := by seq_fits) hS2 rfl ?_
  have hS3 := Heap.get?_update_self (Obj.mapSeq (·.pop)) hS2 rfl
  have up3 : ∀ b o, b ≠ S → hp1.get? b = some o → ((hp1.update S (Obj.mapSeq (·.push Value.none))).update S (Obj.mapSeq (·.pop))).get? b = some o :=
    fun b o hb e => (Heap.get?_update_other _ _ (Ne.symm hb)).trans ((Heap.get?_update_other _ _ (Ne.symm hb)).trans e)
  have ⟨n3, hS4⟩ : ∃ n3, ((hp1.update S (Obj.mapSeq (·.push Value.none))).update S (Obj.mapSeq (·.pop))).get? S = some (hobj [] n3) := ⟨_, hS3⟩
  generalize (hp1.update S (Obj.mapSeq (·.push Value.none))).update S (Obj.mapSeq (·.pop)) = hp3 at *
  have up : ∀ b o, b ≠ S → hp.get? b = some o → hp3.get? b = some o := fun b o hb e => up3 b o hb (up1 b o hb e)
  have hk3 : Kept h₀ hp3 := fun b o e => up b o (fun z => by subst z; rw [hS0] at e; cases e) (hk' b o e)
  have hG3 : hp3.IsGen G g := let ⟨o, nm, qn, ho, r⟩ := hG'; ⟨o, nm, qn, up _ _ (Ne.symm hSG) ho, r⟩
  have hn3 : hp3.Ns C m := hn'.at' fun o e => up _ _ (Ne.symm hSC) e
  refine wpAny_pure ⟨plainId_quiet F.plain_extend_loop _, ext_gen (A := A.in1) (h₀ := h₀) (l := l) hh hroom hS0 hlim hlen l.length 0 _ [] n3 (Nat.zero_add _) hG3 hk3 hS4 rfl (fun x hx => nomatch hx) (fun x hx => nomatch hx) ?_ ?_⟩
  · refine ⟨_, hgs, fun s'' hal hso => ⟨rfl, U _ S s'' hh hSC hS0 hso (hn3.at' fun o e => hal _ _ (Ne.symm hSC) e) fun b o e => hal b o (fun z => by subst z; rw [hS0] at e; cases e) (hk3 b o e)⟩⟩
  · intro ys' n' h' tk e1 e2 e3 e3' e4
    exact ⟨rfl, hQ S ys' h' tk n' e1 hS0 e2 e3 e3' e4⟩
end
end Mine

namespace Mine

/-- what a comparing program answers, when every question is answered by the keys -/
def Ask (n : Nat) (lt : Nat → Nat → Bool) {α : Type} : KasT α → (α → Prop) → Prop
  | .ret a, Φ => Φ a
  | .ask i j k, Φ => i < n ∧ j < n ∧ Ask n lt (k (lt i j)) Φ

section
variable {n : Nat} {lt : Nat → Nat → Bool}
theorem Ask.bind {α β : Type} {f : α → KasT β} {Φ : β → Prop} : ∀ {t : KasT α}, Ask n lt t (fun a => Ask n lt (f a) Φ) → Ask n lt (t.bind f) Φ
  | .ret _, h => h
  | .ask i j k, h => ⟨h.1, h.2.1, Ask.bind h.2.2⟩
theorem Ask.mono {α : Type} {Φ Ψ : α → Prop} (m : ∀ a, Φ a → Ψ a) : ∀ {t : KasT α}, Ask n lt t Φ → Ask n lt t Ψ
  | .ret a, h => m a h
  | .ask i j k, h => ⟨h.1, h.2.1, Ask.mono m h.2.2⟩
theorem Ask.wp {α : Type} {Φ : α → Prop} {cmp : Nat → Nat → (Bool → Shared → Prop) → Shared → Prop} {Q : α → Shared → Prop} {s : Shared}
    (hc : ∀ i j (C : Bool → Shared → Prop), i < n → j < n → C (lt i j) s → cmp i j C s) (hq : ∀ a, Φ a → Q a s) : ∀ {t : KasT α}, Ask n lt t Φ → t.kasWp cmp Q s
  | .ret a, h => hq a h
  | .ask i j k, h => hc i j _ h.1 h.2.1 (Ask.wp hc hq h.2.2)
end

section
variable {n : Nat} {key : Nat → It}
def KeyAt (key : Nat → It) (p : Array Nat) (i : Nat) : It := key (p.getD i 0)
def Perm0 (n : Nat) (p : Array Nat) : Prop := p.Perm (List.range n).toArray
def Up (key : Nat → It) (p : Array Nat) (k : Nat) : Prop := ∀ i j, i ≤ j → j < k → ILe (KeyAt key p i) (KeyAt key p j)
def Dn (key : Nat → It) (p : Array Nat) (k : Nat) : Prop := ∀ i j, i ≤ j → j < k → ILe (KeyAt key p j) (KeyAt key p i)
abbrev klt (key : Nat → It) (i j : Nat) : Bool := ilt (key i) (key j)

theorem Perm0.size {p : Array Nat} (h : Perm0 n p) : p.size = n := by have := h.size_eq; simpa using this
theorem Perm0.lt {p : Array Nat} (h : Perm0 n p) {i : Nat} (hi : i < n) : p.getD i 0 < n := by
  have hs : i < p.size := by rw [h.size]; exact hi
  have : p.getD i 0 ∈ p := by simp [Array.getD, hs]
  have := h.mem_iff.mp this
  simpa using this
theorem at_get (p : Array Nat) (i : Nat) : KeyAt key p i = key (p[i]?.getD 0) := by unfold KeyAt; rw [Array.getD_eq_getD_getElem?]
theorem at_rev {p : Array Nat} {i j : Nat} (hj : j ≤ p.size) (k : Nat) : KeyAt key (kas_rev p i j) k = if i ≤ k ∧ k < j then KeyAt key p (i + j - 1 - k) else KeyAt key p k := by
  have e := getElem?_mirror_all (xs := p) (i := i) hj k
  simp only [at_get]
  unfold kas_rev
  rw [e]
  split <;> rfl
theorem at_bubble {p : Array Nat} {src d : Nat} (hs : src < p.size) (hd : d ≤ src) (k : Nat) :
    KeyAt key (bubble p src d) k = if k = src - d then KeyAt key p src else if src - d < k ∧ k ≤ src then KeyAt key p (k - 1) else KeyAt key p k := by
  have e := getElem?_bubble hs d hd k
  simp only [at_get]
  rw [e]
  split
  · rfl
  · split <;> rfl
theorem at_rev_equal {p : Array Nat} {i j : Nat} (hj : j ≤ p.size) (heq : ∀ k, i ≤ k → k < j → KeyAt key p k = KeyAt key p (j - 1)) (k : Nat) : KeyAt key (kas_rev p i j) k = KeyAt key p k := by
  rw [at_rev hj]
  split
  · rw [heq _ (by omega) (by omega), heq k (by omega) (by omega)]
  · rfl
theorem Perm0.rev {p : Array Nat} (h : Perm0 n p) (i j : Nat) : Perm0 n (kas_rev p i j) := (mirror_perm _ _ _ _).trans h
theorem Perm0.bubble {p : Array Nat} (h : Perm0 n p) (i j : Nat) : Perm0 n (bubble p i j) := (bubble_perm _ _ _).trans h

theorem asc_ok {nrem : Nat} (hn : nrem ≤ n) {p : Array Nat} (V : Perm0 n p) {Φ : Nat → Prop} : ∀ (f m0 : Nat), 1 ≤ m0 → m0 + f = nrem → Up key p m0 →
    (∀ m, m0 ≤ m → m ≤ nrem → Up key p m → (m = nrem ∨ ilt (KeyAt key p m) (KeyAt key p (m - 1)) = true) → Φ m) → Ask n (klt key) (kas_asc p f m0) Φ
  | 0, m0, h1, h2, hs, h => h m0 (Nat.le_refl _) (by omega) hs (.inl (by omega))
  | f + 1, m0, h1, h2, hs, h => by
    refine ⟨V.lt (by omega), V.lt (by omega), ?_⟩
    show Ask n (klt key) (if ilt (KeyAt key p m0) (KeyAt key p (m0 - 1)) = true then .ret m0 else kas_asc p f (m0 + 1)) Φ
    cases e : ilt (KeyAt key p m0) (KeyAt key p (m0 - 1)) with
    | true => exact h m0 (Nat.le_refl _) (by omega) hs (.inr e)
    | false =>
      refine asc_ok hn V f (m0 + 1) (by omega) (by omega) (fun i j hij hj => ?_) fun m a b c d => h m (by omega) b c d
      by_cases hjx : j < m0
      · exact hs i j hij hjx
      · obtain rfl : j = m0 := by omega
        by_cases hi : i = j
        · subst hi; exact ILe.refl _
        · exact (hs i (j - 1) (by omega) (by omega)).trans e

theorem desc_ok {nrem : Nat} (hn : nrem ≤ n) {Φ : Array Nat × Nat × Nat → Prop} : ∀ (f : Nat) (p : Array Nat) (m q : Nat), Perm0 n p → 1 ≤ m → m + f = nrem → Dn key p m → q + 1 ≤ m → (∀ i, m - (q + 1) ≤ i → i < m → KeyAt key p i = KeyAt key p (m - 1)) →
    (∀ p' m' q', Perm0 n p' → m ≤ m' → m' ≤ nrem → Dn key p' m' → q' + 1 ≤ m' → (∀ i, m' - (q' + 1) ≤ i → i < m' → KeyAt key p' i = KeyAt key p' (m' - 1)) → Φ (p', m', q')) → Ask n (klt key) (kas_desc f p m q) Φ
  | 0, p, m, q, V, h1, h2, hs, hq, he, h => h p m q V (Nat.le_refl _) (by omega) hs hq he
  | f + 1, p, m, q, V, h1, h2, hs, hq, he, h => by
    have hsz : m ≤ p.size := by rw [V.size]; omega
    refine ⟨V.lt (by omega), V.lt (by omega), ?_⟩
    show Ask n (klt key) (if ilt (KeyAt key p m) (KeyAt key p (m - 1)) = true then _ else _) Φ
    have step1 : ilt (KeyAt key p m) (KeyAt key p (m - 1)) = true → ∀ p' : Array Nat, (∀ k, KeyAt key p' k = KeyAt key p k) → Dn key p' (m + 1) := by
      intro hless p' hk i j hij hj
      rw [hk, hk]
      by_cases hjx : j < m
      · exact hs i j hij hjx
      · obtain rfl : j = m := by omega
        by_cases hi : i = j
        · subst hi; exact ILe.refl _
        · exact (ILe.of_lt hless).trans (hs i (j - 1) (by omega) (by omega))
    cases e : ilt (KeyAt key p m) (KeyAt key p (m - 1)) with
    | true =>
      rw [if_pos rfl]
      by_cases hq0 : q > 0
      · rw [if_pos hq0]
        refine desc_ok hn f _ (m + 1) 0 (V.rev _ _) (by omega) (by omega) (step1 e _ (at_rev_equal hsz he)) (by omega) (fun i a b => ?_) fun p' m' q' a b c d e' f' => h p' m' q' a (by omega) c d e' f'
        rw [show i = m + 1 - 1 by omega]
      · rw [if_neg hq0]
        refine desc_ok hn f _ (m + 1) 0 V (by omega) (by omega) (step1 e _ fun _ => rfl) (by omega) (fun i a b => ?_) fun p' m' q' a b c d e' f' => h p' m' q' a (by omega) c d e' f'
        rw [show i = m + 1 - 1 by omega]
    | false =>
      rw [if_neg (by simp)]
      refine ⟨V.lt (by omega), V.lt (by omega), ?_⟩
      show Ask n (klt key) (if ilt (KeyAt key p (m - 1)) (KeyAt key p m) = true then _ else _) Φ
      cases e2 : ilt (KeyAt key p (m - 1)) (KeyAt key p m) with
      | true => exact h p m q V (Nat.le_refl _) (by omega) hs hq he
      | false =>
        rw [if_neg (by simp)]
        have hx : KeyAt key p m = KeyAt key p (m - 1) := ilt_total e e2
        refine desc_ok hn f p (m + 1) (q + 1) V (by omega) (by omega) (fun i j hij hj => ?_) (by omega) (fun i a b => ?_) fun p' m' q' a b c d e' f' => h p' m' q' a (by omega) c d e' f'
        · by_cases hjx : j < m
          · exact hs i j hij hjx
          · obtain rfl : j = m := by omega
            by_cases hi : i = j
            · subst hi; exact ILe.refl _
            · rw [hx]; exact hs i (j - 1) (by omega) (by omega)
        · rw [show m + 1 - 1 = m by omega]
          by_cases hi : i = m
          · subst hi; rfl
          · rw [hx]; exact he i (by omega) (by omega)

theorem tail_ok {nrem m : Nat} (hn : nrem ≤ n) {p : Array Nat} (V : Perm0 n p) (h1 : 1 ≤ m) (hm : m ≤ nrem) (hs : Dn key p m) {Φ : Nat × Array Nat → Prop}
    (h : ∀ m' p', Perm0 n p' → 1 ≤ m' → m' ≤ nrem → Up key p' m' → Φ (m', p')) : Ask n (klt key) (kas_tail3 m nrem p) Φ := by
  unfold kas_tail3
  refine Ask.bind ?_
  have hsz : m ≤ p.size := by rw [V.size]; omega
  refine asc_ok hn (V.rev 0 m) (nrem - m) m h1 (by omega) (fun i j hij hj => ?_) fun m' a b c _ => h m' _ (V.rev 0 m) (by omega) b c
  rw [at_rev hsz, at_rev hsz, if_pos (by omega), if_pos (by omega)]
  exact hs _ _ (by omega) (by omega)

theorem part_ok {nrem m : Nat} (hn : nrem ≤ n) {p : Array Nat} (V : Perm0 n p) (hm : m + 1 ≤ nrem) (hs : Dn key p (m + 1)) {Φ : Nat × Array Nat → Prop}
    (h : ∀ m' p', Perm0 n p' → 1 ≤ m' → m' ≤ nrem → Up key p' m' → Φ (m', p')) : Ask n (klt key) (kas_descPart m nrem p) Φ := by
  unfold kas_descPart
  refine Ask.bind ?_
  refine desc_ok hn (nrem - (m + 1)) p (m + 1) 0 V (by omega) (by omega) hs (by omega) (fun i a b => by rw [show i = m + 1 - 1 by omega]) fun p' m' q' a b c d e f => ?_
  show Ask n (klt key) (if q' > 0 then _ else _) Φ
  have hsz : m' ≤ p'.size := by rw [a.size]; omega
  by_cases hq : q' > 0
  · rw [if_pos hq]
    refine tail_ok hn (a.rev _ _) (by omega) c (fun i j hij hj => ?_) h
    show ILe (KeyAt key (kas_rev p' _ _) j) (KeyAt key (kas_rev p' _ _) i)
    rw [at_rev_equal hsz f, at_rev_equal hsz f]
    exact d i j hij hj
  · rw [if_neg hq]
    exact tail_ok hn a (by omega) c d h

theorem count_ok {nrem : Nat} (hn : nrem ≤ n) {p : Array Nat} (V : Perm0 n p) (h1 : 1 ≤ nrem) {Φ : Nat × Array Nat → Prop}
    (h : ∀ m' p', Perm0 n p' → 1 ≤ m' → m' ≤ nrem → Up key p' m' → Φ (m', p')) : Ask n (klt key) (kas_count nrem p) Φ := by
  unfold kas_count
  refine Ask.bind ?_
  refine asc_ok hn V (nrem - 1) 1 (by omega) (by omega) (fun i j hij hj => by rw [show i = j by omega]; exact ILe.refl _) fun m a b c d => ?_
  by_cases hm : m = nrem
  · rw [if_pos (by simpa using hm)]
    exact h m p V a b c
  rw [if_neg (by simpa using hm)]
  have hlt := d.resolve_left hm
  by_cases hg : m > 1
  · rw [if_pos hg]
    refine ⟨V.lt (by omega), V.lt (by omega), ?_⟩
    show Ask n (klt key) (if ilt (KeyAt key p 0) (KeyAt key p (m - 1)) = true then _ else _) Φ
    cases e : ilt (KeyAt key p 0) (KeyAt key p (m - 1)) with
    | true => exact h m p V a b c
    | false =>
      rw [if_neg (by simp)]
      have hsz : m ≤ p.size := by rw [V.size]; omega
      have hall : ∀ k, 0 ≤ k → k < m → KeyAt key p k = KeyAt key p (m - 1) := fun k _ hk =>
        ILe.antisymm (c k (m - 1) (by omega) (by omega)) (ILe.trans e (c 0 k (by omega) hk))
      refine part_ok hn (V.rev 0 m) (by omega) (fun i j hij hj => ?_) h
      rw [at_rev_equal hsz hall, at_rev_equal hsz hall]
      by_cases hj' : j < m
      · rw [hall i (by omega) (by omega), hall j (by omega) hj']; exact ILe.refl _
      · obtain rfl : j = m := by omega
        by_cases hi : i = j
        · subst hi; exact ILe.refl _
        · rw [hall i (by omega) (by omega)]; exact ILe.of_lt hlt
  · rw [if_neg hg]
    refine part_ok hn V (by omega) (fun i j hij hj => ?_) h
    obtain rfl : m = 1 := by omega
    by_cases hi : i = j
    · subst hi; exact ILe.refl _
    · obtain rfl : i = 0 := by omega
      obtain rfl : j = 1 := by omega
      exact ILe.of_lt hlt

theorem place_ok {p : Array Nat} (V : Perm0 n p) {k : Nat} (hk : k < n) {Φ : Nat → Prop} : ∀ (f l r : Nat), l ≤ r → r ≤ k → r - l ≤ f → (∀ i, i < l → ILe (KeyAt key p i) (KeyAt key p k)) → (∀ i, r ≤ i → i < k → ILe (KeyAt key p k) (KeyAt key p i)) → Up key p k →
    (∀ l', l' ≤ k → (∀ i, i < l' → ILe (KeyAt key p i) (KeyAt key p k)) → (∀ i, l' ≤ i → i < k → ILe (KeyAt key p k) (KeyAt key p i)) → Φ l') → Ask n (klt key) (kas_place p k f l r) Φ
  | 0, l, r, h1, h2, h3, lo, hi, hs, h => h l (by omega) lo fun i a b => hi i (by omega) b
  | f + 1, l, r, h1, h2, h3, lo, hi, hs, h => by
    show Ask n (klt key) (if l ≥ r then _ else _) Φ
    by_cases hl : l ≥ r
    · rw [if_pos hl]
      exact h l (by omega) lo fun i a b => hi i (by omega) b
    · rw [if_neg hl]
      refine ⟨V.lt hk, V.lt (by omega), ?_⟩
      show Ask n (klt key) (if ilt (KeyAt key p k) (KeyAt key p ((l + r) / 2)) = true then _ else _) Φ
      cases e : ilt (KeyAt key p k) (KeyAt key p ((l + r) / 2)) with
      | true => exact place_ok V hk f l ((l + r) / 2) (by omega) (by omega) (by omega) lo (fun i a b => (ILe.of_lt e).trans (hs _ _ a b)) hs h
      | false => exact place_ok V hk f ((l + r) / 2 + 1) r (by omega) h2 (by omega) (fun i a => (hs i ((l + r) / 2) (by omega) (by omega)).trans e) hi hs h

theorem bin_ok {Φ : Array Nat → Prop} : ∀ (f : Nat) (p : Array Nat) (k : Nat), Perm0 n p → k + f = n → Up key p k → (∀ p', Perm0 n p' → Up key p' n → Φ p') → Ask n (klt key) (kas_bin f p k) Φ
  | 0, p, k, V, hk, hs, h => h p V (by rw [show n = k by omega]; exact hs)
  | f + 1, p, k, V, hk, hs, h => by
    show Ask n (klt key) ((kas_place p k k 0 k).bind fun l => kas_bin f (bubble p k (k - l)) (k + 1)) Φ
    refine Ask.bind ?_
    have hsz : k < p.size := by rw [V.size]; omega
    refine place_ok V (by omega) k 0 k (by omega) (Nat.le_refl _) (by omega) (fun i a => absurd a (Nat.not_lt_zero _)) (fun i a b => by omega) hs fun l hl lo hi => ?_
    refine bin_ok f _ (k + 1) (V.bubble _ _) (by omega) (fun i j hij hj => ?_) h
    rw [at_bubble hsz (by omega), at_bubble hsz (by omega), show k - (k - l) = l by omega]
    by_cases i1 : i = l
    · rw [if_pos i1]
      by_cases j1 : j = l
      · rw [if_pos j1]; exact ILe.refl _
      · rw [if_neg j1, if_pos (by omega)]
        exact hi _ (by omega) (by omega)
    · rw [if_neg i1]
      by_cases i2 : l < i ∧ i ≤ k
      · rw [if_pos i2, if_neg (by omega), if_pos (by omega)]
        exact hs _ _ (by omega) (by omega)
      · rw [if_neg i2]
        have : i < l := by omega
        by_cases j1 : j = l
        · rw [if_pos j1]; exact lo i this
        · rw [if_neg j1]
          by_cases j2 : l < j ∧ j ≤ k
          · rw [if_pos j2]; exact hs _ _ (by omega) (by omega)
          · rw [if_neg j2]; exact hs _ _ hij (by omega)

theorem sort_ok (h1 : 1 ≤ n) : Ask n (klt key) (kas_sort n) (fun p => Perm0 n p ∧ Up key p n) := by
  unfold kas_sort
  refine Ask.bind ?_
  refine count_ok (Nat.le_refl _) (Array.Perm.refl _) h1 fun m p V hm hm2 hs => ?_
  show Ask n (klt key) (if m < n then kas_bin (n - max m 1) p (max m 1) else .ret p) _
  by_cases hlt : m < n
  · rw [if_pos hlt, show max m 1 = m by omega]
    exact bin_ok (n - m) p m V (by omega) hs fun p' a b => ⟨a, b⟩
  · rw [if_neg hlt]
    obtain rfl : m = n := by omega
    exact ⟨V, hs⟩
end

/-- the rows in the order of a permutation -/
theorem picked {l : List VI} {p : Array Nat} (V : Perm0 l.length p) : (p.toList.map fun i => l.getD i vd).Perm l := by
  have e : (List.range l.length).map (fun i => l.getD i vd) = l := by
    apply List.ext_getElem
    · simp
    · intro i h1 h2
      simp [List.getD_eq_getElem?_getD, h2]
  have := (Array.perm_iff_toList_perm.mp V).map (fun i => l.getD i vd)
  simp only [List.toList_toArray] at this
  rw [e] at this
  exact this
theorem picked_up {l : List VI} {p : Array Nat} (V : Perm0 l.length p) (U : Up (dat l) p l.length) : ((p.toList.map fun i => l.getD i vd).map Prod.snd).Pairwise ILe := by
  rw [List.pairwise_iff_getElem]
  intro i j hi hj hij
  have hl : j < p.size := by simpa using hj
  have hn : j < l.length := by rw [← V.size]; exact hl
  have := U i j (Nat.le_of_lt hij) hn
  have hi' : i < p.size := by omega
  simpa [KeyAt, dat, Array.getD, hl, hi', List.getD_eq_getElem?_getD] using this
theorem sorted_one {l l' : List VI} (hp : (l.map Prod.snd).Perm (l'.map Prod.snd)) (h : (l.map Prod.snd).Pairwise ILe) (h' : (l'.map Prod.snd).Pairwise ILe) : l.map Prod.snd = l'.map Prod.snd :=
  List.Perm.eq_of_pairwise (fun _ _ _ _ a b => ILe.antisymm a b) h h' hp
end Mine

namespace Mine
set_option maxRecDepth 100000
set_option maxHeartbeats 4000000

section
variable {prog : Program} {w : World} {A : Around} {E : Value → Shared → Prop} {s : Shared}

theorem sort_small {a : Addr} {vs : List Value} {n : Nat} {P : PySem.Fin → Shared → Prop} (ho : s.heap.get? a = some (seqObj "list" vs.toArray n)) (h2 : vs.length < 2)
    (h : ∀ h' c, (∀ b o, b ≠ a → s.heap.get? b = some o → h'.get? b = some o) → h'.get? a = some (seqObj "list" vs.toArray c) → P (.done (.ret .none)) { s with heap := h' }) :
    wpAny (model prog w) A (Builtin.«list.sort» ⟨[.ref a], []⟩) P E s := by
  have ha : a < s.heap.objs.size := Heap.lt_size ho
  have hsz : vs.toArray.size = vs.length := by simp
  rw [list_sort_plain]
  refine wpAny_bind (listItems_at ho rfl ?_)
  refine wpAny_bind (listUpdate_at ho rfl ?_ (by rw [hsz, sizeLine_eq]; omega) (Nat.zero_le _))
  obtain ⟨e1, ho1⟩ : ∃ e1, (s.heap.update a (Obj.mapSeq fun _ => (#[] : Array Value))).get? a = some (seqObj "list" #[] e1) := ⟨_, get?_update_seq ho (fun _ => #[])⟩
  refine wpAny_bind (seqEpoch_at ho1 rfl ?_)
  refine wpAny_bind (wpAny_newTuple ?_ (by show vs.length ≤ _; rw [sizeLine_eq]; omega))
  refine wpAny_bind (wpAny_newList ?_ (Nat.zero_le _))
  refine wpAny_holding ?_
  have s1 := Heap.SameBut.update s.heap a (Obj.mapSeq fun _ => (#[] : Array Value))
  have keep : ∀ b o, b ≠ a → s.heap.get? b = some o → (((s.heap.update a (Obj.mapSeq fun _ => (#[] : Array Value))).push (seqObj "tuple" vs.toArray 0)).push (seqObj "list" #[] 0)).get? b = some o :=
    fun b o hb e => Heap.get?_push_of_some _ (Heap.get?_push_of_some _ ((s1.2 b hb).trans e))
  have ho6 : (((s.heap.update a (Obj.mapSeq fun _ => (#[] : Array Value))).push (seqObj "tuple" vs.toArray 0)).push (seqObj "list" #[] 0)).get? a = some (seqObj "list" #[] e1) :=
    Heap.get?_push_of_some _ (Heap.get?_push_of_some _ ho1)
  show wpAny (model prog w) A _ P E { s with heap := ((s.heap.update a (Obj.mapSeq fun _ => #[])).push (seqObj "tuple" vs.toArray 0)).push (seqObj "list" #[] 0) }
  generalize ((s.heap.update a (Obj.mapSeq fun _ => (#[] : Array Value))).push (seqObj "tuple" vs.toArray 0)).push (seqObj "list" #[] 0) = h6 at *
  dsimp only
  have hlt : vs.toArray.size < 2 := by rw [hsz]; exact h2
  rw [if_pos hlt, if_pos hlt]
  refine wpAny_bind (wpAny_pure ?_)
  rw [StateT.run_pure]
  refine wpAny_bind (wpAny_pure ?_)
  dsimp only
  have hsnd : (arrOf (SortSt.mk' general' (vs.toArray.zip vs.toArray) #[] 7 none)).map (·.2) = vs.toArray := by
    show (vs.toArray.zip vs.toArray).map (·.2) = _
    apply Array.ext
    · simp
    · intro i h1 h2; simp
  rw [hsnd]
  refine wpAny_bind (seqEpoch_at ho6 rfl ?_)
  refine wpAny_bind (listUpdate_at ho6 rfl ?_ (Nat.zero_le _) (by rw [hsz, sizeLine_eq]; omega))
  simp only [bne_self_eq_false, Bool.false_eq_true, if_false]
  obtain ⟨c2, hc2⟩ : ∃ c2, (h6.update a (Obj.mapSeq fun _ => vs.toArray)).get? a = some (seqObj "list" vs.toArray c2) := ⟨_, get?_update_seq ho6 fun _ => vs.toArray⟩
  have s2 := Heap.SameBut.update h6 a (Obj.mapSeq fun _ => vs.toArray)
  exact wpAny_pure (h _ c2 (fun b o hb e => (s2.2 b hb).trans (keep b o hb e)) hc2)

theorem sorted_small {l : Addr} {vs : List Value} {Q : Value → Shared → Prop} (hl : s.heap.IsList l vs.toArray) (h2 : vs.length < 2)
    (h : ∀ D h' c, (∀ b o, s.heap.get? b = some o → h'.get? b = some o) → s.heap.get? D = none → h'.get? D = some (listOf vs.toArray c) → Q (.ref D) { s with heap := h' }) :
    wpAny (model prog w) A (call (.builtin "sorted") [.ref l]) Q E s := by
  refine Calls.call_function_entry kind_sorted plain_sorted entry_sorted (args_sorted1 _) ?_
  unfold Builtin.«sorted»
  refine wpAny_bind (m := checkCount "sorted" 1 1 _) (wpAny_pure ?_)
  refine wpAny_bind (collect_list hl ?_ (by rw [sizeLine_eq]; omega))
  refine wpAny_bind (wpAny_newList ?_ (by rw [sizeLine_eq]; omega))
  have hsz : ((s.heap.push (seqObj "list" #[] 0)).update s.heap.objs.size (Obj.mapSeq (· ++ vs.toArray))).objs.size = s.heap.objs.size + 1 := by
    rw [Heap.size_update, size_push']
  have hoL : (((s.heap.push (seqObj "list" #[] 0)).update s.heap.objs.size (Obj.mapSeq (· ++ vs.toArray))).push (seqObj "list" vs.toArray 0)).get? (s.heap.objs.size + 1) = some (seqObj "list" vs.toArray 0) := by
    rw [← hsz]; exact Heap.get?_push_size _ rfl
  have keep : ∀ b o, s.heap.get? b = some o → (((s.heap.push (seqObj "list" #[] 0)).update s.heap.objs.size (Obj.mapSeq (· ++ vs.toArray))).push (seqObj "list" vs.toArray 0)).get? b = some o := fun b o q => by
    have hlt : b < s.heap.objs.size := Heap.lt_size q
    rw [Heap.get?_push_ne _ _ _ (by rw [hsz]; exact Nat.ne_of_lt (Nat.lt_succ_of_lt hlt)), Heap.get?_update_ne _ _ _ _ (Nat.ne_of_lt hlt), Heap.get?_push_ne _ _ _ (Nat.ne_of_lt hlt)]
    exact q
  show wpAny _ _ _ _ _ { s with heap := ((s.heap.push (seqObj "list" #[] 0)).update s.heap.objs.size (Obj.mapSeq (· ++ vs.toArray))).push (seqObj "list" vs.toArray 0) }
  rw [hsz]
  have hD : s.heap.get? (s.heap.objs.size + 1) = none := Heap.get?_none_of_le (Nat.le_succ _)
  refine wpAny_bind (wpAny_holding (wpAny_call_entry slot_list_sort ⟨_, hoL, rfl⟩ entry_list_sort (sort_small hoL h2 fun h' c k e => ⟨_, rfl, ?_⟩) (args_list_sort _)))
  exact wpAny_pure ⟨_, rfl, h _ h' c (fun b o q => k b o (fun z => by rw [z, hD] at q; cases q) (keep b o q)) hD e⟩
end

section
variable {prog : Program} {w : World} {A : Around} {E : Value → Shared → Prop} {s : Shared} {l : List VI}
theorem ask_tup {vs : List Value} (hvs : vs = l.map Prod.fst) (ht : ∀ x ∈ l, TupAt s.heap x.1 x.2) {i j : Nat} (hi : i < l.length) (hj : j < l.length) {C : Bool → Shared → Prop} (h : C (klt (dat l) i j) s) :
    kas_ask prog w A (tuples' true) vs i j C s := by
  subst hvs
  unfold kas_ask
  have e : ∀ {i}, i < l.length → (l.map Prod.fst).getD i Value.none = (l.getD i vd).1 := fun {i} h => by simp [List.getD_eq_getElem?_getD, h]
  rw [e hi, e hj]
  obtain ⟨a, t1, t2, ea, ha⟩ := tup_at ht hi
  obtain ⟨b, t3, t4, eb, hb⟩ := tup_at ht hj
  rw [ea, eb]
  have hk : klt (dat l) i j = ilt (dat l i) (dat l j) := rfl
  rw [hk] at h
  refine kat_lt ha rfl hb rfl ?_
  show KatLex prog w A true _ C [(_, _), (_, _)] 0 s
  refine kat_cons (wpAny_eqBool_int ?_)
  by_cases e1 : (dat l i).1 = (dat l j).1
  · have : ((dat l i).1 == (dat l j).1) = true := by simpa using e1
    rw [this]
    refine kat_yes (kat_cons (eqBool_bytes ?_))
    by_cases e2 : (dat l i).2 = (dat l j).2
    · have : decide ((dat l i).2.toArray.toList = (dat l j).2.toArray.toList) = true := by simpa using e2
      rw [this]
      refine kat_yes (kat_nil ?_)
      have ez : dat l i = dat l j := Prod.ext e1 e2
      have z : ilt (dat l i) (dat l j) = false := by rw [ez]; exact ilt_irrefl _
      rw [z] at h
      exact h
    · have : decide ((dat l i).2.toArray.toList = (dat l j).2.toArray.toList) = false := by simpa using e2
      rw [this]
      refine kat_no (kat_one _ _ (lt_bytes ?_))
      have z : ilt (dat l i) (dat l j) = (Builtin.Bytes.order (dat l i).2.toArray.toList (dat l j).2.toArray.toList == .lt) := by
        unfold ilt blt
        simp [e1]
      rw [z] at h
      exact h
  · have : ((dat l i).1 == (dat l j).1) = false := by simpa using e1
    rw [this]
    refine kat_no ?_
    show wpAny _ _ (oneLt' true _ _) _ _ _
    refine oneLt_int ?_
    have z : ilt (dat l i) (dat l j) = decide ((dat l i).1 < (dat l j).1) := by
      unfold ilt
      simp [e1]
    rw [z] at h
    exact h

theorem kat_tups {h : Heap} : ∀ {l : List VI}, (∀ x ∈ l, TupAt h x.1 x.2) → ∃ fs, KatTups h (l.map Prod.fst) fs ∧ fs.length = l.length ∧ ∀ v ∈ fs, ∃ i t, v = .int i t
  | [], _ => ⟨[], trivial, rfl, fun _ h => nomatch h⟩
  | x :: l, ht => by
    obtain ⟨fs, k, e, y⟩ := kat_tups (l := l) fun z hz => ht z (.tail _ hz)
    obtain ⟨a, t1, t2, ea, ha⟩ := ht x (.head _)
    refine ⟨.int x.2.1 t1 :: fs, ?_, by simp [e], fun v hv => ?_⟩
    · rw [List.map_cons, ea]
      exact KatTups.cons ha rfl rfl rfl k
    · rcases List.mem_cons.mp hv with rfl | hv
      · exact ⟨_, _, rfl⟩
      · exact y v hv

section stopA
end stopA
/-- all of a heap but one address, and but what a base has -/
def dump (h₀ : Heap) (L : Addr) (h : Heap) : List (Addr × Obj) := ownOf h₀ ((List.range h.objs.size).filter (· ≠ L)) h
theorem dump_news {h₀ h : Heap} {L : Addr} : News h₀ L h (dump h₀ L h) := news_ownOf (by simp)
theorem dump_keep {h₀ h h' : Heap} {L : Addr} {m m' : Str → Option Value} {news : List (Addr × Obj)} (F : Fr h₀ L h m) (F' : Fr h₀ L h' m') (N' : News h₀ L h' news) (sub : ∀ p ∈ dump h₀ L h, p ∈ news) : ∀ b o, b ≠ L → h.get? b = some o → h'.get? b = some o := fun b o hb e => by
  cases e0 : h₀.get? b with
  | some o' => rw [F.keep _ _ e0] at e; cases e; exact F'.keep _ _ e0
  | none => exact (N' _ (sub _ (mem_ownOf (by simp [hb]; exact Heap.lt_size e) e0 e))).1

end
end Mine

namespace Mine
set_option maxRecDepth 100000
set_option maxHeartbeats 400000
section
variable {prog : Program} {w : World} {A : Around} {E : Value → Shared → Prop} {s : Shared} {l : List VI}
theorem small_up (h2 : l.length < 2) : (l.map Prod.snd).Pairwise ILe := by
  cases l with
  | nil => exact List.Pairwise.nil
  | cons x r =>
    cases r with
    | nil => simp
    | cons y r => exfalso; simp only [List.length_cons] at h2; omega
theorem sorted_tups {h₀ : Heap} {L r : Addr} {m : Str → Option Value} {Q : Value → Shared → Prop} (F : Fr h₀ L s.heap m) (hl : s.heap.IsList r (l.map Prod.fst).toArray) (ht : ∀ x ∈ l, TupAt s.heap x.1 x.2) (h64 : l.length < 64)
    (h : ∀ D l' h' c, Fr h₀ L h' m → (∀ b o, b ≠ L → s.heap.get? b = some o → h'.get? b = some o) → s.heap.get? D = none → h'.get? D = some (hobj l' c) → l'.Perm l → (l'.map Prod.snd).Pairwise ILe → Q (.ref D) { s with heap := h' }) :
    wpAny (model prog w) A (call (.builtin "sorted") [.ref r]) Q E s := by
  by_cases h2 : l.length < 2
  · refine sorted_small hl (by simpa using h2) fun D h' c k e1 e2 => h D l h' c (F.kept k) (fun b o _ => k b o) e1 e2 (List.Perm.refl _) (small_up h2)
  · refine kat_sorted (vs := l.map Prod.fst) F dump_news hl (by simp; omega) (by simpa using h64) fun D e1 h' F' N' hD => ?_
    have kp : ∀ b o, b ≠ L → s.heap.get? b = some o → h'.get? b = some o := dump_keep F F' N' fun p hp => .tail _ hp
    have ht' : ∀ x ∈ l, TupAt h' x.1 x.2 := fun x hx => by
      obtain ⟨a, t, u, e, ho⟩ := ht x hx
      refine ⟨a, t, u, e, kp _ _ (fun z => ?_) ho⟩
      subst z
      obtain ⟨o', es, ep, ho', hd', _⟩ := F.ns
      rw [ho] at ho'; cases ho'; cases hd'
    have hDn := (N' _ (.head _)).2
    have hDs : s.heap.get? D = none := by
      cases e : s.heap.get? D with
      | none => rfl
      | some o =>
        have : (D, o) ∈ dump h₀ L s.heap := mem_ownOf (by simp [hDn.1]; exact Heap.lt_size e) hDn.2 e
        exact absurd (hD _ this) (Nat.lt_irrefl _)
    obtain ⟨fs, kt, el, hints⟩ := kat_tups ht'
    refine kat_kind (T := .type "int") kt (by omega) (fun v hv => ?_) (by decide) ?_
    · obtain ⟨i, t, rfl⟩ := hints v hv
      exact Looks.now
    · show KasT.kasWp (kas_ask prog w A.in1.in1 (tuples' true) (l.map Prod.fst)) _ _ _
      rw [List.length_map]
      refine Ask.wp (n := l.length) (lt := klt (dat l)) (Φ := fun p => Perm0 l.length p ∧ Up (dat l) p l.length) (fun i j C hi hj hC => ask_tup rfl ht' hi hj hC) (fun p hp => ?_) (sort_ok (by omega))
      have eout : (p.toList.map fun i => (l.map Prod.fst).getD i Value.none) = (p.toList.map fun i => l.getD i vd).map Prod.fst := by
        rw [List.map_map]
        refine List.map_congr_left fun i hi => ?_
        have hi' : i < l.length := by
          have : i ∈ p := by simpa using hi
          simpa using hp.1.mem_iff.mp this
        simp [List.getD_eq_getElem?_getD, hi']
      rw [eout]
      refine KasFin.intro F' N' (.head fun q hq e => ?_) fun h'' c F'' N'' => ?_
      · exact absurd (hD q hq) (by rw [e]; exact Nat.lt_irrefl _)
      · refine h D _ h'' c F'' (dump_keep F F'' N'' fun p hp => .tail _ hp) hDs (N'' _ (.head _)).1 (picked hp.1) (picked_up hp.1 hp.2)
end
end Mine

namespace Mine
set_option maxRecDepth 100000
open PySem.SeqAt
section
variable {A : Around} {s : Shared} {a b : Addr} {l l' : List VI}

theorem ne_same (ha : s.heap.IsList a (l.map Prod.fst).toArray) (hb : s.heap.IsList b (l'.map Prod.fst).toArray) (ht : ∀ x ∈ l, TupAt s.heap x.1 x.2) (ht' : ∀ x ∈ l', TupAt s.heap x.1 x.2)
    (e : l.map Prod.snd = l'.map Prod.snd) (hu : A.units + 20 < cLine) : RcNeAt A s (.ref a) (.ref b) false := by
  have hlen : l.length = l'.length := by simpa using congrArg List.length e
  have := RcNeAt.lists (A := A) (e := fun _ => true) ha hb (by simpa using hlen) (by omega) fun j h1 h2 => by
    have h1' : j < l.length := by simpa using h1
    have h2' : j < l'.length := by simpa using h2
    have t1 := tup_at ht h1'
    have t2 := tup_at ht' h2'
    have ed : dat l j = dat l' j := by
      have := congrArg (fun x => x[j]?) e
      simpa [dat, List.getD_eq_getElem?_getD, h1', h2'] using this
    have g1 : (l.getD j vd).1 = (l.map Prod.fst).toArray[j] := by simp [List.getD_eq_getElem?_getD, h1']
    have g2 : (l'.getD j vd).1 = (l'.map Prod.fst).toArray[j] := by simp [List.getD_eq_getElem?_getD, h2']
    have r := eq_at (A := A.in1) t1 t2 (by show A.units + 1 < cLine; omega)
    rw [ed, g1, g2] at r
    simpa using r
  have e0 : ((List.range (l.map Prod.fst).toArray.size).all fun _ => true) = true := List.all_eq_true.mpr fun _ _ => rfl
  rw [e0] at this
  exact this
theorem ne_empty {vs : List Value} (ha : s.heap.IsList a vs.toArray) (hb : s.heap.IsList b #[]) (hu : A.units + 20 < cLine) : RcNeAt A s (.ref a) (.ref b) (!vs.isEmpty) := by
  cases vs with
  | nil => exact RcNeAt.lists (e := fun _ => true) ha hb rfl (by omega) fun j h1 h2 => absurd h2 (Nat.not_lt_zero _)
  | cons x r => exact RcNeAt.lists_lengths ha hb (by simp) (by omega)
theorem eq_empty {vs : List Value} (ha : s.heap.IsList a vs.toArray) (hb : s.heap.IsList b #[]) (hu : A.units + 20 < cLine) : RcAt A s (.ref a) (.ref b) vs.isEmpty := by
  cases vs with
  | nil => exact RcAt.lists (e := fun _ => true) ha hb rfl (by omega) fun j h1 h2 => absurd h2 (Nat.not_lt_zero _)
  | cons x r => exact RcAt.lists_lengths ha hb (by simp) (by omega)
end
end Mine

namespace Mine
set_option maxRecDepth 100000
set_option maxHeartbeats 4000000

theorem names_code {p : Program} {loose : List Str} {mg mb : Str → Option Value} {prog : Program} {w : World} {A : Around} {s : Shared} {R : Result → Shared → Prop}
    (hroom : A.depth < recursionLimit) 
    (KX : (hd.heap_39 w.params).In s.heap) (T : TopRead p loose mg mb s.heap)
    (h : ∀ a vs h' tk, h'.get? a = some (listOf (List.toArray vs) 0) → s.heap.get? a = none → vs.length = 6 → (∀ v ∈ vs, ∃ b t, v = .bytes b t) → Kept s.heap h' → R (.ok (.ret (.ref a))) { s with heap := h', toks := tk }) :
    codeAny (model prog w) A (.call (.ref 91) ⟨[], []⟩) R s := by
  refine' enter (binds := []) KX T.nolimit ?ho ?hcd (by omega) ?hb ?hl ?_ ?c1 ?c2 ?c3 ?c4
  case ho => k_is
  case hcd => k_is
  case hb => exact BindsTo.of_eq rfl
  case hl => exact locs rfl
  case c4 => decide
  case c1 => rfl
  case c2 => rfl
  case c3 => rfl
  intro h₁ F N
  k_steps
  rename_i l1 h2 F2 N2 _
  refine h l1 _ h2 _ (N2 _ (.head _)).1 (N2 _ (.head _)).2.2 rfl (fun v hv => ?_) F2.keep
  simp only [List.mem_cons, List.not_mem_nil, or_false] at hv
  rcases hv with rfl | rfl | rfl | rfl | rfl | rfl <;> exact ⟨_, _, rfl⟩
end Mine

namespace Mine
set_option maxRecDepth 100000
set_option maxHeartbeats 4000000
theorem For_mine {prog : Program} {w : World} {A : Around} {s : Shared} {env : Env} {h₀ : Heap} {m : Str → Option Value} {Q : Flow → Shared → Prop} {x : Str} {px pos : Pos} {iter : Expr} {body : List Stmt} (_F : Fr h₀ env.locals s.heap m) (hx : env.kindOf x = some .local)
    (hp : (env.scope.kind == .class || (env.scope.kind == .module && env.locals != env.globals)) = false)
    (h : wpAny (model prog w) A (eval iter env) (fun xv s₁ => wpAny (model prog w) A (pyIter xv) (fun it s₂ => LoopAtV prog w A h₀ env x body Q (fun _ _ => False) it s₂) (fun _ _ => False) s₁) (fun _ _ => False) s)
    (hs : ∀ x, foldedSetIterable iter env x = pure x := by intro _; rfl) :
    wpAny (model prog w) A (exec (.For (.Name x px) iter body [] pos) env) Q (fun _ _ => False) s := For_invV h₀ hx hp h hs (hE := PassesOwn.never)
theorem ns_ne {h : Heap} {a L : Addr} {m : Str → Option Value} {o : Obj} (N : h.Ns L m) (ha : h.get? a = some o) (hd : ∀ es ep, o.data ≠ .dict es ep) : a ≠ L := fun z => by
  subst z
  obtain ⟨o', es, ep, ho', hd', _⟩ := N
  rw [ha] at ho'
  cases ho'
  exact hd _ _ hd'
theorem TupAt.but {h h' : Heap} {L : Addr} {m : Str → Option Value} {v : Value} {p : It} (x : TupAt h v p) (N : h.Ns L m) (k : ∀ b o, b ≠ L → h.get? b = some o → h'.get? b = some o) : TupAt h' v p := by
  obtain ⟨a, t, u, e, ho⟩ := x
  exact ⟨a, t, u, e, k _ _ (ns_ne N ho fun _ _ e => nomatch e) ho⟩
section
variable {prog : Program} {w : World} {A : Around} {E : Value → Shared → Prop} {s : Shared} {env : Env} {h₀ : Heap} {x : Str} {body : List Stmt} {Q : Flow → Shared → Prop}
/-- a loop over a range, the ledger kept -/
theorem range_keep {r : Addr} {a₀ b₀ : Int} {t₀ u₀ v₀ : Tok} {n : Nat} {m₀ : Str → Option Value} {news : List (Addr × Obj)} (J : Nat → (Str → Option Value) → Prop)
    (hh : A.handled = none) (hr : IsRange s.heap r a₀ b₀ 1 t₀ u₀ v₀) (hsmall : Builtin.Range.small a₀ b₀ 1 = true) (hn : Builtin.Range.rangeSize a₀ b₀ 1 = (n : Int)) (F : Fr h₀ env.locals s.heap m₀) (N : News h₀ env.locals s.heap news) (hj : J 0 m₀)
    (turn : ∀ (i : Nat) t m₁ h tk own, i < n → J i m₁ → Fr h₀ env.locals h (fun y => if y = x then some (.int (a₀ + i) t) else m₁ y) → News h₀ env.locals h (own ++ news) →
      wpAny (model prog w) A (execs body env) (InvPost h₀ env.locals (J (i + 1)) (own ++ news) { s with heap := h, toks := tk } Q) E { s with heap := h, toks := tk })
    (done : ∀ m₁ h tk, J n m₁ → Fr h₀ env.locals h m₁ → News h₀ env.locals h news → Q .next { s with heap := h, toks := tk }) :
    wpAny (model prog w) A (pyIter (.ref r)) (fun it s₂ => LoopAtV prog w A h₀ env x body Q E it s₂) E s := by
  refine wpAny_pyIter_range hr hsmall ?_
  have W : Walks prog w A s.heap.objs.size [s.heap.objs.size] [s.heap.objs.size] n (fun i v => i < n ∧ ∃ t, v = .int (a₀ + i * 1) t)
      (fun i h => IsRangeIter h s.heap.objs.size (a₀ + (i : Nat) * 1) ((n : Int) - (i : Nat)) 1) := (Walks.range hh _ a₀ 1 n).bound
  let J' : Nat → (Str → Option Value) → List (Addr × Obj) → Prop := fun i m₁ news₁ => news₁ = news ∧ J i m₁
  refine ⟨_, _, _, n, _, _, m₀, news, J', rfl, W, ?_, ?_, ?_, (by show IsRangeIter _ _ _ _ _; rw [hn]; simpa using Heap.get?_push_size _ rfl), F.push _, (fun p hp => ⟨Heap.get?_push_of_some _ (N p hp).1, (N p hp).2⟩), ⟨rfl, hj⟩, ?_, ?_⟩
  · intro hm
    exact absurd F.ns.lt ((List.mem_singleton.mp hm) ▸ Nat.lt_irrefl _)
  · intro b hb
    rw [List.mem_singleton.mp hb]
    exact next_is_new F
  · intro p hp hI
    exact absurd (Heap.lt_size (N p hp).1) ((List.mem_singleton.mp hI) ▸ Nat.lt_irrefl _)
  · rintro i v m₁ news₁ s₁ own ⟨hh', tk', rfl⟩ hin ⟨_, t, rfl⟩ ⟨rfl, hJ⟩ hoff _ _ _ _ F₁ N₁
    have e1 : a₀ + (i : Int) * 1 = a₀ + (i : Int) := by omega
    rw [e1] at F₁
    refine wpAny_mono (turn i t m₁ hh' tk' own hin hJ F₁ N₁) (fun f s₂ p => ?_) fun _ _ e => e
    have fin : InvEnd h₀ env.locals (J (i + 1)) (own ++ news₁) { s with heap := hh', toks := tk' } s₂ → LoopStepU h₀ env.locals [s.heap.objs.size] own (J' (i + 1)) { s with heap := hh', toks := tk' } .next s₂ := by
      rintro ⟨h', tk, m', news', e, F', N', hn, hm⟩
      exact ⟨rfl, h', tk, m', news₁, e, F', fun p hp => N' p (hn p hp), hoff, rfl, hm⟩
    cases f with
    | ret v => exact .ret p
    | brk => exact .brk p
    | next => exact .next (fin p)
    | cont => exact .cont (fin p)
  · rintro h' tk m' news' F' N' _ ⟨rfl, hJ⟩
    exact done m' h' tk hJ F' N'
end
theorem push_set {α : Type} (xs : Array α) (x y : α) : (xs.push x).setIfInBounds xs.size y = xs.push y := by
  apply Array.toList_inj.mp
  simp [List.set_append]
theorem len_L {prog : Program} {w : World} {A : Around} {E : Value → Shared → Prop} {s : Shared} {a : Addr} {l : List VI} {Q : Value → Shared → Prop} (hl : s.heap.IsList a (l.map Prod.fst).toArray) (hz : l.length < 1000)
    (h : Q (.int l.length (s.toks + 1)) { s with toks := s.toks + 1 + 1 }) : wpAny (model prog w) A (call (.builtin "len") [.ref a]) Q E s := by
  have e : (l.map Prod.fst).toArray.size = l.length := by simp
  refine Calls.call_len_list hl (by rw [e]; omega) ?_
  rw [e]; exact h
theorem dump_any {h₀ h : Heap} {L : Addr} {m : Str → Option Value} (F : Fr h₀ L h m) : ∃ dl, News h₀ L h dl ∧ ∀ h' m', Fr h₀ L h' m' → News h₀ L h' dl → ∀ b o, b ≠ L → h.get? b = some o → h'.get? b = some o :=
  ⟨dump h₀ L h, dump_news, fun _ _ F' N' => dump_keep F F' N' fun _ hp => hp⟩
theorem News.drop {h₀ h : Heap} {L : Addr} {x : Addr × Obj} {l : List (Addr × Obj)} (N : News h₀ L h (x :: l)) : News h₀ L h l := fun p hp => N p (.tail _ hp)
end Mine

namespace Mine
set_option maxRecDepth 100000
set_option maxHeartbeats 4000000
local macro_rules | `(tactic| k_inst) => `(tactic| exact instAt_keptE (by assumption) (Fr.keep (by assumption)))


theorem read_code {p : Program} {loose : List Str} {mg mb : Str → Option Value} {prog : Program} {w : World} {A : Around} {s : Shared} {R : Result → Shared → Prop} {wk q r : Addr} {l rl : List VI} {n : Nat}
    (hroom : A.depth + 10 < recursionLimit) (hh : A.handled = none) (hu : A.units + 100 < cLine)
    (KX : (hd.heap_39 w.params).In s.heap) (T : TopRead p loose mg mb s.heap)
    (hw : WAt s.heap wk q) (hq : s.heap.get? q = some (hobj l n)) (ht : ∀ x ∈ l, TupAt s.heap x.1 x.2) (hI : IsHp l) (hsz : l.length < 60)
    (hr : s.heap.IsList r (rl.map Prod.fst).toArray) (htr : ∀ x ∈ rl, TupAt s.heap x.1 x.2) (hp : (l.map fun x => neg x.2).Perm (rl.map Prod.snd))
    (h : ∀ h' tk, Kept s.heap h' → R (.ok (.ret (.bool true))) { s with heap := h', toks := tk, gens := s.gens.push .finished }) :
    codeAny (model prog w) A (.call (.ref 119) ⟨[.ref wk, .ref r], []⟩) R s := by
  refine' enter (binds := [(Str.ofString "work", .ref wk), (Str.ofString "row", .ref r)]) KX T.nolimit ?ho ?hcd (by omega) ?hb ?hl ?_ ?c1 ?c2 ?c3 ?c4
  case ho => k_is
  case hcd => k_is
  case hb => exact BindsTo.of_eq rfl
  case hl => exact locs rfl
  case c4 => decide
  case c1 => rfl
  case c2 => rfl
  case c3 => rfl
  obtain ⟨dx, hs, t, nn, I⟩ := id hw
  intro h₁ F N
  k_steps
  have hql : (h₁.get? q) = some (hobj l n) := F.keep _ _ hq
  have ht1 : ∀ x ∈ l, TupAt h₁ x.1 x.2 := fun x hx => (ht x hx).kept F.keep
  refine wpAny_call (iter_code (l := l) (n := n) (by show A.depth + 1 < _; omega) (KX.keeps F.keep) (T.keeps F.keep) (hw.kept hq rfl fun b o e _ => F.keep b o e) hql ht1 fun h₂ tk₂ C G c m₂ k₂ hC hG hle hCG hn₂ hg₂ U => ?_)
  dsimp only
  have F₂ := F.kept k₂
  have N₂ := N.grown k₂
  have hkeep1 := F.keep
  have hlim1 := (T.keeps F.keep).nolimit
  k_steps
  refine list_gen (h₀ := h₁) (l := l) hh (by show A.depth + 1 < _; omega) (by omega) hlim1 k₂ (Nat.le_trans hle (Nat.le_of_lt hn₂.lt)) hg₂ (by simp) hn₂ U fun S ys h₃ tk₃ n₃ hS hS0 hys hty htn k₃ => ?_
  have F₃ := F.kept k₃
  have hSL : S ≠ s.heap.objs.size := fun z => by obtain ⟨o, _, _, ho, _⟩ := F.ns; rw [z, ho] at hS0; cases hS0
  have hSn : s.heap.get? S = none := by
    cases e : s.heap.get? S with
    | none => rfl
    | some o => rw [F.keep _ _ e] at hS0; cases hS0
  obtain ⟨dl, Ndl, kdl⟩ := dump_any F₃
  have N₃ : News s.heap s.heap.objs.size h₃ ((S, hobj ys n₃) :: dl) := fun p hp => by
    rcases List.mem_cons.mp hp with rfl | hp
    · exact ⟨hS, hSL, hSn⟩
    · exact Ndl p hp
  have tdl : ∀ h' m', Fr s.heap s.heap.objs.size h' m' → News s.heap s.heap.objs.size h' dl → ∀ v d, TupAt h₃ v d → TupAt h' v d := fun h' m' F' N' v d x => by
    obtain ⟨a, t, u, e, ho⟩ := x
    refine ⟨a, t, u, e, kdl _ _ F' N' _ _ (fun z => ?_) ho⟩
    subst z
    obtain ⟨o', es, ep, ho', hd', _⟩ := F₃.ns
    rw [ho] at ho'; cases ho'; cases hd'
  have eg : (s.gens.push (.fresh c)).setIfInBounds s.gens.size .finished = s.gens.push .finished := push_set _ _ _
  rw [eg]
  clear F N F₂ N₂ eg
  have hylen : ys.length = l.length := by simpa using congrArg List.length hys
  have hrlen : rl.length = l.length := by simpa using hp.length_eq.symm
  k_steps
  rename_i h₄ F₄ N₄
  have hS₄ : Heap.IsList h₄ S (ys.map Prod.fst).toArray := ⟨_, (N₄ _ (.head _)).1, rfl, n₃, rfl⟩
  refine len_L hS₄ (by omega) ?_
  k_steps
  refine len_L (hr.at fun o e => F₄.keep _ _ e) (by omega) ?_
  rw [hylen, hrlen]
  repeat' ((fail_if_success (with_reducible show wpAny _ _ (exec (Stmt.For _ _ _ _ _) _) _ _ _)); walk1)
  · exact absurd rfl (by assumption)
  refine For_mine F₄ (by rfl) (by rfl) ?_
  k_steps
  refine iter_keep (l := S) (vs := ys.map Prod.fst) (news := (S, hobj ys n₃) :: dl)
    (fun i m₁ => ∃ iv, m₁ = (fun z => if z = Str.ofString "item" then iv else if z = Str.ofString "told" then some (.ref S) else List.lookup z [(Str.ofString "work", Value.ref wk), (Str.ofString "row", Value.ref r)].reverse))
    hh hS₄ (.inr ⟨_, .head _⟩) F₄ N₄ ?_ ?_ ?_
  · refine ⟨none, ?_⟩
    funext z
    by_cases h1 : z = Str.ofString "item"
    · subst h1; rfl
    · rw [if_neg h1]
  · rintro i v m₁ h₃ tk₃ own hv ⟨iv, rfl⟩ F₅ N₅
    obtain ⟨yi, hyi, rfl⟩ : ∃ yi, ys[i]? = some yi ∧ yi.1 = v := by
      rw [List.getElem?_map] at hv
      cases e : ys[i]? with
      | none => rw [e] at hv; cases hv
      | some xi => rw [e] at hv; exact ⟨xi, rfl, by simpa using hv⟩
    have ty := tdl _ _ F₅ (fun p hp => N₅ p (List.mem_append_right _ (.tail _ hp))) _ _ (hty yi (List.mem_of_getElem? hyi))
    obtain ⟨a, t1, t2, ea, ha⟩ := ty
    rw [ea] at F₅
    have ha0 : s.heap.get? a = none := by
      cases e : s.heap.get? a with
      | none => rfl
      | some o => have := htn yi (List.mem_of_getElem? hyi) a ea; rw [hkeep1 _ _ e] at this; cases this
    have N₆ : News s.heap s.heap.objs.size h₃ ((a, { cls := .type "tuple", data := .seq #[.int yi.2.1 t1, .bytes yi.2.2.toArray t2] }) :: (own ++ (S, hobj ys n₃) :: dl)) := fun p hp => by
      rcases List.mem_cons.mp hp with rfl | hp
      · exact ⟨ha, ns_ne F₅.ns ha (fun _ _ e => nomatch e), ha0⟩
      · exact N₅ p hp
    clear N₅
    k_steps
    refine InvEnd.intro F₅ N₆ (fun _ hp => .tail _ hp) ⟨some (.ref a), ?_⟩
    funext z
    by_cases h1 : z = Str.ofString "item"
    · subst h1; rfl
    · simp [h1]
  · rintro m₁ h₅ tk₅ ⟨iv, rfl⟩ F₅ N₅
    k_steps
    have hty₅ : ∀ x ∈ ys, TupAt h₅ x.1 x.2 := fun x hx => tdl _ _ F₅ (News.drop N₅) _ _ (hty x hx)
    have htr₅ : ∀ x ∈ rl, TupAt h₅ x.1 x.2 := fun x hx => (htr x hx).kept F₅.keep
    refine sorted_tups (l := ys) F₅ ⟨_, (N₅ _ (.head _)).1, rfl, n₃, rfl⟩ hty₅ (by omega) fun D₁ l₁ h₆ c₁ F₆ k₆ hD₁ oD₁ p₁ u₁ => ?_
    have N₆ : News s.heap s.heap.objs.size h₆ ((S, hobj ys n₃) :: dl) := fun p hp => ⟨k₆ _ _ (N₅ p hp).2.1 (N₅ p hp).1, (N₅ p hp).2⟩
    dsimp only
    k_steps
    refine sorted_tups (l := rl) F₆ (hr.at fun o e => F₆.keep _ _ e) (fun x hx => (htr x hx).kept F₆.keep) (by omega) fun D₂ l₂ h₇ c₂ F₇ k₇ hD₂ oD₂ p₂ u₂ => ?_
    have N₇ : News s.heap s.heap.objs.size h₇ ((S, hobj ys n₃) :: dl) := fun p hp => ⟨k₇ _ _ (N₆ p hp).2.1 (N₆ p hp).1, (N₆ p hp).2⟩
    dsimp only
    have hmm : l₁.map Prod.snd = l₂.map Prod.snd := by
      refine sorted_one ?_ u₁ u₂
      refine (p₁.map Prod.snd).trans ?_
      rw [hys]
      exact hp.trans (p₂.map Prod.snd).symm
    refine ne_same (A := A.deeper _) ⟨_, k₇ _ _ (ns_ne F₆.ns oD₁ fun _ _ e => nomatch e) oD₁, rfl, c₁, rfl⟩ ⟨_, oD₂, rfl, c₂, rfl⟩ (fun x hx => ((hty₅ x (p₁.mem_iff.mp hx)).but F₅.ns k₆).but F₆.ns k₇) (fun x hx => (htr x (p₂.mem_iff.mp hx)).kept F₇.keep) hmm (by show A.units + 3 + 20 < cLine; omega) _ _ _ _ ?_
    repeat' ((fail_if_success (with_reducible show wpAny _ _ (exec (Stmt.For _ _ _ _ _) _) _ _ _)); walk1)
    refine For_mine F₇ (by rfl) (by rfl) ?_
    k_steps
    refine len_L ⟨_, (N₇ _ (.head _)).1, rfl, n₃, rfl⟩ (by omega) ?_
    k_steps
    rename_i t1 t2 t3 hr8 F₈ N₈ k₈
    have hyd : ∀ {j}, j < ys.length → dat ys j = neg (dat l j) := fun {j} hj => by
      have hj' : j < l.length := by omega
      have := congrArg (fun z => z[j]?) hys
      simpa [dat, List.getD_eq_getElem?_getD, hj, hj'] using this
    refine range_keep (n := ((ys.length : Int) - 1).toNat) (news := (S, hobj ys n₃) :: dl)
      (fun i m₁ => ∃ pv, m₁ = (fun z => if z = Str.ofString "place" then pv else if z = Str.ofString "item" then iv else if z = Str.ofString "told" then some (.ref S) else List.lookup z [(Str.ofString "work", Value.ref wk), (Str.ofString "row", Value.ref r)].reverse))
      hh hr8 ?_ ?_ F₈ N₈ ?_ ?_ ?_
    · exact small_one (by omega) (by omega) (by omega) (by omega)
    · exact rangeSize_nat _ _
    · refine ⟨none, ?_⟩
      funext z
      by_cases h1 : z = Str.ofString "place"
      · subst h1; rfl
      · rw [if_neg h1]
    · rintro i t m₁ h₉ tk₉ own hi ⟨pv, rfl⟩ F₉ N₉
      have hi1 : i + 1 < ys.length := by omega
      have hS₉ : Heap.IsList h₉ S (ys.map Prod.fst).toArray := ⟨_, (N₉ _ (List.mem_append_right _ (.head _))).1, rfl, n₃, rfl⟩
      have hty₉ : ∀ x ∈ ys, TupAt h₉ x.1 x.2 := fun x hx => tdl _ _ F₉ (fun p hp => N₉ p (List.mem_append_right _ (.tail _ hp))) _ _ (hty x hx)
      have ek : Int.fdiv (1 + (i : Int) - 1) 2 = ((i / 2 : Nat) : Int) := by
        rw [show (1 + (i : Int) - 1) = (i : Int) by omega]
        exact (Int.ofNat_fdiv i 2).symm
      k_steps
      refine item_L (v := (ys.getD (i / 2) vd).1) hS₉ (by rw [ek]; omega) (by rw [ek]; omega) (by rw [ek, Int.toNat_natCast]; exact fst_at (by omega)) ?_
      k_steps
      refine item_L (v := (ys.getD (i + 1) vd).1) hS₉ (by omega) (by omega) (by rw [show (1 + (i : Int)).toNat = i + 1 by omega]; exact fst_at hi1) ?_
      k_steps
      refine wpAny_call (ahead_code (A := A.deeper _) (x := dat ys (i / 2)) (y := dat ys (i + 1)) (by show A.depth + 1 < _; omega) (KX.keeps F₉.keep) (T.keeps F₉.keep) (tup_at hty₉ (by omega)) (tup_at hty₉ hi1) fun r₁ h₁₁ tk₁₁ er hk => ?_)
      dsimp only
      have F₁₁ := F₉.kept hk
      have N₁₁ := N₉.grown hk
      clear F₉ N₉
      obtain rfl : r₁ = true := er.trans ((ahead_iff _ _).mpr (by
        rw [hyd (by omega), hyd hi1, neg_neg, neg_neg]
        exact hI (i + 1) (by omega) (by omega)))
      k_steps
      refine InvEnd.intro F₁₁ N₁₁ (fun _ hp => hp) ⟨some (.int (1 + i) t), ?_⟩
      funext z
      by_cases h1 : z = Str.ofString "place"
      · subst h1; rfl
      · simp [h1]
    · rintro m₁ h₉ tk₉ ⟨pv, rfl⟩ F₉ N₉
      k_steps
      rename_i E₁ h₁₀ F₁₀ N₁₀ _
      refine eq_empty (A := A.deeper _) (vs := ys.map Prod.fst) ⟨_, (N₁₀ _ (.tail _ (.head _))).1, rfl, n₃, rfl⟩ ⟨_, (N₁₀ _ (.head _)).1, rfl, _, rfl⟩ (by show A.units + 3 + 20 < cLine; omega) _ _ _ _ ?_
      dsimp only
      k_steps
      · rename_i z
        rw [z]
        exact h h₁₀ _ F₁₀.keep
      · rename_i z
        have hne : ys ≠ [] := fun e => by rw [e] at z; cases z
        have hy0 : 0 < ys.length := List.length_pos_iff.mpr hne
        refine item_L (v := (ys.getD 0 vd).1) ⟨_, (N₁₀ _ (.tail _ (.head _))).1, rfl, n₃, rfl⟩ (by omega) (by omega) (fst_at hy0) ?_
        k_steps
        refine wpAny_call (first_code (A := A.deeper _) (l := rl) (by show A.depth + 1 + 1 < _; omega) hh (KX.keeps F₁₀.keep) (T.keeps F₁₀.keep) (hr.at fun o e => F₁₀.keep _ _ e) (fun x hx => (htr x hx).kept F₁₀.keep) (fun e => by rw [e] at hrlen; simp at hrlen; omega) fun v d h₁₁ tk₁₁ hvd hmin hk => ?_)
        dsimp only
        have F₁₁ := F₁₀.kept hk
        have N₁₁ := N₁₀.grown hk
        clear F₁₀ N₁₀
        k_steps
        have hl0 : 0 < l.length := by omega
        have ed : dat ys 0 = d := by
          rw [hyd hy0]
          have m1 : neg (dat l 0) ∈ rl.map Prod.snd := hp.mem_iff.mp (List.mem_map.mpr ⟨l[0], List.getElem_mem hl0, by simp [dat, List.getD_eq_getElem?_getD, hl0]⟩)
          obtain ⟨x, hx, ex⟩ := List.mem_map.mp m1
          have i1 := hmin x hx
          rw [ex, neg_neg] at i1
          have m2 : d ∈ l.map (fun x => neg x.2) := hp.mem_iff.mpr (List.mem_map.mpr ⟨_, hvd, rfl⟩)
          obtain ⟨y, hy, ey⟩ := List.mem_map.mp m2
          obtain ⟨j, hj, ej⟩ := List.getElem_of_mem hy
          have i2 := head_min hI j hj
          have edj : dat l j = neg d := by
            rw [← ey, neg_neg, ← ej]
            simp [dat, List.getD_eq_getElem?_getD, hj]
          rw [edj] at i2
          exact (by rw [ILe.antisymm i2 i1, neg_neg])
        have tA : TupAt h₁₁ (ys.getD 0 vd).1 (dat ys 0) := tup_at (fun x hx => tdl _ _ F₁₁ (News.drop (News.drop N₁₁)) _ _ (hty x hx)) hy0
        have tB : TupAt h₁₁ v d := (htr _ hvd).kept F₁₁.keep
        refine rc_eq (A := A.deeper _) tA tB (by show A.units + 3 < cLine; omega) _ _ _ _ ?_
        rw [decide_eq_true ed]
        k_steps
        exact h h₁₁ _ F₁₁.keep
end Mine

namespace Mine
set_option maxRecDepth 100000
set_option maxHeartbeats 4000000

theorem instAt_init {h : Heap} {x dx : Addr} {od : Obj} (i1 : h.get? x = some (instObj 80 dx)) (i2 : h.get? dx = some od) : InstAt h x (instObj 80 dx) 80 (some od) := ⟨i1, rfl, rfl, i2⟩
theorem init_code {p : Program} {loose : List Str} {mg mb : Str → Option Value} {prog : Program} {w : World} {A : Around} {s : Shared} {R : Result → Shared → Prop} {x dx : Addr}
    (hroom : A.depth < recursionLimit)
    (KX : (hd.heap_39 w.params).In (s.heap.hide dx)) (T : TopRead p loose mg mb (s.heap.hide dx)) (hx : s.heap.get? x = some (instObj 80 dx)) (hdx : s.heap.get? dx = some (dictOf [] 0)) (hne : x ≠ dx)
    (h : ∀ h' tk q hs t n c, Kept (s.heap.hide dx) h' → h'.get? dx = some (dictOf [⟨hs, .str (Str.ofString "pq") t, .ref q⟩] n) → h'.get? q = some (hobj [] c) → s.heap.get? q = none → R (.ok (.ret .none)) { s with heap := h', toks := tk }) :
    codeAny (model prog w) A (.call (.ref 56) ⟨[.ref x], []⟩) R s := by
  have kh : Kept (s.heap.hide dx) s.heap := fun b o e => Heap.of_hide e
  refine' enter_h (binds := [(Str.ofString "self", .ref x)]) (q := dx) (KX.keeps kh) (T.keeps kh).nolimit hdx ?ho ?hcd hroom ?hb ?hl ?_ ?c1 ?c2 ?c3 ?c4
  case ho => k_is
  case hcd => k_is
  case hb => exact BindsTo.of_eq rfl
  case hl => exact locs rfl
  case c4 => decide
  case c1 => rfl
  case c2 => rfl
  case c3 => rfl
  intro h₁ F N K1
  have hx' : (s.heap.hide dx).get? x = some (instObj 80 dx) := (Heap.hide_ne _ hne).trans hx
  k_steps
  rename_i q h₂ F₂ N₂ l₂
  have i4 : InstAt h₂ x (instObj 80 dx) 80 (some (dictOf [] 0)) := instAt_init (F₂.keep _ _ hx') (N₂ _ (.tail _ (.head _))).1
  refine' set_dict ?k1 ?k2 ?k3 i4 ?k5 ?k6 ?k7 ?k8 ?k9 ?k10 ?k11 ?k12 ?k13 ?_
  case k1 => exact F₂
  case k2 => exact KX
  case k3 => exact N₂
  case k5 => exact rfl
  case k6 => k_is
  case k7 => k_is
  case k8 => k_is
  case k9 => k_is
  case k10 => k_get
  case k11 => k_put
  case k12 => k_upd
  case k13 => exact Nat.le_of_ble_eq_true rfl
  intro h₃ F₃ N₃
  clear F₂ N₂
  k_steps
  refine h h₃ _ q _ _ _ _ F₃.keep (N₃ _ (.tail _ (.head _))).1 (N₃ _ (.head _)).1 ?_
  cases e : s.heap.get? q with
  | none => rfl
  | some o =>
    have := (N₃ _ (.head _)).2.2
    rw [Heap.hide_ne _ (Ne.symm (Nat.ne_of_lt l₂)), e] at this
    cases this

theorem work_new {p : Program} {loose : List Str} {mg mb : Str → Option Value} {prog : Program} {w : World} {A : Around} {s : Shared} {R : Result → Shared → Prop}
    (hroom : A.depth + 1 < recursionLimit)
    (KX : (hd.heap_39 w.params).In s.heap) (T : TopRead p loose mg mb s.heap)
    (h : ∀ h' tk x q n, Kept s.heap h' → (∃ dx hs t n, InstAt h' x (instObj 80 dx) 80 (some (dictOf [⟨hs, .str (Str.ofString "pq") t, .ref q⟩] n)) ∧ s.heap.get? dx = none) → h'.get? q = some (hobj [] n) → s.heap.get? x = none → s.heap.get? q = none → R (.ok (.ret (.ref x))) { s with heap := h', toks := tk }) :
    codeAny (model prog w) A (.call (.ref 80) ⟨[], []⟩) R s := by
  obtain ⟨hp, g, d, t, os⟩ := s
  have hm : makesIn (hd.heap_39 w.params) 80 = true := by k_is
  have hi : findIn (hd.heap_39 w.params) (.ref 80) "__init__" = some (some (.ref 56)) := by k_is
  have hf : isFn (hd.heap_39 w.params) (.ref 56) = true := by k_is
  refine make_core (makes_of KX hm) (looks_findIn KX hi) (fun self => bind_fn KX self (beq_iff_eq.mp hf)) (.inl rfl) ?_
  have hx : ((hp.push emptyDict).push (instObj 80 hp.objs.size)).get? (hp.objs.size + 1) = some (instObj 80 hp.objs.size) := by
    have := Heap.get?_push_size (hp.push emptyDict) (o := instObj 80 hp.objs.size) rfl
    rwa [Heap.size_push] at this
  have hdx : ((hp.push emptyDict).push (instObj 80 hp.objs.size)).get? hp.objs.size = some (dictOf [] 0) := Heap.get?_push_of_some _ (Heap.get?_push_size _ rfl)
  have k : Kept hp ((hp.push emptyDict).push (instObj 80 hp.objs.size)) := fun b o e => Heap.get?_push_of_some _ (Heap.get?_push_of_some _ e)
  have kd : Kept hp (((hp.push emptyDict).push (instObj 80 hp.objs.size)).hide hp.objs.size) := fun b o e => (Heap.hide_ne _ (Nat.ne_of_lt (Heap.lt_size e))).trans (k b o e)
  refine init_code (dx := hp.objs.size) (by show A.depth + 1 < _; exact hroom) (KX.keeps kd) (T.keeps kd) hx hdx (Nat.ne_of_gt (Nat.lt_succ_self _)) fun h' tk q hs t n c kk e1 e2 e3 => ?_
  refine ⟨rfl, h h' tk _ q c (fun b o e => kk _ _ (kd b o e)) ⟨hp.objs.size, hs, t, n, ⟨kk _ _ ((Heap.hide_ne _ (Nat.ne_of_gt (Nat.lt_succ_self _))).trans hx), rfl, rfl, e1⟩, Heap.get?_none_of_le (Nat.le_refl _)⟩ e2 (Heap.get?_none_of_le (Nat.le_succ _)) ?_⟩
  cases e : hp.get? q with
  | none => rfl
  | some o => rw [show ((hp.push emptyDict).push (instObj 80 hp.objs.size)).get? q = some o from k _ _ e] at e3; cases e3
end Mine

namespace Mine
set_option maxRecDepth 100000
set_option maxHeartbeats 4000000

def updN {α : Type} (i : Nat) (f : Nat → α) (x : α) : Nat → α := fun j => if j = i then x else f j
theorem updN_same {α : Type} (i : Nat) (f : Nat → α) (x : α) : updN i f x i = x := if_pos rfl
theorem updN_ne {α : Type} {i j : Nat} (f : Nat → α) (x : α) (h : j ≠ i) : updN i f x j = f j := if_neg h

/-- how a work list stands, its dict named -/
def WIn (h₀ : Heap) (L : Addr) (h : Heap) (wk q : Addr) : Prop :=
  ∃ dx hs t n, InstAt h wk (instObj 80 dx) 80 (some (dictOf [⟨hs, .str (Str.ofString "pq") t, .ref q⟩] n)) ∧ h₀.get? dx = none ∧ dx ≠ L ∧ h₀.get? wk = none ∧ wk ≠ L
theorem WIn.wat {h₀ h : Heap} {L wk q : Addr} (x : WIn h₀ L h wk q) : WAt h wk q := let ⟨dx, hs, t, n, I, _⟩ := x; ⟨dx, hs, t, n, I⟩
theorem WIn.move {h₀ h h' : Heap} {L wk q : Addr} (x : WIn h₀ L h wk q) (k : ∀ b o, b ≠ L → h.get? b = some o → h'.get? b = some o) : WIn h₀ L h' wk q := by
  obtain ⟨dx, hs, t, n, I, a, b, c, d⟩ := x
  exact ⟨dx, hs, t, n, ⟨k _ _ d I.at_, I.cls, I.no, k _ _ b I.dict⟩, a, b, c, d⟩
theorem WIn.but {h₀ h h' : Heap} {L wk q b : Addr} {ob : Obj} (x : WIn h₀ L h wk q) (hb : h.get? b = some ob) (hc : ob.cls = .type "list") (k : KeptBut b h h') : WIn h₀ L h' wk q := by
  obtain ⟨dx, hs, t, n, I, a1, a2, a3, a4⟩ := x
  have i2 : h.get? dx = some (dictOf [⟨hs, .str (Str.ofString "pq") t, .ref q⟩] n) := I.dict
  refine ⟨dx, hs, t, n, ⟨k _ _ I.at_ (fun e => ?_), I.cls, I.no, k _ _ i2 fun e => ?_⟩, a1, a2, a3, a4⟩
  · have := I.at_; rw [e, hb] at this; cases this; cases hc
  · rw [e, hb] at i2; cases i2; exact absurd (show Value.type "dict" = .type "list" from hc) (by decide)

/-- the two work lists and the two rows -/
structure Sta (h₀ : Heap) (L : Addr) (h : Heap) (wl rl : Addr) (w q r : Nat → Addr) (l R : Nat → List VI) : Prop where
  wo : h.IsList wl #[.ref (w 0), .ref (w 1)]
  ro : h.IsList rl #[.ref (r 0), .ref (r 1)]
  win : ∀ i, i < 2 → WIn h₀ L h (w i) (q i)
  qo : ∀ i, i < 2 → ∃ n, h.get? (q i) = some (hobj (l i) n)
  rr : ∀ i, i < 2 → ∃ n, h.get? (r i) = some (hobj (R i) n)
  tl : ∀ i, i < 2 → ∀ x ∈ l i, TupAt h x.1 x.2
  tr : ∀ i, i < 2 → ∀ x ∈ R i, TupAt h x.1 x.2
  hp : ∀ i, i < 2 → IsHp (l i)
  qq : q 0 ≠ q 1
  rw' : rl ≠ wl
  qs : ∀ i, i < 2 → q i ≠ wl ∧ q i ≠ rl ∧ r i ≠ rl
  qr : ∀ i j, i < 2 → j < 2 → q i ≠ r j
  nw : h₀.get? rl = none ∧ h₀.get? wl = none ∧ ∀ i, i < 2 → h₀.get? (q i) = none

section
variable {h₀ h h' : Heap} {L wl rl : Addr} {w q r : Nat → Addr} {l R : Nat → List VI}
theorem Sta.move (S : Sta h₀ L h wl rl w q r l R) {m : Str → Option Value} (N : h.Ns L m) (k : ∀ b o, b ≠ L → h.get? b = some o → h'.get? b = some o) : Sta h₀ L h' wl rl w q r l R :=
  have go : ∀ {a vs n}, h.get? a = some (listOf vs n) → h'.get? a = some (listOf vs n) := fun e => k _ _ (ns_ne N e fun _ _ z => nomatch z) e
  { S with
    wo := let ⟨o, e, c, n, d⟩ := S.wo; ⟨o, k _ _ (ns_ne N e fun _ _ z => by rw [d] at z; cases z) e, c, n, d⟩
    ro := let ⟨o, e, c, n, d⟩ := S.ro; ⟨o, k _ _ (ns_ne N e fun _ _ z => by rw [d] at z; cases z) e, c, n, d⟩
    win := fun i hi => (S.win i hi).move k
    qo := fun i hi => let ⟨n, e⟩ := S.qo i hi; ⟨n, go e⟩
    rr := fun i hi => let ⟨n, e⟩ := S.rr i hi; ⟨n, go e⟩
    tl := fun i hi x hx => (S.tl i hi x hx).but N k
    tr := fun i hi x hx => (S.tr i hi x hx).but N k }

theorem TupAt.kb {h h' : Heap} {q : Addr} {ob : Obj} {v : Value} {p : It} (x : TupAt h v p) (hb : h.get? q = some ob) (hc : ob.cls = .type "list") (k : KeptBut q h h') : TupAt h' v p :=
  x.keep fun b o e ht => k b o e fun z => by subst z; rw [hb] at e; cases e; rw [hc] at ht; exact absurd ht (by decide)

theorem two {i j : Nat} (hi : i < 2) (hj : j < 2) (h : j ≠ i) : (i = 0 ∧ j = 1) ∨ (i = 1 ∧ j = 0) := by omega

/-- one of the inner lists is changed -/
theorem Sta.que (S : Sta h₀ L h wl rl w q r l R) {i : Nat} (hi : i < 2) {l' : List VI} {n' : Nat} (k : KeptBut (q i) h h') (e : h'.get? (q i) = some (hobj l' n')) (tl : ∀ x ∈ l', TupAt h' x.1 x.2) (hp : IsHp l') :
    Sta h₀ L h' wl rl w q r (updN i l l') R := by
  obtain ⟨nq, eq⟩ := S.qo i hi
  refine { S with wo := ?_, ro := ?_, win := ?_, qo := ?_, rr := ?_, tl := ?_, tr := ?_, hp := ?_ }
  · exact S.wo.at fun o e => k _ _ e (Ne.symm (S.qs i hi).1)
  · exact S.ro.at fun o e => k _ _ e (Ne.symm (S.qs i hi).2.1)
  · exact fun j hj => (S.win j hj).but eq rfl k
  · intro j hj
    by_cases z : j = i
    · subst z; exact ⟨n', by rw [updN_same]; exact e⟩
    · obtain ⟨n, e'⟩ := S.qo j hj
      have hne : q j ≠ q i := by
        rcases two hi hj z with ⟨rfl, rfl⟩ | ⟨rfl, rfl⟩
        · exact Ne.symm S.qq
        · exact S.qq
      exact ⟨n, by rw [updN_ne _ _ z]; exact k _ _ e' hne⟩
  · intro j hj
    obtain ⟨n, e'⟩ := S.rr j hj
    exact ⟨n, k _ _ e' (Ne.symm (S.qr i j hi hj))⟩
  · intro j hj x hx
    by_cases z : j = i
    · subst z; rw [updN_same] at hx; exact tl x hx
    · rw [updN_ne _ _ z] at hx; exact (S.tl j hj x hx).kb eq rfl k
  · exact fun j hj x hx => (S.tr j hj x hx).kb eq rfl k
  · intro j hj
    by_cases z : j = i
    · subst z; rw [updN_same]; exact hp
    · rw [updN_ne _ _ z]; exact S.hp j hj

/-- one of the rows is set -/
theorem Sta.row (S : Sta h₀ L h wl rl w q r l R) {i : Nat} (hi : i < 2) {a : Addr} {R' : List VI} {n : Nat} (sb : Heap.SameBut rl h h') (e : h'.IsList rl #[.ref (updN i r a 0), .ref (updN i r a 1)])
    (ha : h.get? a = some (hobj R' n)) (haq : ∀ j, j < 2 → q j ≠ a) (har : a ≠ rl) (tr : ∀ x ∈ R', TupAt h x.1 x.2) :
    Sta h₀ L h' wl rl w q (updN i r a) l (updN i R R') := by
  obtain ⟨oo, eo, co, _⟩ := S.ro
  have k : KeptBut rl h h' := fun b o e' hb => (sb.2 b hb).trans e'
  refine { S with wo := ?_, ro := e, win := ?_, qo := ?_, rr := ?_, tl := ?_, tr := ?_, qs := ?_, qr := ?_ }
  · exact S.wo.at fun o e => k _ _ e (Ne.symm S.rw')
  · exact fun j hj => (S.win j hj).but eo co k
  · intro j hj
    obtain ⟨n, e'⟩ := S.qo j hj
    exact ⟨n, k _ _ e' (S.qs j hj).2.1⟩
  · intro j hj
    by_cases z : j = i
    · subst z; rw [updN_same, updN_same]; exact ⟨n, k _ _ ha har⟩
    · rw [updN_ne _ _ z, updN_ne _ _ z]
      obtain ⟨n, e'⟩ := S.rr j hj
      exact ⟨n, k _ _ e' (S.qs j hj).2.2⟩
  · exact fun j hj x hx => (S.tl j hj x hx).kb eo co k
  · intro j hj x hx
    by_cases z : j = i
    · subst z; rw [updN_same] at hx; exact (tr x hx).kb eo co k
    · rw [updN_ne _ _ z] at hx; exact (S.tr j hj x hx).kb eo co k
  · intro j hj
    refine ⟨(S.qs j hj).1, (S.qs j hj).2.1, ?_⟩
    by_cases z : j = i
    · subst z; rw [updN_same]; exact har
    · rw [updN_ne _ _ z]; exact (S.qs j hj).2.2
  · intro j j' hj hj'
    by_cases z : j' = i
    · subst z; rw [updN_same]; exact haq j hj
    · rw [updN_ne _ _ z]; exact S.qr j j' hj hj'

theorem Sta.work (S : Sta h₀ L h wl rl w q r l R) {i : Nat} (hi : i < 2) : h.IsList wl #[.ref (w 0), .ref (w 1)] ∧ (#[Value.ref (w 0), .ref (w 1)] : Array Value)[((i : Nat) : Int).toNat]? = some (.ref (w i)) := by
  refine ⟨S.wo, ?_⟩
  rw [Int.toNat_natCast]
  rcases (show i = 0 ∨ i = 1 by omega) with rfl | rfl <;> rfl
theorem Sta.rowAt (S : Sta h₀ L h wl rl w q r l R) {i : Nat} (hi : i < 2) : h.IsList rl #[.ref (r 0), .ref (r 1)] ∧ (#[Value.ref (r 0), .ref (r 1)] : Array Value)[((i : Nat) : Int).toNat]? = some (.ref (r i)) := by
  refine ⟨S.ro, ?_⟩
  rw [Int.toNat_natCast]
  rcases (show i = 0 ∨ i = 1 by omega) with rfl | rfl <;> rfl
end

/-- the frame's map with two names told -/
theorem two_names {m : Str → Option Value} {a b : Str} {x y : Value} (h1 : m a = some x) (h2 : m b = some y) : m = fun z => if z = a then some x else if z = b then some y else m z := by
  funext z
  by_cases e1 : z = a
  · subst e1; rw [if_pos rfl]; exact h1
  · rw [if_neg e1]
    by_cases e2 : z = b
    · subst e2; rw [if_pos rfl]; exact h2
    · rw [if_neg e2]

section
variable {prog : Program} {w : World} {A : Around} {E : Value → Shared → Prop} {s : Shared}
/-- an item of a list of two is set -/
theorem set_two {rl : Addr} {i : Nat} {t : Tok} {a : Addr} {r : Nat → Addr} {Q : Unit → Shared → Prop} (hi : i < 2) (hl : s.heap.IsList rl #[.ref (r 0), .ref (r 1)])
    (h : ∀ h', Heap.SameBut rl s.heap h' → h'.IsList rl #[.ref (updN i r a 0), .ref (updN i r a 1)] → Q () { s with heap := h' }) :
    wpAny (model prog w) A (setItem (.ref rl) (.int (i : Nat) t) (.ref a)) Q E s := by
  refine wpAny_setItem_list hl (by omega) (by omega) (by show ((i : Nat) : Int) < 2; omega) fun h' x sb => h h' sb ?_
  rw [Int.toNat_natCast] at x
  have e : (#[Value.ref (r 0), .ref (r 1)] : Array Value).setIfInBounds i (.ref a) = #[.ref (updN i r a 0), .ref (updN i r a 1)] := by
    rcases (show i = 0 ∨ i = 1 by omega) with rfl | rfl <;> rfl
  rw [e] at x
  exact x
end
end Mine

namespace Mine
set_option maxRecDepth 100000
set_option maxHeartbeats 4000000

/-- the law's statements and its scope -/
def pick {K : Frag} {name qual : Str} {params : Arguments} {body : List Stmt} {scope : Scope}
    {dV kV doc pm cdv ct oc : Value} {an od : Option Addr} {osl : Array (Option Value)} {f : Addr}
    (_ : K.lookup f = some ⟨oc, od, .func (fnOf name qual params body scope dV kV doc pm an cdv ct), osl⟩) : List Stmt × Scope := (body, scope)
def lawP (w : World) : List Stmt × Scope := by
  refine' pick (K := hd.heap_39 w.params) (f := 126) ?ho
  case ho => k_is
abbrev lawB (w : World) : List Stmt := (lawP w).1
abbrev lawEnv (w : World) (L : Addr) : Env := envOf (Str.ofString "law") (lawP w).2 L 126 (.ref 125)
def mainFor (w : World) : Stmt := (lawB w).getD 3 (.Pass default)
def lastWhile (w : World) : Stmt := (lawB w).getD 6 (.Pass default)
def forBody (w : World) : List Stmt := match mainFor w with
  | .For _ _ body _ _ => body
  | _ => []
def whileBody (w : World) : List Stmt := match lastWhile w with
  | .While _ body _ _ => body
  | _ => []

/-- all but the frame, the rows and the two inner lists stands -/
def Kx (L rl : Addr) (q : Nat → Addr) (h h' : Heap) : Prop := ∀ b o, b ≠ L → b ≠ rl → b ≠ q 0 → b ≠ q 1 → h.get? b = some o → h'.get? b = some o
theorem Kx.trans {L rl : Addr} {q : Nat → Addr} {h h' h'' : Heap} (x : Kx L rl q h h') (y : Kx L rl q h' h'') : Kx L rl q h h'' := fun b o a1 a2 a3 a4 e => y b o a1 a2 a3 a4 (x b o a1 a2 a3 a4 e)
theorem Kx.of_move {L rl : Addr} {q : Nat → Addr} {h h' : Heap} (k : ∀ b o, b ≠ L → h.get? b = some o → h'.get? b = some o) : Kx L rl q h h' := fun b o a1 _ _ _ e => k b o a1 e
theorem Kx.of_kept {L rl : Addr} {q : Nat → Addr} {h h' : Heap} (k : Kept h h') : Kx L rl q h h' := fun b o _ _ _ _ e => k b o e
theorem Kx.of_que {L rl : Addr} {q : Nat → Addr} {h h' : Heap} {i : Nat} (hi : i < 2) (k : KeptBut (q i) h h') : Kx L rl q h h' := fun b o _ _ a3 a4 e => k b o e (by rcases (show i = 0 ∨ i = 1 by omega) with rfl | rfl <;> assumption)
theorem Kx.of_row {L rl : Addr} {q : Nat → Addr} {h h' : Heap} (k : Heap.SameBut rl h h') : Kx L rl q h h' := fun b o _ a2 _ _ e => (k.2 b a2).trans e

/-- how things stand between two turns -/
structure Inv (GP : Array GenState → Prop) (s₀ : Shared) (h₀ : Heap) (L wl rl : Addr) (w q : Nat → Addr) (r : Nat → Addr) (l R : Nat → List VI) (m : Str → Option Value) (c : Nat) (s : Shared) : Prop where
  fr : Fr h₀ L s.heap m
  mw : m (Str.ofString "works") = some (.ref wl)
  mr : m (Str.ofString "rows") = some (.ref rl)
  st : Sta h₀ L s.heap wl rl w q r l R
  pm : ∀ i, i < 2 → ((l i).map fun x => neg x.2).Perm ((R i).map Prod.snd)
  ln : ∀ i, i < 2 → (R i).length ≤ c
  gp : GP s.gens
  os : s.os = s₀.os
  dr : s.drawn = s₀.drawn

/-- a turn that went through -/
def TurnEnd (GP : Array GenState → Prop) (s₀ : Shared) (h₀ : Heap) (L wl rl : Addr) (w q : Nat → Addr) (c : Nat) (h : Heap) (f : Flow) (s' : Shared) : Prop :=
  f = .next ∧ (∃ r' l' R' m', Inv GP s₀ h₀ L wl rl w q r' l' R' m' c s') ∧ Kx L rl q h s'.heap

def elseBody (w : World) : List Stmt := match (forBody w).getD 2 (.Pass default) with
  | .If _ _ [.If _ _ e _] _ => e
  | _ => []
def elseTail (w : World) : List Stmt := (elseBody w).drop 2

theorem Fr.but {h₀ h h' : Heap} {L b : Addr} {m : Str → Option Value} (F : Fr h₀ L h m) (k : KeptBut b h h') (hL : b ≠ L) (h0 : h₀.get? b = none) : Fr h₀ L h' m :=
  ⟨F.ns.at' fun o e => k _ _ e (Ne.symm hL), fun x o e => k _ _ (F.keep _ _ e) (fun z => by rw [z, h0] at e; cases e), F.above⟩

section
variable {h₀ h h' : Heap} {L wl rl : Addr} {w q r : Nat → Addr} {l R : Nat → List VI} {m m' : Str → Option Value}
theorem Sta.qL (S : Sta h₀ L h wl rl w q r l R) (F : Fr h₀ L h m) {i : Nat} (hi : i < 2) : q i ≠ L := let ⟨_, e⟩ := S.qo i hi; ns_ne F.ns e fun _ _ z => nomatch z
theorem Sta.rL (S : Sta h₀ L h wl rl w q r l R) (F : Fr h₀ L h m) : rl ≠ L := let ⟨_, e, _, _, d⟩ := S.ro; ns_ne F.ns e fun _ _ z => by rw [d] at z; cases z
theorem Sta.led (S : Sta h₀ L h wl rl w q r l R) {i : Nat} (hi : i < 2) {dl : List (Addr × Obj)} (N : News h₀ L h dl) :
    ∃ dx hs t n, News h₀ L h ((w i, instObj 80 dx) :: (dx, dictOf [⟨hs, .str (Str.ofString "pq") t, .ref (q i)⟩] n) :: dl) := by
  obtain ⟨dx, hs, t, n, I, a1, a2, a3, a4⟩ := S.win i hi
  refine ⟨dx, hs, t, n, fun p hp => ?_⟩
  rcases List.mem_cons.mp hp with rfl | hp
  · exact ⟨I.at_, a4, a3⟩
  rcases List.mem_cons.mp hp with rfl | hp
  · exact ⟨I.dict, a2, a1⟩
  · exact N p hp
end
end Mine

namespace Mine
set_option maxRecDepth 100000
set_option maxHeartbeats 4000000

section
variable {p : Program} {loose : List Str} {mg mb : Str → Option Value} {prog : Program} {w : World} {A : Around} {s s₀ : Shared} {GP : Array GenState → Prop} {h₀ : Heap} {L wl rl : Addr} {wk q r : Nat → Addr} {l R : Nat → List VI} {m : Str → Option Value} {c : Nat}

theorem add_ok (hroom : A.depth + 10 < recursionLimit) (hh : A.handled = none) (hu : A.units + 200 < cLine)
    (KX : (hd.heap_39 w.params).In h₀) (T : TopRead p loose mg mb h₀) (hc : c < 50)
    (I : Inv GP s₀ h₀ L wl rl wk q r l R m c s) {k x : Int} {t u v : Tok} {i : Nat} (hi : i < 2) (hm : m (Str.ofString "number") = some (.int k t)) (hs : m (Str.ofString "side") = some (.int (i : Nat) u)) (hx : m (Str.ofString "clock") = some (.int x v)) :
    wpAny (model prog w) A (execs (elseTail w) (lawEnv w L)) (TurnEnd GP s₀ h₀ L wl rl wk q (c + 1) s.heap) (fun _ _ => False) s := by
  have F := I.fr
  obtain ⟨dl, N0, kdl⟩ := dump_any F
  obtain ⟨dx, dh, dt, dn, N⟩ := I.st.led hi N0
  have em : m = fun z => if z = Str.ofString "works" then some (.ref wl) else if z = Str.ofString "rows" then some (.ref rl) else if z = Str.ofString "number" then some (.int k t) else if z = Str.ofString "side" then some (.int (i : Nat) u) else if z = Str.ofString "clock" then some (.int x v) else m z := by
    funext z
    by_cases e1 : z = Str.ofString "works"
    · subst e1; rw [if_pos rfl]; exact I.mw
    rw [if_neg e1]
    by_cases e2 : z = Str.ofString "rows"
    · subst e2; rw [if_pos rfl]; exact I.mr
    rw [if_neg e2]
    by_cases e3 : z = Str.ofString "number"
    · subst e3; rw [if_pos rfl]; exact hm
    rw [if_neg e3]
    by_cases e4 : z = Str.ofString "side"
    · subst e4; rw [if_pos rfl]; exact hs
    rw [if_neg e4]
    by_cases e5 : z = Str.ofString "clock"
    · subst e5; rw [if_pos rfl]; exact hx
    rw [if_neg e5]
  rw [em] at F
  clear N0
  unfold elseTail elseBody forBody mainFor
  simp only [lawB, lawP, pick, List.getD_cons_succ, List.getD_cons_zero, List.drop_succ_cons, List.drop_zero]
  k_steps
  refine wpAny_call (names_code (by omega) (KX.keeps F.keep) (T.keeps F.keep) fun a vs h₂ tk₂ ha ha0 hlen hvs k₂ => ?_)
  dsimp only
  have F₂ := F.kept k₂
  have N₂ : News h₀ L h₂ ((a, listOf (List.toArray vs) 0) :: (wk i, instObj 80 dx) :: (dx, dictOf [⟨dh, .str (Str.ofString "pq") dt, .ref (q i)⟩] dn) :: dl) := by
    intro p hp
    rcases List.mem_cons.mp hp with rfl | hp
    · refine ⟨ha, fun z => ?_, ?_⟩
      · obtain ⟨o, _, _, ho, _⟩ := F.ns
        rw [show a = L from z] at ha0
        rw [ho] at ha0; cases ha0
      · cases e : h₀.get? a with
        | none => rfl
        | some o => rw [F.keep _ _ e] at ha0; cases ha0
    · exact N.grown k₂ p hp
  clear F N
  have ej : ∃ j : Nat, j < 6 ∧ (k.fdiv 80).fmod 6 = (j : Int) := ⟨((k.fdiv 80) % 6).toNat, by omega, by rw [Int.fmod_eq_emod_of_nonneg _ (by omega)]; omega⟩
  obtain ⟨j, hj, ej⟩ := ej
  k_steps
  obtain ⟨b, tb, hb⟩ := hvs vs[j] (List.getElem_mem (by omega))
  refine item_L (v := .bytes b tb) ⟨_, (N₂ _ (.head _)).1, rfl, 0, rfl⟩ (by rw [ej]; omega) (by rw [ej]; omega) (by rw [ej, Int.toNat_natCast, ← hb]; simp [hlen, hj]) ?_
  k_steps
  rename_i D hz l1 h₃ F₃ N₃
  have k3 := kdl h₃ _ F₃ (fun p hp => N₃ p (.tail _ (.tail _ (.tail _ (.tail _ hp)))))
  have S₃ := I.st.move I.fr.ns k3
  refine item_L (v := .ref (wk i)) (S₃.work hi).1 (by omega) (by omega) (S₃.work hi).2 ?_
  k_steps
  obtain ⟨nq, hq⟩ := S₃.qo i hi
  have hll : (l i).length < 60 := by
    have e1 := (I.pm i hi).length_eq
    have e2 := I.ln i hi
    simp at e1
    omega
  have tD : TupAt h₃ (.ref D) (x, b.toList) := ⟨D, v, tb, rfl, by simpa using (N₃ _ (.head _)).1⟩
  refine wpAny_call (add_code (d := (x, b.toList)) (l := l i) (by omega) hh (by omega) (KX.keeps F₃.keep) (T.keeps F₃.keep) (S₃.win i hi).wat hq (S₃.tl i hi) (S₃.hp i hi) (by omega) tD fun h₄ tk₄ v' l' n' k₄ oq hp tl' hI' => ?_)
  dsimp only
  have F₄ := Fr.but F₃ k₄ (S₃.qL F₃ hi) (S₃.nw.2.2 i hi)
  have S₄ := S₃.que hi k₄ oq tl' hI'
  have tD₄ := tD.kb hq rfl k₄
  obtain ⟨dl₄, N₄, kdl₄⟩ := dump_any F₄
  have ns₄ := F₄.ns
  clear F₃ N₃
  k_steps
  refine item_L (v := .ref (r i)) (S₄.rowAt hi).1 (by omega) (by omega) (S₄.rowAt hi).2 ?_
  k_steps
  rename_i E h₅ F₅ N₅ l₅
  have S₅ := S₄.move ns₄ (kdl₄ h₅ _ F₅ (News.drop N₅))
  obtain ⟨nr, hr⟩ := S₅.rr i hi
  refine add_arrays F₅ N₅ ⟨_, hr, rfl, nr, rfl⟩ (News.isList N₅ (.head _)) (fun h₆ F₆ N₆ => ?_) (by rw [sizeLine_eq]; have := I.ln i hi; simp; omega)
  have eR : ((((R i).map Prod.fst).toArray).toList ++ (#[Value.ref D] : Array Value).toList).toArray = ((R i ++ [(Value.ref D, (x, b.toList))]).map Prod.fst).toArray := by simp
  have k6 := kdl₄ h₆ _ F₆ (News.drop (News.drop N₆))
  have S₆ := S₄.move ns₄ k6
  have ns₆ := F₆.ns
  have oE := (N₆ _ (.head _)).1
  simp only at oE
  rw [eR] at oE
  have hqE : ∀ j, j < 2 → q j ≠ h₅.objs.size := fun j hj => let ⟨_, e⟩ := S₅.qo j hj; Nat.ne_of_lt (Heap.lt_size e)
  have hrE : h₅.objs.size ≠ rl := let ⟨_, e, _⟩ := S₅.ro; Nat.ne_of_gt (Heap.lt_size e)
  have tD₆ := tD₄.but ns₄ k6
  generalize h₅.objs.size = E2 at *
  k_steps
  refine set_two hi S₆.ro fun h₇ sb e7 => ?_
  have S₇ := S₆.row hi sb e7 (R' := R i ++ [(Value.ref D, (x, b.toList))]) (n := 0) oE hqE hrE (fun y hy => by
    rcases List.mem_append.mp hy with z | z
    · exact S₆.tr i hi y z
    · rw [List.mem_singleton.mp z]; exact tD₆)
  have F₇ := kas_fr F₆ sb (S₆.rL F₆) S₆.nw.1
  k_steps
  refine ⟨rfl, ⟨updN i r E2, updN i l l', updN i R (R i ++ [(Value.ref D, (x, b.toList))]), _, ⟨F₇, rfl, rfl, S₇, fun j hj => ?_, fun j hj => ?_, I.gp, I.os, I.dr⟩⟩,
    (Kx.of_move k3).trans ((Kx.of_que hi k₄).trans ((Kx.of_move k6).trans (Kx.of_row sb)))⟩
  · by_cases z : j = i
    · subst z
      rw [updN_same, updN_same]
      refine (hp.map fun x => neg x.2).trans ?_
      rw [List.map_cons, List.map_append]
      simp only [neg_neg]
      exact ((I.pm j hj).cons _).trans (List.perm_append_singleton _ _).symm
    · rw [updN_ne _ _ z, updN_ne _ _ z]; exact I.pm j hj
  · by_cases z : j = i
    · subst z; rw [updN_same, List.length_append]; have := I.ln j hj; simp; omega
    · rw [updN_ne _ _ z]; exact Nat.le_succ_of_le (I.ln j hj)
end
end Mine

namespace Mine
set_option maxRecDepth 100000
set_option maxHeartbeats 4000000

section
variable {p : Program} {loose : List Str} {mg mb : Str → Option Value} {prog : Program} {w : World} {A : Around} {s s₀ : Shared} {GP : Array GenState → Prop} {h₀ : Heap} {L wl rl : Addr} {wk q r : Nat → Addr} {l R : Nat → List VI} {m : Str → Option Value} {c : Nat}

theorem TurnEnd.pre {h h' : Heap} {f : Flow} {s' : Shared} (k : Kx L rl q h h') (x : TurnEnd GP s₀ h₀ L wl rl wk q c h' f s') : TurnEnd GP s₀ h₀ L wl rl wk q c h f s' := ⟨x.1, x.2.1, k.trans x.2.2⟩

theorem four_names {m : Str → Option Value} {a b c d : Str} {x y u v : Value} (h1 : m a = some x) (h2 : m b = some y) (h3 : m c = some u) (h4 : m d = some v) : m = fun z => if z = a then some x else if z = b then some y else if z = c then some u else if z = d then some v else m z := by
  funext z
  by_cases e1 : z = a
  · subst e1; rw [if_pos rfl]; exact h1
  rw [if_neg e1]
  by_cases e2 : z = b
  · subst e2; rw [if_pos rfl]; exact h2
  rw [if_neg e2]
  by_cases e3 : z = c
  · subst e3; rw [if_pos rfl]; exact h3
  rw [if_neg e3]
  by_cases e4 : z = d
  · subst e4; rw [if_pos rfl]; exact h4
  rw [if_neg e4]

theorem Inv.next (I : Inv GP s₀ h₀ L wl rl wk q r l R m c s) {m' : Str → Option Value} {h' : Heap} {tk : Nat} (F' : Fr h₀ L h' m') (k : ∀ b o, b ≠ L → s.heap.get? b = some o → h'.get? b = some o)
    (mw : m' (Str.ofString "works") = some (.ref wl)) (mr : m' (Str.ofString "rows") = some (.ref rl)) : Inv GP s₀ h₀ L wl rl wk q r l R m' c { s with heap := h', toks := tk } :=
  ⟨F', mw, mr, I.st.move I.fr.ns k, I.pm, I.ln, I.gp, I.os, I.dr⟩

theorem else_ok (hroom : A.depth + 10 < recursionLimit) (hh : A.handled = none) (hu : A.units + 200 < cLine)
    (KX : (hd.heap_39 w.params).In h₀) (T : TopRead p loose mg mb h₀) (hc : c < 50)
    (I : Inv GP s₀ h₀ L wl rl wk q r l R m c s) {k : Int} {t u : Tok} {i : Nat} (hi : i < 2) (hm : m (Str.ofString "number") = some (.int k t)) (hs : m (Str.ofString "side") = some (.int (i : Nat) u)) :
    wpAny (model prog w) A (execs (elseBody w) (lawEnv w L)) (TurnEnd GP s₀ h₀ L wl rl wk q (c + 1) s.heap) (fun _ _ => False) s := by
  have F := I.fr
  obtain ⟨dl, N, kdl⟩ := dump_any F
  have em := four_names I.mw I.mr hm hs
  rw [em] at F
  unfold elseBody forBody mainFor
  simp only [lawB, lawP, pick, List.getD_cons_succ, List.getD_cons_zero]
  repeat' ((fail_if_success (with_reducible show wpAny _ _ (execs [Stmt.Assign _ _ _, Stmt.Expr _ _, Stmt.Assign _ _ _] _) _ _ _)); walk1)
  · rename_i F' N'
    dsimp only
    exact wpAny_mono (add_ok hroom hh hu KX T hc (I.next F' (kdl _ _ F' N') rfl rfl) hi rfl rfl rfl) (fun f s' e => TurnEnd.pre (Kx.of_move (kdl _ _ F' N')) e) fun _ _ x => x
  · rename_i F' N' _
    dsimp only
    exact wpAny_mono (add_ok hroom hh hu KX T hc (I.next F' (kdl _ _ F' N') rfl rfl) hi rfl rfl rfl) (fun f s' e => TurnEnd.pre (Kx.of_move (kdl _ _ F' N')) e) fun _ _ x => x

/-- the least of the one is the first of the other -/
theorem least_same {l R : List VI} {v vv : Value} {d d2 : It} (pm : (l.map fun x => neg x.2).Perm (R.map Prod.snd)) (hvd : (v, d) ∈ R) (hmin : ∀ x ∈ R, ILe (neg d) (neg x.2)) (hd2 : (vv, d2) ∈ l) (hmin2 : ∀ x ∈ l, ILe d2 x.2) : neg d2 = d := by
  have m1 : neg d2 ∈ R.map Prod.snd := pm.mem_iff.mp (List.mem_map.mpr ⟨_, hd2, rfl⟩)
  obtain ⟨x, hx, ex⟩ := List.mem_map.mp m1
  have i1 := hmin x hx
  rw [ex, neg_neg] at i1
  have m2 : d ∈ l.map (fun x => neg x.2) := pm.mem_iff.mpr (List.mem_map.mpr ⟨_, hvd, rfl⟩)
  obtain ⟨y, hy, ey⟩ := List.mem_map.mp m2
  have i2 := hmin2 y hy
  rw [← neg_neg y.2, ey] at i2
  rw [ILe.antisymm i2 i1, neg_neg]

theorem mod_two (k : Int) : ∃ i : Nat, i < 2 ∧ (k.fdiv 4).fmod 2 = (i : Int) := ⟨((k.fdiv 4) % 2).toNat, by omega, by rw [Int.fmod_eq_emod_of_nonneg _ (by omega)]; omega⟩

theorem turn_ok (hroom : A.depth + 10 < recursionLimit) (hh : A.handled = none) (hu : A.units + 200 < cLine)
    (KX : (hd.heap_39 w.params).In h₀) (T : TopRead p loose mg mb h₀) (hgp : ∀ g, GP g → GP (g.push .finished)) (hc : c < 50)
    (I : Inv GP s₀ h₀ L wl rl wk q r l R m c s) {k : Int} {t : Tok} (hm : m (Str.ofString "number") = some (.int k t)) :
    wpAny (model prog w) A (execs (forBody w) (lawEnv w L)) (TurnEnd GP s₀ h₀ L wl rl wk q (c + 1) s.heap) (fun _ _ => False) s := by
  have F := I.fr
  obtain ⟨dl, N, kdl⟩ := dump_any F
  obtain ⟨i, hi, ei⟩ := mod_two k
  have em := four_names I.mw I.mr hm hm
  rw [em] at F
  unfold forBody mainFor
  simp only [lawB, lawP, pick, List.getD_cons_succ, List.getD_cons_zero]
  repeat' ((fail_if_success (with_reducible show wpAny _ _ (execs [Stmt.Assign _ _ _, Stmt.If _ _ _ _, Stmt.Assign _ _ _, Stmt.Expr _ _, Stmt.Assign _ _ _] _) _ _ _)); walk1)
  · rename_i hA h₂ F₂ N₂ hk
    rw [ei] at F₂ ⊢
    have k2 := kdl _ _ F₂ N₂
    have S₂ := I.st.move I.fr.ns k2
    refine item_L (v := .ref (wk i)) (S₂.work hi).1 (by omega) (by omega) (S₂.work hi).2 ?_
    k_steps
    refine item_L (v := .ref (r i)) (S₂.rowAt hi).1 (by omega) (by omega) (S₂.rowAt hi).2 ?_
    k_steps
    obtain ⟨nq, hq⟩ := S₂.qo i hi
    obtain ⟨nr, hr⟩ := S₂.rr i hi
    have hll : (l i).length < 60 := by
      have e1 := (I.pm i hi).length_eq
      have e2 := I.ln i hi
      simp at e1
      omega
    refine wpAny_call (read_code (l := l i) (rl := R i) (n := nq) hroom hh (by omega) (KX.keeps F₂.keep) (T.keeps F₂.keep) (S₂.win i hi).wat hq (S₂.tl i hi) (S₂.hp i hi) hll ⟨_, hr, rfl, nr, rfl⟩ (S₂.tr i hi) (I.pm i hi) fun h₃ tk₃ k₃ => ?_)
    dsimp only
    have F₃ := F₂.kept k₃
    have S₃ := S₂.move F₂.ns fun b o _ e => k₃ b o e
    clear F₂ N₂
    k_steps
    exact ⟨rfl, ⟨r, l, R, _, ⟨F₃, rfl, rfl, S₃, I.pm, fun j hj => Nat.le_succ_of_le (I.ln j hj), hgp _ I.gp, I.os, I.dr⟩⟩, (Kx.of_move k2).trans (Kx.of_kept k₃)⟩
  · rename_i hA h₂ F₂ N₂ hk hk'
    rw [ei] at F₂ ⊢
    have k2 := kdl _ _ F₂ N₂
    have S₂ := I.st.move I.fr.ns k2
    have ns₂ := F₂.ns
    obtain ⟨dl₂, M₂, kdl₂⟩ := dump_any F₂
    clear N₂
    refine item_L (v := .ref (r i)) (S₂.rowAt hi).1 (by omega) (by omega) (S₂.rowAt hi).2 ?_
    have hll : (l i).length = (R i).length := by simpa using (I.pm i hi).length_eq
    have hRl := I.ln i hi
    k_steps
    rename_i E h₃ F₃ N₃ l₃
    have k3 := kdl₂ _ _ F₃ (News.drop N₃)
    have S₃ := S₂.move ns₂ k3
    obtain ⟨nr, hr⟩ := S₃.rr i hi
    refine ne_empty (vs := (R i).map Prod.fst) ⟨_, hr, rfl, nr, rfl⟩ ⟨_, (N₃ _ (.head _)).1, rfl, _, rfl⟩ (by omega) _ _ _ _ ?_
    dsimp only
    repeat' ((fail_if_success (with_reducible show wpAny _ _ (execs [Stmt.Assign _ _ _, Stmt.If _ _ _ _, Stmt.Assign _ _ _, Stmt.Expr _ _, Stmt.Assign _ _ _] _) _ _ _)); walk1)
    · refine wpAny_mono (else_ok hroom hh hu KX T hc (I.next F₃ (fun b o hb e => k3 b o hb (k2 b o hb e)) rfl rfl) hi rfl rfl) (fun f s' e => ?_) fun _ _ x => x
      have e' := TurnEnd.pre (Kx.of_move fun b o hb e => k3 b o hb (k2 b o hb e)) e
      obtain ⟨rfl, _⟩ := id e'
      k_steps
      exact e'
    · rename_i hemp
      have hne : R i ≠ [] := fun z => by rw [z] at hemp; cases hemp
      have ns₃ := F₃.ns
      obtain ⟨dl₃, M₃, kdl₃⟩ := dump_any F₃
      obtain ⟨dx, dh, dt, dn, N₃'⟩ := S₃.led hi M₃
      clear N₃
      refine item_L (v := .ref (r i)) (S₃.rowAt hi).1 (by omega) (by omega) (S₃.rowAt hi).2 ?_
      k_steps
      refine wpAny_call (first_code (l := R i) (by omega) hh (KX.keeps F₃.keep) (T.keeps F₃.keep) ⟨_, hr, rfl, nr, rfl⟩ (S₃.tr i hi) hne fun v d h₄ tk₄ hvd hmin k₄ => ?_)
      dsimp only
      have F₄ := F₃.kept k₄
      have N₄ := N₃'.grown k₄
      clear F₃ N₃'
      k_steps
      rename_i h₅ F₅ N₅
      have k5 := kdl₃ _ _ F₅ (News.drop (News.drop N₅))
      have S₅ := S₃.move ns₃ k5
      refine item_L (v := .ref (wk i)) (S₅.work hi).1 (by omega) (by omega) (S₅.work hi).2 ?_
      k_steps
      obtain ⟨nq, hq⟩ := S₅.qo i hi
      have hlne : l i ≠ [] := fun z => by rw [z] at hll; exact hne (List.length_eq_zero_iff.mp hll.symm)
      refine wpAny_call (get_code (l := l i) (n := nq) (by omega) hh (by omega) (KX.keeps F₅.keep) (T.keeps F₅.keep) (S₅.win i hi).wat hq (S₅.tl i hi) (S₅.hp i hi) (by omega) hlne fun h₆ tk₆ v' vv d2 l' n' kb oq hp2 hmin2 tl' tv hI' => ?_)
      dsimp only
      have F₆ := Fr.but F₅ kb (S₅.qL F₅ hi) (S₅.nw.2.2 i hi)
      have S₆ := S₅.que hi kb oq tl' hI'
      have ns₆ := F₆.ns
      obtain ⟨dl₆, M₆, kdl₆⟩ := dump_any F₆
      clear F₅ N₅
      have ed : neg d2 = d := least_same (I.pm i hi) hvd hmin (hp2.mem_iff.mpr (.head _)) hmin2
      k_steps
      refine rc_ne tv (S₆.tr i hi _ hvd) (by omega) _ _ _ _ ?_
      rw [decide_eq_true ed]
      k_steps
      refine item_L (v := .ref (r i)) (S₆.rowAt hi).1 (by omega) (by omega) (S₆.rowAt hi).2 ?_
      k_steps
      obtain ⟨nr6, hr6⟩ := S₆.rr i hi
      refine wpAny_call (without_code (l := R i) (d := d) (by omega) hh (by omega) (KX.keeps F₆.keep) (T.keeps F₆.keep) ⟨nr6, hr6⟩ (S₆.tr i hi) (S₆.tr i hi _ hvd) ⟨_, hvd, rfl⟩ (by omega) fun a R' h₇ tk₇ ha ha0 hpR k₇ => ?_)
      dsimp only
      obtain ⟨v2, hpR⟩ := hpR
      have F₇ := F₆.kept k₇
      have N₇ := M₆.grown k₇
      have S₇ := S₆.move ns₆ fun b o _ e => k₇ b o e
      have hqa : ∀ j, j < 2 → q j ≠ a := fun j hj z => by
        obtain ⟨_, e⟩ := S₆.qo j hj
        rw [z] at e
        rw [show h₆.get? a = none from ha0] at e; cases e
      have hra : a ≠ rl := fun z => by
        obtain ⟨_, e, _⟩ := S₆.ro
        rw [← z] at e
        rw [show h₆.get? a = none from ha0] at e; cases e
      clear F₆ M₆
      k_steps
      refine set_two hi S₇.ro fun h₈ sb e8 => ?_
      have S₈ := S₇.row hi sb e8 (R' := R') (n := 0) ha hqa hra fun y hy => S₇.tr i hi y (hpR.mem_iff.mpr (.tail _ hy))
      have F₈ := kas_fr F₇ sb (S₇.rL F₇) S₇.nw.1
      clear F₇ N₇
      k_steps
      refine ⟨rfl, ⟨updN i r a, updN i l l', updN i R R', _, ⟨F₈, rfl, rfl, S₈, fun j hj => ?_, fun j hj => ?_, I.gp, I.os, I.dr⟩⟩,
        (Kx.of_move k2).trans ((Kx.of_move k3).trans ((Kx.of_move k5).trans ((Kx.of_que hi kb).trans ((Kx.of_kept k₇).trans (Kx.of_row sb)))))⟩
      · by_cases z : j = i
        · subst z
          rw [updN_same, updN_same]
          have e1 := (hp2.map fun x => neg x.2).symm.trans ((I.pm j hj).trans (hpR.map Prod.snd))
          simp only [List.map_cons] at e1
          rw [ed] at e1
          exact e1.cons_inv
        · rw [updN_ne _ _ z, updN_ne _ _ z]; exact I.pm j hj
      · by_cases z : j = i
        · subst z
          rw [updN_same]
          have := hpR.length_eq
          simp at this
          omega
        · rw [updN_ne _ _ z]; exact Nat.le_succ_of_le (I.ln j hj)
  · rename_i hA h₂ F₂ N₂ hk hk'
    rw [ei] at F₂
    have k2 := kdl _ _ F₂ N₂
    refine wpAny_mono (else_ok hroom hh hu KX T hc (I.next F₂ k2 rfl rfl) hi rfl rfl) (fun f s' e => ?_) fun _ _ x => x
    have e' := TurnEnd.pre (Kx.of_move k2) e
    obtain ⟨rfl, _⟩ := id e'
    k_steps
    exact e'
end
end Mine

namespace Mine
set_option maxRecDepth 100000
set_option maxHeartbeats 4000000

section
variable {p : Program} {loose : List Str} {mg mb : Str → Option Value} {prog : Program} {w : World} {A : Around} {s s₀ : Shared} {GP : Array GenState → Prop} {h₀ : Heap} {L wl rl : Addr} {wk q r : Nat → Addr} {l R : Nat → List VI} {m : Str → Option Value} {c : Nat}

theorem Sta.soft {h h' : Heap} (S : Sta h₀ L h wl rl wk q r l R) (N : h.Ns L m) (k : ∀ b o, b ≠ L → (∀ vs, o.data ≠ .fields vs) → h.get? b = some o → h'.get? b = some o) : Sta h₀ L h' wl rl wk q r l R :=
  have go : ∀ {a vs n}, h.get? a = some (listOf vs n) → h'.get? a = some (listOf vs n) := fun e => k _ _ (ns_ne N e fun _ _ z => nomatch z) (fun _ z => nomatch z) e
  have gt : ∀ {v p}, TupAt h v p → TupAt h' v p := fun ⟨a, t, u, e, ho⟩ => ⟨a, t, u, e, k _ _ (ns_ne N ho fun _ _ z => nomatch z) (fun _ z => nomatch z) ho⟩
  { S with
    wo := let ⟨o, e, c, n, d⟩ := S.wo; ⟨o, k _ _ (ns_ne N e fun _ _ z => by rw [d] at z; cases z) (fun _ z => by rw [d] at z; cases z) e, c, n, d⟩
    ro := let ⟨o, e, c, n, d⟩ := S.ro; ⟨o, k _ _ (ns_ne N e fun _ _ z => by rw [d] at z; cases z) (fun _ z => by rw [d] at z; cases z) e, c, n, d⟩
    win := fun i hi => let ⟨dx, hs, t, n, I, a, b, c, d⟩ := S.win i hi; ⟨dx, hs, t, n, ⟨k _ _ d (fun _ z => nomatch z) I.at_, I.cls, I.no, k _ _ b (fun _ z => nomatch z) I.dict⟩, a, b, c, d⟩
    qo := fun i hi => let ⟨n, e⟩ := S.qo i hi; ⟨n, go e⟩
    rr := fun i hi => let ⟨n, e⟩ := S.rr i hi; ⟨n, go e⟩
    tl := fun i hi x hx => gt (S.tl i hi x hx)
    tr := fun i hi x hx => gt (S.tr i hi x hx) }

theorem Inv.soft (I : Inv GP s₀ h₀ L wl rl wk q r l R m c s) {m' : Str → Option Value} {h' : Heap} {tk : Nat} (F' : Fr h₀ L h' m') (k : ∀ b o, b ≠ L → (∀ vs, o.data ≠ .fields vs) → s.heap.get? b = some o → h'.get? b = some o)
    (mw : m' (Str.ofString "works") = some (.ref wl)) (mr : m' (Str.ofString "rows") = some (.ref rl)) : Inv GP s₀ h₀ L wl rl wk q r l R m' c { s with heap := h', toks := tk } :=
  ⟨F', mw, mr, I.st.soft I.fr.ns k, I.pm, I.ln, I.gp, I.os, I.dr⟩
theorem Inv.more (I : Inv GP s₀ h₀ L wl rl wk q r l R m c s) {c' : Nat} (h : c ≤ c') : Inv GP s₀ h₀ L wl rl wk q r l R m c' s := ⟨I.fr, I.mw, I.mr, I.st, I.pm, fun i hi => Nat.le_trans (I.ln i hi) h, I.gp, I.os, I.dr⟩
theorem ints_at {vs : List Value} {ns : List Int} (hI : IntsAre vs ns) : ∀ {i : Nat}, i < vs.length → ∃ k t, vs[i]? = some (.int k t) := by
  induction hI with
  | nil => intro i h; exact absurd h (Nat.not_lt_zero _)
  | cons _ _ _ ih =>
    intro i h
    cases i with
    | zero => exact ⟨_, _, rfl⟩
    | succ i => exact ih (by simpa using h)

theorem iter_ne {h : Heap} {a b l : Addr} {i : Nat} {o : Obj} (x : h.IsListIter a l i) (e : h.get? b = some o) (hd : ∀ vs, o.data ≠ .fields vs) : a ≠ b := fun z => by
  obtain ⟨o', ho', _, d⟩ := x
  rw [z, e] at ho'
  cases ho'
  exact hd _ d

theorem main_ok (hroom : A.depth + 10 < recursionLimit) (hh : A.handled = none) (hu : A.units + 200 < cLine)
    (KX : (hd.heap_39 w.params).In h₀) (T : TopRead p loose mg mb h₀) (hgp : ∀ g, GP g → GP (g.push .finished)) (hc : c ≤ 4)
    (I : Inv GP s₀ h₀ L wl rl wk q r l R m c s) {scr : Addr} {vs : List Value} {ns : List Int} (hm : m (Str.ofString "script") = some (.ref scr)) (hl : h₀.IsList scr vs.toArray) (hi : IntsAre vs ns) (hz : ns.length ≤ 1000)
    {Q : Flow → Shared → Prop} (hQ : ∀ r' l' R' m' s', Inv GP s₀ h₀ L wl rl wk q r' l' R' m' (c + 40) s' → Q .next s') :
    wpAny (model prog w) A (exec (mainFor w) (lawEnv w L)) Q (fun _ _ => False) s := by
  have F := I.fr
  have em := four_names I.mw I.mr hm hm
  have N : News h₀ L s.heap (dump h₀ L s.heap) := dump_news
  rw [em] at F
  unfold mainFor
  simp only [lawB, lawP, pick, List.getD_cons_succ, List.getD_cons_zero]
  refine wpAny_For ?_
  generalize hdl : dump h₀ L s.heap = dl at N
  k_steps
  rename_i D ws h₂ F₂ N₂ l₂ hI2 _ _
  have k2 : ∀ b o, b ≠ L → s.heap.get? b = some o → h₂.get? b = some o := dump_keep I.fr F₂ N₂ fun p hp => .tail _ (hdl ▸ hp)
  have hD := (N₂ _ (.head _)).1
  have hlt : ∀ a, a ≠ L → h₀.get? a = none → (∃ o, s.heap.get? a = some o) → a < D := fun a ha h0 ⟨o, ho⟩ => l₂ (a, o) (hdl ▸ mem_ownOf (by simp [ha]; exact Heap.lt_size ho) h0 ho)
  have hDr : D ≠ rl := Nat.ne_of_gt (hlt _ (I.st.rL I.fr) I.st.nw.1 (let ⟨o, e, _⟩ := I.st.ro; ⟨o, e⟩))
  have hDq : ∀ j, j < 2 → D ≠ q j := fun j hj => Nat.ne_of_gt (hlt _ (I.st.qL I.fr hj) (I.st.nw.2.2 j hj) (let ⟨_, e⟩ := I.st.qo j hj; ⟨_, e⟩))
  have I₂ : Inv GP s₀ h₀ L wl rl wk q r l R _ c { s with heap := h₂ } := I.next (tk := s.toks) F₂ k2 rfl rfl
  refine wpAny_pyIter_list ⟨_, hD, rfl, 0, rfl⟩ ?_
  have hLlt : L < h₂.objs.size := F₂.ns.lt
  have hI0 : h₀.get? h₂.objs.size = none := Heap.get?_none_of_le (Nat.le_trans F₂.above (Nat.le_of_lt hLlt))
  have hIL : h₂.objs.size ≠ L := Nat.ne_of_gt hLlt
  have hDI : D ≠ h₂.objs.size := Nat.ne_of_lt (Heap.lt_size hD)
  have hwl : ws.length = (ns.take 40).length := hI2.length
  have hw40 : ws.length ≤ 40 := by rw [hwl, List.length_take]; omega
  have I₃ : Inv GP s₀ h₀ L wl rl wk q r l R _ c { s with heap := h₂.push { cls := .type "list_iterator", data := .fields #[.ref D, .int (0 : Nat) 0] } } :=
    I₂.next (s := { s with heap := h₂ }) (tk := s.toks) (F₂.push _) (fun b o _ e => Heap.get?_push_of_some _ e) rfl rfl
  have hit₃ : (h₂.push { cls := .type "list_iterator", data := .fields #[.ref D, .int (0 : Nat) 0] }).IsListIter h₂.objs.size D 0 := ⟨_, Heap.get?_push_size _ rfl, rfl, rfl⟩
  have hD₃ : (h₂.push { cls := .type "list_iterator", data := .fields #[.ref D, .int (0 : Nat) 0] }).IsList D ws.toArray := ⟨_, Heap.get?_push_of_some _ hD, rfl, 0, rfl⟩
  generalize h₂.objs.size = It at *
  refine codeAny_forLoop (fun n s' => ∃ i r' l' R' m', i + n = ws.length ∧ Inv GP s₀ h₀ L wl rl wk q r' l' R' m' (c + i) s' ∧ s'.heap.IsListIter It D i ∧ s'.heap.IsList D ws.toArray) ?_ ws.length ⟨0, r, l, R, _, Nat.zero_add _, ⟨I₃.fr, I₃.mw, I₃.mr, I₃.st, I₃.pm, I₃.ln, I₃.gp, I₃.os, I₃.dr⟩, hit₃, hD₃⟩
  rintro n s' ⟨i, r', l', R', m', hin, J, hit, hDl⟩
  cases n with
  | zero =>
    refine wpAny_pyNext_list_end hh hit hDl (by simp; omega) fun h' he => ?_
    dsimp only
    refine wpAny_execs_nil ?_
    have F' : Fr h₀ L h' m' := ⟨J.fr.ns.at' fun o e => he _ _ (Ne.symm hIL) e, fun b o e => he _ _ (fun z => by rw [z, hI0] at e; cases e) (J.fr.keep _ _ e), J.fr.above⟩
    refine hQ r' l' R' m' _ ((J.soft (tk := s'.toks) F' (fun b o _ hf e => he _ _ (fun z => ?_) e) J.mw J.mr).more (by omega))
    obtain ⟨o', ho', _, hd'⟩ := hit
    rw [z, ho'] at e; cases e
    exact hf _ hd'
  | succ n =>
    obtain ⟨k, t, hk⟩ := ints_at hI2 (i := i) (by omega)
    refine wpAny_pyNext_list_item (x := .int k t) hit hDl (by simpa using hk) fun h' hit' sb => ?_
    dsimp only
    have F' : Fr h₀ L h' m' := ⟨J.fr.ns.at' fun o e => (sb.2 _ (Ne.symm hIL)).trans e, fun b o e => (sb.2 _ (fun z => by rw [z, hI0] at e; cases e)).trans (J.fr.keep _ _ e), J.fr.above⟩
    have J' : Inv GP s₀ h₀ L wl rl wk q r' l' R' m' (c + i) { s' with heap := h' } := J.soft (tk := s'.toks) F' (fun b o _ hf e => (sb.2 _ (fun z => by
      obtain ⟨o', ho', _, hd'⟩ := hit
      rw [z, ho'] at e; cases e
      exact hf _ hd')).trans e) J.mw J.mr
    have hD' : h'.IsList D ws.toArray := hDl.at fun o e => (sb.2 _ hDI).trans e
    refine wpAny_assign_Name (wpAny_storeName_local (by rfl) F'.ns (fun h'' hn'' hs'' => ?_) rfl)
    have J'' : Inv GP s₀ h₀ L wl rl wk q r' l' R' (fun z => if z = Str.ofString "number" then some (.int k t) else m' z) (c + i) { s' with heap := h'', toks := s'.toks + 1 } :=
      J'.next (F'.set hn'' hs'') (fun b o hb e => (hs''.2 b hb).trans e) J.mw J.mr
    refine wpAny_mono (turn_ok hroom hh hu KX T hgp (by omega) J'' rfl) (fun f s₃ e => ?_) fun _ _ x => x.elim
    obtain ⟨rfl, ⟨r2, l2, R2, m2, J2⟩, kx⟩ := e
    have hit'' : h''.IsListIter It D (i + 1) := hit'.at fun o e => (hs''.2 _ hIL).trans e
    have hD'' : h''.IsList D ws.toArray := hD'.at fun o e => (hs''.2 _ (let ⟨_, e, _, _, d⟩ := hD'; ns_ne F'.ns e fun _ _ z => by rw [d] at z; cases z)).trans e
    refine ⟨n, Nat.lt_succ_self _, i + 1, r2, l2, R2, m2, by omega, by rw [Nat.add_assoc] at J2; exact J2, hit''.at fun o e => kx _ _ hIL ?_ ?_ ?_ e, hD''.at fun o e => kx _ _ ?_ hDr (hDq 0 (by omega)) (hDq 1 (by omega)) e⟩
    · obtain ⟨o', ho', _, _, d⟩ := J''.st.ro
      exact iter_ne hit'' ho' fun _ z => by rw [d] at z; cases z
    · obtain ⟨_, e'⟩ := J''.st.qo 0 (by omega)
      exact iter_ne hit'' e' fun _ z => nomatch z
    · obtain ⟨_, e'⟩ := J''.st.qo 1 (by omega)
      exact iter_ne hit'' e' fun _ z => nomatch z
    · obtain ⟨_, e', _, _, d⟩ := hD''
      exact ns_ne J''.fr.ns e' fun _ _ z => by rw [d] at z; cases z
end
end Mine

namespace Mine
set_option maxRecDepth 100000
set_option maxHeartbeats 4000000

/-- a turn of the last loop that went through -/
def WEnd (GP : Array GenState → Prop) (s₀ : Shared) (h₀ : Heap) (L wl rl : Addr) (w q : Nat → Addr) (c : Nat) (R : Nat → List VI) (i : Nat) (f : Flow) (s' : Shared) : Prop :=
  f = .next ∧ ∃ r' l' R' m' t, Inv GP s₀ h₀ L wl rl w q r' l' R' m' c s' ∧ m' (Str.ofString "side") = some (.int ((1 : Int) - (i : Nat)) t) ∧ (∀ j, j < 2 → j ≠ i → R' j = R j) ∧ (R i).length = (R' i).length + (if R i = [] then 0 else 1)

section
variable {p : Program} {loose : List Str} {mg mb : Str → Option Value} {prog : Program} {w : World} {A : Around} {s s₀ : Shared} {GP : Array GenState → Prop} {h₀ : Heap} {L wl rl : Addr} {wk q r : Nat → Addr} {l R : Nat → List VI} {m : Str → Option Value} {c : Nat}

theorem wbody_ok (hroom : A.depth + 10 < recursionLimit) (hh : A.handled = none) (hu : A.units + 200 < cLine)
    (KX : (hd.heap_39 w.params).In h₀) (T : TopRead p loose mg mb h₀) (hgp : ∀ g, GP g → GP (g.push .finished)) (hc : c < 50)
    (I : Inv GP s₀ h₀ L wl rl wk q r l R m c s) {t : Tok} {i : Nat} (hi : i < 2) (hm : m (Str.ofString "side") = some (.int (i : Nat) t)) :
    wpAny (model prog w) A (execs (whileBody w) (lawEnv w L)) (WEnd GP s₀ h₀ L wl rl wk q c R i) (fun _ _ => False) s := by
  have F₂ := I.fr
  have em := four_names I.mw I.mr hm hm
  rw [em] at F₂
  have S₂ := I.st
  have ns₂ := F₂.ns
  obtain ⟨dl₂, M₂, kdl₂⟩ := dump_any F₂
  have hll : (l i).length = (R i).length := by simpa using (I.pm i hi).length_eq
  have hRl := I.ln i hi
  unfold whileBody lastWhile
  simp only [lawB, lawP, pick, List.getD_cons_succ, List.getD_cons_zero]
  k_steps
  refine item_L (v := .ref (r i)) (S₂.rowAt hi).1 (by omega) (by omega) (S₂.rowAt hi).2 ?_
  k_steps
  rename_i E h₃ F₃ N₃ l₃
  have k3 := kdl₂ _ _ F₃ (News.drop N₃)
  have S₃ := S₂.move ns₂ k3
  obtain ⟨nr, hr⟩ := S₃.rr i hi
  refine ne_empty (vs := (R i).map Prod.fst) ⟨_, hr, rfl, nr, rfl⟩ ⟨_, (N₃ _ (.head _)).1, rfl, _, rfl⟩ (by omega) _ _ _ _ ?_
  k_steps
  · rename_i hemp h' F' N'
    have he : R i = [] := by
      cases z : R i with
      | nil => rfl
      | cons x y => rw [z] at hemp; cases hemp
    exact ⟨rfl, r, l, R, _, _, ⟨F', rfl, rfl, S₂.move ns₂ (kdl₂ _ _ F' (News.drop N')), I.pm, I.ln, I.gp, I.os, I.dr⟩, rfl, fun _ _ _ => rfl, by rw [if_pos he]; rfl⟩
  · rename_i hemp
    have hne : R i ≠ [] := fun z => by rw [z] at hemp; cases hemp
    have ns₃ := F₃.ns
    obtain ⟨dl₃, M₃, kdl₃⟩ := dump_any F₃
    obtain ⟨dx, dh, dt, dn, N₃'⟩ := S₃.led hi M₃
    clear N₃
    refine item_L (v := .ref (r i)) (S₃.rowAt hi).1 (by omega) (by omega) (S₃.rowAt hi).2 ?_
    k_steps
    refine wpAny_call (first_code (l := R i) (by omega) hh (KX.keeps F₃.keep) (T.keeps F₃.keep) ⟨_, hr, rfl, nr, rfl⟩ (S₃.tr i hi) hne fun v d h₄ tk₄ hvd hmin k₄ => ?_)
    dsimp only
    have F₄ := F₃.kept k₄
    have N₄ := N₃'.grown k₄
    clear F₃ N₃'
    k_steps
    rename_i h₅ F₅ N₅
    have k5 := kdl₃ _ _ F₅ (News.drop (News.drop N₅))
    have S₅ := S₃.move ns₃ k5
    refine item_L (v := .ref (wk i)) (S₅.work hi).1 (by omega) (by omega) (S₅.work hi).2 ?_
    k_steps
    obtain ⟨nq, hq⟩ := S₅.qo i hi
    have hlne : l i ≠ [] := fun z => by rw [z] at hll; exact hne (List.length_eq_zero_iff.mp hll.symm)
    refine wpAny_call (get_code (l := l i) (n := nq) (by omega) hh (by omega) (KX.keeps F₅.keep) (T.keeps F₅.keep) (S₅.win i hi).wat hq (S₅.tl i hi) (S₅.hp i hi) (by omega) hlne fun h₆ tk₆ v' vv d2 l' n' kb oq hp2 hmin2 tl' tv hI' => ?_)
    dsimp only
    have F₆ := Fr.but F₅ kb (S₅.qL F₅ hi) (S₅.nw.2.2 i hi)
    have S₆ := S₅.que hi kb oq tl' hI'
    have ns₆ := F₆.ns
    obtain ⟨dl₆, M₆, kdl₆⟩ := dump_any F₆
    clear F₅ N₅
    have ed : neg d2 = d := least_same (I.pm i hi) hvd hmin (hp2.mem_iff.mpr (.head _)) hmin2
    k_steps
    refine rc_ne tv (S₆.tr i hi _ hvd) (by omega) _ _ _ _ ?_
    rw [decide_eq_true ed]
    k_steps
    refine item_L (v := .ref (r i)) (S₆.rowAt hi).1 (by omega) (by omega) (S₆.rowAt hi).2 ?_
    k_steps
    obtain ⟨nr6, hr6⟩ := S₆.rr i hi
    refine wpAny_call (without_code (l := R i) (d := d) (by omega) hh (by omega) (KX.keeps F₆.keep) (T.keeps F₆.keep) ⟨nr6, hr6⟩ (S₆.tr i hi) (S₆.tr i hi _ hvd) ⟨_, hvd, rfl⟩ (by omega) fun a R' h₇ tk₇ ha ha0 hpR k₇ => ?_)
    dsimp only
    obtain ⟨v2, hpR⟩ := hpR
    have F₇ := F₆.kept k₇
    have N₇ := M₆.grown k₇
    have S₇ := S₆.move ns₆ fun b o _ e => k₇ b o e
    have hqa : ∀ j, j < 2 → q j ≠ a := fun j hj z => by
      obtain ⟨_, e⟩ := S₆.qo j hj
      rw [z] at e
      rw [show h₆.get? a = none from ha0] at e; cases e
    have hra : a ≠ rl := fun z => by
      obtain ⟨_, e, _⟩ := S₆.ro
      rw [← z] at e
      rw [show h₆.get? a = none from ha0] at e; cases e
    clear F₆ M₆
    k_steps
    refine set_two hi S₇.ro fun h₈ sb e8 => ?_
    have S₈ := S₇.row hi sb e8 (R' := R') (n := 0) ha hqa hra fun y hy => S₇.tr i hi y (hpR.mem_iff.mpr (.tail _ hy))
    have F₈ := kas_fr F₇ sb (S₇.rL F₇) S₇.nw.1
    obtain ⟨dl₈, M₈, kdl₈⟩ := dump_any F₈
    clear F₇ N₇
    have hpm : ∀ j, j < 2 → ((updN i l l' j).map fun x => neg x.2).Perm ((updN i R R' j).map Prod.snd) := fun j hj => by
      by_cases z : j = i
      · subst z
        rw [updN_same, updN_same]
        have e1 := (hp2.map fun x => neg x.2).symm.trans ((I.pm j hj).trans (hpR.map Prod.snd))
        simp only [List.map_cons] at e1
        rw [ed] at e1
        exact e1.cons_inv
      · rw [updN_ne _ _ z, updN_ne _ _ z]; exact I.pm j hj
    have hRl' : (R i).length = R'.length + 1 := by simpa using hpR.length_eq
    have hln : ∀ j, j < 2 → (updN i R R' j).length ≤ c := fun j hj => by
      by_cases z : j = i
      · subst z; rw [updN_same]; omega
      · rw [updN_ne _ _ z]; exact I.ln j hj
    k_steps
    refine item_L (v := .ref (wk i)) (S₈.work hi).1 (by omega) (by omega) (S₈.work hi).2 ?_
    k_steps
    refine item_L (v := .ref (updN i r a i)) (S₈.rowAt hi).1 (by omega) (by omega) (S₈.rowAt hi).2 ?_
    k_steps
    obtain ⟨nq8, hq8⟩ := S₈.qo i hi
    obtain ⟨nr8, hr8⟩ := S₈.rr i hi
    have hl8 : (updN i l l' i).length < 60 := by
      have e1 := (hpm i hi).length_eq
      have e2 := hln i hi
      simp at e1
      omega
    refine wpAny_call (read_code (l := updN i l l' i) (rl := updN i R R' i) (n := nq8) hroom hh (by omega) (KX.keeps F₈.keep) (T.keeps F₈.keep) (S₈.win i hi).wat hq8 (S₈.tl i hi) (S₈.hp i hi) hl8 ⟨_, hr8, rfl, nr8, rfl⟩ (S₈.tr i hi) (hpm i hi) fun h₉ tk₉ k₉ => ?_)
    dsimp only
    have F₉ := F₈.kept k₉
    have S₉ := S₈.move F₈.ns fun b o _ e => k₉ b o e
    have N₉ := M₈.grown k₉
    have ns₉ := F₉.ns
    obtain ⟨dl₉, M₉, kdl₉⟩ := dump_any F₉
    clear F₈ M₈ N₉
    k_steps
    rename_i hA F₁₀ N₁₀
    exact ⟨rfl, updN i r a, updN i l l', updN i R R', _, _, ⟨F₁₀, rfl, rfl, S₉.move ns₉ (kdl₉ _ _ F₁₀ N₁₀), hpm, hln, hgp _ I.gp, I.os, I.dr⟩, rfl, fun j _ z => updN_ne _ _ z, by rw [updN_same, if_neg hne]; exact hRl'⟩
end
end Mine

namespace Mine
set_option maxRecDepth 100000
set_option maxHeartbeats 4000000

section
variable {p : Program} {loose : List Str} {mg mb : Str → Option Value} {prog : Program} {w : World} {A : Around} {s s₀ : Shared} {GP : Array GenState → Prop} {h₀ : Heap} {L wl rl : Addr} {wk q r : Nat → Addr} {l R : Nat → List VI} {m : Str → Option Value} {c : Nat}

def WI (GP : Array GenState → Prop) (s₀ : Shared) (h₀ : Heap) (L wl rl : Addr) (wk q : Nat → Addr) (c n : Nat) (s' : Shared) : Prop :=
  ∃ r l R m i t, i < 2 ∧ Inv GP s₀ h₀ L wl rl wk q r l R m c s' ∧ m (Str.ofString "side") = some (.int (i : Nat) t) ∧ 2 * ((R 0).length + (R 1).length) + (if R i = [] then 1 else 0) ≤ n

theorem wstep {i n : Nat} {f : Flow} {s' : Shared} (hi : i < 2) (hn : 2 * ((R 0).length + (R 1).length) + (if R i = [] then 1 else 0) ≤ n) (ho : R 0 ≠ [] ∨ R 1 ≠ []) (e : WEnd GP s₀ h₀ L wl rl wk q c R i f s') :
    f = .next ∧ ∃ k, k < n ∧ WI GP s₀ h₀ L wl rl wk q c k s' := by
  obtain ⟨rfl, r', l', R', m', t, J, hm, same, len⟩ := e
  refine ⟨rfl, 2 * ((R' 0).length + (R' 1).length) + (if R' (1 - i) = [] then 1 else 0), ?_, r', l', R', m', 1 - i, t, by omega, J, ?_, Nat.le_refl _⟩
  · rcases (show i = 0 ∨ i = 1 by omega) with rfl | rfl
    · have s1 := same 1 (by omega) (by omega)
      rw [s1]
      by_cases z : R 0 = []
      · have z1 : R 1 ≠ [] := ho.resolve_left fun x => x z
        rw [if_pos z] at len hn
        rw [if_neg z1]
        omega
      · rw [if_neg z] at len hn
        have : (if R 1 = [] then 1 else 0) ≤ 1 := by split <;> omega
        omega
    · have s0 := same 0 (by omega) (by omega)
      rw [s0]
      by_cases z : R 1 = []
      · have z1 : R 0 ≠ [] := ho.resolve_right fun x => x z
        rw [if_pos z] at len hn
        rw [if_neg z1]
        omega
      · rw [if_neg z] at len hn
        have : (if R 0 = [] then 1 else 0) ≤ 1 := by split <;> omega
        omega
  · rw [hm]
    congr 2
    omega

theorem emp_of {R : List VI} (h : (R.map Prod.fst).isEmpty = true) : R = [] := by
  cases R with
  | nil => rfl
  | cons x y => cases h
theorem nemp_of {R : List VI} (h : (R.map Prod.fst).isEmpty = false) : R ≠ [] := fun z => by rw [z] at h; cases h

theorem last_ok (hroom : A.depth + 10 < recursionLimit) (hh : A.handled = none) (hu : A.units + 200 < cLine)
    (KX : (hd.heap_39 w.params).In h₀) (T : TopRead p loose mg mb h₀) (hgp : ∀ g, GP g → GP (g.push .finished)) (hc : c < 50)
    (I : Inv GP s₀ h₀ L wl rl wk q r l R m c s) {t : Tok} (hm : m (Str.ofString "side") = some (.int (0 : Nat) t))
    {Q : Flow → Shared → Prop} (hQ : ∀ r' l' R' m' s', Inv GP s₀ h₀ L wl rl wk q r' l' R' m' c s' → R' 0 = [] → R' 1 = [] → Q .next s') :
    wpAny (model prog w) A (exec (lastWhile w) (lawEnv w L)) Q (fun _ _ => False) s := by
  unfold lastWhile
  simp only [lawB, lawP, pick, List.getD_cons_succ, List.getD_cons_zero]
  refine wpAny_While (codeAny_whileLoop (WI GP s₀ h₀ L wl rl wk q c) ?_ (2 * ((R 0).length + (R 1).length) + (if R 0 = [] then 1 else 0)) ⟨r, l, R, m, 0, t, by omega, I, hm, Nat.le_refl _⟩)
  clear hm I t
  rintro n s ⟨r, l, R, m, i, t, hi, I, hm, hn⟩
  refine wpAny_mono (E := fun _ _ => False) ?_ (fun _ _ x => x) (fun _ _ x => x.elim)
  have F := I.fr
  have em := four_names I.mw I.mr hm hm
  rw [em] at F
  have S := I.st
  have ns := F.ns
  obtain ⟨dl, N, kdl⟩ := dump_any F
  k_steps
  refine item_L (v := .ref (r 0)) S.ro (by omega) (by omega) rfl ?_
  k_steps
  rename_i E h₃ F₃ N₃ l₃
  have S₃ := S.move ns (kdl _ _ F₃ (News.drop N₃))
  obtain ⟨nr, hr⟩ := S₃.rr 0 (by omega)
  refine ne_empty (vs := (R 0).map Prod.fst) ⟨_, hr, rfl, nr, rfl⟩ ⟨_, (N₃ _ (.head _)).1, rfl, _, rfl⟩ (by omega) _ _ _ _ ?_
  repeat' ((fail_if_success (with_reducible show wpAny _ _ (execs [Stmt.If _ _ _ _, Stmt.Assign _ _ _] _) _ _ _)); (first | walk1 | (dsimp only; walk1)))
  · rename_i z0
    have e0 := emp_of z0
    refine item_L (v := .ref (r 1)) S₃.ro (by omega) (by omega) rfl ?_
    k_steps
    rename_i E₄ h₄ F₄ N₄ l₄
    have k4 := kdl _ _ F₄ (News.drop (News.drop N₄))
    have S₄ := S.move ns k4
    obtain ⟨nr, hr⟩ := S₄.rr 1 (by omega)
    refine ne_empty (vs := (R 1).map Prod.fst) ⟨_, hr, rfl, nr, rfl⟩ ⟨_, (N₄ _ (.head _)).1, rfl, _, rfl⟩ (by omega) _ _ _ _ ?_
    repeat' ((fail_if_success (with_reducible show wpAny _ _ (execs [Stmt.If _ _ _ _, Stmt.Assign _ _ _] _) _ _ _)); (first | walk1 | (dsimp only; walk1)))
    · rename_i z1
      exact hQ r l R _ _ (I.next F₄ k4 rfl rfl) e0 (emp_of z1)
    · rename_i z1
      refine wpAny_mono (wbody_ok hroom hh hu KX T hgp hc (I.next F₄ k4 rfl rfl) hi rfl) (fun f s₃ e => ?_) (fun _ _ x => x.elim)
      obtain ⟨hf, e2⟩ := wstep hi hn (.inr (nemp_of z1)) e
      subst hf
      exact e2
  · rename_i z0
    refine wpAny_mono (wbody_ok hroom hh hu KX T hgp hc (I.next F₃ (kdl _ _ F₃ (News.drop N₃)) rfl rfl) hi rfl) (fun f s₃ e => ?_) (fun _ _ x => x.elim)
    obtain ⟨hf, e2⟩ := wstep hi hn (.inl (nemp_of z0)) e
    subst hf
    exact e2
end
end Mine

namespace Mine
set_option maxRecDepth 100000
set_option maxHeartbeats 4000000
def firstFor (w : World) : Stmt := (lawB w).getD 2 (.Pass default)
def firstBody (w : World) : List Stmt := match firstFor w with
  | .For _ _ body _ _ => body
  | _ => []

/-- a turn of the first loop that went through -/
def PutEnd (GP : Array GenState → Prop) (s₀ : Shared) (h₀ : Heap) (L wl rl : Addr) (w q : Nat → Addr) (c : Nat) (h : Heap) (sv : Option Value) (f : Flow) (s' : Shared) : Prop :=
  f = .next ∧ (∃ r' l' R' m', Inv GP s₀ h₀ L wl rl w q r' l' R' m' c s' ∧ m' (Str.ofString "script") = sv) ∧ Kx L rl q h s'.heap

/-- the rows that the first loop runs over -/
def Rows4 (h : Heap) (T : Addr) (its : List (Addr × Nat × Addr × It)) : Prop :=
  IsTup h T (its.map fun x => Value.ref x.1).toArray ∧ ∀ x ∈ its, x.2.1 < 2 ∧ (∃ t, IsTup h x.1 #[.int x.2.1 t, .ref x.2.2.1]) ∧ TupAt h (.ref x.2.2.1) x.2.2.2
theorem Rows4.via {h h' : Heap} {T : Addr} {its : List (Addr × Nat × Addr × It)} (x : Rows4 h T its) (k : ∀ b o, o.cls = .type "tuple" → (∃ vs n, o.data = .seq vs n) → h.get? b = some o → h'.get? b = some o) : Rows4 h' T its := by
  have go : ∀ {a vs}, IsTup h a vs → IsTup h' a vs := fun ⟨o, ho, hc, n, hd⟩ => ⟨o, k _ _ hc ⟨_, n, hd⟩ ho, hc, n, hd⟩
  refine ⟨go x.1, fun y hy => ?_⟩
  obtain ⟨h1, ⟨t, h2⟩, a, t1, t2, e, ho⟩ := x.2 y hy
  exact ⟨h1, ⟨t, go h2⟩, a, t1, t2, e, k _ _ rfl ⟨_, _, rfl⟩ ho⟩

section
variable {p : Program} {loose : List Str} {mg mb : Str → Option Value} {prog : Program} {w : World} {A : Around} {s s₀ : Shared} {GP : Array GenState → Prop} {h₀ : Heap} {L wl rl : Addr} {wk q r : Nat → Addr} {l R : Nat → List VI} {m : Str → Option Value} {c : Nat}

theorem put_ok (hroom : A.depth + 10 < recursionLimit) (hh : A.handled = none) (hu : A.units + 200 < cLine)
    (KX : (hd.heap_39 w.params).In h₀) (T : TopRead p loose mg mb h₀) (hc : c < 50)
    (I : Inv GP s₀ h₀ L wl rl wk q r l R m c s) {t : Tok} {i : Nat} {D : Addr} {d : It} (hi : i < 2) (hs : m (Str.ofString "side") = some (.int (i : Nat) t)) (hx : m (Str.ofString "item") = some (.ref D)) (tD₃ : TupAt s.heap (.ref D) d) :
    wpAny (model prog w) A (execs (firstBody w) (lawEnv w L)) (PutEnd GP s₀ h₀ L wl rl wk q (c + 1) s.heap (m (Str.ofString "script"))) (fun _ _ => False) s := by
  have F₃ := I.fr
  obtain ⟨dl, N0, kdl⟩ := dump_any F₃
  obtain ⟨dx, dh, dt, dn, N₃⟩ := I.st.led hi N0
  have em := four_names I.mw I.mr hs hx
  rw [em] at F₃
  have S₃ := I.st
  clear N0
  unfold firstBody firstFor
  simp only [lawB, lawP, pick, List.getD_cons_succ, List.getD_cons_zero]
  k_steps
  refine item_L (v := .ref (wk i)) (S₃.work hi).1 (by omega) (by omega) (S₃.work hi).2 ?_
  k_steps
  obtain ⟨nq, hq⟩ := S₃.qo i hi
  have hll : (l i).length < 60 := by
    have e1 := (I.pm i hi).length_eq
    have e2 := I.ln i hi
    simp at e1
    omega
  refine wpAny_call (add_code (d := d) (l := l i) (by omega) hh (by omega) (KX.keeps F₃.keep) (T.keeps F₃.keep) (S₃.win i hi).wat hq (S₃.tl i hi) (S₃.hp i hi) (by omega) tD₃ fun h₄ tk₄ v' l' n' k₄ oq hp tl' hI' => ?_)
  dsimp only
  have F₄ := Fr.but F₃ k₄ (S₃.qL F₃ hi) (S₃.nw.2.2 i hi)
  have S₄ := S₃.que hi k₄ oq tl' hI'
  have tD₄ := tD₃.kb hq rfl k₄
  obtain ⟨dl₄, N₄, kdl₄⟩ := dump_any F₄
  have ns₄ := F₄.ns
  clear F₃ N₃
  k_steps
  refine item_L (v := .ref (r i)) (S₄.rowAt hi).1 (by omega) (by omega) (S₄.rowAt hi).2 ?_
  k_steps
  rename_i E h₅ F₅ N₅ l₅
  have S₅ := S₄.move ns₄ (kdl₄ h₅ _ F₅ (News.drop N₅))
  obtain ⟨nr, hr⟩ := S₅.rr i hi
  refine add_arrays F₅ N₅ ⟨_, hr, rfl, nr, rfl⟩ (News.isList N₅ (.head _)) (fun h₆ F₆ N₆ => ?_) (by rw [sizeLine_eq]; have := I.ln i hi; simp; omega)
  have eR : ((((R i).map Prod.fst).toArray).toList ++ (#[Value.ref D] : Array Value).toList).toArray = ((R i ++ [(Value.ref D, d)]).map Prod.fst).toArray := by simp
  have k6 := kdl₄ h₆ _ F₆ (News.drop (News.drop N₆))
  have S₆ := S₄.move ns₄ k6
  have oE := (N₆ _ (.head _)).1
  simp only at oE
  rw [eR] at oE
  have hqE : ∀ j, j < 2 → q j ≠ h₅.objs.size := fun j hj => let ⟨_, e⟩ := S₅.qo j hj; Nat.ne_of_lt (Heap.lt_size e)
  have hrE : h₅.objs.size ≠ rl := let ⟨_, e, _⟩ := S₅.ro; Nat.ne_of_gt (Heap.lt_size e)
  have tD₆ := tD₄.but ns₄ k6
  generalize h₅.objs.size = E2 at *
  k_steps
  refine set_two hi S₆.ro fun h₇ sb e7 => ?_
  have S₇ := S₆.row hi sb e7 (R' := R i ++ [(Value.ref D, d)]) (n := 0) oE hqE hrE (fun y hy => by
    rcases List.mem_append.mp hy with z | z
    · exact S₆.tr i hi y z
    · rw [List.mem_singleton.mp z]; exact tD₆)
  have F₇ := kas_fr F₆ sb (S₆.rL F₆) S₆.nw.1
  k_steps
  refine ⟨rfl, ⟨updN i r E2, updN i l l', updN i R (R i ++ [(Value.ref D, d)]), _, ⟨F₇, rfl, rfl, S₇, fun j hj => ?_, fun j hj => ?_, I.gp, I.os, I.dr⟩, rfl⟩,
    (Kx.of_que hi k₄).trans ((Kx.of_move k6).trans (Kx.of_row sb))⟩
  · by_cases z : j = i
    · subst z
      rw [updN_same, updN_same]
      refine (hp.map fun x => neg x.2).trans ?_
      rw [List.map_cons, List.map_append]
      simp only [neg_neg]
      exact ((I.pm j hj).cons _).trans (List.perm_append_singleton _ _).symm
    · rw [updN_ne _ _ z, updN_ne _ _ z]; exact I.pm j hj
  · by_cases z : j = i
    · subst z; rw [updN_same, List.length_append]; have := I.ln j hj; simp; omega
    · rw [updN_ne _ _ z]; exact Nat.le_succ_of_le (I.ln j hj)

theorem tup_kx {h h' : Heap} (S : Sta h₀ L h wl rl wk q r l R) (N : h.Ns L m) (k : Kx L rl q h h') (b : Addr) (o : Obj) (hc : o.cls = .type "tuple") (hd : ∃ vs n, o.data = .seq vs n) (e : h.get? b = some o) : h'.get? b = some o := by
  obtain ⟨vs, n, hd⟩ := hd
  refine k b o (ns_ne N e fun _ _ z => by rw [hd] at z; cases z) (fun z => ?_) (fun z => ?_) (fun z => ?_) e
  · obtain ⟨o', e', hc', _⟩ := S.ro
    rw [z, e'] at e; cases e
    rw [hc] at hc'; exact absurd hc' (by decide)
  · obtain ⟨_, e'⟩ := S.qo 0 (by omega)
    rw [z, e'] at e; cases e
    exact absurd (show Value.type "list" = .type "tuple" from hc) (by decide)
  · obtain ⟨_, e'⟩ := S.qo 1 (by omega)
    rw [z, e'] at e; cases e
    exact absurd (show Value.type "list" = .type "tuple" from hc) (by decide)

theorem titer_ne {h : Heap} {a b l : Addr} {i : Nat} {o : Obj} (x : h.IsTupleIter a l i) (e : h.get? b = some o) (hd : ∀ vs, o.data ≠ .fields vs) : a ≠ b := fun z => by
  obtain ⟨o', ho', _, d⟩ := x
  rw [z, e] at ho'
  cases ho'
  exact hd _ d

theorem first_ok (hroom : A.depth + 10 < recursionLimit) (hh : A.handled = none) (hu : A.units + 200 < cLine)
    (KX : (hd.heap_39 w.params).In h₀) (T : TopRead p loose mg mb h₀)
    (I : Inv GP s₀ h₀ L wl rl wk q r l R m 0 s) {scr : Addr} (hm : m (Str.ofString "script") = some (.ref scr))
    {Q : Flow → Shared → Prop} (hQ : ∀ r' l' R' m' s', m' (Str.ofString "script") = some (.ref scr) → Inv GP s₀ h₀ L wl rl wk q r' l' R' m' 4 s' → Q .next s') :
    wpAny (model prog w) A (exec (firstFor w) (lawEnv w L)) Q (fun _ _ => False) s := by
  have F := I.fr
  have ns := F.ns
  have em := four_names I.mw I.mr hm hm
  obtain ⟨dl, N, kdl⟩ := dump_any F
  rw [em] at F
  unfold firstFor
  simp only [lawB, lawP, pick, List.getD_cons_succ, List.getD_cons_zero]
  refine wpAny_For ?_
  k_steps
  rename_i d8 g8 l8 d7 g7 l7 d6 g6 l6 d5 g5 l5 d4 g4 l4 d3 g3 l3 d2 g2 l2 d1 g1 l1 d0 g0 F₀ N₀ l0
  have k0 := kdl _ _ F₀ (fun p hp => N₀ p (by simp [hp]))
  have I₀ : Inv GP s₀ h₀ L wl rl wk q r l R _ 0 { s with heap := g0 } := I.next (tk := s.toks) F₀ k0 rfl rfl
  have hRows : Rows4 g0 d0 [(d7, 0, d8, (1, [98])), (d5, 0, d6, (1, [97])), (d3, 0, d4, (2, [98])), (d1, 1, d2, (-1, []))] := by
    refine ⟨⟨_, (N₀ _ (.head _)).1, rfl, _, rfl⟩, fun x hx => ?_⟩
    simp only [List.mem_cons, List.not_mem_nil, or_false] at hx
    rcases hx with rfl | rfl | rfl | rfl
    · exact ⟨Nat.le_of_ble_eq_true rfl, ⟨_, _, (N₀ _ (.tail _ (.tail _ (.tail _ (.tail _ (.tail _ (.tail _ (.tail _ (.head _))))))))).1, rfl, _, rfl⟩, _, _, _, rfl, (N₀ _ (.tail _ (.tail _ (.tail _ (.tail _ (.tail _ (.tail _ (.tail _ (.tail _ (.head _)))))))))).1⟩
    · exact ⟨Nat.le_of_ble_eq_true rfl, ⟨_, _, (N₀ _ (.tail _ (.tail _ (.tail _ (.tail _ (.tail _ (.head _))))))).1, rfl, _, rfl⟩, _, _, _, rfl, (N₀ _ (.tail _ (.tail _ (.tail _ (.tail _ (.tail _ (.tail _ (.head _)))))))).1⟩
    · exact ⟨Nat.le_of_ble_eq_true rfl, ⟨_, _, (N₀ _ (.tail _ (.tail _ (.tail _ (.head _))))).1, rfl, _, rfl⟩, _, _, _, rfl, (N₀ _ (.tail _ (.tail _ (.tail _ (.tail _ (.head _)))))).1⟩
    · exact ⟨Nat.le_of_ble_eq_true rfl, ⟨_, _, (N₀ _ (.tail _ (.head _))).1, rfl, _, rfl⟩, _, _, _, rfl, (N₀ _ (.tail _ (.tail _ (.head _)))).1⟩
  refine wpAny_pyIter_tuple hRows.1 ?_
  have hlen : [(d7, 0, d8, ((1 : Int), ([98] : List UInt8))), (d5, 0, d6, (1, [97])), (d3, 0, d4, (2, [98])), (d1, 1, d2, (-1, []))].length = 4 := rfl
  generalize [(d7, 0, d8, ((1 : Int), ([98] : List UInt8))), (d5, 0, d6, (1, [97])), (d3, 0, d4, (2, [98])), (d1, 1, d2, (-1, []))] = its at hRows hlen
  have hLlt : L < g0.objs.size := F₀.ns.lt
  have hI0 : h₀.get? g0.objs.size = none := Heap.get?_none_of_le (Nat.le_trans F₀.above (Nat.le_of_lt hLlt))
  have hIL : g0.objs.size ≠ L := Nat.ne_of_gt hLlt
  have I₃ : Inv GP s₀ h₀ L wl rl wk q r l R _ 0 { s with heap := g0.push { cls := .type "tuple_iterator", data := .fields #[.ref d0, .int (0 : Nat) 0] } } :=
    I₀.next (s := { s with heap := g0 }) (tk := s.toks) (F₀.push _) (fun b o _ e => Heap.get?_push_of_some _ e) rfl rfl
  have hit₃ : (g0.push { cls := .type "tuple_iterator", data := .fields #[.ref d0, .int (0 : Nat) 0] }).IsTupleIter g0.objs.size d0 0 := ⟨_, Heap.get?_push_size _ rfl, rfl, rfl⟩
  have hR₃ : Rows4 (g0.push { cls := .type "tuple_iterator", data := .fields #[.ref d0, .int (0 : Nat) 0] }) d0 its := hRows.via fun b o _ _ e => Heap.get?_push_of_some _ e
  clear hRows N₀
  generalize g0.objs.size = It at *
  refine codeAny_forLoop_any (fun n s' => ∃ i r' l' R' m', i + n = 4 ∧ m' (Str.ofString "script") = some (.ref scr) ∧ Inv GP s₀ h₀ L wl rl wk q r' l' R' m' i s' ∧ s'.heap.IsTupleIter It d0 i ∧ Rows4 s'.heap d0 its) ?_ 4 ⟨0, r, l, R, _, rfl, ?_, ⟨I₃.fr, I₃.mw, I₃.mr, I₃.st, I₃.pm, I₃.ln, I₃.gp, I₃.os, I₃.dr⟩, hit₃, hR₃⟩
  · rintro n s' ⟨i, r', l', R', m', hin, hsc, J, hit, hR⟩
    cases n with
    | zero =>
      refine wpAny_pyNext_tuple_end hh hit hR.1 (by simp; omega) fun h' he => ?_
      dsimp only
      refine wpAny_execs_nil ?_
      have F' : Fr h₀ L h' m' := ⟨J.fr.ns.at' fun o e => he _ _ (Ne.symm hIL) e, fun b o e => he _ _ (fun z => by rw [z, hI0] at e; cases e) (J.fr.keep _ _ e), J.fr.above⟩
      have := hQ r' l' R' m' _ hsc ((J.soft (tk := s'.toks) F' (fun b o _ hf e => he _ _ (fun z => ?_) e) J.mw J.mr).more (by omega))
      · exact this
      · obtain ⟨o', ho', _, hd'⟩ := hit
        rw [z, ho'] at e; cases e
        exact hf _ hd'
    | succ n =>
      have hi4 : i < its.length := by omega
      refine wpAny_pyNext_tuple_item (x := .ref its[i].1) hit hR.1 (by simp [hi4]) fun h' hit' sb => ?_
      dsimp only
      refine letGo_tupleiter hit' ?_
      have kI : ∀ b o, (∀ vs, o.data ≠ .fields vs) → s'.heap.get? b = some o → h'.get? b = some o := fun b o hf e => (sb.2 _ (fun z => by
        obtain ⟨o', ho', _, hd'⟩ := hit
        rw [z, ho'] at e; cases e
        exact hf _ hd')).trans e
      have F' : Fr h₀ L h' m' := ⟨J.fr.ns.at' fun o e => (sb.2 _ (Ne.symm hIL)).trans e, fun b o e => (sb.2 _ (fun z => by rw [z, hI0] at e; cases e)).trans (J.fr.keep _ _ e), J.fr.above⟩
      have J' : Inv GP s₀ h₀ L wl rl wk q r' l' R' m' i { s' with heap := h' } := J.soft (tk := s'.toks) F' (fun b o _ hf e => kI b o hf e) J.mw J.mr
      have hR' : Rows4 h' d0 its := hR.via fun b o _ ⟨vs, n, hd⟩ e => kI b o (fun _ z => by rw [hd] at z; cases z) e
      refine wpAny_mono (E := fun _ _ => False) ?_ (fun _ _ x => x) (fun _ _ x => x.elim)
      obtain ⟨hx2, ⟨tx, hxt⟩, hxT⟩ := hR'.2 its[i] (List.getElem_mem hi4)
      obtain ⟨dl', N', kdl'⟩ := dump_any F'
      have ns' := F'.ns
      have em' := four_names J.mw J.mr hsc hsc
      rw [em'] at F'
      refine unpackN_ F' N' hxt hh rfl rfl fun h₂ F₂ N₂ => ?_
      have k2 := kdl' _ _ F₂ N₂
      clear F' N'
      repeat' ((fail_if_success (with_reducible show wpAny _ _ (execs [Stmt.Expr _ _, Stmt.Assign _ _ _] _) _ _ _)); (first | walk1 | (dsimp only; walk1)))
      rename_i hz h₃ F₃ N₃
      have k3 := kdl' _ _ F₃ N₃
      have ns₃ := F₃.ns
      refine wpAny_mono (put_ok hroom hh hu KX T (by omega) (J'.next F₃ k3 rfl rfl) hx2 rfl rfl (hxT.but ns' k3)) (fun f s₃ e => ?_) (fun _ _ x => x.elim)
      obtain ⟨hf, ⟨r2, l2, R2, m2, J2, hs2⟩, kx⟩ := e
      subst hf
      have S₃ := J'.st.move ns' k3
      have hit₄ : h₃.IsTupleIter It d0 (i + 1) := hit'.at fun o e => k3 _ _ hIL e
      have hR₄ : Rows4 h₃ d0 its := hR'.via fun b o _ ⟨vs, n, hd⟩ e => k3 b o (ns_ne ns' e fun _ _ z => by rw [hd] at z; cases z) e
      refine ⟨n, Nat.lt_succ_self _, i + 1, r2, l2, R2, m2, by omega, hs2.trans rfl, J2, hit₄.at fun o e => kx _ _ hIL ?_ ?_ ?_ e, hR₄.via fun b o hc hd e => tup_kx S₃ ns₃ kx b o hc hd e⟩
      · obtain ⟨o', ho', _, _, d⟩ := S₃.ro
        exact titer_ne hit₄ ho' fun _ z => by rw [d] at z; cases z
      · obtain ⟨_, e'⟩ := S₃.qo 0 (by omega)
        exact titer_ne hit₄ e' fun _ z => nomatch z
      · obtain ⟨_, e'⟩ := S₃.qo 1 (by omega)
        exact titer_ne hit₄ e' fun _ z => nomatch z
  · rfl
end
end Mine

namespace Mine
set_option maxRecDepth 100000
set_option maxHeartbeats 4000000

section
variable {p : Program} {loose : List Str} {mg mb : Str → Option Value} {prog : Program} {w : World} {A : Around} {s s₀ : Shared} {GP : Array GenState → Prop} {h₀ : Heap} {L wl rl : Addr} {wk q r : Nat → Addr} {l R : Nat → List VI} {m : Str → Option Value} {c : Nat}

theorem push_get {α : Type} (xs : Array α) (x : α) : (xs.push x)[xs.size]? = some x := by simp
theorem ret_ok (hroom : A.depth + 10 < recursionLimit) (hh : A.handled = none) (hu : A.units + 200 < cLine)
    (KX : (hd.heap_39 w.params).In h₀) (T : TopRead p loose mg mb h₀) (hgp : ∀ g, GP g → GP (g.push .finished))
    (I : Inv GP s₀ h₀ L wl rl wk q r l R m c s) (z0 : R 0 = []) (z1 : R 1 = [])
    {Q : Flow → Shared → Prop} (hQ : ∀ m' s', Fr h₀ L s'.heap m' → GP s'.gens → s'.os = s₀.os → s'.drawn = s₀.drawn → Q (.ret (.bool true)) s') :
    wpAny (model prog w) A (execs ((lawB w).drop 7) (lawEnv w L)) Q (fun _ _ => False) s := by
  have F := I.fr
  have em := four_names I.mw I.mr I.mw I.mr
  rw [em] at F
  have S := I.st
  have ns := F.ns
  obtain ⟨dl, N0, kdl⟩ := dump_any F
  obtain ⟨dx, dh, dt, dn, N⟩ := S.led (i := 0) (by omega) N0
  have l0 : l 0 = [] := by
    have := (I.pm 0 (by omega)).length_eq
    rw [z0] at this
    exact List.length_eq_zero_iff.mp (by simpa using this)
  have l1 : l 1 = [] := by
    have := (I.pm 1 (by omega)).length_eq
    rw [z1] at this
    exact List.length_eq_zero_iff.mp (by simpa using this)
  clear N0
  simp only [lawB, lawP, pick, List.drop_succ_cons, List.drop_zero]
  k_steps
  refine item_L (v := .ref (wk 0)) S.wo (by omega) (by omega) rfl ?_
  k_steps
  obtain ⟨nq, hq⟩ := S.qo 0 (by omega)
  refine wpAny_call (iter_code (l := l 0) (n := nq) (by omega) (KX.keeps F.keep) (T.keeps F.keep) (S.win 0 (by omega)).wat hq (S.tl 0 (by omega)) fun h₂ tk₂ C G c m₂ k₂ hC hG hle hCG hn₂ hg₂ U => ?_)
  dsimp only
  have F₂ := F.kept k₂
  have N₂ := N.grown k₂
  have hlim1 := (T.keeps F.keep).nolimit
  have Fk : ∀ h', Kept s.heap h' → Fr h₀ L h' _ := fun h' k => F.kept k
  have hk0 := F.keep
  clear F N
  k_steps
  refine list_gen (h₀ := s.heap) (l := l 0) hh (by omega) (by rw [l0]; decide) hlim1 k₂ (Nat.le_trans hle (Nat.le_of_lt hn₂.lt)) hg₂ (by simp) hn₂ U fun S1 ys h₃ tk₃ n₃ hS hS0 hys hty htn k₃ => ?_
  rw [push_set]
  have F₃ := Fk h₃ k₃
  have S₃ := S.move ns fun b o _ e => k₃ b o e
  have ns₃ := F₃.ns
  have hys0 : ys = [] := by
    have := congrArg List.length hys
    rw [l0] at this
    exact List.length_eq_zero_iff.mp (by simpa using this)
  subst hys0
  obtain ⟨dl₃, M₃, kdl₃⟩ := dump_any F₃
  obtain ⟨dx', dh', dt', dn', M₄⟩ := S₃.led (i := 1) (by omega) M₃
  have N₃ : News h₀ L h₃ ((S1, hobj [] n₃) :: (wk 1, instObj 80 dx') :: (dx', dictOf [⟨dh', .str (Str.ofString "pq") dt', .ref (q 1)⟩] dn') :: dl₃) := fun p hp => by
    rcases List.mem_cons.mp hp with rfl | hp
    · exact ⟨hS, ns_ne ns₃ hS (fun _ _ z => nomatch z), by
        cases e : h₀.get? S1 with
        | none => rfl
        | some o => rw [hk0 _ _ e] at hS0; cases hS0⟩
    · exact M₄ p hp
  clear F₂ N₂ M₃ M₄
  k_steps
  rename_i E₄ h₄ F₄ N₄ l₄
  have k4 := kdl₃ _ _ F₄ (fun p hp => N₄ p (by simp [hp]))
  have S₄ := S₃.move ns₃ k4
  have ns₄ := F₄.ns
  refine item_L (v := .ref (wk 1)) S₄.wo (by omega) (by omega) rfl ?_
  k_steps
  obtain ⟨nq', hq'⟩ := S₄.qo 1 (by omega)
  refine wpAny_call (iter_code (l := l 1) (n := nq') (by omega) (KX.keeps F₄.keep) (T.keeps F₄.keep) (S₄.win 1 (by omega)).wat hq' (S₄.tl 1 (by omega)) fun h₅ tk₅ C' G' c' m₅ k₅ hC' hG' hle' hCG' hn₅ hg₅ U' => ?_)
  dsimp only
  have F₅ := F₄.kept k₅
  have N₅ := N₄.grown k₅
  have hlim4 := (T.keeps F₄.keep).nolimit
  have Fk4 : ∀ h', Kept h₄ h' → Fr h₀ L h' _ := fun h' k => F₄.kept k
  have hk4 := F₄.keep
  clear F₄ N₄
  k_steps
  refine list_gen (h₀ := h₄) (l := l 1) hh (by omega) (by rw [l1]; decide) hlim4 k₅ (Nat.le_trans hle' (Nat.le_of_lt hn₅.lt)) hg₅ (push_get _ _) hn₅ U' fun S2 ys' h₆ tk₆ n₆ hS' hS0' hys' hty' htn' k₆ => ?_
  have hys0' : ys' = [] := by
    have := congrArg List.length hys'
    rw [l1] at this
    exact List.length_eq_zero_iff.mp (by simpa using this)
  subst hys0'
  have F₆ := Fk4 h₆ k₆
  have ns₆ := F₆.ns
  have N₆ : News h₀ L h₆ [(S2, hobj [] n₆)] := fun p hp => by
    rw [List.mem_singleton.mp hp]
    exact ⟨hS', ns_ne ns₆ hS' (fun _ _ z => nomatch z), by
      cases e : h₀.get? S2 with
      | none => rfl
      | some o => rw [hk4 _ _ e] at hS0'; cases hS0'⟩
  clear F₅ N₅
  rw [push_set]
  k_steps
  rename_i hA F₇ N₇ _
  exact hQ _ _ F₇ (hgp _ (hgp _ I.gp)) I.os I.dr
end
end Mine

namespace Mine
set_option maxRecDepth 100000
set_option maxHeartbeats 4000000

section
variable {p : Program} {loose : List Str} {mg mb : Str → Option Value} {prog : Program} {w : World} {A : Around} {s s₀ : Shared} {GP : Array GenState → Prop} {h₀ : Heap} {L wl rl : Addr} {wk q r : Nat → Addr} {l R : Nat → List VI} {m : Str → Option Value} {c : Nat}

theorem rest_ok (hroom : A.depth + 10 < recursionLimit) (hh : A.handled = none) (hu : A.units + 200 < cLine)
    (KX : (hd.heap_39 w.params).In h₀) (T : TopRead p loose mg mb h₀) (hgp : ∀ g, GP g → GP (g.push .finished)) (hc : c < 50)
    (I : Inv GP s₀ h₀ L wl rl wk q r l R m c s)
    {Q : Flow → Shared → Prop} (hQ : ∀ m' s', Fr h₀ L s'.heap m' → GP s'.gens → s'.os = s₀.os → s'.drawn = s₀.drawn → Q (.ret (.bool true)) s') :
    wpAny (model prog w) A (execs ((lawB w).drop 4) (lawEnv w L)) Q (fun _ _ => False) s := by
  have F := I.fr
  have em := four_names I.mw I.mr I.mw I.mr
  rw [em] at F
  have S := I.st
  have ns := F.ns
  obtain ⟨dl, N, kdl⟩ := dump_any F
  have hll : ∀ i, i < 2 → (l i).length < 60 := fun i hi => by
    have e1 := (I.pm i hi).length_eq
    have e2 := I.ln i hi
    simp at e1
    omega
  simp only [lawB, lawP, pick, List.drop_succ_cons, List.drop_zero]
  k_steps
  refine item_L (v := .ref (wk 0)) S.wo (by omega) (by omega) rfl ?_
  k_steps
  refine item_L (v := .ref (r 0)) S.ro (by omega) (by omega) rfl ?_
  k_steps
  obtain ⟨nq, hq⟩ := S.qo 0 (by omega)
  obtain ⟨nr, hr⟩ := S.rr 0 (by omega)
  refine wpAny_call (read_code (l := l 0) (rl := R 0) (n := nq) hroom hh (by omega) (KX.keeps F.keep) (T.keeps F.keep) (S.win 0 (by omega)).wat hq (S.tl 0 (by omega)) (S.hp 0 (by omega)) (hll 0 (by omega)) ⟨_, hr, rfl, nr, rfl⟩ (S.tr 0 (by omega)) (I.pm 0 (by omega)) fun h₂ tk₂ k₂ => ?_)
  dsimp only
  have F₂ := F.kept k₂
  have N₂ := N.grown k₂
  have S₂ := S.move ns fun b o _ e => k₂ b o e
  have ns₂ := F₂.ns
  clear F N
  k_steps
  refine item_L (v := .ref (wk 1)) S₂.wo (by omega) (by omega) rfl ?_
  k_steps
  refine item_L (v := .ref (r 1)) S₂.ro (by omega) (by omega) rfl ?_
  k_steps
  obtain ⟨nq2, hq2⟩ := S₂.qo 1 (by omega)
  obtain ⟨nr2, hr2⟩ := S₂.rr 1 (by omega)
  refine wpAny_call (read_code (l := l 1) (rl := R 1) (n := nq2) hroom hh (by omega) (KX.keeps F₂.keep) (T.keeps F₂.keep) (S₂.win 1 (by omega)).wat hq2 (S₂.tl 1 (by omega)) (S₂.hp 1 (by omega)) (hll 1 (by omega)) ⟨_, hr2, rfl, nr2, rfl⟩ (S₂.tr 1 (by omega)) (I.pm 1 (by omega)) fun h₃ tk₃ k₃ => ?_)
  dsimp only
  have F₃ := F₂.kept k₃
  have S₃ := S₂.move ns₂ fun b o _ e => k₃ b o e
  have ns₃ := F₃.ns
  obtain ⟨dl₃, N₃, kdl₃⟩ := dump_any F₃
  clear F₂ N₂
  repeat' ((fail_if_success (with_reducible show wpAny _ _ (exec (Stmt.While _ _ _ _) _) _ _ _)); (first | walk1 | (dsimp only; walk1)))
  rename_i h₄ F₄ N₄
  have k4 := kdl₃ _ _ F₄ N₄
  have I₄ : Inv GP s₀ h₀ L wl rl wk q r l R _ c { s with heap := h₄, gens := (s.gens.push GenState.finished).push GenState.finished, toks := tk₃ + 1 + 1 } :=
    ⟨F₄, rfl, rfl, S₃.move ns₃ k4, I.pm, I.ln, hgp _ (hgp _ I.gp), I.os, I.dr⟩
  refine last_ok hroom hh hu KX T hgp hc I₄ rfl fun r' l' R' m' s' J z0 z1 => ?_
  dsimp only
  exact ret_ok hroom hh hu KX T hgp J z0 z1 hQ

end
end Mine

namespace Mine
set_option maxRecDepth 100000
set_option maxHeartbeats 4000000

section
variable {p : Program} {loose : List Str} {mg mb : Str → Option Value} {prog : Program} {w : World} {A : Around} {s s₀ : Shared} {GP : Array GenState → Prop} {h₀ : Heap} {L wl rl : Addr} {wk q r : Nat → Addr} {l R : Nat → List VI} {m : Str → Option Value} {c : Nat}

theorem none_ne {h : Heap} {a L : Addr} {m : Str → Option Value} (N : h.Ns L m) (e : h.get? a = none) : a ≠ L := fun z => by
  obtain ⟨o, _, _, ho, _⟩ := N
  rw [z, ho] at e
  cases e
theorem none_up {h h' : Heap} {a : Addr} (k : ∀ b o, h.get? b = some o → h'.get? b = some o) (e : h'.get? a = none) : h.get? a = none := by
  cases z : h.get? a with
  | none => rfl
  | some o => rw [k _ _ z] at e; cases e

theorem law_body {R : Flow → Shared → Prop} {scr : Addr} {vs : List Value} {ns : List Int} {h₁ : Heap} {tk0 : Nat}
    (hroom : A.depth + 10 < recursionLimit) (hh : A.handled = none) (hu : A.units + 200 < cLine)
    (KX : (hd.heap_39 w.params).In s.heap) (T : TopRead p loose mg mb s.heap)
    (hr : s.heap.IsList scr vs.toArray) (hns : IntsAre vs ns) (hsz : ns.length ≤ 1000) (hgp : ∀ g, GP g → GP (g.push .finished)) (hg0 : GP s.gens)
    (F : Fr s.heap s.heap.objs.size h₁ (fun y => List.lookup y [(Str.ofString "script", Value.ref scr)].reverse)) (N : News s.heap s.heap.objs.size h₁ [])
    (h : ∀ h' tk gs, Kept s.heap h' → GP gs → R (.ret (.bool true)) { s with heap := h', toks := tk, gens := gs }) :
    wpAny (model prog w) A (execs (lawB w) (lawEnv w s.heap.objs.size)) R (fun _ _ => False) { s with heap := h₁, toks := tk0 } := by
  simp only [lawB, lawP, pick]
  k_steps
  refine wpAny_call (work_new (by omega) (KX.keeps F.keep) (T.keeps F.keep) fun h₂ tk₂ w0 q0 n0 k₂ W0 Q0 w0n q0n => ?_)
  dsimp only
  have F₂ := F.kept k₂
  have N₂ := N.grown k₂
  have hk1 := F.keep
  have ns1 := F.ns
  k_steps
  refine wpAny_call (work_new (by omega) (KX.keeps F₂.keep) (T.keeps F₂.keep) fun h₃ tk₃ w1 q1 n1 k₃ W1 Q1 w1n q1n => ?_)
  dsimp only
  have F₃ := F₂.kept k₃
  have hk2 := F₂.keep
  have ns2 := F₂.ns
  have hd3 : ∀ a, a ≠ s.heap.objs.size → s.heap.get? a = none → (∃ o, h₃.get? a = some o) → ∃ o, (a, o) ∈ dump s.heap s.heap.objs.size h₃ := fun a ha h0 ⟨o, ho⟩ => ⟨o, mem_ownOf (by simp [ha]; exact Heap.lt_size ho) h0 ho⟩
  have Ndl : News s.heap s.heap.objs.size h₃ (dump s.heap s.heap.objs.size h₃) := dump_news
  have kdl : ∀ h' m' nx, Fr s.heap s.heap.objs.size h' m' → News s.heap s.heap.objs.size h' nx → (∀ p ∈ dump s.heap s.heap.objs.size h₃, p ∈ nx) → ∀ b o, b ≠ s.heap.objs.size → h₃.get? b = some o → h'.get? b = some o := fun h' m' nx F' N' sub => dump_keep F₃ F' N' sub
  generalize dump s.heap s.heap.objs.size h₃ = dl at *
  clear N N₂ F F₂
  repeat' ((fail_if_success (with_reducible show wpAny _ _ (exec (Stmt.For _ _ _ _ _) _) _ _ _)); (first | walk1 | (dsimp only; walk1)))
  rename_i wl g5 lw g4 tkz r0 g3 lr0 r1 g2 lr1 rl g1 lrl h₄ F₄ N₄
  have k4 := kdl _ _ _ F₄ N₄ (fun p hp => .tail _ (.tail _ (.tail _ (.tail _ hp))))
  have mkI : ∀ m', Fr s.heap s.heap.objs.size h₄ m' → m' (Str.ofString "works") = some (.ref wl) → m' (Str.ofString "rows") = some (.ref rl) →
      Inv GP s s.heap s.heap.objs.size wl rl (fun j => if j = 0 then w0 else w1) (fun j => if j = 0 then q0 else q1) (fun j => if j = 0 then r0 else r1) (fun _ => []) (fun _ => []) m' 0 { s with heap := h₄, toks := tk } := by
    intro m' F' mw mr
    have q0L := none_ne ns1 q0n
    have q1L := none_ne ns2 q1n
    have q00 := none_up hk1 q0n
    have q10 := none_up hk2 q1n
    have hq0 : h₃.get? q0 = some (hobj [] n0) := k₃ _ _ Q0
    obtain ⟨_, dq0⟩ := hd3 q0 q0L q00 ⟨_, hq0⟩
    obtain ⟨_, dq1⟩ := hd3 q1 q1L q10 ⟨_, Q1⟩
    have i1 : ∀ j, j < 2 → j = 0 ∨ j = 1 := fun j hj => by omega
    refine ⟨F', mw, mr, ⟨⟨_, (N₄ _ (.tail _ (.tail _ (.tail _ (.head _))))).1, rfl, _, rfl⟩, ⟨_, (N₄ _ (.head _)).1, rfl, _, rfl⟩, fun j hj => ?_, fun j hj => ?_, fun j hj => ?_, fun j hj x hx => (nomatch hx), fun j hj x hx => (nomatch hx), fun j hj i z1 z2 => absurd z2 (Nat.not_lt_zero _), ?_, ?_, fun j hj => ?_, fun i j hi hj => ?_, (N₄ _ (.head _)).2.2, (N₄ _ (.tail _ (.tail _ (.tail _ (.head _))))).2.2, fun j hj => ?_⟩, fun j hj => List.Perm.refl _, fun j hj => Nat.le_refl _, hg0, rfl, rfl⟩
    · rcases i1 j hj with rfl | rfl
      · obtain ⟨dx, hs, t, n, I, a⟩ := W0
        exact ⟨dx, hs, t, n, ⟨k4 _ _ (none_ne ns1 w0n) (k₃ _ _ I.at_), I.cls, I.no, k4 _ _ (none_ne ns1 a) (k₃ _ _ I.dict)⟩, none_up hk1 a, none_ne ns1 a, none_up hk1 w0n, none_ne ns1 w0n⟩
      · obtain ⟨dx, hs, t, n, I, a⟩ := W1
        exact ⟨dx, hs, t, n, ⟨k4 _ _ (none_ne ns2 w1n) I.at_, I.cls, I.no, k4 _ _ (none_ne ns2 a) I.dict⟩, none_up hk2 a, none_ne ns2 a, none_up hk2 w1n, none_ne ns2 w1n⟩
    · rcases i1 j hj with rfl | rfl
      · exact ⟨n0, k4 _ _ q0L hq0⟩
      · exact ⟨n1, k4 _ _ q1L Q1⟩
    · rcases i1 j hj with rfl | rfl
      · exact ⟨_, (N₄ _ (.tail _ (.tail _ (.head _)))).1⟩
      · exact ⟨_, (N₄ _ (.tail _ (.head _))).1⟩
    · intro z
      have z' : q0 = q1 := z
      rw [← z', show h₂.get? q0 = some _ from Q0] at q1n
      cases q1n
    · exact Nat.ne_of_gt lrl.2.2.1
    · rcases i1 j hj with rfl | rfl
      · exact ⟨Nat.ne_of_lt (lw _ dq0), Nat.ne_of_lt (kst_ltOf lrl.2.2.2 _ dq0), Nat.ne_of_lt lrl.2.1⟩
      · exact ⟨Nat.ne_of_lt (lw _ dq1), Nat.ne_of_lt (kst_ltOf lrl.2.2.2 _ dq1), Nat.ne_of_lt lrl.1⟩
    · rcases i1 i hi with rfl | rfl <;> rcases i1 j hj with rfl | rfl
      · exact Nat.ne_of_lt (kst_ltOf lr0.2 _ dq0)
      · exact Nat.ne_of_lt (kst_ltOf lr1.2.2 _ dq0)
      · exact Nat.ne_of_lt (kst_ltOf lr0.2 _ dq1)
      · exact Nat.ne_of_lt (kst_ltOf lr1.2.2 _ dq1)
    · rcases i1 j hj with rfl | rfl
      · exact q00
      · exact q10
  have J0 := mkI _ F₄ rfl rfl
  have Fo := fun Q => @first_ok p loose mg mb prog w A _ _ GP s.heap s.heap.objs.size _ _ _ _ _ _ _ _ hroom hh hu KX T J0 scr rfl Q
  unfold firstFor at Fo
  simp only [lawB, lawP, pick, List.getD_cons_succ, List.getD_cons_zero] at Fo
  generalize exec (Stmt.For (Expr.Tuple _ _ _) _ _ _ _) (lawEnv w s.heap.objs.size) = X at Fo ⊢
  refine Fo _ fun r' l' R' m' s' hsc J => ?_
  clear Fo
  dsimp only
  refine wpAny_execs_cons ?_
  have Mo := fun Q => @main_ok p loose mg mb prog w A _ _ GP s.heap s.heap.objs.size _ _ _ _ _ _ _ _ _ hroom hh hu KX T hgp (Nat.le_refl _) J scr vs ns hsc hr hns hsz Q
  unfold mainFor at Mo
  simp only [lawB, lawP, pick, List.getD_cons_succ, List.getD_cons_zero] at Mo
  generalize exec (Stmt.For (Expr.Name _ _) _ _ _ _) (lawEnv w s.heap.objs.size) = X at Mo ⊢
  refine Mo _ fun r2 l2 R2 m2 s2 J2 => ?_
  clear Mo
  dsimp only
  have Ro := fun Q => @rest_ok p loose mg mb prog w A _ _ GP s.heap s.heap.objs.size _ _ _ _ _ _ _ _ _ hroom hh hu KX T hgp (by decide) J2 Q
  simp only [lawB, lawP, pick, List.drop_succ_cons, List.drop_zero] at Ro
  generalize execs _ (lawEnv w s.heap.objs.size) = X at Ro ⊢
  refine Ro _ fun m3 s3 F3 g3 o3 d3 => ?_
  have := h s3.heap s3.toks s3.gens F3.keep g3
  rw [← o3, ← d3] at this
  exact this
end
end Mine

namespace Mine
set_option maxRecDepth 100000
set_option maxHeartbeats 4000000

section
variable {p : Program} {loose : List Str} {mg mb : Str → Option Value} {prog : Program} {w : World} {A : Around} {s s₀ : Shared} {GP : Array GenState → Prop} {h₀ : Heap} {L wl rl : Addr} {wk q r : Nat → Addr} {l R : Nat → List VI} {m : Str → Option Value} {c : Nat}


theorem law_code {R : Result → Shared → Prop} {scr : Addr} {vs : List Value} {ns : List Int}
    (hroom : A.depth + 20 < recursionLimit) (hh : A.handled = none) (hu : A.units + 300 < cLine)
    (KX : (hd.heap_39 w.params).In s.heap) (T : TopRead p loose mg mb s.heap)
    (hr : s.heap.IsList scr vs.toArray) (hns : IntsAre vs ns) (hsz : ns.length ≤ 1000) (hgp : ∀ g, GP g → GP (g.push .finished)) (hg0 : GP s.gens)
    (h : ∀ h' tk gs, Kept s.heap h' → GP gs → R (.ok (.ret (.bool true))) { s with heap := h', toks := tk, gens := gs }) :
    codeAny (model prog w) A (.call (.ref 126) ⟨[.ref scr], []⟩) R s := by
  refine' enter (binds := [(Str.ofString "script", .ref scr)]) KX T.nolimit ?ho ?hcd (by omega) ?hb ?hl ?_ ?c1 ?c2 ?c3 ?c4
  case ho => k_is
  case hcd => k_is
  case hb => exact BindsTo.of_eq rfl
  case hl => exact locs rfl
  case c4 => decide
  case c1 => rfl
  case c2 => rfl
  case c3 => rfl
  intro h₁ F N
  have hA1 : (A.deeper (lawEnv w s.heap.objs.size)).depth + 10 < recursionLimit := by show A.depth + 1 + 10 < _; omega
  have hA2 : (A.deeper (lawEnv w s.heap.objs.size)).units + 200 < cLine := by show A.units + 3 + 200 < _; omega
  have hA3 : (A.deeper (lawEnv w s.heap.objs.size)).handled = none := hh
  have fin : wpAny (model prog w) (A.deeper (lawEnv w s.heap.objs.size)) (execs (lawB w) (lawEnv w s.heap.objs.size)) (fun fl s' => R (.ok (.ret (match fl with | .ret v => v | _ => .none))) s') (fun _ _ => False) { s with heap := h₁, toks := s.toks + 1 } := by
    generalize A.deeper (lawEnv w s.heap.objs.size) = A1 at *
    exact law_body hA1 hA3 hA2 KX T hr hns hsz hgp hg0 F N h
  simp only [lawB, lawEnv, lawP, pick] at fin
  generalize execs _ _ = X at fin ⊢
  generalize A.deeper _ = A1 at fin ⊢
  exact fin
end
end Mine

namespace Mine
set_option maxRecDepth 100000
set_option maxHeartbeats 8000000
theorem holds : PySem.Challenge.rw_aq6018_01.Holds := hd (by
  k_fill
  intro w s₀ s₁ mg mb G Y fa o pm cd doc dV kV ho hd hcd hD hmg hg args vals as hpre hlay hrd hwl hlo
  have KX := kIn_of Y
  have e1 : mg (Str.ofString "law") = some (.ref 126) := mg_of KX G.T.g (by k_is)
  have e2 : mg (Str.ofString "law") = some (.ref fa) := hmg
  obtain rfl : fa = 126 := by rw [e1] at e2; cases e2; rfl
  have T := topRead_of G.T
  clear ho hd hcd hD hmg e1 e2
  wrow_args hpre hlay hrd hwl hlo
  all_goals refine enter_call ?_
  rename_i ns _ _ _ _ _ _ _ scr vs _ hL _ _ _ hI _ hlen _
  refine law_code (GP := fun g => AllBare g) (by decide) rfl (by decide) KX T hL hI (by omega) (fun g x => x.push rfl) (AllBare.of_eq hg) fun h' tk gs k gp => ?_
  refine ⟨.inl ⟨.bool true, _, _, rfl, fun _ => rfl, .bool true, ?_, fun _ => ⟨List.nodup_nil, fun _ h => nomatch h⟩⟩, .of_keep k, rfl, gp⟩
  exact postW_of (X := (true == true)) (by simp [WShape.has, OpenLaw.row, WShape.arms]) (w_eq_bool (w_res rfl) w_lit) rfl)
end Mine

theorem PySem.Challenge.cw_aq6018_01_holds : PySem.Challenge.rw_aq6018_01.Holds := by
  exact Mine.holds
