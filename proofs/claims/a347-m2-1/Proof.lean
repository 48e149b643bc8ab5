import JvmDerived
import JvmDerived.Pilot.@@N@@Statement
import JvmDerived.Pilot.@@N@@Code
set_option linter.unusedVariables false
set_option linter.unusedSimpArgs false
@@BLOCK:HandJ.lean.txt@@
@@BLOCK:HandW.lean.txt@@
@@BLOCK:HandBits.lean.txt@@
@@BLOCK:SymRun.lean.txt@@
@@BLOCK:RowBasics.lean.txt@@
@@BLOCK:Bridge.lean.txt@@
@@BLOCK:SymKit.lean.txt@@
@@BLOCK:SymWays.lean.txt@@
@@BLOCK:NumsL.lean.txt@@
@@BLOCK:Masks.lean.txt@@
namespace Jvm.Pilot.@@N@@
open Jvm Jvm.ClassFile Sem Op Jvm.Sym Jvm.Pilot.@@N@@.Jvm.D
/-! 0. own tools: the needs of a walk by the kinds of its terms; a tree without its closed and its repeated guards -/
def own_nz : Term → Bool
  | .int c => c != 0
  | .long c => c != 0
  | .old t => own_nz t
  | _ => false
def own_bin : Binary → VKind → VKind → Option VKind
  | .iand, .int, .int => some .int
  | .ior, .int, .int => some .int
  | .ixor, .int, .int => some .int
  | .ishl, .int, .int => some .int
  | .ishr, .int, .int => some .int
  | .iushr, .int, .int => some .int
  | .ladd, .long, .long => some .long
  | .lsub, .long, .long => some .long
  | .lmul, .long, .long => some .long
  | .land, .long, .long => some .long
  | .lor, .long, .long => some .long
  | .lxor, .long, .long => some .long
  | .lcmp, .long, .long => some .int
  | .lshl, .long, .int => some .long
  | .lshr, .long, .int => some .long
  | .lushr, .long, .int => some .long
  | _, _, _ => none
def own_un : Unary → VKind → Option VKind
  | .ineg, .int => some .int
  | .i2b, .int => some .int
  | .i2c, .int => some .int
  | .i2s, .int => some .int
  | .i2l, .int => some .long
  | .lneg, .long => some .long
  | .l2i, .long => some .int
  | _, _ => none
def own_divs : Binary → Bool
  | .ldiv => true
  | .lrem => true
  | _ => false
def own_ii (p q : Option VKind) : Bool := match p, q with
  | some .int, some .int => true
  | _, _ => false
def own_ll (p q : Option VKind) : Bool := match p, q with
  | some .long, some .long => true
  | _, _ => false
def own_kind (ks : List VKind) : Term → Option VKind
  | .arg i => match ks[i]? with
    | some .int => some .int
    | some .long => some .long
    | _ => none
  | .int _ => some .int
  | .long _ => some .long
  | .old t => own_kind ks t
  | .add a b => if own_ii (own_kind ks a) (own_kind ks b) then some .int else none
  | .sub a b => if own_ii (own_kind ks a) (own_kind ks b) then some .int else none
  | .mul a b => if own_ii (own_kind ks a) (own_kind ks b) then some .int else none
  | .div a b => if own_ii (own_kind ks a) (own_kind ks b) && own_nz b then some .int else none
  | .rem a b => if own_ii (own_kind ks a) (own_kind ks b) && own_nz b then some .int else none
  | .op2 o a b => if own_divs o then (if own_ll (own_kind ks a) (own_kind ks b) && own_nz b then some .long else none)
    else match own_kind ks a, own_kind ks b with
      | some p, some q => own_bin o p q
      | _, _ => none
  | .op1 o a => match own_kind ks a with
    | some p => own_un o p
    | none => none
  | _ => none
/-- a value of this kind -/
def own_worth (k : VKind) (v : Option Value) : Prop := (k = .int ∧ ∃ n, v = some (.int n)) ∨ (k = .long ∧ ∃ n, v = some (.long n))
def own_typed (ks : List VKind) (A : Array Value) : Prop := ∀ (i : Nat) (k : VKind), ks[i]? = some k → own_worth k A[i]?
theorem own_nz_spec {A : Array Value} {s : State} {idx : List Nat} : ∀ (t : Term), own_nz t = true → (∃ c : Int32, c ≠ 0 ∧ t.eval A s none idx s = some (.int c)) ∨ (∃ c : Int64, c ≠ 0 ∧ t.eval A s none idx s = some (.long c)) := by
  intro t
  induction t with
  | int c => intro h; exact .inl ⟨c, by simpa [own_nz] using h, rfl⟩
  | long c => intro h; exact .inr ⟨c, by simpa [own_nz] using h, rfl⟩
  | old t ih => intro h; exact ih h
  | _ => intro h; simp [own_nz] at h
theorem own_ii_spec {p q : Option VKind} (h : own_ii p q = true) : p = some .int ∧ q = some .int := by
  unfold own_ii at h
  split at h
  · exact ⟨rfl, rfl⟩
  · cases h
theorem own_ll_spec {p q : Option VKind} (h : own_ll p q = true) : p = some .long ∧ q = some .long := by
  unfold own_ll at h
  split at h
  · exact ⟨rfl, rfl⟩
  · cases h
theorem own_int {v : Option Value} (h : own_worth .int v) : ∃ n, v = some (.int n) := by
  rcases h with ⟨_, h⟩ | ⟨h, _⟩
  · exact h
  · cases h
theorem own_long {v : Option Value} (h : own_worth .long v) : ∃ n, v = some (.long n) := by
  rcases h with ⟨h, _⟩ | ⟨_, h⟩
  · cases h
  · exact h
theorem own_kind_spec {ks : List VKind} {A : Array Value} {s : State} {idx : List Nat} (hA : own_typed ks A) : ∀ (t : Term) (k : VKind), own_kind ks t = some k → own_worth k (t.eval A s none idx s) := by
  intro t
  induction t with
  | arg i =>
    intro k h
    simp only [own_kind] at h
    split at h
    · rename_i h0; cases h; exact hA i _ h0
    · rename_i h0; cases h; exact hA i _ h0
    · cases h
  | int c => intro k h; cases h; exact .inl ⟨rfl, _, rfl⟩
  | long c => intro k h; cases h; exact .inr ⟨rfl, _, rfl⟩
  | old t ih => intro k h; exact ih k h
  | add a b iha ihb =>
    intro k h
    simp only [own_kind] at h
    split at h
    · rename_i h0; cases h
      obtain ⟨ha, hb⟩ := own_ii_spec h0
      obtain ⟨x, hx⟩ := own_int (iha _ ha); obtain ⟨y, hy⟩ := own_int (ihb _ hb)
      exact .inl ⟨rfl, _, by simp only [Term.eval, hx, hy]; rfl⟩
    · cases h
  | sub a b iha ihb =>
    intro k h
    simp only [own_kind] at h
    split at h
    · rename_i h0; cases h
      obtain ⟨ha, hb⟩ := own_ii_spec h0
      obtain ⟨x, hx⟩ := own_int (iha _ ha); obtain ⟨y, hy⟩ := own_int (ihb _ hb)
      exact .inl ⟨rfl, _, by simp only [Term.eval, hx, hy]; rfl⟩
    · cases h
  | mul a b iha ihb =>
    intro k h
    simp only [own_kind] at h
    split at h
    · rename_i h0; cases h
      obtain ⟨ha, hb⟩ := own_ii_spec h0
      obtain ⟨x, hx⟩ := own_int (iha _ ha); obtain ⟨y, hy⟩ := own_int (ihb _ hb)
      exact .inl ⟨rfl, _, by simp only [Term.eval, hx, hy]; rfl⟩
    · cases h
  | div a b iha ihb =>
    intro k h
    simp only [own_kind] at h
    split at h
    · rename_i h0; cases h
      rw [Bool.and_eq_true] at h0
      obtain ⟨ha, hb⟩ := own_ii_spec h0.1
      obtain ⟨x, hx⟩ := own_int (iha _ ha); obtain ⟨y, hy⟩ := own_int (ihb _ hb)
      have hz : y ≠ 0 := by
        rcases own_nz_spec (A := A) (s := s) (idx := idx) b h0.2 with ⟨c, hc, he⟩ | ⟨c, hc, he⟩
        · rw [hy] at he; cases he; exact hc
        · rw [hy] at he; cases he
      exact .inl ⟨rfl, x / y, by simp [Term.eval, hx, hy, hz]⟩
    · cases h
  | rem a b iha ihb =>
    intro k h
    simp only [own_kind] at h
    split at h
    · rename_i h0; cases h
      rw [Bool.and_eq_true] at h0
      obtain ⟨ha, hb⟩ := own_ii_spec h0.1
      obtain ⟨x, hx⟩ := own_int (iha _ ha); obtain ⟨y, hy⟩ := own_int (ihb _ hb)
      have hz : y ≠ 0 := by
        rcases own_nz_spec (A := A) (s := s) (idx := idx) b h0.2 with ⟨c, hc, he⟩ | ⟨c, hc, he⟩
        · rw [hy] at he; cases he; exact hc
        · rw [hy] at he; cases he
      exact .inl ⟨rfl, x % y, by simp [Term.eval, hx, hy, hz]⟩
    · cases h
  | op2 o a b iha ihb =>
    intro k h
    simp only [own_kind] at h
    split at h
    · rename_i ho
      split at h
      · rename_i h0; cases h
        rw [Bool.and_eq_true] at h0
        obtain ⟨ha, hb⟩ := own_ll_spec h0.1
        obtain ⟨x, hx⟩ := own_long (iha _ ha); obtain ⟨y, hy⟩ := own_long (ihb _ hb)
        have hz : y ≠ 0 := by
          rcases own_nz_spec (A := A) (s := s) (idx := idx) b h0.2 with ⟨c, hc, he⟩ | ⟨c, hc, he⟩
          · rw [hy] at he; cases he
          · rw [hy] at he; cases he; exact hc
        refine .inr ⟨rfl, ?_⟩
        cases o <;> simp only [own_divs, Bool.false_eq_true] at ho
        · exact ⟨x / y, by simp [Term.eval, hx, hy, Binary.apply, hz]⟩
        · exact ⟨x - (x / y) * y, by simp [Term.eval, hx, hy, Binary.apply, hz]⟩
      · cases h
    · split at h
      · rename_i p q hp hq
        have wa := iha _ hp
        have wb := ihb _ hq
        rcases wa with ⟨rfl, x, hx⟩ | ⟨rfl, x, hx⟩ <;> rcases wb with ⟨rfl, y, hy⟩ | ⟨rfl, y, hy⟩ <;> cases o <;> simp only [own_bin, reduceCtorEq, Option.some.injEq] at h <;> subst h <;>
          first
          | exact .inl ⟨rfl, _, by simp only [Term.eval, hx, hy]; rfl⟩
          | exact .inr ⟨rfl, _, by simp only [Term.eval, hx, hy]; rfl⟩
      · cases h
  | op1 o a iha =>
    intro k h
    simp only [own_kind] at h
    split at h
    · rename_i p hp
      have wa := iha _ hp
      rcases wa with ⟨rfl, x, hx⟩ | ⟨rfl, x, hx⟩ <;> cases o <;> simp only [own_un, reduceCtorEq, Option.some.injEq] at h <;> subst h <;>
        first
        | exact .inl ⟨rfl, _, by simp only [Term.eval, hx]; rfl⟩
        | exact .inr ⟨rfl, _, by simp only [Term.eval, hx]; rfl⟩
    · cases h
  | _ => intro k h; simp [own_kind] at h
def own_def (ks : List VKind) : Jvm.Cond → Bool
  | .tt => true
  | .eq a b => own_ii (own_kind ks a) (own_kind ks b) || own_ll (own_kind ks a) (own_kind ks b)
  | .lt a b => own_ii (own_kind ks a) (own_kind ks b) || own_ll (own_kind ks a) (own_kind ks b)
  | .le a b => own_ii (own_kind ks a) (own_kind ks b) || own_ll (own_kind ks a) (own_kind ks b)
  | .not c => own_def ks c
  | .and a b => own_def ks a && own_def ks b
  | .or a b => own_def ks a && own_def ks b
  | _ => false
theorem own_def_spec {ks : List VKind} {A : Array Value} {s : State} {idx : List Nat} (hA : own_typed ks A) : ∀ (c : Jvm.Cond), own_def ks c = true → ∃ b, c.value A s none s idx = some b := by
  intro c
  induction c with
  | tt => intro _; exact ⟨true, rfl⟩
  | eq a b =>
    intro h
    simp only [own_def, Bool.or_eq_true] at h
    rcases h with h | h
    · obtain ⟨ha, hb⟩ := own_ii_spec h
      obtain ⟨x, hx⟩ := own_int (own_kind_spec (s := s) (idx := idx) hA a _ ha); obtain ⟨y, hy⟩ := own_int (own_kind_spec (s := s) (idx := idx) hA b _ hb)
      exact ⟨decide (x = y), by simp [Jvm.Cond.value, hx, hy]⟩
    · obtain ⟨ha, hb⟩ := own_ll_spec h
      obtain ⟨x, hx⟩ := own_long (own_kind_spec (s := s) (idx := idx) hA a _ ha); obtain ⟨y, hy⟩ := own_long (own_kind_spec (s := s) (idx := idx) hA b _ hb)
      exact ⟨decide (x = y), by simp [Jvm.Cond.value, hx, hy]⟩
  | lt a b =>
    intro h
    simp only [own_def, Bool.or_eq_true] at h
    rcases h with h | h
    · obtain ⟨ha, hb⟩ := own_ii_spec h
      obtain ⟨x, hx⟩ := own_int (own_kind_spec (s := s) (idx := idx) hA a _ ha); obtain ⟨y, hy⟩ := own_int (own_kind_spec (s := s) (idx := idx) hA b _ hb)
      exact ⟨decide (x < y), by simp [Jvm.Cond.value, hx, hy]⟩
    · obtain ⟨ha, hb⟩ := own_ll_spec h
      obtain ⟨x, hx⟩ := own_long (own_kind_spec (s := s) (idx := idx) hA a _ ha); obtain ⟨y, hy⟩ := own_long (own_kind_spec (s := s) (idx := idx) hA b _ hb)
      exact ⟨decide (x < y), by simp [Jvm.Cond.value, hx, hy]⟩
  | le a b =>
    intro h
    simp only [own_def, Bool.or_eq_true] at h
    rcases h with h | h
    · obtain ⟨ha, hb⟩ := own_ii_spec h
      obtain ⟨x, hx⟩ := own_int (own_kind_spec (s := s) (idx := idx) hA a _ ha); obtain ⟨y, hy⟩ := own_int (own_kind_spec (s := s) (idx := idx) hA b _ hb)
      exact ⟨decide (x ≤ y), by simp [Jvm.Cond.value, hx, hy]⟩
    · obtain ⟨ha, hb⟩ := own_ll_spec h
      obtain ⟨x, hx⟩ := own_long (own_kind_spec (s := s) (idx := idx) hA a _ ha); obtain ⟨y, hy⟩ := own_long (own_kind_spec (s := s) (idx := idx) hA b _ hb)
      exact ⟨decide (x ≤ y), by simp [Jvm.Cond.value, hx, hy]⟩
  | not c ih =>
    intro h
    obtain ⟨b, hb⟩ := ih h
    exact ⟨!b, by simp [Jvm.Cond.value, hb]⟩
  | and a b iha ihb =>
    intro h
    simp only [own_def, Bool.and_eq_true] at h
    obtain ⟨x, hx⟩ := iha h.1
    obtain ⟨y, hy⟩ := ihb h.2
    cases x with
    | true => exact ⟨y, by simp [Jvm.Cond.value, hx, hy]⟩
    | false => exact ⟨false, by simp [Jvm.Cond.value, hx]⟩
  | or a b iha ihb =>
    intro h
    simp only [own_def, Bool.and_eq_true] at h
    obtain ⟨x, hx⟩ := iha h.1
    obtain ⟨y, hy⟩ := ihb h.2
    cases x with
    | true => exact ⟨true, by simp [Jvm.Cond.value, hx]⟩
    | false => exact ⟨y, by simp [Jvm.Cond.value, hx, hy]⟩
  | _ => intro h; simp [own_def] at h
def own_sure (ks : List VKind) (T : List Jvm.Cond) : Jvm.Cond → Bool
  | .tt => true
  | .isInt t => match own_kind ks t with
    | some .int => true
    | _ => false
  | .isLong t => match own_kind ks t with
    | some .long => true
    | _ => false
  | .and a b => own_sure ks T a && own_sure ks T b
  | .or a b => own_def ks a && own_sure ks T b
  | q => T.contains q
theorem own_sure_spec {ks : List VKind} {T : List Jvm.Cond} {A : Array Value} {s : State} (hA : own_typed ks A) (hT : ∀ c ∈ T, c.value A s none s [] = some true) (q : Jvm.Cond) : own_sure ks T q = true → q.value A s none s [] = some true := by
  induction q with
  | tt => intro _; rfl
  | isInt t =>
    intro h
    simp only [own_sure] at h
    split at h
    · rename_i hk
      obtain ⟨x, hx⟩ := own_int (own_kind_spec (s := s) (idx := []) hA t _ hk)
      simp [Jvm.Cond.value, hx]
    · cases h
  | isLong t =>
    intro h
    simp only [own_sure] at h
    split at h
    · rename_i hk
      obtain ⟨x, hx⟩ := own_long (own_kind_spec (s := s) (idx := []) hA t _ hk)
      simp [Jvm.Cond.value, hx]
    · cases h
  | and a b iha ihb =>
    intro h
    simp only [own_sure, Bool.and_eq_true] at h
    simp [Jvm.Cond.value, iha h.1, ihb h.2]
  | or a b iha ihb =>
    intro h
    simp only [own_sure, Bool.and_eq_true] at h
    obtain ⟨x, hx⟩ := own_def_spec (s := s) (idx := []) hA a h.1
    cases x with
    | true => simp [Jvm.Cond.value, hx]
    | false => simp [Jvm.Cond.value, hx, ihb h.2]
  | _ =>
    intro h
    exact hT _ (List.contains_iff_mem.mp h)
theorem own_needs {ks : List VKind} {L T : List Jvm.Cond} {A : Array Value} {s : State} (hA : own_typed ks A) (hT : ∀ c ∈ T, c.value A s none s [] = some true) (h : L.all (own_sure ks T) = true) : ∀ q ∈ L, q.before A s = true := by
  intro q hq
  have := own_sure_spec hA hT q (List.all_eq_true.mp h q hq)
  simpa [Jvm.Cond.before, Jvm.Cond.holds] using this

/-- what a term without arguments is worth -/
def own_cv : Term → Option Value
  | .int v => some (.int v)
  | .long v => some (.long v)
  | .old t => own_cv t
  | .add a b => match own_cv a, own_cv b with
    | some (.int x), some (.int y) => some (.int (x + y))
    | _, _ => none
  | .sub a b => match own_cv a, own_cv b with
    | some (.int x), some (.int y) => some (.int (x - y))
    | _, _ => none
  | .mul a b => match own_cv a, own_cv b with
    | some (.int x), some (.int y) => some (.int (x * y))
    | _, _ => none
  | .op2 o a b => match own_cv a, own_cv b with
    | some x, some y => o.apply x y
    | _, _ => none
  | .op1 o a => match own_cv a with
    | some x => o.apply x
    | _ => none
  | _ => none
theorem own_cv_spec {A : Array Value} {s : State} {idx : List Nat} : ∀ (t : Term) (v : Value), own_cv t = some v → t.eval A s none idx s = some v := by
  intro t
  induction t with
  | int c => intro v h; exact h
  | long c => intro v h; exact h
  | old t ih => intro v h; exact ih v h
  | add a b iha ihb =>
    intro v h
    simp only [own_cv] at h
    split at h
    · rename_i hx hy; cases h; simp only [Term.eval, iha _ hx, ihb _ hy]; rfl
    · cases h
  | sub a b iha ihb =>
    intro v h
    simp only [own_cv] at h
    split at h
    · rename_i hx hy; cases h; simp only [Term.eval, iha _ hx, ihb _ hy]; rfl
    · cases h
  | mul a b iha ihb =>
    intro v h
    simp only [own_cv] at h
    split at h
    · rename_i hx hy; cases h; simp only [Term.eval, iha _ hx, ihb _ hy]; rfl
    · cases h
  | op2 o a b iha ihb =>
    intro v h
    simp only [own_cv] at h
    split at h
    · rename_i hx hy; simp only [Term.eval, iha _ hx, ihb _ hy]; exact h
    · cases h
  | op1 o a iha =>
    intro v h
    simp only [own_cv] at h
    split at h
    · rename_i hx; simp only [Term.eval, iha _ hx]; exact h
    · cases h
  | _ => intro v h; simp [own_cv] at h
/-- a term without its 'old's, its closed parts reckoned -/
def own_lit (t : Term) (u : Term) : Term := match own_cv t with
  | some (.int v) => .int v
  | some (.long v) => .long v
  | _ => u
theorem own_lit_spec {A : Array Value} {s : State} {idx : List Nat} {t u : Term} (h : u.eval A s none idx s = t.eval A s none idx s) : (own_lit t u).eval A s none idx s = t.eval A s none idx s := by
  unfold own_lit
  split
  · rename_i hv; rw [own_cv_spec t _ hv]; rfl
  · rename_i hv; rw [own_cv_spec t _ hv]; rfl
  · exact h
def own_fold : Term → Term
  | .old t => own_fold t
  | .add a b => own_lit (.add a b) (.add (own_fold a) (own_fold b))
  | .sub a b => own_lit (.sub a b) (.sub (own_fold a) (own_fold b))
  | .mul a b => own_lit (.mul a b) (.mul (own_fold a) (own_fold b))
  | .div a b => .div (own_fold a) (own_fold b)
  | .rem a b => .rem (own_fold a) (own_fold b)
  | .op2 o a b => own_lit (.op2 o a b) (.op2 o (own_fold a) (own_fold b))
  | .op1 o a => own_lit (.op1 o a) (.op1 o (own_fold a))
  | t => t
theorem own_fold_spec {A : Array Value} {s : State} {idx : List Nat} : ∀ (t : Term), (own_fold t).eval A s none idx s = t.eval A s none idx s := by
  intro t
  induction t with
  | old t ih => simpa only [own_fold, Term.eval] using ih
  | add a b iha ihb => exact own_lit_spec (by simp only [Term.eval, iha, ihb])
  | sub a b iha ihb => exact own_lit_spec (by simp only [Term.eval, iha, ihb])
  | mul a b iha ihb => exact own_lit_spec (by simp only [Term.eval, iha, ihb])
  | div a b iha ihb => simp only [own_fold, Term.eval, iha, ihb]
  | rem a b iha ihb => simp only [own_fold, Term.eval, iha, ihb]
  | op2 o a b iha ihb => exact own_lit_spec (by simp only [Term.eval, iha, ihb])
  | op1 o a iha => exact own_lit_spec (by simp only [Term.eval, iha])
  | _ => rfl
def own_foldC : Jvm.Cond → Jvm.Cond
  | .eq a b => .eq (own_fold a) (own_fold b)
  | .lt a b => .lt (own_fold a) (own_fold b)
  | .le a b => .le (own_fold a) (own_fold b)
  | .not c => .not (own_foldC c)
  | .and a b => .and (own_foldC a) (own_foldC b)
  | .or a b => .or (own_foldC a) (own_foldC b)
  | c => c
theorem own_foldC_spec {A : Array Value} {s : State} : ∀ (c : Jvm.Cond), (own_foldC c).value A s none s [] = c.value A s none s [] := by
  intro c
  induction c with
  | eq a b => simp only [own_foldC, Jvm.Cond.value, own_fold_spec]
  | lt a b => simp only [own_foldC, Jvm.Cond.value, own_fold_spec]
  | le a b => simp only [own_foldC, Jvm.Cond.value, own_fold_spec]
  | not c ih => simp only [own_foldC, Jvm.Cond.value, ih]
  | and a b iha ihb => simp only [own_foldC, Jvm.Cond.value, iha, ihb]
  | or a b iha ihb => simp only [own_foldC, Jvm.Cond.value, iha, ihb]
  | _ => rfl
/-- what a guard is worth: closed, or known from the road -/
def own_cvC (T F : List Jvm.Cond) (c : Jvm.Cond) : Option Bool :=
  if T.contains c then some true else if F.contains c then some false else
  match c with
  | .eq (.int x) (.int y) => some (decide (x = y))
  | .lt (.int x) (.int y) => some (decide (x < y))
  | .le (.int x) (.int y) => some (decide (x ≤ y))
  | .eq (.long x) (.long y) => some (decide (x = y))
  | .lt (.long x) (.long y) => some (decide (x < y))
  | .le (.long x) (.long y) => some (decide (x ≤ y))
  | _ => none
theorem own_cvC_spec {A : Array Value} {s : State} {T F : List Jvm.Cond} (hT : ∀ c ∈ T, c.value A s none s [] = some true) (hF : ∀ c ∈ F, c.value A s none s [] = some false) (c : Jvm.Cond) (b : Bool) (h : own_cvC T F c = some b) : c.value A s none s [] = some b := by
  unfold own_cvC at h
  split at h
  · rename_i h1; cases h; exact hT _ (List.contains_iff_mem.mp h1)
  · split at h
    · rename_i _ h2; cases h; exact hF _ (List.contains_iff_mem.mp h2)
    · split at h <;> first | exact h | cases h
def own_case (T F : List Jvm.Cond) (G : Jvm.Cond) (a b : List Jvm.Cond → List Jvm.Cond → STree) : STree := match own_cvC T F G with
  | some true => a T F
  | some false => b T F
  | none => .fork G (a (G :: T) F) (b T (G :: F))
theorem own_case_spec {A : Array Value} {s : State} {T F : List Jvm.Cond} (hT : ∀ c ∈ T, c.value A s none s [] = some true) (hF : ∀ c ∈ F, c.value A s none s [] = some false) (G : Jvm.Cond) {a b : List Jvm.Cond → List Jvm.Cond → STree} {x y : STree}
    (ha : ∀ T F, (∀ c ∈ T, c.value A s none s [] = some true) → (∀ c ∈ F, c.value A s none s [] = some false) → Kit.valueOf A s (a T F) = Kit.valueOf A s x) (hb : ∀ T F, (∀ c ∈ T, c.value A s none s [] = some true) → (∀ c ∈ F, c.value A s none s [] = some false) → Kit.valueOf A s (b T F) = Kit.valueOf A s y) :
    Kit.valueOf A s (own_case T F G a b) = Kit.valueOf A s (.fork G x y) := by
  unfold own_case
  split
  · rename_i h
    rw [ha T F hT hF]; simp only [Kit.valueOf, own_cvC_spec hT hF _ _ h]
  · rename_i h
    rw [hb T F hT hF]; simp only [Kit.valueOf, own_cvC_spec hT hF _ _ h]
  · simp only [Kit.valueOf]
    cases hv : G.value A s none s [] with
    | none => rfl
    | some v =>
      cases v with
      | true => exact ha _ F (fun c hc => by rcases List.mem_cons.mp hc with rfl | hc; exact hv; exact hT c hc) hF
      | false => exact hb T _ hT (fun c hc => by rcases List.mem_cons.mp hc with rfl | hc; exact hv; exact hF c hc)
theorem own_fork_not {A : Array Value} {s : State} (G : Jvm.Cond) (x y : STree) : Kit.valueOf A s (.fork (.not G) x y) = Kit.valueOf A s (.fork G y x) := by
  simp only [Kit.valueOf, Jvm.Cond.value]
  cases G.value A s none s [] with
  | none => rfl
  | some v => cases v <;> rfl
def own_prune (T F : List Jvm.Cond) : STree → STree
  | .ret (some x) W => .ret (some ⟨own_fold x.t, x.k⟩) W
  | .ret none W => .ret none W
  | .cut σ => .cut σ
  | .fork G a b => match own_foldC G with
    | .not H => own_case T F H (fun T F => own_prune T F b) (fun T F => own_prune T F a)
    | H => own_case T F H (fun T F => own_prune T F a) (fun T F => own_prune T F b)
theorem own_prune_spec {A : Array Value} {s : State} : ∀ (t : STree) (T F : List Jvm.Cond), (∀ c ∈ T, c.value A s none s [] = some true) → (∀ c ∈ F, c.value A s none s [] = some false) → Kit.valueOf A s (own_prune T F t) = Kit.valueOf A s t := by
  intro t
  induction t with
  | ret v W =>
    intro T F _ _
    cases v with
    | none => rfl
    | some x => simp only [own_prune, Kit.valueOf, own_fold_spec]
  | cut σ => intro T F _ _; rfl
  | fork G a b iha ihb =>
    intro T F hT hF
    have e : Kit.valueOf A s (.fork (own_foldC G) a b) = Kit.valueOf A s (.fork G a b) := by simp only [Kit.valueOf, own_foldC_spec]
    rw [← e]
    simp only [own_prune]
    split
    · rename_i H h
      rw [h, own_fork_not]
      exact own_case_spec hT hF H ihb iha
    · exact own_case_spec hT hF _ iha ihb
theorem own_pruned {A : Array Value} {s : State} {t u : STree} {v : Option Value} (h : own_prune [] [] t = u) (hv : Kit.valueOf A s u = v) : Kit.valueOf A s t = v := by
  rw [← own_prune_spec (A := A) (s := s) t [] [] (fun _ h => by cases h) (fun _ h => by cases h), h, hv]
theorem own_fork {A : Array Value} {s : State} {G : Jvm.Cond} {a b : STree} {P : Prop} [Decidable P] (h : G.value A s none s [] = some (decide P)) : Kit.valueOf A s (.fork G a b) = if P then Kit.valueOf A s a else Kit.valueOf A s b := by
  by_cases hp : P <;> simp [Kit.valueOf, h, hp]
theorem own_lt_longs {A : Array Value} {s : State} {a b : Term} {x y : Int64} (ha : a.eval A s none [] s = some (.long x)) (hb : b.eval A s none [] s = some (.long y)) : (Jvm.Cond.lt a b).value A s none s [] = some (decide (x < y)) := by simp [Jvm.Cond.value, ha, hb]
theorem own_le_longs {A : Array Value} {s : State} {a b : Term} {x y : Int64} (ha : a.eval A s none [] s = some (.long x)) (hb : b.eval A s none [] s = some (.long y)) : (Jvm.Cond.le a b).value A s none s [] = some (decide (x ≤ y)) := by simp [Jvm.Cond.value, ha, hb]
theorem own_eq_longs {A : Array Value} {s : State} {a b : Term} {x y : Int64} (ha : a.eval A s none [] s = some (.long x)) (hb : b.eval A s none [] s = some (.long y)) : (Jvm.Cond.eq a b).value A s none s [] = some (decide (x = y)) := by simp [Jvm.Cond.value, ha, hb]
def own_lc (x y : Int64) : Int32 := if x > y then 1 else if x == y then 0 else -1
theorem own_lc_cases (x y : Int64) : (own_lc x y = 1 ∧ y.toInt < x.toInt) ∨ (own_lc x y = 0 ∧ x.toInt = y.toInt) ∨ (own_lc x y = -1 ∧ x.toInt < y.toInt) := by
  unfold own_lc
  by_cases h : y < x
  · rw [if_pos h]; exact .inl ⟨rfl, Int64.lt_iff_toInt_lt.mp h⟩
  · rw [if_neg h]
    rw [Int64.lt_iff_toInt_lt] at h
    by_cases h2 : x = y
    · rw [if_pos (by simpa using h2)]; exact .inr (.inl ⟨rfl, by rw [h2]⟩)
    · rw [if_neg (by simpa using h2)]
      rw [← Int64.toInt_inj] at h2
      exact .inr (.inr ⟨rfl, by omega⟩)
theorem own_lc_lt (x y : Int64) : own_lc x y < 0 ↔ x.toInt < y.toInt := by
  rcases own_lc_cases x y with ⟨h, h'⟩ | ⟨h, h'⟩ | ⟨h, h'⟩ <;> rw [h] <;> simp <;> omega
theorem own_lc_le (x y : Int64) : own_lc x y ≤ 0 ↔ x.toInt ≤ y.toInt := by
  rcases own_lc_cases x y with ⟨h, h'⟩ | ⟨h, h'⟩ | ⟨h, h'⟩ <;> rw [h] <;> simp <;> omega
theorem own_lc_ge (x y : Int64) : 0 ≤ own_lc x y ↔ y.toInt ≤ x.toInt := by
  rcases own_lc_cases x y with ⟨h, h'⟩ | ⟨h, h'⟩ | ⟨h, h'⟩ <;> rw [h] <;> simp <;> omega
theorem own_lc_gt (x y : Int64) : 0 < own_lc x y ↔ y.toInt < x.toInt := by
  rcases own_lc_cases x y with ⟨h, h'⟩ | ⟨h, h'⟩ | ⟨h, h'⟩ <;> rw [h] <;> simp <;> omega
theorem own_lc_eq (x y : Int64) : own_lc x y = 0 ↔ x.toInt = y.toInt := by
  rcases own_lc_cases x y with ⟨h, h'⟩ | ⟨h, h'⟩ | ⟨h, h'⟩ <;> rw [h] <;> simp <;> omega
theorem own_got {α β γ : Type} {o : Option (α × β × γ)} (h : o.isSome = true) : o = some ((o.get h).1, (o.get h).2.1, (o.get h).2.2) := (Option.some_get h).symm
end Jvm.Pilot.@@N@@
namespace Jvm.RoadKit
open Sem ClassFile Op Lib Jvm.Stand Jvm.Free Jvm.LawKit
section New
variable {p : Program} {l : Launch} {e : Env} {R : Room} {s : State} {m : MethodId} {args : Array Value} {below : List Frame} {meth : Method} {c : Code} {T : State} {locs : List Loc} {cells slots : Nat}
theorem retI (X : Stand p l e R s m args below meth c T locs cells slots) (hx : p.tables.exec = Jvm.exec) {pc : Nat} {Ls : Array Slot} {z : Int32} {rest : List Value} (hret : meth.sig.returnType = some .int) (hd : decode c.code pc = .ok (.ireturn, 1)) {fs : List Frame}
    (hl : ∀ (f : JFrame) (acts : List Action), f.method = m → f.locked = none → f.entered = [] → (doReturn e (T.setTop f) acts (some (.int z))).1 = T.setFrames fs) : Steps p.tables e below (T.setTop (mkF m pc Ls (.int z :: rest))) (T.setFrames fs) := by
  have hm' : T.vm.method? m = some meth := X.method'
  have hn : narrow .int (.int z) = .int z := rfl
  show Steps p.tables e below (T.setTop { method := m, pc := pc, locals := Ls, stack := _ :: rest, locked := none }) _
  jvm_step X.here [X.here.top, hx, hd, hm', hret, hn]
  first | (intro acts; rw [hl _ acts rfl rfl rfl]) | rw [hl _ _ rfl rfl rfl]
  exact Steps.refl _
end New
end Jvm.RoadKit
namespace Jvm.Pilot.@@N@@
section Own
open Jvm Jvm.ClassFile Sem Op Lib Jvm.Free Jvm.Stand Jvm.LawKit Jvm.RoadKit
/-! 1. utf8Bytes: its ldc_w is no step of the walk by evaluation: its contract by hand, in the form that the walk reads -/
def y : MethodName := ⟨"com/example/strict_cascade/strictcascade/engine/Values", "utf8Bytes", "(I)I"⟩
def ycode : ByteArray := prog_87_method_26_code
def yleaf (k : Int32) : Jvm.Cond := .and .returned (.eq .result (.old (.int k)))
def yif (k : Int32) (a b : Jvm.Cond) : Jvm.Cond := .or (.and (.lt (.arg 0) (.int k)) a) (.and (.not (.lt (.arg 0) (.int k))) b)
def ypost : Jvm.Cond := yif 128 (yleaf 1) (yif 2048 (yleaf 2) (yif 65536 (yleaf 3) (yleaf 4)))
def yspec : Spec := Jvm.Sym.specOf y ycode 1 (some .int) [.int] ypost [.constant "com/example/strict_cascade/strictcascade/engine/Values" 430 65536] []
def own_len (a : Int32) : Int32 := if a < 128 then 1 else if a < 2048 then 2 else if a < 65536 then 3 else 4
theorem ypost_ok (a : Int32) (s E : State) : ypost.after #[.int a] s (.returned (some (.int (own_len a)))) E = true := by
  by_cases g1 : a < 128
  · simp [ypost, yif, yleaf, own_len, Cond.after, Cond.holds, Cond.value, Term.eval, g1]
  · by_cases g2 : a < 2048
    · simp [ypost, yif, yleaf, own_len, Cond.after, Cond.holds, Cond.value, Term.eval, g1, g2]
    · by_cases g3 : a < 65536
      · simp [ypost, yif, yleaf, own_len, Cond.after, Cond.holds, Cond.value, Term.eval, g1, g2, g3]
      · simp [ypost, yif, yleaf, own_len, Cond.after, Cond.holds, Cond.value, Term.eval, g1, g2, g3]
theorem d1_0 : decode prog_87_method_26_code 0 = .ok (.iload_n 0, 1) := by decide +kernel
theorem d1_1 : decode prog_87_method_26_code 1 = .ok (.sipush 128, 3) := by decide +kernel
theorem d1_4 : decode prog_87_method_26_code 4 = .ok (.if_icmp .ge 5, 3) := by decide +kernel
theorem d1_7 : decode prog_87_method_26_code 7 = .ok (.iconst 1, 1) := by decide +kernel
theorem d1_8 : decode prog_87_method_26_code 8 = .ok (.ireturn, 1) := by decide +kernel
theorem d1_9 : decode prog_87_method_26_code 9 = .ok (.iload_n 0, 1) := by decide +kernel
theorem d1_10 : decode prog_87_method_26_code 10 = .ok (.sipush 2048, 3) := by decide +kernel
theorem d1_13 : decode prog_87_method_26_code 13 = .ok (.if_icmp .ge 5, 3) := by decide +kernel
theorem d1_16 : decode prog_87_method_26_code 16 = .ok (.iconst 2, 1) := by decide +kernel
theorem d1_17 : decode prog_87_method_26_code 17 = .ok (.ireturn, 1) := by decide +kernel
theorem d1_18 : decode prog_87_method_26_code 18 = .ok (.iload_n 0, 1) := by decide +kernel
theorem d1_19 : decode prog_87_method_26_code 19 = .ok (.ldc_w 430, 3) := by decide +kernel
theorem d1_22 : decode prog_87_method_26_code 22 = .ok (.if_icmp .ge 5, 3) := by decide +kernel
theorem d1_25 : decode prog_87_method_26_code 25 = .ok (.iconst 3, 1) := by decide +kernel
theorem d1_26 : decode prog_87_method_26_code 26 = .ok (.ireturn, 1) := by decide +kernel
theorem d1_27 : decode prog_87_method_26_code 27 = .ok (.iconst 4, 1) := by decide +kernel
theorem d1_28 : decode prog_87_method_26_code 28 = .ok (.ireturn, 1) := by decide +kernel
theorem ef_1 (m : MethodId) (x0 : Int32) : entryFrame m #[(.int x0)] 1 = mkF m 0 #[.val (.int x0)] [] := by first | (simp [entryFrame, mkF, argsToLocals, Value.category]; done) | rfl
set_option maxRecDepth 65536 in
set_option maxHeartbeats 40000000 in
theorem ymeets (l : Launch) : MeetsLoose l y yspec := by
  refine MeetsLoose.of_body (code := prog_87_method_26_code) (maxLocals := 1) (ret := some .int) (by decide) (fun args s h => Jvm.Sym.conj_before h _ List.mem_cons_self) ?_
  intro p e s m args below meth c s₁ B
  have hp := Jvm.Sym.conj_before B.pre
  obtain ⟨p1, rfl⟩ := Cond.one_int (hp (.count 1) (by simp)) (hp (.isInt (.arg 0)) (by simp [Jvm.Sym.sorts, Jvm.Sym.isK]))
  have hx := B.exec
  have hby := B.bytes
  have hown : s.vm.findClass "com/example/strict_cascade/strictcascade/engine/Values" = some m.cls := findClass_of_methodNamed B.named
  have X0 : Stand p l e yspec.room s m #[(.int p1)] below meth c s₁ [] 0 0 := Stand.of_body B
  have hk : (Jvm.Cond.constant "com/example/strict_cascade/strictcascade/engine/Values" 430 65536).before #[(.int p1)] s = true := hp _ (by simp)
  obtain ⟨fs, hr, hrun, hended, hW, hsame⟩ := X0.leave (v := some (.int (own_len p1))) (fun h => by rw [B.returns] at h; cases h)
  refine ⟨_, _, castTop (ef_1 m p1) ?_, hrun, hended, ypost_ok p1 s _, ?_⟩
  · refine XS.iloadN X0.here hx rfl (hb hby d1_0) rfl ?_
    show Steps p.tables e below (s₁.setTop (mkF m 1 #[.val (.int p1)] [(.int p1)])) _
    refine XS.sipush X0.here hx rfl (hb hby d1_1) ?_
    show Steps p.tables e below (s₁.setTop (mkF m 4 #[.val (.int p1)] [(.int (128 : Int32)), (.int p1)])) _
    by_cases g1 : p1 < (128 : Int32)
    · have ev : own_len p1 = 1 := by rw [own_len, if_pos g1]
      rw [ev] at hr
      refine XS.icmpNo X0.here hx rfl (hb hby d1_4) rfl (tlt g1).2.1 ?_
      show Steps p.tables e below (s₁.setTop (mkF m 7 #[.val (.int p1)] [])) _
      refine XS.iconst X0.here hx rfl (hb hby d1_7) ?_
      show Steps p.tables e below (s₁.setTop (mkF m 8 #[.val (.int p1)] [(.int (1 : Int32))])) _
      exact retI X0 hx B.returns (hb hby d1_8) hr
    refine XS.icmpYes X0.here hx rfl (pc0 := 4) (pc' := 9) rfl (hb hby d1_4) rfl (flt g1).2.1 (by decide) (by decide) ?_
    show Steps p.tables e below (s₁.setTop (mkF m 9 #[.val (.int p1)] [])) _
    refine XS.iloadN X0.here hx rfl (hb hby d1_9) rfl ?_
    show Steps p.tables e below (s₁.setTop (mkF m 10 #[.val (.int p1)] [(.int p1)])) _
    refine XS.sipush X0.here hx rfl (hb hby d1_10) ?_
    show Steps p.tables e below (s₁.setTop (mkF m 13 #[.val (.int p1)] [(.int (2048 : Int32)), (.int p1)])) _
    by_cases g2 : p1 < (2048 : Int32)
    · have ev : own_len p1 = 2 := by rw [own_len, if_neg g1, if_pos g2]
      rw [ev] at hr
      refine XS.icmpNo X0.here hx rfl (hb hby d1_13) rfl (tlt g2).2.1 ?_
      show Steps p.tables e below (s₁.setTop (mkF m 16 #[.val (.int p1)] [])) _
      refine XS.iconst X0.here hx rfl (hb hby d1_16) ?_
      show Steps p.tables e below (s₁.setTop (mkF m 17 #[.val (.int p1)] [(.int (2 : Int32))])) _
      exact retI X0 hx B.returns (hb hby d1_17) hr
    refine XS.icmpYes X0.here hx rfl (pc0 := 13) (pc' := 18) rfl (hb hby d1_13) rfl (flt g2).2.1 (by decide) (by decide) ?_
    show Steps p.tables e below (s₁.setTop (mkF m 18 #[.val (.int p1)] [])) _
    refine XS.iloadN X0.here hx rfl (hb hby d1_18) rfl ?_
    show Steps p.tables e below (s₁.setTop (mkF m 19 #[.val (.int p1)] [(.int p1)])) _
    refine X0.ldcWInt hx hown hk (g := (mkF m 19 #[.val (.int p1)] [(.int p1)])) rfl (hb hby d1_19) _ ?_
    show Steps p.tables e below (s₁.setTop (mkF m 22 #[.val (.int p1)] [(.int (65536 : Int32)), (.int p1)])) _
    by_cases g3 : p1 < (65536 : Int32)
    · have ev : own_len p1 = 3 := by rw [own_len, if_neg g1, if_neg g2, if_pos g3]
      rw [ev] at hr
      refine XS.icmpNo X0.here hx rfl (hb hby d1_22) rfl (tlt g3).2.1 ?_
      show Steps p.tables e below (s₁.setTop (mkF m 25 #[.val (.int p1)] [])) _
      refine XS.iconst X0.here hx rfl (hb hby d1_25) ?_
      show Steps p.tables e below (s₁.setTop (mkF m 26 #[.val (.int p1)] [(.int (3 : Int32))])) _
      exact retI X0 hx B.returns (hb hby d1_26) hr
    have ev : own_len p1 = 4 := by rw [own_len, if_neg g1, if_neg g2, if_neg g3]
    rw [ev] at hr
    refine XS.icmpYes X0.here hx rfl (pc0 := 22) (pc' := 27) rfl (hb hby d1_22) rfl (flt g3).2.1 (by decide) (by decide) ?_
    show Steps p.tables e below (s₁.setTop (mkF m 27 #[.val (.int p1)] [])) _
    refine XS.iconst X0.here hx rfl (hb hby d1_27) ?_
    show Steps p.tables e below (s₁.setTop (mkF m 28 #[.val (.int p1)] [(.int (4 : Int32))])) _
    exact retI X0 hx B.returns (hb hby d1_28) hr
  · exact ⟨hW, by simpa [Spec.frees, fieldLocs, arrayLocs, staticLocs, yspec, Jvm.Sym.specOf] using hsame.sameBut⟩
end Own
open Jvm Jvm.ClassFile Sem Op Jvm.Sym Jvm.Pilot.@@N@@.Jvm.D
theorem ycold : yspec.Cold := Spec.cold_of_keeps (by decide +kernel)
def ycallee : Callee := { y := y, S := yspec, bytes := ycode, maxL := 1, ret := some .int, static := true, params := 1, res := some .int }
def z : MethodName := ⟨"com/example/strict_cascade/strictcascade/engine/ValuesUtf8BytesPinLaw", "payloadBits", "(I)I"⟩
def zcode : ByteArray := @@{@code:com/example/strict_cascade/strictcascade/engine/ValuesUtf8BytesPinLaw.payloadBits:(I)I}@@
def zI : Info := { own := "com/example/strict_cascade/strictcascade/engine/ValuesUtf8BytesPinLaw", ret := some .int }
def zout : Option (Jvm.Cond × List Jvm.Cond × List Jvm.Cond) := walk zI zcode 200 (entry [.int] 1)
theorem zwalks : zout.isSome = true := by decide +kernel
def zgot : Jvm.Cond × List Jvm.Cond × List Jvm.Cond := zout.get zwalks
def zspec : Spec := specOf z zcode 1 (some .int) [.int] zgot.1 zgot.2.1 zgot.2.2
theorem zmeets (l : Launch) : MeetsLoose l z zspec :=
  walk_meets (n := 200) (I := zI) (by decide) rfl rfl (show walk zI zcode 200 (entry [.int] 1) = some (zgot.1, zgot.2.1, zgot.2.2) from (Option.some_get zwalks).symm)
theorem zcold : zspec.Cold := Spec.cold_of_keeps (by decide +kernel)
def zcallee : Callee := { y := z, S := zspec, bytes := zcode, maxL := 1, ret := some .int, static := true, params := 1, res := some .int }
/-! 2. the law's own walk -/
def I : Info := { own := x.cls, ret := ret, ints := [(7, 2147483647), (8, 1114112)], calls := [(9, ycallee), (15, zcallee)], maxLocals := maxLocals, room := room_1 }
theorem callsOk (l : Launch) : CallsOk l I maxLocals room_1 := fun q hq => by
  have hq' : q = (9, ycallee) ∨ q = (15, zcallee) := by simpa [I] using hq
  rcases hq' with rfl | rfl
  · exact ⟨rfl, rfl, ymeets l, ycold⟩
  · exact ⟨rfl, rfl, zmeets l, zcold⟩
def w := walkTo I code [] 400 true (entry [.int] maxLocals)
theorem w_some : w.isSome = true := by decide +kernel
def tr : STree := (w.get w_some).1
def gG1 : Jvm.Cond := .lt (.rem (.op2 .iand (.arg 0) (.int 2147483647)) (.int 1114112)) (.int 128)
def gG2 : Jvm.Cond := .le (.int 128) (.rem (.op2 .iand (.arg 0) (.int 2147483647)) (.int 1114112))
def gG3 : Jvm.Cond := .lt (.rem (.op2 .iand (.arg 0) (.int 2147483647)) (.int 1114112)) (.int 2048)
def gG4 : Jvm.Cond := .le (.int 2048) (.rem (.op2 .iand (.arg 0) (.int 2147483647)) (.int 1114112))
def gG5 : Jvm.Cond := .lt (.rem (.op2 .iand (.arg 0) (.int 2147483647)) (.int 1114112)) (.int 65536)
def gG6 : Jvm.Cond := .le (.int 65536) (.rem (.op2 .iand (.arg 0) (.int 2147483647)) (.int 1114112))
def gG7 : Jvm.Cond := .le (.int 2097152) (.rem (.op2 .iand (.arg 0) (.int 2147483647)) (.int 1114112))
def gL0 : STree := .ret (some ⟨(.int 0), .int⟩) []
def gL1 : STree := .ret (some ⟨(.int 1), .int⟩) []
def gt : STree := .fork gG1
  (.fork gG2
   (gL0)
   (gL1))
  (.fork gG3
   (.fork gG4
    (gL0)
    (gL1))
   (.fork gG5
    (.fork gG6
     (gL0)
     (gL1))
    (.fork gG7
     (gL0)
     (gL1))))
theorem tree : own_prune [] [] tr = gt := by decide +kernel
/-! 3. the plain law -/
theorem own_cp (a : Int32) : ((a &&& (2147483647 : Int32)) % (1114112 : Int32)).toInt < 1114112 := by
  have e : (a &&& 2147483647).toInt = a.toInt % 2 ^ 31 := Jvm.Kit.i32_mask a 2147483647 (k := 31) (by decide) (by decide)
  rw [Jvm.Kit.i32_rem_nonneg (by rw [e]; omega), show (1114112 : Int32).toInt = 1114112 from rfl]
  omega
theorem value_eq (a : Int32) (s : State) : Kit.valueOf #[.int a] s gt = some (.int 1) := by
  have hG1 : gG1.value #[.int a] s none s [] = some (decide (((a &&& (2147483647 : Int32)) % (1114112 : Int32)) < (128 : Int32))) := Cond.lt_ints rfl rfl
  have hG2 : gG2.value #[.int a] s none s [] = some (decide ((128 : Int32) ≤ ((a &&& (2147483647 : Int32)) % (1114112 : Int32)))) := Cond.le_ints rfl rfl
  have hG3 : gG3.value #[.int a] s none s [] = some (decide (((a &&& (2147483647 : Int32)) % (1114112 : Int32)) < (2048 : Int32))) := Cond.lt_ints rfl rfl
  have hG4 : gG4.value #[.int a] s none s [] = some (decide ((2048 : Int32) ≤ ((a &&& (2147483647 : Int32)) % (1114112 : Int32)))) := Cond.le_ints rfl rfl
  have hG5 : gG5.value #[.int a] s none s [] = some (decide (((a &&& (2147483647 : Int32)) % (1114112 : Int32)) < (65536 : Int32))) := Cond.lt_ints rfl rfl
  have hG6 : gG6.value #[.int a] s none s [] = some (decide ((65536 : Int32) ≤ ((a &&& (2147483647 : Int32)) % (1114112 : Int32)))) := Cond.le_ints rfl rfl
  have hG7 : gG7.value #[.int a] s none s [] = some (decide ((2097152 : Int32) ≤ ((a &&& (2147483647 : Int32)) % (1114112 : Int32)))) := Cond.le_ints rfl rfl
  have hL0 : Kit.valueOf #[.int a] s gL0 = some (.int (0 : Int32)) := rfl
  have hL1 : Kit.valueOf #[.int a] s gL1 = some (.int (1 : Int32)) := rfl
  simp only [gt, own_fork hG1, own_fork hG2, own_fork hG3, own_fork hG4, own_fork hG5, own_fork hG6, own_fork hG7, hL0, hL1]
  clear hG1 hG2 hG3 hG4 hG5 hG6 hG7 hL0 hL1
  have h := own_cp a
  simp only [Int32.lt_iff_toInt_lt, Int32.le_iff_toInt_le, show (128 : Int32).toInt = 128 from rfl, show (2048 : Int32).toInt = 2048 from rfl, show (65536 : Int32).toInt = 65536 from rfl, show (2097152 : Int32).toInt = 2097152 from rfl]
  generalize ((a &&& (2147483647 : Int32)) % (1114112 : Int32)).toInt = x at *
  repeat' split
  all_goals first | rfl | (exfalso; omega)

/-! 4. the contract, the limbs -/
def wtabs : List Jvm.Cond := (w.get w_some).2.1
def wneeds : List Jvm.Cond := (w.get w_some).2.2
def wknown : List Jvm.Cond := (Cond.code x code maxLocals ret :: tables_1) ++ (flatC (Cond.and .tt (.and given_1 narrow_1)) ++ [])
theorem entry_walk : walkTo I code [] 400 true (entry [.int] maxLocals) = some (tr, wtabs, wneeds) := by
  unfold tr wtabs wneeds
  exact own_got w_some
theorem tabs_ok : (wtabs.all fun q => (Cond.code x code maxLocals ret :: tables_1).contains q) = true := by decide +kernel
theorem needs_ok : wneeds.all (own_sure [.int] wknown) = true := by decide +kernel
theorem pure_ok : Kit.pureVal tr = true := by decide +kernel
theorem own_typed_args (a : Int32) : own_typed [.int] #[.int a] := by
  intro i k h
  rcases i with _ | i
  · cases h; exact .inl ⟨rfl, _, rfl⟩
  · simp at h
theorem sorts_ok {a : Int32} {s : State} : ∀ q ∈ Sym.sorts 0 [.int], q.before #[.int a] s = true := by
  intro q hq
  simp only [Sym.sorts, List.mem_cons, List.not_mem_nil, or_false] at hq
  rcases hq with rfl <;> simp [isK, Jvm.Cond.before, Jvm.Cond.holds, Jvm.Cond.value, Term.eval]
def post_1 : Jvm.Cond := .and limb_1_1 limb_1_2
theorem value_all (a : Int32) (s : State) : Kit.valueOf #[.int a] s tr = some (.int 1) := own_pruned tree (value_eq a s)
theorem met_1 (l : Launch) : MeetsLoose l x (armSpec x code maxLocals ret tables_1 room_1 .tt (.and given_1 narrow_1) post_1 frame_1_writes frame_1_arrays frame_1_statics) := by
  have hE := entry_walk
  have hTb := tabs_ok
  have hNd := needs_ok
  have hPu := pure_ok
  have hVa := value_all
  generalize tr = t at hE hPu hVa
  generalize wtabs = tb at hE hTb
  generalize wneeds = nd at hE hNd
  refine loops_meets (I := I) (ks0 := [.int]) (cuts := []) (by decide) rfl rfl rfl rfl rfl (fun args s h => ?_) hE (fun _ => none) (fun _ _ _ _ _ => False) (fun _ _ _ => 0) (fun args s h => ?_) (fun args s _ h ks hks => by cases hks) (callsOk l)
  · simp only [armSpec, allAtoms, List.foldr_cons, Cond.before_and, Bool.and_eq_true] at h; exact h.1.1
  · have hts : (allAtoms (Cond.code x code maxLocals ret :: tables_1)).before args s = true := by simp only [armSpec, Cond.before_and, Bool.and_eq_true] at h; exact h.1
    have hK : (Cond.and .tt (.and given_1 narrow_1)).before args s = true := by simp only [armSpec, Cond.before_and, Bool.and_eq_true] at h ⊢; exact h.2
    simp only [armSpec, given_1, Cond.before_and, Bool.and_eq_true] at h
    obtain ⟨-, -, ⟨hc, h0⟩, hn⟩ := h
    obtain ⟨a, rfl⟩ := Cond.one_int hc h0
    have hT := known3 (Gt := []) hts hK (by intro q hq; cases hq)
    have hT' : ∀ c ∈ wknown, c.value #[.int a] s none s [] = some true := hT
    refine ⟨rfl, sorts_ok, tabs_of_sub hts hTb, own_needs (own_typed_args a) hT' hNd, Kit.vc_of_value (w₀ := .int 1) (fun E => ?_) t hPu (hVa a s)⟩
    simp [armSpec, post_1, limb_1_1, limb_1_2, Cond.after, Cond.holds, Cond.value, Term.eval]
theorem main_1_1 : Claimed_1_1 := armFor_of_meets0 (fun l => (met_1 l).meets) fun _ _ _ _ h => by simp only [post_1, Cond.after_and, Bool.and_eq_true] at h; exact h.1
theorem main_1_2 : Claimed_1_2 := armFor_of_meets0 (fun l => (met_1 l).meets) fun _ _ _ _ h => by simp only [post_1, Cond.after_and, Bool.and_eq_true] at h; exact h.2
end Jvm.Pilot.@@N@@
namespace Jvm.Pilot.@@N@@
open Jvm Jvm.ClassFile Sem Op Lib Jvm.Free Jvm.Stand Jvm.Pilot.@@N@@.Jvm.D
/-! MADE BY PROGRAM (witnessworld.py) out of the Statement's table words and the real class files: 9 classes; the members and pool entries that the words name. The judged class is class 1, her method 2. -/
namespace start1
open Jvm.ClassFile
def u (s : String) : CpInfo := .utf8 (stringToUtf16 s)
/-- a pool by its gaps: so many unusable entries, then the entry; so many at the end -/
def gap : Nat → List CpInfo → List CpInfo
  | 0, r => r
  | n + 1, r => .unusable :: gap n r
def poolList (es : List (Nat × CpInfo)) (last : Nat) : List CpInfo := es.foldr (fun e r => gap e.1 (e.2 :: r)) (gap last [])
def pool (es : List (Nat × CpInfo)) (last : Nat) : Array CpInfo := ⟨poolList es last⟩
def fileOf (pool : Array CpInfo) (this : Nat) (attrs : Array Attribute := #[]) (ms : Array MethodInfo := #[]) (fl : Nat := 33) (sup : Nat := 0) (ifs : Array Nat := #[]) (fds : Array FieldInfo := #[]) : ClassFile where
  minorVersion := 0
  majorVersion := 65
  constantPool := pool
  accessFlags := fl
  thisClass := this
  superClass := sup
  interfaces := ifs
  fields := fds
  methods := ms
  attributes := attrs
def plain (name : String) (sup : Option ClassId) : Class where
  name := name
  kind := .ordinary
  loader := none
  accessFlags := 33
  super := sup
  interfaces := #[]
  cf := none
  fields := #[]
  methods := #[]
  instanceTypes := #[]
  staticTypes := #[]
  resolved := #[]
  callSites := []
  init := .initialized
  statics := none
  mirror := none

def pool0 : Array CpInfo := pool [(5, u "<init>"), (0, u "()V"), (1, .class_ 10), (1, u "java/lang/Object")] 113

def k0m0 : Method := { name := "<init>", desc := "()V", sig := { parameters := [], returnType := none }, accessFlags := 1, code := none }
/-- java/lang/Object -/
def k0 : Class := { plain "java/lang/Object" none with
  accessFlags := 33
  interfaces := #[]
  cf := some (fileOf pool0 8 #[] #[{ accessFlags := 1, nameIndex := 5, descriptorIndex := 6, attributes := #[] }] 33 0 #[] #[])
  fields := #[]
  methods := #[k0m0]
  instanceTypes := #[]
  staticTypes := #[]
  resolved := Array.replicate 124 none
  statics := none }

def pool1 : Array CpInfo := pool [(2, .class_ 4), (1, u "java/lang/Object"), (0, u "<init>"), (0, u "()V"), (0, .integer 2147483647), (0, .integer 1114112), (0, .methodref 10 11), (0, .class_ 12), (0, .nameAndType 13 14), (0, u "com/example/strict_cascade/strictcascade/engine/Values"), (0, u "utf8Bytes"), (0, u "(I)I"), (0, .methodref 16 17), (0, .class_ 18), (0, .nameAndType 19 14), (0, u "com/example/strict_cascade/strictcascade/engine/ValuesUtf8BytesPinLaw"), (0, u "payloadBits"), (3, u "law"), (0, u "(I)Z")] 2

def k1m0 : Method := { name := "<init>", desc := "()V", sig := { parameters := [], returnType := none }, accessFlags := 2, code := none }
def k1c1 : Code := { maxStack := 2, maxLocals := 1, code := method_2_code, exceptionTable := #[], attributes := #[] }
def k1m1 : Method := { name := "payloadBits", desc := "(I)I", sig := { parameters := [.int], returnType := some .int }, accessFlags := 10, code := some k1c1 }
def k1c2 : Code := { maxStack := 4, maxLocals := 5, code := code, exceptionTable := #[], attributes := #[] }
def k1m2 : Method := { name := "law", desc := "(I)Z", sig := { parameters := [.int], returnType := some .boolean }, accessFlags := 9, code := some k1c2 }
/-- com/example/strict_cascade/strictcascade/engine/ValuesUtf8BytesPinLaw -/
def k1 : Class := { plain "com/example/strict_cascade/strictcascade/engine/ValuesUtf8BytesPinLaw" (some 0) with
  accessFlags := 49
  interfaces := #[]
  cf := some (fileOf pool1 16 #[] #[{ accessFlags := 2, nameIndex := 5, descriptorIndex := 6, attributes := #[] }, { accessFlags := 10, nameIndex := 19, descriptorIndex := 14, attributes := #[] }, { accessFlags := 9, nameIndex := 23, descriptorIndex := 24, attributes := #[] }] 49 2 #[] #[])
  fields := #[]
  methods := #[k1m0, k1m1, k1m2]
  instanceTypes := #[]
  staticTypes := #[]
  resolved := Array.replicate 27 none
  statics := none }

def pool2 : Array CpInfo := pool [(2, .class_ 4), (1, u "java/lang/Object"), (0, u "<init>"), (0, u "()V"), (9, .class_ 18), (1, u "com/example/strict_cascade/strictcascade/engine/Values"), (18, .class_ 39), (1, u "com/example/strict_cascade/strictcascade/engine/Values$1"), (77, u "NO_VALUE"), (0, u "Ljava/lang/Object;"), (247, u "(I)I"), (2, u "utf8Bytes"), (60, .integer 65536), (90, u "MAX_DECIMAL_PRECISION"), (0, u "I"), (2, u "MAX_DECIMAL_SCALE")] 53

def k2m0 : Method := { name := "<init>", desc := "()V", sig := { parameters := [], returnType := none }, accessFlags := 2, code := none }
def k2c1 : Code := { maxStack := 2, maxLocals := 1, code := prog_87_method_26_code, exceptionTable := #[], attributes := #[] }
def k2m1 : Method := { name := "utf8Bytes", desc := "(I)I", sig := { parameters := [.int], returnType := some .int }, accessFlags := 8, code := some k2c1 }
/-- com/example/strict_cascade/strictcascade/engine/Values -/
def k2 : Class := { plain "com/example/strict_cascade/strictcascade/engine/Values" (some 0) with
  accessFlags := 32
  interfaces := #[]
  cf := some (fileOf pool2 16 #[.nestMembers #[37]] #[{ accessFlags := 2, nameIndex := 5, descriptorIndex := 6, attributes := #[] }, { accessFlags := 8, nameIndex := 369, descriptorIndex := 366, attributes := #[] }] 32 2 #[] #[{ accessFlags := 24, nameIndex := 117, descriptorIndex := 118, attributes := #[] }, { accessFlags := 24, nameIndex := 521, descriptorIndex := 522, attributes := #[] }, { accessFlags := 24, nameIndex := 525, descriptorIndex := 522, attributes := #[] }])
  fields := #[{ name := "NO_VALUE", type := (.object "java/lang/Object"), accessFlags := 24, slot := 0, constantValue := 0 }, { name := "MAX_DECIMAL_PRECISION", type := .int, accessFlags := 24, slot := 1, constantValue := 0 }, { name := "MAX_DECIMAL_SCALE", type := .int, accessFlags := 24, slot := 2, constantValue := 0 }]
  methods := #[k2m0, k2m1]
  instanceTypes := #[]
  staticTypes := #[(.object "java/lang/Object"), .int, .int]
  resolved := Array.replicate 579 none
  statics := none }

def pool3 : Array CpInfo := pool [(1, u "java/lang/Cloneable"), (0, .class_ 1), (0, u "java/lang/Object"), (0, .class_ 3)] 3

/-- java/lang/Cloneable -/
def k3 : Class := { plain "java/lang/Cloneable" (some 0) with
  accessFlags := 1537
  interfaces := #[]
  cf := some (fileOf pool3 2 #[] #[] 1537 4 #[] #[])
  fields := #[]
  methods := #[]
  instanceTypes := #[]
  staticTypes := #[]
  resolved := Array.replicate 8 none
  statics := none }

def pool4 : Array CpInfo := pool [(1, u "java/io/Serializable"), (0, .class_ 1), (0, u "java/lang/Object"), (0, .class_ 3)] 3

/-- java/io/Serializable -/
def k4 : Class := { plain "java/io/Serializable" (some 0) with
  accessFlags := 1537
  interfaces := #[]
  cf := some (fileOf pool4 2 #[] #[] 1537 4 #[] #[])
  fields := #[]
  methods := #[]
  instanceTypes := #[]
  staticTypes := #[]
  resolved := Array.replicate 8 none
  statics := none }

/-- the primitive byte -/
def k5 : Class := { plain "byte" none with kind := .primitive 'B', accessFlags := 0x411 }
/-- [B -/
def k6 : Class := { plain "[B" (some 0) with kind := .array 5 .byte, interfaces := #[3, 4], accessFlags := 1041 }

/-- the primitive int -/
def k7 : Class := { plain "int" none with kind := .primitive 'I', accessFlags := 0x411 }
/-- [I -/
def k8 : Class := { plain "[I" (some 0) with kind := .array 7 .int, interfaces := #[3, 4], accessFlags := 1041 }

def heap : Heap := #[]
def classes : Array Class := #[k0, k1, k2, k3, k4, k5, k6, k7, k8]
def interned : List (Array UInt16 × Addr) := []
def slotsUsed : Nat := 0
def theMethod : MethodId := ⟨1, 2⟩
def args0 : Array Value := #[.int 5]
def aboutOver (below : List Frame) : State where
  vm := { classes := classes, interned := interned.toArray }
  heap := heap
  slotsUsed := slotsUsed
  threads := #[{ frames := .invoking theMethod args0 :: below }]
def below0 : List Frame := [.native { method := ⟨0, 0⟩, args := #[] }]
def about1 : State := aboutOver below0
def p0 : Program := .bare "" "" ""
def e0 : Env := launch0.env 0 0 0
theorem w_frames : about1.frames = Frame.invoking theMethod args0 :: below0 := rfl
set_option maxRecDepth 65536 in
theorem w_args : argsFit about1.vm theMethod args0 = true := by decide +kernel
set_option maxRecDepth 65536 in
theorem w_heap : heapFits about1 = true := by decide +kernel
set_option maxRecDepth 65536 in
theorem w_runnable : about1.curStatus? = some .runnable := by decide +kernel
set_option maxRecDepth 65536 in
theorem w_alone : about1.alone = true := by decide +kernel
set_option maxRecDepth 65536 in
theorem w_named : about1.methodNamed? x = some theMethod := by decide +kernel
set_option maxRecDepth 65536 in
theorem w_hears : about1.hears theMethod below0 = true := by decide +kernel
set_option maxRecDepth 65536 in
theorem w_ripe : about1.ripe theMethod args0 below0 = true := by decide +kernel
theorem w_running : about1.status = .running := rfl
set_option maxRecDepth 65536 in
theorem w_room : about1.hasRoom e0.platform room_1 = true :=
  launch0.hasRoom_least _ room_1 (by decide +kernel) (by decide +kernel) (by decide +kernel) (by decide +kernel) (by decide +kernel) (by decide +kernel)
theorem allAtoms_all (ts : List Jvm.Cond) (a : Array Jvm.Value) (st : Jvm.State) : (allAtoms ts).before a st = ts.all (fun c => c.before a st) := by
  induction ts with
  | nil => rfl
  | cons c t ih =>
    show (Jvm.Cond.and c (allAtoms t)).before a st = _
    rw [Jvm.Cond.before_and, ih, List.all_cons]
def words1 : List Jvm.Cond := Jvm.Cond.code x code maxLocals ret :: tables_1
/-- a 'code' word, met by the world's own term for the bytes: nothing is compared byte by byte -/
theorem code_word {y : MethodName} {bytes : ByteArray} {mx : Nat} {rt : Option FieldType} {a : Array Value} {s : State} {m : MethodId} {meth : Method} {c : Code} (h1 : s.methodNamed? y = some m) (h2 : s.vm.method? m = some meth) (h3 : meth.code = some c) (h4 : c.code = bytes)
    (h5 : (c.maxLocals == mx && c.exceptionTable.isEmpty && decide (c.maxStack ≤ mostOperands) && decide (meth.sig.returnType = rt) && !meth.locks && decide (parseMethodDescriptor y.desc = some meth.sig)) = true) : (Jvm.Cond.code y bytes mx rt).before a s = true := by
  simp only [Bool.and_eq_true, beq_iff_eq, Bool.not_eq_true', decide_eq_true_eq] at h5
  obtain ⟨⟨⟨⟨⟨g1, g2⟩, g3⟩, g4⟩, g5⟩, g6⟩ := h5
  simp [Cond.before, Cond.holds, Cond.value, h1, h2, h3, h4, g1, g2, g3, g4, g5, g6]
def isCode : Jvm.Cond → Bool
  | .code _ _ _ _ => true
  | _ => false
theorem all_split {L : List Jvm.Cond} {P : Jvm.Cond → Bool} (h1 : L.all (fun c => isCode c || P c) = true) (h2 : ∀ c ∈ L.filter isCode, P c = true) : L.all P = true := by
  refine List.all_eq_true.mpr fun c hc => ?_
  have h := List.all_eq_true.mp h1 c hc
  rcases Bool.eq_false_or_eq_true (isCode c) with hi | hi
  · exact h2 c (List.mem_filter.mpr ⟨hc, hi⟩)
  · simpa [hi] using h
set_option maxRecDepth 65536 in
theorem w_c0 : (Jvm.Cond.code x code maxLocals ret).before args0 about1 = true := code_word (m := ⟨1, 2⟩) (meth := k1m2) (c := k1c2) (by decide +kernel) rfl rfl rfl (by decide +kernel)
set_option maxRecDepth 65536 in
theorem w_c1 : (Jvm.Cond.code ({ cls := "com/example/strict_cascade/strictcascade/engine/Values", name := "utf8Bytes", desc := "(I)I" } : Jvm.MethodName) prog_87_method_26_code (1 : Nat) (Option.some Jvm.ClassFile.FieldType.int)).before args0 about1 = true := code_word (m := ⟨2, 1⟩) (meth := k2m1) (c := k2c1) (by decide +kernel) rfl rfl rfl (by decide +kernel)
set_option maxRecDepth 65536 in
theorem w_c2 : (Jvm.Cond.code ({ cls := "com/example/strict_cascade/strictcascade/engine/ValuesUtf8BytesPinLaw", name := "payloadBits", desc := "(I)I" } : Jvm.MethodName) method_2_code (1 : Nat) (Option.some Jvm.ClassFile.FieldType.int)).before args0 about1 = true := code_word (m := ⟨1, 1⟩) (meth := k1m1) (c := k1c1) (by decide +kernel) rfl rfl rfl (by decide +kernel)
def codes1 : List Jvm.Cond := [Jvm.Cond.code x code maxLocals ret, Jvm.Cond.code ({ cls := "com/example/strict_cascade/strictcascade/engine/Values", name := "utf8Bytes", desc := "(I)I" } : Jvm.MethodName) prog_87_method_26_code (1 : Nat) (Option.some Jvm.ClassFile.FieldType.int), Jvm.Cond.code ({ cls := "com/example/strict_cascade/strictcascade/engine/ValuesUtf8BytesPinLaw", name := "payloadBits", desc := "(I)I" } : Jvm.MethodName) method_2_code (1 : Nat) (Option.some Jvm.ClassFile.FieldType.int)]
set_option maxRecDepth 65536 in
theorem codes_eq : words1.filter isCode = codes1 := rfl
theorem w_codes : ∀ c ∈ words1.filter isCode, c.before args0 about1 = true := by
  rw [codes_eq]
  intro c hc
  simp only [codes1, List.mem_cons, List.not_mem_nil, or_false] at hc
  rcases hc with rfl | rfl | rfl
  · exact w_c0
  · exact w_c1
  · exact w_c2
set_option maxRecDepth 65536 in
theorem w_t1 : words1.all (fun c => isCode c || c.before args0 about1) = true := by decide +kernel
theorem w_tables : (allAtoms (Jvm.Cond.code x code maxLocals ret :: tables_1)).before args0 about1 = true := by
  rw [allAtoms_all]
  show words1.all (fun c => c.before args0 about1) = true
  refine all_split ?_ w_codes
  rw [w_t1]
set_option maxRecDepth 65536 in
theorem w_case : (Jvm.Cond.and given_1 narrow_1).before args0 about1 = true := by decide +kernel
theorem w_applies : (headSpec (Jvm.Cond.code x code maxLocals ret :: tables_1) room_1).applies x e0.platform about1 = true :=
  (Spec.applies_iff w_frames).mpr ⟨w_running, w_runnable, w_alone, w_named, w_hears, w_ripe, w_room, w_tables⟩
theorem atStart : AtStart classFile x code maxLocals ret World_1 tables_1 room_1 Calls_1 rest_1 Pre_1 launch0 p0 e0 about1 theMethod args0 below0 :=
  ⟨lists_1, trivial, launch0.admits_env _ _ _, launch0.least_env, fairChoices_fair.cas, fairChoices_fair.clock, w_frames, w_args, w_heap, w_applies, trivial, trivial, w_case⟩
end start1
theorem witness_1 : WitnessClaimed_1 := ⟨start1.p0, start1.e0, start1.about1, start1.theMethod, start1.args0, start1.below0, start1.atStart⟩
end Jvm.Pilot.@@N@@
