import JvmDerived
import JvmDerived.Pilot.@@N@@Statement
import JvmDerived.Pilot.@@N@@Code
set_option linter.unusedVariables false
set_option linter.unusedSimpArgs false
namespace Jvm.Pilot.@@N@@
open Jvm Jvm.ClassFile Sem Op Lib Jvm.Free Jvm.Stand Jvm.LawKit Jvm.RoadKit Bundle Jvm.Pilot.@@N@@.Jvm.D
/-! OWN KIT 1: a goal 'the run goes on to a good end', and a block of plain instructions taken in one step (own_blk) -/
abbrev zI (x : Int32) : Slot := .val (.int x)
abbrev zL (x : Int64) : Slot := .val (.long x)
abbrev zD (x : UInt64) : Slot := .val (.double x)
abbrev zA (x : Addr) : Slot := .val (.ref x)
abbrev zN : Slot := .val .null
abbrev zU : Slot := .unset
abbrev zS : Slot := .second
def own_Go (tb : Tables) (e : Env) (below : List Frame) (Q : Outcome → State → Prop) (S : State) : Prop :=
  ∃ s₂ o, Steps tb e below S s₂ ∧ s₂.status = .running ∧ Ended s₂ below o ∧ Q o s₂
theorem own_go {tb : Tables} {e : Env} {below : List Frame} {Q : Outcome → State → Prop} {S S' : State} (h : ∀ t, Steps tb e below S' t → Steps tb e below S t) (k : own_Go tb e below Q S') : own_Go tb e below Q S := by
  obtain ⟨s2, o, a, b, c, d⟩ := k
  exact ⟨s2, o, h _ a, b, c, d⟩
/-- what a contract asks of the end -/
def own_Fin (s : State) (C S : Nat) (q : Option Value → Heap → List Loc → Prop) (o : Outcome) (U : State) : Prop :=
  ∃ v L, o = .returned v ∧ q v U.heap L ∧ FrameEnd s o U L C S
/-! local variables as lists -/
def own_nth : List Slot → Nat → Option Slot
  | [], _ => none
  | a :: _, 0 => some a
  | _ :: r, n + 1 => own_nth r n
def own_put : List Slot → Nat → Slot → List Slot
  | [], _, _ => []
  | _ :: r, 0, x => x :: r
  | a :: r, n + 1, x => a :: own_put r n x
theorem own_nth_eq : ∀ (ls : List Slot) (k : Nat), (Array.mk ls)[k]? = own_nth ls k := by
  intro ls k
  show (Array.mk ls)[k]? = _
  rw [List.getElem?_toArray]
  induction ls generalizing k with
  | nil => rfl
  | cons a r ih => cases k with
    | zero => rfl
    | succ n => exact ih n
theorem own_put_eq : ∀ (ls : List Slot) (k : Nat) (x : Slot), (Array.mk ls).setIfInBounds k x = Array.mk (own_put ls k x) := by
  intro ls k x
  have h : ls.set k x = own_put ls k x := by
    induction ls generalizing k with
    | nil => rfl
    | cons a r ih => cases k with
      | zero => rfl
      | succ n => show a :: r.set n x = a :: own_put r n x; rw [ih]
  rw [← h]
  exact List.setIfInBounds_toArray _ _ _
theorem own_nth_lt {ls : List Slot} {k : Nat} {x : Slot} (h : own_nth ls k = some x) : k < (Array.mk ls).size := by
  rw [← own_nth_eq] at h
  exact (Array.getElem?_eq_some_iff.mp h).1
theorem own_size (ls : List Slot) (k : Nat) (x : Slot) : (Array.mk (own_put ls k x)).size = (Array.mk ls).size := by
  rw [← own_put_eq]; exact Array.size_setIfInBounds
theorem own_setAt {ls : List Slot} {k : Nat} (x : Slot) (h : k < (Array.mk ls).size) : setAt (Array.mk ls) k x = some (Array.mk (own_put ls k x)) := by
  rw [← own_put_eq]
  exact if_pos h
def own_self (ls : List Slot) (k : Nat) (v : Value) : Option (List Slot) :=
  match v.category with
  | 2 => match own_nth ls (k + 1) with
    | none => none
    | some .unset => some (own_put (own_put ls k (.val v)) (k + 1) .second)
    | some .second => some (own_put (own_put ls k (.val v)) (k + 1) .second)
    | some (.val w) => match w.category with
      | 2 => match own_nth ls (k + 2) with
        | none => none
        | some _ => some (own_put (own_put (own_put ls k (.val v)) (k + 2) .unset) (k + 1) .second)
      | _ => some (own_put (own_put ls k (.val v)) (k + 1) .second)
  | _ => some (own_put ls k (.val v))
def own_sto (ls : List Slot) (k : Nat) (v : Value) : Option (List Slot) :=
  match own_nth ls k with
  | none => none
  | some .unset => own_self ls k v
  | some .second => own_self (own_put ls (k - 1) .unset) k v
  | some (.val w) => match w.category with
    | 2 => match own_nth ls (k + 1) with
      | none => none
      | some _ => own_self (own_put ls (k + 1) .unset) k v
    | _ => own_self ls k v
theorem own_storeSelf (l : Array Slot) (i : Nat) (v : Value) : storeSelf l i v = (setAt l i (.val v)).bind fun l => if v.category = 2 then l[i + 1]?.bind fun o => (match o with
    | .val old => if old.category = 2 then (setAt l (i + 2) .unset).bind fun l2 => setAt l2 (i + 1) .second else setAt l (i + 1) .second
    | _ => setAt l (i + 1) .second) else some l := rfl
theorem own_storeLocals (l : Array Slot) (i : Nat) (v : Value) : storeLocals l i v = l[i]?.bind fun o => (match o with
    | .second => (setAt l (i - 1) .unset).bind fun l2 => storeSelf l2 i v
    | .val old => if old.category = 2 then (setAt l (i + 1) .unset).bind fun l2 => storeSelf l2 i v else storeSelf l i v
    | .unset => storeSelf l i v) := rfl
theorem own_nth_ne {ls : List Slot} {k j : Nat} {x : Slot} (h : j ≠ k) : own_nth (own_put ls k x) j = own_nth ls j := by
  rw [← own_nth_eq, ← own_nth_eq, ← own_put_eq]
  exact Array.getElem?_setIfInBounds_ne (Ne.symm h)
theorem own_self_ok {ls ls' : List Slot} {k : Nat} {v : Value} (hk : k < (Array.mk ls).size) (h : own_self ls k v = some ls') : storeSelf (Array.mk ls) k v = some (Array.mk ls') := by
  rw [own_storeSelf, own_setAt _ hk]
  show (if v.category = 2 then _ else _) = _
  unfold own_self at h
  split at h
  · rename_i hc
    rw [if_pos hc, own_nth_eq, own_nth_ne (by omega)]
    split at h
    · cases h
    · rename_i hn
      cases h
      rw [hn]
      exact own_setAt _ (by rw [own_size]; exact own_nth_lt hn)
    · rename_i hn
      cases h
      rw [hn]
      exact own_setAt _ (by rw [own_size]; exact own_nth_lt hn)
    · rename_i w hn
      rw [hn]
      show (if w.category = 2 then _ else _) = _
      split at h
      · rename_i hw
        rw [if_pos hw]
        split at h
        · cases h
        · rename_i y hy
          cases h
          rw [own_setAt _ (by rw [own_size]; exact own_nth_lt hy)]
          exact own_setAt _ (by rw [own_size, own_size]; exact own_nth_lt hn)
      · rename_i hw
        cases h
        rw [if_neg (fun q => hw q)]
        exact own_setAt _ (by rw [own_size]; exact own_nth_lt hn)
  · rename_i hc
    cases h
    rw [if_neg (fun q => hc q)]
theorem own_sto_ok {ls ls' : List Slot} {k : Nat} {v : Value} (h : own_sto ls k v = some ls') : storeLocals (Array.mk ls) k v = some (Array.mk ls') := by
  rw [own_storeLocals, own_nth_eq]
  unfold own_sto at h
  split at h
  · cases h
  · rename_i hn
    rw [hn]
    exact own_self_ok (own_nth_lt hn) h
  · rename_i hn
    rw [hn]
    have := own_nth_lt hn
    show ((setAt _ (k - 1) .unset).bind _) = _
    rw [own_setAt _ (by omega)]
    exact own_self_ok (by rw [own_size]; exact this) h
  · rename_i w hn
    rw [hn]
    have := own_nth_lt hn
    show (if w.category = 2 then _ else _) = _
    split at h
    · rename_i hw
      rw [if_pos hw]
      split at h
      · cases h
      · rename_i y hy
        rw [own_setAt _ (own_nth_lt hy)]
        exact own_self_ok (by rw [own_size]; exact this) h
    · rename_i hw
      rw [if_neg (fun q => hw q)]
      exact own_self_ok this h
/-! the conditions of a branch, said of whole numbers -/
def own_c0 : ClassFile.Cond → Int32 → Prop
  | .eq, a => a.toInt = 0
  | .ne, a => a.toInt ≠ 0
  | .lt, a => a.toInt < 0
  | .ge, a => 0 ≤ a.toInt
  | .gt, a => 0 < a.toInt
  | .le, a => a.toInt ≤ 0
def own_ic : ClassFile.Cond → Int32 → Int32 → Prop
  | .eq, a, b => a.toInt = b.toInt
  | .ne, a, b => a.toInt ≠ b.toInt
  | .lt, a, b => a.toInt < b.toInt
  | .ge, a, b => b.toInt ≤ a.toInt
  | .gt, a, b => b.toInt < a.toInt
  | .le, a, b => a.toInt ≤ b.toInt
theorem own_ic_ok (cd : ClassFile.Cond) (a b : Int32) : if_icmp.holds cd a b = true ↔ own_ic cd a b := by
  cases cd
  · show ((a == b) = true) ↔ a.toInt = b.toInt
    rw [beq_iff_eq, Int32.toInt_inj]
  · show ((a != b) = true) ↔ a.toInt ≠ b.toInt
    rw [bne_iff_ne, ne_eq, ne_eq, Int32.toInt_inj]
  · show (decide (a < b) = true) ↔ a.toInt < b.toInt
    rw [decide_eq_true_eq, Int32.lt_iff_toInt_lt]
  · show (decide (a ≥ b) = true) ↔ b.toInt ≤ a.toInt
    rw [decide_eq_true_eq, ge_iff_le, Int32.le_iff_toInt_le]
  · show (decide (a > b) = true) ↔ b.toInt < a.toInt
    rw [decide_eq_true_eq, gt_iff_lt, Int32.lt_iff_toInt_lt]
  · show (decide (a ≤ b) = true) ↔ a.toInt ≤ b.toInt
    rw [decide_eq_true_eq, Int32.le_iff_toInt_le]
theorem own_c0_ok (cd : ClassFile.Cond) (a : Int32) : ifCond.holds cd a = true ↔ own_c0 cd a := by
  have h : ifCond.holds cd a = if_icmp.holds cd a 0 := by cases cd <;> rfl
  rw [h, own_ic_ok]
  cases cd <;> exact Iff.rfl
/-! what is read of an array -/
def own_at (Z : State) (h : Heap) (a : Addr) (ty : FieldType) (j : Int32) (v : Value) : Prop := ∃ cl, Arr Z h a cl ty ∧ ¬ (j < 0 ∨ cl.slots.size ≤ j.toNatClampNeg) ∧ cl.slots[j.toNatClampNeg]? = some v
def own_ln (Z : State) (h : Heap) (a : Addr) (N : Int32) : Prop := ∃ cl ty, Arr Z h a cl ty ∧ cl.slots.size.toInt32 = N
/-! one plain instruction: what it asks (obligations) and where it goes on. ds: the branches' decisions; vs: the values that are read of the heap -/
def own_len : Instr → Nat
  | .iload _ => 2 | .lload _ => 2 | .fload _ => 2 | .dload _ => 2 | .aload _ => 2
  | .istore _ => 2 | .lstore _ => 2 | .fstore _ => 2 | .dstore _ => 2 | .astore _ => 2
  | .bipush _ => 2 | .ldc _ => 2 | .newarray _ => 2
  | .sipush _ => 3 | .ldc_w _ => 3 | .ldc2_w _ => 3 | .iinc _ _ => 3 | .goto _ => 3 | .ifCond _ _ => 3 | .if_icmp _ _ => 3 | .if_acmp _ _ => 3 | .ifnull _ => 3 | .ifnonnull _ => 3
  | .getfield _ => 3 | .putfield _ => 3 | .getstatic _ => 3 | .putstatic _ => 3 | .invokevirtual _ => 3 | .invokespecial _ => 3 | .invokestatic _ => 3 | .new _ => 3 | .anewarray _ => 3 | .checkcast _ => 3 | .instanceof _ => 3
  | .invokeinterface _ _ => 5 | .invokedynamic _ => 5
  | _ => 1
def own_tgt (pc : Nat) : Int → Option Nat
  | .ofNat n => some (pc + n)
  | .negSucc n => bif Nat.ble (n + 1) pc then some (pc - (n + 1)) else none
theorem own_tgt_ok {pc t : Nat} {o : Int} (h : own_tgt pc o = some t) : 0 ≤ (pc : Int) + o ∧ ((pc : Int) + o).toNat = t := by
  cases o with
  | ofNat n =>
    have h1 : pc + n = t := Option.some.inj h
    rw [Int.ofNat_eq_natCast]
    omega
  | negSucc n =>
    have h1 : (bif Nat.ble (n + 1) pc then some (pc - (n + 1)) else none) = some t := h
    cases hb : Nat.ble (n + 1) pc with
    | false => rw [hb] at h1; cases h1
    | true =>
      rw [hb] at h1
      have h2 : pc - (n + 1) = t := Option.some.inj h1
      have h3 := Nat.le_of_ble_eq_true hb
      rw [Int.negSucc_eq]
      omega
def own_key : List (Nat × Value) → Nat → Option Value
  | [], _ => none
  | (q, v) :: r, k => bif Nat.beq q k then some v else own_key r k
def own_fld : List (Nat × String × String × String) → Nat → Option (String × String × String)
  | [], _ => none
  | (q, v) :: r, k => bif Nat.beq q k then some v else own_fld r k
def own_ldI (ls : List Slot) (j : Nat) (k : Value → Prop) : Prop := match own_nth ls j with | some (.val (.int v)) => k (.int v) | _ => False
def own_ldL (ls : List Slot) (j : Nat) (k : Value → Prop) : Prop := match own_nth ls j with | some (.val (.long v)) => k (.long v) | _ => False
def own_ldD (ls : List Slot) (j : Nat) (k : Value → Prop) : Prop := match own_nth ls j with | some (.val (.double v)) => k (.double v) | _ => False
def own_ldA (ls : List Slot) (j : Nat) (k : Value → Prop) : Prop := match own_nth ls j with | some (.val (.ref a)) => k (.ref a) | some (.val .null) => k .null | _ => False
def own_stI (ls : List Slot) (st : List Value) (j : Nat) (k : List Slot → List Value → Prop) : Prop := match st with | .int x :: r => (match own_sto ls j (.int x) with | some l => k l r | none => False) | _ => False
def own_stL (ls : List Slot) (st : List Value) (j : Nat) (k : List Slot → List Value → Prop) : Prop := match st with | .long x :: r => (match own_sto ls j (.long x) with | some l => k l r | none => False) | _ => False
def own_stD (ls : List Slot) (st : List Value) (j : Nat) (k : List Slot → List Value → Prop) : Prop := match st with | .double x :: r => (match own_sto ls j (.double x) with | some l => k l r | none => False) | _ => False
def own_stA (ls : List Slot) (st : List Value) (j : Nat) (k : List Slot → List Value → Prop) : Prop := match st with | .ref x :: r => (match own_sto ls j (.ref x) with | some l => k l r | none => False) | .null :: r => (match own_sto ls j .null with | some l => k l r | none => False) | _ => False
def own_i1 (st : List Value) (f : Int32 → Value) (k : List Value → Prop) : Prop := match st with | .int x :: r => k (f x :: r) | _ => False
def own_l1 (st : List Value) (f : Int64 → Value) (k : List Value → Prop) : Prop := match st with | .long x :: r => k (f x :: r) | _ => False
def own_i2 (st : List Value) (g : Int32 → Int32 → Prop) (f : Int32 → Int32 → Value) (k : List Value → Prop) : Prop := match st with | .int y :: .int x :: r => g x y ∧ k (f x y :: r) | _ => False
def own_p2 (st : List Value) (f : Int32 → Int32 → Value) (k : List Value → Prop) : Prop := match st with | .int y :: .int x :: r => k (f x y :: r) | _ => False
def own_q2 (st : List Value) (f : Int64 → Int64 → Value) (k : List Value → Prop) : Prop := match st with | .long y :: .long x :: r => k (f x y :: r) | _ => False
def own_l2 (st : List Value) (g : Int64 → Int64 → Prop) (f : Int64 → Int64 → Value) (k : List Value → Prop) : Prop := match st with | .long y :: .long x :: r => g x y ∧ k (f x y :: r) | _ => False
def own_li (st : List Value) (f : Int64 → Int32 → Value) (k : List Value → Prop) : Prop := match st with | .int y :: .long x :: r => k (f x y :: r) | _ => False
def own_d2 (st : List Value) (f : UInt64 → UInt64 → UInt64) (k : List Value → Prop) : Prop := match st with | .double y :: .double x :: r => Jvm.Free.Fl.NoNaN64 (f x y) ∧ k (.double (f x y) :: r) | _ => False
def own_ca (st : List Value) (k : List Value → Prop) : Prop := match st with | x :: r => (match x.category with | 1 => k (x :: r) | _ => False) | _ => False
def own_al (Z : State) (h : Heap) (ty : FieldType) (st : List Value) (vs : List Value) (k : List Value → List Value → Prop) : Prop :=
  match st with | .int j :: .ref a :: r => (match vs with | v :: vs' => own_at Z h a ty j v ∧ k vs' (v :: r) | [] => False) | _ => False
def own_br (ds : List Bool) (C : Prop) (kt kn : List Bool → Prop) : Prop :=
  match ds with | true :: d => C ∧ kt d | false :: d => (¬ C) ∧ kn d | [] => False
def own_jp (pc : Nat) (o : Int) (k : Nat → Prop) : Prop := match own_tgt pc o with | some t => k t | none => False
def own_st (Kt : List (Nat × Value)) (Ft : List (Nat × String × String × String)) (Z : State) (h : Heap) (i : Instr) (pc : Nat) (ds : List Bool) (vs : List Value) (ls : List Slot) (st : List Value)
    (kf : List Bool → List Value → List Slot → List Value → Prop) (kj : Nat → List Bool → List Value → List Slot → List Value → Prop) : Prop :=
  match i with
  | .iload j => own_ldI ls j fun v => kf ds vs ls (v :: st)
  | .iload_n j => own_ldI ls j.val fun v => kf ds vs ls (v :: st)
  | .lload j => own_ldL ls j fun v => kf ds vs ls (v :: st)
  | .lload_n j => own_ldL ls j.val fun v => kf ds vs ls (v :: st)
  | .dload j => own_ldD ls j fun v => kf ds vs ls (v :: st)
  | .dload_n j => own_ldD ls j.val fun v => kf ds vs ls (v :: st)
  | .aload j => own_ldA ls j fun v => kf ds vs ls (v :: st)
  | .aload_n j => own_ldA ls j.val fun v => kf ds vs ls (v :: st)
  | .istore j => own_stI ls st j fun l r => kf ds vs l r
  | .istore_n j => own_stI ls st j.val fun l r => kf ds vs l r
  | .lstore j => own_stL ls st j fun l r => kf ds vs l r
  | .lstore_n j => own_stL ls st j.val fun l r => kf ds vs l r
  | .dstore j => own_stD ls st j fun l r => kf ds vs l r
  | .dstore_n j => own_stD ls st j.val fun l r => kf ds vs l r
  | .astore j => own_stA ls st j fun l r => kf ds vs l r
  | .astore_n j => own_stA ls st j.val fun l r => kf ds vs l r
  | .iconst n => kf ds vs ls (.int (Int32.ofInt n) :: st)
  | .bipush n => (match vs with | .int v :: vs' => (Int8.ofInt n).toInt32 = v ∧ kf ds vs' ls (.int v :: st) | _ => False)
  | .sipush n => (match vs with | .int v :: vs' => (Int16.ofInt n).toInt32 = v ∧ kf ds vs' ls (.int v :: st) | _ => False)
  | .lconst n => kf ds vs ls (.long (Int64.ofNat n) :: st)
  | .dconst n => kf ds vs ls (.double (match n.val with | 0 => 0 | _ => 4607182418800017408) :: st)
  | .aconst_null => kf ds vs ls (.null :: st)
  | .ldc n => (match own_key Kt n with | some (.int v) => kf ds vs ls (.int v :: st) | _ => False)
  | .ldc_w n => (match own_key Kt n with | some (.int v) => kf ds vs ls (.int v :: st) | _ => False)
  | .ldc2_w n => (match own_key Kt n with | some (.long v) => kf ds vs ls (.long v :: st) | some (.double v) => kf ds vs ls (.double v :: st) | _ => False)
  | .iadd => own_p2 st (fun x y => .int (x + y)) fun r => kf ds vs ls r
  | .isub => own_p2 st (fun x y => .int (x - y)) fun r => kf ds vs ls r
  | .imul => own_p2 st (fun x y => .int (x * y)) fun r => kf ds vs ls r
  | .idiv => own_i2 st (fun _ y => y ≠ 0) (fun x y => .int (x / y)) fun r => kf ds vs ls r
  | .irem => own_i2 st (fun _ y => y ≠ 0) (fun x y => .int (x % y)) fun r => kf ds vs ls r
  | .iand => own_p2 st (fun x y => .int (x &&& y)) fun r => kf ds vs ls r
  | .ior => own_p2 st (fun x y => .int (x ||| y)) fun r => kf ds vs ls r
  | .ixor => own_p2 st (fun x y => .int (x ^^^ y)) fun r => kf ds vs ls r
  | .ishl => own_p2 st (fun x y => .int (x <<< (y &&& 31))) fun r => kf ds vs ls r
  | .ishr => own_p2 st (fun x y => .int (x >>> (y &&& 31))) fun r => kf ds vs ls r
  | .iushr => own_p2 st (fun x y => .int (Jvm.Free.XT.ushr x y)) fun r => kf ds vs ls r
  | .ineg => own_i1 st (fun x => .int (-x)) fun r => kf ds vs ls r
  | .i2l => own_i1 st (fun x => .long x.toInt64) fun r => kf ds vs ls r
  | .i2b => own_i1 st (fun x => .int x.toInt8.toInt32) fun r => kf ds vs ls r
  | .i2s => own_i1 st (fun x => .int x.toInt16.toInt32) fun r => kf ds vs ls r
  | .i2c => own_i1 st (fun x => .int x.toUInt32.toUInt16.toUInt32.toInt32) fun r => kf ds vs ls r
  | .i2d => own_i1 st (fun x => .double (FP.i2d x)) fun r => kf ds vs ls r
  | .l2i => own_l1 st (fun x => .int x.toInt32) fun r => kf ds vs ls r
  | .l2d => own_l1 st (fun x => .double (FP.l2d x)) fun r => kf ds vs ls r
  | .ladd => own_q2 st (fun x y => .long (x + y)) fun r => kf ds vs ls r
  | .lsub => own_q2 st (fun x y => .long (x - y)) fun r => kf ds vs ls r
  | .lmul => own_q2 st (fun x y => .long (x * y)) fun r => kf ds vs ls r
  | .ldiv => own_l2 st (fun _ y => y ≠ 0) (fun x y => .long (x / y)) fun r => kf ds vs ls r
  | .land => own_q2 st (fun x y => .long (x &&& y)) fun r => kf ds vs ls r
  | .lneg => own_l1 st (fun x => .long (-x)) fun r => kf ds vs ls r
  | .lshr => own_li st (fun x y => .long (x >>> (y.toInt64 &&& 63))) fun r => kf ds vs ls r
  | .lushr => own_li st (fun x y => .long (Jvm.Free.XT.ushrL x y)) fun r => kf ds vs ls r
  | .lcmp => own_q2 st (fun x y => .int (Jvm.Free.XT.cmpL x y)) fun r => kf ds vs ls r
  | .dadd => own_d2 st FP.dadd fun r => kf ds vs ls r
  | .dsub => own_d2 st FP.dsub fun r => kf ds vs ls r
  | .dmul => own_d2 st FP.dmul fun r => kf ds vs ls r
  | .ddiv => own_d2 st FP.ddiv fun r => kf ds vs ls r
  | .dneg => (match st with | .double x :: r => kf ds vs ls (.double (FP.dneg x) :: r) | _ => False)
  | .dcmp o => (match st with | .double y :: .double x :: r => kf ds vs ls (.int (cmpValue (FP.dcmp x y) o) :: r) | _ => False)
  | .iinc j n => (match own_nth ls j with | some (.val (.int x)) => (match own_sto ls j (.int (x + Int32.ofInt n)) with | some l => kf ds vs l st | none => False) | _ => False)
  | .dup => own_ca st fun st => (match st with | x :: r => kf ds vs ls (x :: x :: r) | _ => False)
  | .pop => own_ca st fun st => (match st with | _ :: r => kf ds vs ls r | _ => False)
  | .dup2 => own_ca st fun st => (match st with | x :: r => own_ca r fun r => (match r with | y :: q => kf ds vs ls (x :: y :: x :: y :: q) | _ => False) | _ => False)
  | .dup_x1 => own_ca st fun st => (match st with | x :: r => own_ca r fun r => (match r with | y :: q => kf ds vs ls (x :: y :: x :: q) | _ => False) | _ => False)
  | .goto o => own_jp pc o fun t => kj t ds vs ls st
  | .ifCond cd o => (match st with | .int x :: r => own_br ds (own_c0 cd x) (fun d => own_jp pc o fun t => kj t d vs ls r) (fun d => kf d vs ls r) | _ => False)
  | .if_icmp cd o => (match st with | .int y :: .int x :: r => own_br ds (own_ic cd x y) (fun d => own_jp pc o fun t => kj t d vs ls r) (fun d => kf d vs ls r) | _ => False)
  | .ifnull o => (match st with | .null :: r => own_jp pc o fun t => kj t ds vs ls r | .ref _ :: r => kf ds vs ls r | _ => False)
  | .ifnonnull o => (match st with | .ref _ :: r => own_jp pc o fun t => kj t ds vs ls r | .null :: r => kf ds vs ls r | _ => False)
  | .arraylength => (match st with | .ref a :: r => (match vs with | .int N :: vs' => own_ln Z h a N ∧ kf ds vs' ls (.int N :: r) | _ => False) | _ => False)
  | .iaload => own_al Z h .int st vs fun vs' r => kf ds vs' ls r
  | .daload => own_al Z h .double st vs fun vs' r => kf ds vs' ls r
  | .laload => own_al Z h .long st vs fun vs' r => kf ds vs' ls r
  | .getfield n => (match st with | .ref a :: r => (match vs with | v :: vs' => (match own_fld Ft n with | some (C, f, d) => Fld Z h a C f d v ∧ kf ds vs' ls (v :: r) | none => False) | [] => False) | _ => False)
  | _ => False
theorem own_ldI_e {ls : List Slot} {j : Nat} {k : Value → Prop} (H : own_ldI ls j k) : ∃ v, own_nth ls j = some (.val (.int v)) ∧ k (.int v) := by
  unfold own_ldI at H
  split at H
  · exact ⟨_, by assumption, H⟩
  · exact H.elim
theorem own_ldL_e {ls : List Slot} {j : Nat} {k : Value → Prop} (H : own_ldL ls j k) : ∃ v, own_nth ls j = some (.val (.long v)) ∧ k (.long v) := by
  unfold own_ldL at H
  split at H
  · exact ⟨_, by assumption, H⟩
  · exact H.elim
theorem own_ldD_e {ls : List Slot} {j : Nat} {k : Value → Prop} (H : own_ldD ls j k) : ∃ v, own_nth ls j = some (.val (.double v)) ∧ k (.double v) := by
  unfold own_ldD at H
  split at H
  · exact ⟨_, by assumption, H⟩
  · exact H.elim
theorem own_ldA_e {ls : List Slot} {j : Nat} {k : Value → Prop} (H : own_ldA ls j k) : ∃ v, own_nth ls j = some (.val v) ∧ v.isRef = true ∧ k v := by
  unfold own_ldA at H
  split at H
  · exact ⟨_, by assumption, rfl, H⟩
  · exact ⟨_, by assumption, rfl, H⟩
  · exact H.elim
theorem own_stI_e {ls : List Slot} {st : List Value} {j : Nat} {k : List Slot → List Value → Prop} (H : own_stI ls st j k) : ∃ x r l, st = .int x :: r ∧ storeLocals (Array.mk ls) j (.int x) = some (Array.mk l) ∧ k l r := by
  unfold own_stI at H
  split at H
  · split at H
    · exact ⟨_, _, _, rfl, own_sto_ok (by assumption), H⟩
    · exact H.elim
  · exact H.elim
theorem own_stL_e {ls : List Slot} {st : List Value} {j : Nat} {k : List Slot → List Value → Prop} (H : own_stL ls st j k) : ∃ x r l, st = .long x :: r ∧ storeLocals (Array.mk ls) j (.long x) = some (Array.mk l) ∧ k l r := by
  unfold own_stL at H
  split at H
  · split at H
    · exact ⟨_, _, _, rfl, own_sto_ok (by assumption), H⟩
    · exact H.elim
  · exact H.elim
theorem own_stD_e {ls : List Slot} {st : List Value} {j : Nat} {k : List Slot → List Value → Prop} (H : own_stD ls st j k) : ∃ x r l, st = .double x :: r ∧ storeLocals (Array.mk ls) j (.double x) = some (Array.mk l) ∧ k l r := by
  unfold own_stD at H
  split at H
  · split at H
    · exact ⟨_, _, _, rfl, own_sto_ok (by assumption), H⟩
    · exact H.elim
  · exact H.elim
theorem own_stA_e {ls : List Slot} {st : List Value} {j : Nat} {k : List Slot → List Value → Prop} (H : own_stA ls st j k) : ∃ x r l, st = x :: r ∧ x.isRef = true ∧ storeLocals (Array.mk ls) j x = some (Array.mk l) ∧ k l r := by
  unfold own_stA at H
  split at H
  · split at H
    · exact ⟨_, _, _, rfl, rfl, own_sto_ok (by assumption), H⟩
    · exact H.elim
  · split at H
    · exact ⟨_, _, _, rfl, rfl, own_sto_ok (by assumption), H⟩
    · exact H.elim
  · exact H.elim
theorem own_i1_e {st : List Value} {f : Int32 → Value} {k : List Value → Prop} (H : own_i1 st f k) : ∃ x r, st = .int x :: r ∧ k (f x :: r) := by
  unfold own_i1 at H
  split at H
  · exact ⟨_, _, rfl, H⟩
  · exact H.elim
theorem own_l1_e {st : List Value} {f : Int64 → Value} {k : List Value → Prop} (H : own_l1 st f k) : ∃ x r, st = .long x :: r ∧ k (f x :: r) := by
  unfold own_l1 at H
  split at H
  · exact ⟨_, _, rfl, H⟩
  · exact H.elim
theorem own_i2_e {st : List Value} {g : Int32 → Int32 → Prop} {f : Int32 → Int32 → Value} {k : List Value → Prop} (H : own_i2 st g f k) : ∃ x y r, st = .int y :: .int x :: r ∧ g x y ∧ k (f x y :: r) := by
  unfold own_i2 at H
  split at H
  · exact ⟨_, _, _, rfl, H⟩
  · exact H.elim
theorem own_p2_e {st : List Value} {f : Int32 → Int32 → Value} {k : List Value → Prop} (H : own_p2 st f k) : ∃ x y r, st = .int y :: .int x :: r ∧ k (f x y :: r) := by
  unfold own_p2 at H
  split at H
  · exact ⟨_, _, _, rfl, H⟩
  · exact H.elim
theorem own_l2_e {st : List Value} {g : Int64 → Int64 → Prop} {f : Int64 → Int64 → Value} {k : List Value → Prop} (H : own_l2 st g f k) : ∃ x y r, st = .long y :: .long x :: r ∧ g x y ∧ k (f x y :: r) := by
  unfold own_l2 at H
  split at H
  · exact ⟨_, _, _, rfl, H⟩
  · exact H.elim
theorem own_q2_e {st : List Value} {f : Int64 → Int64 → Value} {k : List Value → Prop} (H : own_q2 st f k) : ∃ x y r, st = .long y :: .long x :: r ∧ k (f x y :: r) := by
  unfold own_q2 at H
  split at H
  · exact ⟨_, _, _, rfl, H⟩
  · exact H.elim
theorem own_li_e {st : List Value} {f : Int64 → Int32 → Value} {k : List Value → Prop} (H : own_li st f k) : ∃ x y r, st = .int y :: .long x :: r ∧ k (f x y :: r) := by
  unfold own_li at H
  split at H
  · exact ⟨_, _, _, rfl, H⟩
  · exact H.elim
theorem own_d2_e {st : List Value} {f : UInt64 → UInt64 → UInt64} {k : List Value → Prop} (H : own_d2 st f k) : ∃ x y r, st = .double y :: .double x :: r ∧ Jvm.Free.Fl.NoNaN64 (f x y) ∧ k (.double (f x y) :: r) := by
  unfold own_d2 at H
  split at H
  · exact ⟨_, _, _, rfl, H⟩
  · exact H.elim
theorem own_ca_e {st : List Value} {k : List Value → Prop} (H : own_ca st k) : ∃ x r, st = x :: r ∧ x.category = 1 ∧ k (x :: r) := by
  unfold own_ca at H
  split at H
  · split at H
    · exact ⟨_, _, rfl, by assumption, H⟩
    · exact H.elim
  · exact H.elim
theorem own_al_e {Z : State} {h : Heap} {ty : FieldType} {st vs : List Value} {k : List Value → List Value → Prop} (H : own_al Z h ty st vs k) : ∃ j a r v vs', st = .int j :: .ref a :: r ∧ vs = v :: vs' ∧ own_at Z h a ty j v ∧ k vs' (v :: r) := by
  unfold own_al at H
  split at H
  · split at H
    · exact ⟨_, _, _, _, _, rfl, rfl, H⟩
    · exact H.elim
  · exact H.elim
theorem own_br_e {ds : List Bool} {C : Prop} {kt kn : List Bool → Prop} (H : own_br ds C kt kn) : (C ∧ ∃ d, kt d) ∨ ((¬ C) ∧ ∃ d, kn d) := by
  unfold own_br at H
  split at H
  · exact Or.inl ⟨H.1, _, H.2⟩
  · exact Or.inr ⟨H.1, _, H.2⟩
  · exact H.elim
theorem own_jp_e {pc : Nat} {o : Int} {k : Nat → Prop} (H : own_jp pc o k) : ∃ t, 0 ≤ (pc : Int) + o ∧ ((pc : Int) + o).toNat = t ∧ k t := by
  unfold own_jp at H
  split at H
  · rename_i t ht
    exact ⟨t, (own_tgt_ok ht).1, (own_tgt_ok ht).2, H⟩
  · exact H.elim
def own_kw (own : String) (a0 : Array Value) (Z : State) : Nat × Value → Prop
  | (n, .int v) => (Jvm.Cond.constant own n v).before a0 Z = true
  | (n, .long v) => (Jvm.Cond.constantLong own n v).before a0 Z = true
  | (n, .double v) => (Jvm.Cond.constantDouble own n v).before a0 Z = true
  | _ => False
def own_ks (own : String) (a0 : Array Value) (Z : State) : List (Nat × Value) → Prop
  | [] => True
  | x :: r => own_kw own a0 Z x ∧ own_ks own a0 Z r
def own_fs (own : String) (a0 : Array Value) (Z : State) : List (Nat × String × String × String) → Prop
  | [] => True
  | (n, C, f, d) :: r => (Jvm.Cond.fieldLink own n C f d).before a0 Z = true ∧ own_fs own a0 Z r
theorem own_key_e {own : String} {a0 : Array Value} {Z : State} {n : Nat} {v : Value} : ∀ {Kt : List (Nat × Value)}, own_ks own a0 Z Kt → own_key Kt n = some v → own_kw own a0 Z (n, v)
  | [], _, h => by cases h
  | (q, w) :: r, hk, h => by
    have h' : (bif Nat.beq q n then some w else own_key r n) = some v := h
    cases hb : Nat.beq q n with
    | true =>
      rw [hb] at h'
      have e1 : w = v := Option.some.inj h'
      have e2 := Nat.eq_of_beq_eq_true hb
      subst e1 e2
      exact hk.1
    | false =>
      rw [hb] at h'
      exact own_key_e hk.2 h'
theorem own_fld_e {own : String} {a0 : Array Value} {Z : State} {n : Nat} {C f d : String} : ∀ {Ft : List (Nat × String × String × String)}, own_fs own a0 Z Ft → own_fld Ft n = some (C, f, d) → (Jvm.Cond.fieldLink own n C f d).before a0 Z = true
  | [], _, h => by cases h
  | (q, C', f', d') :: r, hk, h => by
    have h' : (bif Nat.beq q n then some (C', f', d') else own_fld r n) = some (C, f, d) := h
    cases hb : Nat.beq q n with
    | true =>
      rw [hb] at h'
      have e1 : (C', f', d') = (C, f, d) := Option.some.inj h'
      have e2 := Nat.eq_of_beq_eq_true hb
      cases e1
      subst e2
      exact hk.1
    | false =>
      rw [hb] at h'
      exact own_fld_e hk.2 h'
section OwnRun
variable {p : Program} {l : Launch} {e : Env} {R : Room} {s : State} {m : MethodId} {args : Array Value} {below : List Frame} {meth : Method} {c : Code} {T : State} {locs : List Loc} {cells slots : Nat} {Z : State} {a0 : Array Value} {h : Heap} {Q : Outcome → State → Prop} {own : String}
/-- the run goes on well from pc with these locals and this stack, at whatever state of the same heap -/
def own_Aft (X : Stand p l e R s m args below meth c T locs cells slots) (h : Heap) (Q : Outcome → State → Prop) (pc : Nat) (ls : List Slot) (st : List Value) : Prop :=
  ∀ T', Stand p l e R s m args below meth c T' locs cells slots → T'.heap = h → own_Go p.tables e below Q (T'.setTop (mkF m pc (Array.mk ls) st))
set_option maxHeartbeats 4000000 in
theorem own_st_ok (X : Stand p l e R s m args below meth c T locs cells slots) (hx : p.tables.exec = Jvm.exec) (hZ : Z.Warmed39 s.vm) (hown : s.vm.findClass own = some m.cls) (eT : T.heap = h) {Kt : List (Nat × Value)} {Ft : List (Nat × String × String × String)} (hK : own_ks own a0 Z Kt) (hF : own_fs own a0 Z Ft)
    {i : Instr} {pc : Nat} (hd : decode c.code pc = .ok (i, own_len i)) {ds : List Bool} {vs : List Value} {ls : List Slot} {st : List Value} {kf : List Bool → List Value → List Slot → List Value → Prop} {kj : Nat → List Bool → List Value → List Slot → List Value → Prop}
    (H : own_st Kt Ft Z h i pc ds vs ls st kf kj) (Hf : ∀ ds vs ls st, kf ds vs ls st → own_Aft X h Q (pc + own_len i) ls st) (Hj : ∀ t ds vs ls st, kj t ds vs ls st → own_Aft X h Q t ls st) :
    own_Go p.tables e below Q (T.setTop (mkF m pc (Array.mk ls) st)) := by
  cases i with
  | iload j =>
    have H : (own_ldI ls j fun v => kf ds vs ls (v :: st)) := H
    obtain ⟨v, hn, hk⟩ := own_ldI_e H
    exact own_go (fun t k => XS.iload X.here hx rfl hd ((own_nth_eq _ _).trans hn) k) (Hf _ _ _ _ hk T X eT)
  | iload_n j =>
    have H : (own_ldI ls j.val fun v => kf ds vs ls (v :: st)) := H
    obtain ⟨v, hn, hk⟩ := own_ldI_e H
    exact own_go (fun t k => XS.iloadN X.here hx rfl hd ((own_nth_eq _ _).trans hn) k) (Hf _ _ _ _ hk T X eT)
  | lload j =>
    have H : (own_ldL ls j fun v => kf ds vs ls (v :: st)) := H
    obtain ⟨v, hn, hk⟩ := own_ldL_e H
    exact own_go (fun t k => XT.lload X.here hx rfl hd ((own_nth_eq _ _).trans hn) k) (Hf _ _ _ _ hk T X eT)
  | lload_n j =>
    have H : (own_ldL ls j.val fun v => kf ds vs ls (v :: st)) := H
    obtain ⟨v, hn, hk⟩ := own_ldL_e H
    exact own_go (fun t k => XT.lloadN X.here hx rfl hd ((own_nth_eq _ _).trans hn) k) (Hf _ _ _ _ hk T X eT)
  | dload j =>
    have H : (own_ldD ls j fun v => kf ds vs ls (v :: st)) := H
    obtain ⟨v, hn, hk⟩ := own_ldD_e H
    exact own_go (fun t k => XS.dload X.here hx rfl hd ((own_nth_eq _ _).trans hn) k) (Hf _ _ _ _ hk T X eT)
  | dload_n j =>
    have H : (own_ldD ls j.val fun v => kf ds vs ls (v :: st)) := H
    obtain ⟨v, hn, hk⟩ := own_ldD_e H
    exact own_go (fun t k => XS.dloadN X.here hx rfl hd ((own_nth_eq _ _).trans hn) k) (Hf _ _ _ _ hk T X eT)
  | aload j =>
    have H : (own_ldA ls j fun v => kf ds vs ls (v :: st)) := H
    obtain ⟨v, hn, hv, hk⟩ := own_ldA_e H
    exact own_go (fun t k => XS.aload X.here hx rfl hd ((own_nth_eq _ _).trans hn) hv k) (Hf _ _ _ _ hk T X eT)
  | aload_n j =>
    have H : (own_ldA ls j.val fun v => kf ds vs ls (v :: st)) := H
    obtain ⟨v, hn, hv, hk⟩ := own_ldA_e H
    exact own_go (fun t k => XS.aloadN X.here hx rfl hd ((own_nth_eq _ _).trans hn) hv k) (Hf _ _ _ _ hk T X eT)
  | istore j =>
    have H : (own_stI ls st j fun l r => kf ds vs l r) := H
    obtain ⟨x, r, l', rfl, hl, hk⟩ := own_stI_e H
    exact own_go (fun t k => XS.istore X.here hx rfl hd rfl hl k) (Hf _ _ _ _ hk T X eT)
  | istore_n j =>
    have H : (own_stI ls st j.val fun l r => kf ds vs l r) := H
    obtain ⟨x, r, l', rfl, hl, hk⟩ := own_stI_e H
    exact own_go (fun t k => XS.istoreN X.here hx rfl hd rfl hl k) (Hf _ _ _ _ hk T X eT)
  | lstore j =>
    have H : (own_stL ls st j fun l r => kf ds vs l r) := H
    obtain ⟨x, r, l', rfl, hl, hk⟩ := own_stL_e H
    exact own_go (fun t k => XT.lstore X.here hx rfl hd rfl hl k) (Hf _ _ _ _ hk T X eT)
  | lstore_n j =>
    have H : (own_stL ls st j.val fun l r => kf ds vs l r) := H
    obtain ⟨x, r, l', rfl, hl, hk⟩ := own_stL_e H
    exact own_go (fun t k => XT.lstoreN X.here hx rfl hd rfl hl k) (Hf _ _ _ _ hk T X eT)
  | dstore j =>
    have H : (own_stD ls st j fun l r => kf ds vs l r) := H
    obtain ⟨x, r, l', rfl, hl, hk⟩ := own_stD_e H
    exact own_go (fun t k => XS.dstore X.here hx rfl hd rfl hl k) (Hf _ _ _ _ hk T X eT)
  | dstore_n j =>
    have H : (own_stD ls st j.val fun l r => kf ds vs l r) := H
    obtain ⟨x, r, l', rfl, hl, hk⟩ := own_stD_e H
    exact own_go (fun t k => XS.dstoreN X.here hx rfl hd rfl hl k) (Hf _ _ _ _ hk T X eT)
  | astore j =>
    have H : (own_stA ls st j fun l r => kf ds vs l r) := H
    obtain ⟨x, r, l', rfl, hv, hl, hk⟩ := own_stA_e H
    exact own_go (fun t k => XS.astore X.here hx rfl hd rfl hv hl k) (Hf _ _ _ _ hk T X eT)
  | astore_n j =>
    have H : (own_stA ls st j.val fun l r => kf ds vs l r) := H
    obtain ⟨x, r, l', rfl, hv, hl, hk⟩ := own_stA_e H
    exact own_go (fun t k => XS.astoreN X.here hx rfl hd rfl hv hl k) (Hf _ _ _ _ hk T X eT)
  | iconst n => exact own_go (fun t k => XS.iconst X.here hx rfl hd k) (Hf _ _ _ _ H T X eT)
  | bipush n =>
    have H' : (match (generalizing := false) vs with | .int v :: vs' => (Int8.ofInt n).toInt32 = v ∧ kf ds vs' ls (.int v :: st) | _ => False) := H
    split at H'
    · obtain ⟨hv, hk⟩ := H'
      subst hv
      exact own_go (fun t k => XS.bipush X.here hx rfl hd k) (Hf _ _ _ _ hk T X eT)
    · exact H'.elim
  | sipush n =>
    have H' : (match (generalizing := false) vs with | .int v :: vs' => (Int16.ofInt n).toInt32 = v ∧ kf ds vs' ls (.int v :: st) | _ => False) := H
    split at H'
    · obtain ⟨hv, hk⟩ := H'
      subst hv
      exact own_go (fun t k => XS.sipush X.here hx rfl hd k) (Hf _ _ _ _ hk T X eT)
    · exact H'.elim
  | lconst n => exact own_go (fun t k => XT.lconst X.here hx rfl hd k) (Hf _ _ _ _ H T X eT)
  | dconst n =>
    match n, hd, H, Hf with
    | ⟨0, _⟩, hd, H, Hf => exact own_go (fun t k => XS.dconst0 X.here hx rfl hd rfl k) (Hf _ _ _ _ H T X eT)
    | ⟨1, _⟩, hd, H, Hf => exact own_go (fun t k => XS.dconst1 X.here hx rfl hd rfl k) (Hf _ _ _ _ H T X eT)
  | aconst_null => exact own_go (fun t k => XS.aconstNull X.here hx rfl hd k) (Hf _ _ _ _ H T X eT)
  | ldc n =>
    have H' : (match (generalizing := false) own_key Kt n with | some (.int v) => kf ds vs ls (.int v :: st) | _ => False) := H
    split at H'
    · rename_i v hv
      exact own_go (X.ldcInt hx hown (mv hZ (own_key_e hK hv)) (g := mkF m pc (Array.mk ls) st) rfl hd) (Hf _ _ _ _ H' T X eT)
    · exact H'.elim
  | ldc_w n =>
    have H' : (match (generalizing := false) own_key Kt n with | some (.int v) => kf ds vs ls (.int v :: st) | _ => False) := H
    split at H'
    · rename_i v hv
      exact own_go (X.ldcWInt hx hown (mv hZ (own_key_e hK hv)) (g := mkF m pc (Array.mk ls) st) rfl hd) (Hf _ _ _ _ H' T X eT)
    · exact H'.elim
  | ldc2_w n =>
    have H' : (match (generalizing := false) own_key Kt n with | some (.long v) => kf ds vs ls (.long v :: st) | some (.double v) => kf ds vs ls (.double v :: st) | _ => False) := H
    split at H'
    · rename_i v hv
      exact own_go (X.ldc2Long hx hown (mv hZ (own_key_e hK hv)) (g := mkF m pc (Array.mk ls) st) rfl hd) (Hf _ _ _ _ H' T X eT)
    · rename_i v hv
      exact own_go (X.ldc2DoubleC hx hown (mv hZ (own_key_e hK hv)) (g := mkF m pc (Array.mk ls) st) rfl hd) (Hf _ _ _ _ H' T X eT)
    · exact H'.elim
  | iadd =>
    have H : (own_p2 st (fun x y => .int (x + y)) fun r => kf ds vs ls r) := H
    obtain ⟨x, y, r, rfl, hk⟩ := own_p2_e H
    exact own_go (fun t k => XS.iadd X.here hx rfl hd rfl k) (Hf _ _ _ _ hk T X eT)
  | isub =>
    have H : (own_p2 st (fun x y => .int (x - y)) fun r => kf ds vs ls r) := H
    obtain ⟨x, y, r, rfl, hk⟩ := own_p2_e H
    exact own_go (fun t k => XS.isub X.here hx rfl hd rfl k) (Hf _ _ _ _ hk T X eT)
  | imul =>
    have H : (own_p2 st (fun x y => .int (x * y)) fun r => kf ds vs ls r) := H
    obtain ⟨x, y, r, rfl, hk⟩ := own_p2_e H
    exact own_go (fun t k => XS.imul X.here hx rfl hd rfl k) (Hf _ _ _ _ hk T X eT)
  | idiv =>
    have H : (own_i2 st (fun _ y => y ≠ 0) (fun x y => .int (x / y)) fun r => kf ds vs ls r) := H
    obtain ⟨x, y, r, rfl, hg, hk⟩ := own_i2_e H
    exact own_go (fun t k => XS.idiv X.here hx rfl hd rfl hg k) (Hf _ _ _ _ hk T X eT)
  | irem =>
    have H : (own_i2 st (fun _ y => y ≠ 0) (fun x y => .int (x % y)) fun r => kf ds vs ls r) := H
    obtain ⟨x, y, r, rfl, hg, hk⟩ := own_i2_e H
    exact own_go (fun t k => iremM X hx (g := mkF m pc (Array.mk ls) _) rfl hd rfl hg k) (Hf _ _ _ _ hk T X eT)
  | iand =>
    have H : (own_p2 st (fun x y => .int (x &&& y)) fun r => kf ds vs ls r) := H
    obtain ⟨x, y, r, rfl, hk⟩ := own_p2_e H
    exact own_go (fun t k => XS.iand X.here hx rfl hd rfl k) (Hf _ _ _ _ hk T X eT)
  | ior =>
    have H : (own_p2 st (fun x y => .int (x ||| y)) fun r => kf ds vs ls r) := H
    obtain ⟨x, y, r, rfl, hk⟩ := own_p2_e H
    exact own_go (fun t k => XT.ior X.here hx rfl hd rfl k) (Hf _ _ _ _ hk T X eT)
  | ixor =>
    have H : (own_p2 st (fun x y => .int (x ^^^ y)) fun r => kf ds vs ls r) := H
    obtain ⟨x, y, r, rfl, hk⟩ := own_p2_e H
    exact own_go (fun t k => XT.ixor X.here hx rfl hd rfl k) (Hf _ _ _ _ hk T X eT)
  | ishl =>
    have H : (own_p2 st (fun x y => .int (x <<< (y &&& 31))) fun r => kf ds vs ls r) := H
    obtain ⟨x, y, r, rfl, hk⟩ := own_p2_e H
    exact own_go (fun t k => XT.ishl X.here hx rfl hd rfl k) (Hf _ _ _ _ hk T X eT)
  | ishr =>
    have H : (own_p2 st (fun x y => .int (x >>> (y &&& 31))) fun r => kf ds vs ls r) := H
    obtain ⟨x, y, r, rfl, hk⟩ := own_p2_e H
    exact own_go (fun t k => XT.ishr X.here hx rfl hd rfl k) (Hf _ _ _ _ hk T X eT)
  | iushr =>
    have H : (own_p2 st (fun x y => .int (Jvm.Free.XT.ushr x y)) fun r => kf ds vs ls r) := H
    obtain ⟨x, y, r, rfl, hk⟩ := own_p2_e H
    exact own_go (fun t k => XT.iushr X.here hx rfl hd rfl k) (Hf _ _ _ _ hk T X eT)
  | ineg =>
    have H : (own_i1 st (fun x => .int (-x)) fun r => kf ds vs ls r) := H
    obtain ⟨x, r, rfl, hk⟩ := own_i1_e H
    exact own_go (fun t k => XS.ineg X.here hx rfl hd rfl k) (Hf _ _ _ _ hk T X eT)
  | i2l =>
    have H : (own_i1 st (fun x => .long x.toInt64) fun r => kf ds vs ls r) := H
    obtain ⟨x, r, rfl, hk⟩ := own_i1_e H
    exact own_go (fun t k => XT.i2l X.here hx rfl hd rfl k) (Hf _ _ _ _ hk T X eT)
  | i2b =>
    have H : (own_i1 st (fun x => .int x.toInt8.toInt32) fun r => kf ds vs ls r) := H
    obtain ⟨x, r, rfl, hk⟩ := own_i1_e H
    exact own_go (fun t k => XT.i2b X.here hx rfl hd rfl k) (Hf _ _ _ _ hk T X eT)
  | i2s =>
    have H : (own_i1 st (fun x => .int x.toInt16.toInt32) fun r => kf ds vs ls r) := H
    obtain ⟨x, r, rfl, hk⟩ := own_i1_e H
    exact own_go (fun t k => XT.i2s X.here hx rfl hd rfl k) (Hf _ _ _ _ hk T X eT)
  | i2c =>
    have H : (own_i1 st (fun x => .int x.toUInt32.toUInt16.toUInt32.toInt32) fun r => kf ds vs ls r) := H
    obtain ⟨x, r, rfl, hk⟩ := own_i1_e H
    exact own_go (fun t k => XT.i2c X.here hx rfl hd rfl k) (Hf _ _ _ _ hk T X eT)
  | i2d =>
    have H : (own_i1 st (fun x => .double (FP.i2d x)) fun r => kf ds vs ls r) := H
    obtain ⟨x, r, rfl, hk⟩ := own_i1_e H
    exact own_go (fun t k => XS.i2dS X.here hx rfl hd rfl rfl k) (Hf _ _ _ _ hk T X eT)
  | l2i =>
    have H : (own_l1 st (fun x => .int x.toInt32) fun r => kf ds vs ls r) := H
    obtain ⟨x, r, rfl, hk⟩ := own_l1_e H
    exact own_go (fun t k => XT.l2i X.here hx rfl hd rfl k) (Hf _ _ _ _ hk T X eT)
  | l2d =>
    have H : (own_l1 st (fun x => .double (FP.l2d x)) fun r => kf ds vs ls r) := H
    obtain ⟨x, r, rfl, hk⟩ := own_l1_e H
    exact own_go (fun t k => XS.l2dS X.here hx rfl hd rfl rfl k) (Hf _ _ _ _ hk T X eT)
  | ladd =>
    have H : (own_q2 st (fun x y => .long (x + y)) fun r => kf ds vs ls r) := H
    obtain ⟨x, y, r, rfl, hk⟩ := own_q2_e H
    exact own_go (fun t k => XT.ladd X.here hx rfl hd rfl k) (Hf _ _ _ _ hk T X eT)
  | lsub =>
    have H : (own_q2 st (fun x y => .long (x - y)) fun r => kf ds vs ls r) := H
    obtain ⟨x, y, r, rfl, hk⟩ := own_q2_e H
    exact own_go (fun t k => XT.lsub X.here hx rfl hd rfl k) (Hf _ _ _ _ hk T X eT)
  | lmul =>
    have H : (own_q2 st (fun x y => .long (x * y)) fun r => kf ds vs ls r) := H
    obtain ⟨x, y, r, rfl, hk⟩ := own_q2_e H
    exact own_go (fun t k => XT.lmul X.here hx rfl hd rfl k) (Hf _ _ _ _ hk T X eT)
  | ldiv =>
    have H : (own_l2 st (fun _ y => y ≠ 0) (fun x y => .long (x / y)) fun r => kf ds vs ls r) := H
    obtain ⟨x, y, r, rfl, hg, hk⟩ := own_l2_e H
    exact own_go (fun t k => XT.ldiv X.here hx rfl hd rfl hg k) (Hf _ _ _ _ hk T X eT)
  | land =>
    have H : (own_q2 st (fun x y => .long (x &&& y)) fun r => kf ds vs ls r) := H
    obtain ⟨x, y, r, rfl, hk⟩ := own_q2_e H
    exact own_go (fun t k => XT.land X.here hx rfl hd rfl k) (Hf _ _ _ _ hk T X eT)
  | lneg =>
    have H : (own_l1 st (fun x => .long (-x)) fun r => kf ds vs ls r) := H
    obtain ⟨x, r, rfl, hk⟩ := own_l1_e H
    exact own_go (fun t k => XT.lneg X.here hx rfl hd rfl k) (Hf _ _ _ _ hk T X eT)
  | lshr =>
    have H : (own_li st (fun x y => .long (x >>> (y.toInt64 &&& 63))) fun r => kf ds vs ls r) := H
    obtain ⟨x, y, r, rfl, hk⟩ := own_li_e H
    exact own_go (fun t k => XT.lshr X.here hx rfl hd rfl k) (Hf _ _ _ _ hk T X eT)
  | lushr =>
    have H : (own_li st (fun x y => .long (Jvm.Free.XT.ushrL x y)) fun r => kf ds vs ls r) := H
    obtain ⟨x, y, r, rfl, hk⟩ := own_li_e H
    exact own_go (fun t k => XT.lushr X.here hx rfl hd rfl k) (Hf _ _ _ _ hk T X eT)
  | lcmp =>
    have H : (own_q2 st (fun x y => .int (Jvm.Free.XT.cmpL x y)) fun r => kf ds vs ls r) := H
    obtain ⟨x, y, r, rfl, hk⟩ := own_q2_e H
    exact own_go (fun t k => XT.lcmp X.here hx rfl hd rfl k) (Hf _ _ _ _ hk T X eT)
  | dadd =>
    have H : (own_d2 st FP.dadd fun r => kf ds vs ls r) := H
    obtain ⟨x, y, r, rfl, hg, hk⟩ := own_d2_e H
    exact own_go (fun t k => XS.daddS X.here hx rfl hd rfl hg rfl k) (Hf _ _ _ _ hk T X eT)
  | dsub =>
    have H : (own_d2 st FP.dsub fun r => kf ds vs ls r) := H
    obtain ⟨x, y, r, rfl, hg, hk⟩ := own_d2_e H
    exact own_go (fun t k => XS.dsubS X.here hx rfl hd rfl hg rfl k) (Hf _ _ _ _ hk T X eT)
  | dmul =>
    have H : (own_d2 st FP.dmul fun r => kf ds vs ls r) := H
    obtain ⟨x, y, r, rfl, hg, hk⟩ := own_d2_e H
    exact own_go (fun t k => XS.dmulS X.here hx rfl hd rfl hg rfl k) (Hf _ _ _ _ hk T X eT)
  | ddiv =>
    have H : (own_d2 st FP.ddiv fun r => kf ds vs ls r) := H
    obtain ⟨x, y, r, rfl, hg, hk⟩ := own_d2_e H
    exact own_go (fun t k => XS.ddivS X.here hx rfl hd rfl hg rfl k) (Hf _ _ _ _ hk T X eT)
  | dneg =>
    have H' : (match (generalizing := false) st with | .double x :: r => kf ds vs ls (.double (FP.dneg x) :: r) | _ => False) := H
    split at H'
    · exact own_go (fun t k => XS.dnegS X.here hx rfl hd rfl rfl k) (Hf _ _ _ _ H' T X eT)
    · exact H'.elim
  | dcmp o =>
    have H' : (match (generalizing := false) st with | .double y :: .double x :: r => kf ds vs ls (.int (cmpValue (FP.dcmp x y) o) :: r) | _ => False) := H
    split at H'
    · exact own_go (fun t k => XS.dcmpS X.here hx rfl hd rfl rfl k) (Hf _ _ _ _ H' T X eT)
    · exact H'.elim
  | iinc j n =>
    have H' : (match (generalizing := false) own_nth ls j with | some (.val (.int x)) => (match (generalizing := false) own_sto ls j (.int (x + Int32.ofInt n)) with | some l => kf ds vs l st | none => False) | _ => False) := H
    split at H'
    · rename_i x hn
      split at H'
      · rename_i l' hl
        exact own_go (fun t k => XS.iinc X.here hx rfl hd ((own_nth_eq _ _).trans hn) (own_sto_ok hl) k) (Hf _ _ _ _ H' T X eT)
      · exact H'.elim
    · exact H'.elim
  | dup =>
    have H : (own_ca st fun st => (match st with | x :: r => kf ds vs ls (x :: x :: r) | _ => False)) := H
    obtain ⟨x, r, rfl, hc, hk⟩ := own_ca_e H
    exact own_go (fun t k => XS.dup X.here hx rfl hd rfl hc k) (Hf _ _ _ _ hk T X eT)
  | pop =>
    have H : (own_ca st fun st => (match st with | _ :: r => kf ds vs ls r | _ => False)) := H
    obtain ⟨x, r, rfl, hc, hk⟩ := own_ca_e H
    exact own_go (fun t k => XT.pop X.here hx rfl hd rfl hc k) (Hf _ _ _ _ hk T X eT)
  | dup2 =>
    have H : (own_ca st fun st => (match st with | x :: r => own_ca r fun r => (match r with | y :: q => kf ds vs ls (x :: y :: x :: y :: q) | _ => False) | _ => False)) := H
    obtain ⟨x, r, rfl, hc, hk⟩ := own_ca_e H
    obtain ⟨y, q, rfl, hc', hk'⟩ := own_ca_e hk
    exact own_go (fun t k => XT.dup2 X.here hx rfl hd rfl hc hc' k) (Hf _ _ _ _ hk' T X eT)
  | dup_x1 =>
    have H : (own_ca st fun st => (match st with | x :: r => own_ca r fun r => (match r with | y :: q => kf ds vs ls (x :: y :: x :: q) | _ => False) | _ => False)) := H
    obtain ⟨x, r, rfl, hc, hk⟩ := own_ca_e H
    obtain ⟨y, q, rfl, hc', hk'⟩ := own_ca_e hk
    exact own_go (fun t k => XT.dupX1 X.here hx rfl hd rfl hc hc' k) (Hf _ _ _ _ hk' T X eT)
  | goto o =>
    have H : (own_jp pc o fun t => kj t ds vs ls st) := H
    obtain ⟨t', h1, h2, hk⟩ := own_jp_e H
    exact own_go (fun t k => XS.goto X.here hx rfl rfl hd h1 h2 k) (Hj _ _ _ _ _ hk T X eT)
  | ifCond cd o =>
    have H' : (match (generalizing := false) st with | .int x :: r => own_br ds (own_c0 cd x) (fun d => own_jp pc o fun t => kj t d vs ls r) (fun d => kf d vs ls r) | _ => False) := H
    split at H'
    · rename_i x r
      rcases own_br_e H' with ⟨hC, d, hk⟩ | ⟨hC, d, hk⟩
      · obtain ⟨t', h1, h2, hk⟩ := own_jp_e hk
        exact own_go (fun t k => XS.ifYes X.here hx rfl rfl hd rfl ((own_c0_ok _ _).mpr hC) h1 h2 k) (Hj _ _ _ _ _ hk T X eT)
      · have hc : ifCond.holds cd x = false := by
          cases hb : ifCond.holds cd x with
          | false => rfl
          | true => exact absurd ((own_c0_ok _ _).mp hb) hC
        exact own_go (fun t k => XS.ifNo X.here hx rfl hd rfl hc k) (Hf _ _ _ _ hk T X eT)
    · exact H'.elim
  | if_icmp cd o =>
    have H' : (match (generalizing := false) st with | .int y :: .int x :: r => own_br ds (own_ic cd x y) (fun d => own_jp pc o fun t => kj t d vs ls r) (fun d => kf d vs ls r) | _ => False) := H
    split at H'
    · rename_i y x r
      rcases own_br_e H' with ⟨hC, d, hk⟩ | ⟨hC, d, hk⟩
      · obtain ⟨t', h1, h2, hk⟩ := own_jp_e hk
        exact own_go (fun t k => XS.icmpYes X.here hx rfl rfl hd rfl ((own_ic_ok _ _ _).mpr hC) h1 h2 k) (Hj _ _ _ _ _ hk T X eT)
      · have hc : if_icmp.holds cd x y = false := by
          cases hb : if_icmp.holds cd x y with
          | false => rfl
          | true => exact absurd ((own_ic_ok _ _ _).mp hb) hC
        exact own_go (fun t k => XS.icmpNo X.here hx rfl hd rfl hc k) (Hf _ _ _ _ hk T X eT)
    · exact H'.elim
  | ifnull o =>
    have H' : (match (generalizing := false) st with | .null :: r => own_jp pc o fun t => kj t ds vs ls r | .ref _ :: r => kf ds vs ls r | _ => False) := H
    split at H'
    · obtain ⟨t', h1, h2, hk⟩ := own_jp_e H'
      exact own_go (fun t k => XS.ifnullYes X.here hx rfl rfl hd rfl h1 h2 k) (Hj _ _ _ _ _ hk T X eT)
    · exact own_go (fun t k => XS.ifnullNo X.here hx rfl hd rfl k) (Hf _ _ _ _ H' T X eT)
    · exact H'.elim
  | ifnonnull o =>
    have H' : (match (generalizing := false) st with | .ref _ :: r => own_jp pc o fun t => kj t ds vs ls r | .null :: r => kf ds vs ls r | _ => False) := H
    split at H'
    · obtain ⟨t', h1, h2, hk⟩ := own_jp_e H'
      exact own_go (fun t k => XT.ifnonnullYes X.here hx rfl rfl hd rfl h1 h2 k) (Hj _ _ _ _ _ hk T X eT)
    · exact own_go (fun t k => XT.ifnonnullNo X.here hx rfl hd rfl k) (Hf _ _ _ _ H' T X eT)
    · exact H'.elim
  | arraylength =>
    have H' : (match (generalizing := false) st with | .ref a :: r => (match (generalizing := false) vs with | .int N :: vs' => own_ln Z h a N ∧ kf ds vs' ls (.int N :: r) | _ => False) | _ => False) := H
    split at H'
    · split at H'
      · rename_i a r N vs'
        obtain ⟨⟨cl, ty, A, hN⟩, hk⟩ := H'
        subst hN
        exact own_go (X.arraylength hx (by rw [eT]; exact A.1) (State.isArrayOf_alike hZ.alike A.2.1) (g := mkF m pc (Array.mk ls) _) rfl rfl hd) (Hf _ _ _ _ hk T X eT)
      · exact H'.elim
    · exact H'.elim
  | iaload =>
    have H : (own_al Z h .int st vs fun vs' r => kf ds vs' ls r) := H
    obtain ⟨j, a, r, v, vs', rfl, rfl, ⟨cl, A, hin, hv⟩, hk⟩ := own_al_e H
    exact own_go (X.iaload hx (by rw [eT]; exact A.1) (State.isArrayOf_alike hZ.alike A.2.1) A.2.2 hin hv (g := mkF m pc (Array.mk ls) _) rfl rfl hd) (Hf _ _ _ _ hk T X eT)
  | daload =>
    have H : (own_al Z h .double st vs fun vs' r => kf ds vs' ls r) := H
    obtain ⟨j, a, r, v, vs', rfl, rfl, ⟨cl, A, hin, hv⟩, hk⟩ := own_al_e H
    exact own_go (X.daload hx (by rw [eT]; exact A.1) (State.isArrayOf_alike hZ.alike A.2.1) A.2.2 hin hv (g := mkF m pc (Array.mk ls) _) rfl rfl hd) (Hf _ _ _ _ hk T X eT)
  | laload =>
    have H : (own_al Z h .long st vs fun vs' r => kf ds vs' ls r) := H
    obtain ⟨j, a, r, v, vs', rfl, rfl, ⟨cl, A, hin, hv⟩, hk⟩ := own_al_e H
    exact own_go (X.laload hx (by rw [eT]; exact A.1) (State.isArrayOf_alike hZ.alike A.2.1) A.2.2 hin hv (g := mkF m pc (Array.mk ls) _) rfl rfl hd) (Hf _ _ _ _ hk T X eT)
  | getfield n =>
    have H' : (match (generalizing := false) st with | .ref a :: r => (match (generalizing := false) vs with | v :: vs' => (match (generalizing := false) own_fld Ft n with | some (C, f, d) => Fld Z h a C f d v ∧ kf ds vs' ls (v :: r) | none => False) | [] => False) | _ => False) := H
    split at H'
    · split at H'
      · split at H'
        · rename_i a r v vs' o C f d hf
          obtain ⟨T', X', e', st'⟩ := getF X hx hZ hown (host := "") (Or.inl (own_fld_e hF hf)) Via.refl eT H'.1 (g := mkF m pc (Array.mk ls) _) rfl rfl hd
          exact own_go st' (Hf _ _ _ _ H'.2 T' X' e')
        · exact H'.elim
      · exact H'.elim
    · exact H'.elim
  | _ => exact H.elim
def own_from : List (Nat × Instr) → Nat → List (Nat × Instr)
  | [], _ => []
  | (q, i) :: r, pc => bif Nat.beq q pc then (q, i) :: r else own_from r pc
def own_dec (code : ByteArray) (tab : List (Nat × Instr)) : Prop := ∀ e ∈ tab, decode code e.1 = .ok (e.2, own_len e.2)
def own_seq : List (Nat × Instr) → Bool
  | (q, i) :: (q', i') :: r => Nat.beq q' (q + own_len i) && own_seq ((q', i') :: r)
  | _ => true
theorem own_from_sub : ∀ {full : List (Nat × Instr)} {t : Nat}, (∀ e ∈ own_from full t, e ∈ full) ∧ (own_seq full = true → own_seq (own_from full t) = true) ∧ (∀ q i r, own_from full t = (q, i) :: r → q = t)
  | [], t => ⟨fun e h => h, fun h => h, fun q i r h => by cases h⟩
  | (q, i) :: r, t => by
    have ih := own_from_sub (full := r) (t := t)
    cases hb : Nat.beq q t with
    | true =>
      have e : own_from ((q, i) :: r) t = (q, i) :: r := by show (bif Nat.beq q t then _ else _) = _; rw [hb]; rfl
      rw [e]
      refine ⟨fun e h => h, fun h => h, fun q' i' r' h => ?_⟩
      cases h
      exact Nat.eq_of_beq_eq_true hb
    | false =>
      have e : own_from ((q, i) :: r) t = own_from r t := by show (bif Nat.beq q t then _ else _) = _; rw [hb]; rfl
      rw [e]
      refine ⟨fun e h => List.mem_cons_of_mem _ (ih.1 e h), fun h => ih.2.1 ?_, ih.2.2⟩
      cases r with
      | nil => rfl
      | cons a r' =>
        obtain ⟨q', i'⟩ := a
        have h' : (Nat.beq q' (q + own_len i) && own_seq ((q', i') :: r')) = true := h
        exact (Bool.and_eq_true_iff.mp h').2
/-! a block: n plain instructions from the table's row at hand on -/
def own_wp (Kt : List (Nat × Value)) (Ft : List (Nat × String × String × String)) (Z : State) (h : Heap) (full : List (Nat × Instr)) (P : Nat → List Slot → List Value → Prop) : Nat → List (Nat × Instr) → List Bool → List Value → List Slot → List Value → Prop
  | _, [], _, _, _, _ => False
  | 0, (q, _) :: _, _, _, ls, st => P q ls st
  | n + 1, (q, i) :: r, ds, vs, ls, st => own_st Kt Ft Z h i q ds vs ls st (fun ds vs ls st => own_wp Kt Ft Z h full P n r ds vs ls st) (fun t ds vs ls st => own_wp Kt Ft Z h full P n (own_from full t) ds vs ls st)
theorem own_wp_ok {code : ByteArray} {full : List (Nat × Instr)} (hdec : own_dec code full) (hseq : own_seq full = true) (hby : c.code = code) (hx : p.tables.exec = Jvm.exec) (hZ : Z.Warmed39 s.vm) (hown : s.vm.findClass own = some m.cls) {Kt : List (Nat × Value)} {Ft : List (Nat × String × String × String)} (hK : own_ks own a0 Z Kt) (hF : own_fs own a0 Z Ft) (X : Stand p l e R s m args below meth c T locs cells slots) :
    ∀ (n : Nat) (tab : List (Nat × Instr)) (ds : List Bool) (vs : List Value) (ls : List Slot) (st : List Value), (∀ e ∈ tab, e ∈ full) → own_seq tab = true → own_wp Kt Ft Z h full (own_Aft X h Q) n tab ds vs ls st →
      ∃ q i r, tab = (q, i) :: r ∧ own_Aft X h Q q ls st
  | _, [], _, _, _, _, _, _, H => by cases ‹Nat› <;> exact H.elim
  | 0, (q, i) :: r, ds, vs, ls, st, _, _, H => ⟨q, i, r, rfl, H⟩
  | n + 1, (q, i) :: r, ds, vs, ls, st, hsub, hs, H => by
    refine ⟨q, i, r, rfl, fun T' X' e' => ?_⟩
    have hd : decode c.code q = .ok (i, own_len i) := by rw [hby]; exact hdec (q, i) (hsub (q, i) (List.mem_cons_self ..))
    have H1 : own_st Kt Ft Z h i q ds vs ls st (fun ds vs ls st => own_wp Kt Ft Z h full (own_Aft X h Q) n r ds vs ls st) (fun t ds vs ls st => own_wp Kt Ft Z h full (own_Aft X h Q) n (own_from full t) ds vs ls st) := H
    clear H
    refine own_st_ok X' hx hZ hown e' hK hF hd H1 (fun ds vs ls st hk => ?_) (fun t ds vs ls st hk => ?_)
    · cases r with
      | nil =>
        obtain ⟨q', i', r', e1, -⟩ := own_wp_ok hdec hseq hby hx hZ hown hK hF X n [] ds vs ls st (fun e he => absurd he (List.not_mem_nil)) rfl hk
        cases e1
      | cons a r' =>
        obtain ⟨q1, i1⟩ := a
        have h' : (Nat.beq q1 (q + own_len i) && own_seq ((q1, i1) :: r')) = true := hs
        obtain ⟨g1, g2⟩ := Bool.and_eq_true_iff.mp h'
        obtain ⟨q', i', r'', e1, e2⟩ := own_wp_ok hdec hseq hby hx hZ hown hK hF X n ((q1, i1) :: r') ds vs ls st (fun e he => hsub e (List.mem_cons_of_mem _ he)) g2 hk
        cases e1
        rw [← Nat.eq_of_beq_eq_true g1]
        exact e2
    · obtain ⟨q', i', r'', e1, e2⟩ := own_wp_ok hdec hseq hby hx hZ hown hK hF X n (own_from full t) ds vs ls st (own_from_sub.1) (own_from_sub.2.1 hseq) hk
      rw [← own_from_sub.2.2 _ _ _ e1]
      exact e2
/-- **A BLOCK**: n plain instructions from pc on, in one step -/
theorem own_blk {code : ByteArray} {full : List (Nat × Instr)} (hdec : own_dec code full) (hseq : own_seq full = true) (hby : c.code = code) (hx : p.tables.exec = Jvm.exec) (hZ : Z.Warmed39 s.vm) (hown : s.vm.findClass own = some m.cls) {Kt : List (Nat × Value)} {Ft : List (Nat × String × String × String)} (hK : own_ks own a0 Z Kt) (hF : own_fs own a0 Z Ft)
    (n : Nat) (ds : List Bool) (vs : List Value) (X : Stand p l e R s m args below meth c T locs cells slots) (eT : T.heap = h) {pc : Nat} {ls : List Slot} {st : List Value} (H : own_wp Kt Ft Z h full (own_Aft X h Q) n (own_from full pc) ds vs ls st) : own_Go p.tables e below Q (T.setTop (mkF m pc (Array.mk ls) st)) := by
  obtain ⟨q, i, r, e1, e2⟩ := own_wp_ok hdec hseq hby hx hZ hown hK hF X n (own_from full pc) ds vs ls st (own_from_sub.1) (own_from_sub.2.1 hseq) H
  rw [← own_from_sub.2.2 _ _ _ e1]
  exact e2 T X eT
/-- **A RETURN** of a value -/
theorem own_ret (X : Stand p l e R s m args below meth c T locs cells slots) (hx : p.tables.exec = Jvm.exec) (hlocks : meth.locks = false) (eT : T.heap = h) {C S : Nat} {q : Option Value → Heap → List Loc → Prop} {pc : Nat} {ls : List Slot} {w : Value} {rest : List Value} {t : FieldType} {i : Instr} (hret : meth.sig.returnType = some t) (hn : narrow t w = w)
    (hi : (i = .ireturn ∧ (t = .int ∨ t = .boolean ∨ t = .byte ∨ t = .char ∨ t = .short) ∧ ∃ z, w = .int z) ∨ (i = .lreturn ∧ t = .long ∧ ∃ z, w = .long z) ∨ (i = .dreturn ∧ t = .double ∧ ∃ z, w = .double z) ∨ (i = .freturn ∧ t = .float ∧ ∃ z, w = .float z) ∨ (i = .areturn ∧ t.isReference = true ∧ w.isRef = true))
    (hd : decode c.code pc = .ok (i, 1)) (hC : cells ≤ C) (hS : slots ≤ S) (hq : q (some w) h locs) : own_Go p.tables e below (own_Fin s C S q) (T.setTop (mkF m pc (Array.mk ls) (w :: rest))) := by
  obtain ⟨fs, hr, hrun, hended, hW, hsame⟩ := X.leave (v := some w) (fun h => by rw [hret] at h; cases h) hlocks
  refine ⟨_, _, retOut X hx hret hn hi hd hr, hrun, hended, some w, locs, rfl, ?_, ⟨_, rfl⟩, hW, hsame.mono hC hS⟩
  show q (some w) T.heap locs
  rw [eT]; exact hq
/-- **A RETURN** of nothing -/
theorem own_retV (X : Stand p l e R s m args below meth c T locs cells slots) (hx : p.tables.exec = Jvm.exec) (hlocks : meth.locks = false) (eT : T.heap = h) {C S : Nat} {q : Option Value → Heap → List Loc → Prop} {pc : Nat} {ls : List Slot} (hret : meth.sig.returnType = none)
    (hd : decode c.code pc = .ok (.return_, 1)) (hC : cells ≤ C) (hS : slots ≤ S) (hq : q none h locs) : own_Go p.tables e below (own_Fin s C S q) (T.setTop (mkF m pc (Array.mk ls) [])) := by
  obtain ⟨fs, hr, hrun, hended, hW, hsame⟩ := X.leave (v := none) (fun _ => rfl) hlocks
  refine ⟨_, _, X.returnOut hx hret hd hr, hrun, hended, none, locs, rfl, ?_, ⟨_, rfl⟩, hW, hsame.mono hC hS⟩
  show q none T.heap locs
  rw [eT]; exact hq
end OwnRun
/-! OWN KIT 2: steps that change the heap, and calls, as steps of own_Go -/
section OwnHeap
variable {p : Program} {l : Launch} {e : Env} {R : Room} {s : State} {m : MethodId} {args : Array Value} {below : List Frame} {meth : Method} {c : Code} {T : State} {locs : List Loc} {cells slots : Nat} {Z : State} {a0 : Array Value} {h h' : Heap} {Q : Outcome → State → Prop} {own : String} {pc : Nat} {ls : List Slot} {st : List Value}
/-- an array with just these values -/
def own_A (Z : State) (h : Heap) (a : Addr) (ty : FieldType) (vs : List Value) : Prop := ∃ cl : Cell, Arr Z h a cl ty ∧ cl.slots.toList = vs
theorem own_A.ext {a : Addr} {ty : FieldType} {vs : List Value} (A : own_A Z h a ty vs) (E : Ext h h') : own_A Z h' a ty vs := by
  obtain ⟨cl, A, q⟩ := A
  exact ⟨cl, A.ext E, q⟩
theorem own_A.keep {a : Addr} {ty : FieldType} {vs : List Value} {ws : List Addr} (A : own_A Z h a ty vs) (K : Keep h h' ws) (q : a ∉ ws) : own_A Z h' a ty vs := by
  obtain ⟨cl, A, r⟩ := A
  exact ⟨cl, ⟨K.2.1 a cl A.1 q, A.2⟩, r⟩
theorem own_A.other {a b : Addr} {ty : FieldType} {vs : List Value} {sl : Nat} {v : Value} (A : own_A Z h b ty vs) (W : Wr h h' a sl v) (hne : b ≠ a) : own_A Z h' b ty vs := by
  obtain ⟨cl, A, r⟩ := A
  exact ⟨cl, A.other W hne, r⟩
theorem own_A.same {a : Addr} {ty : FieldType} {vs : List Value} {sl : Nat} {v : Value} (A : own_A Z h a ty vs) (W : Wr h h' a sl v) : own_A Z h' a ty (vs.set sl v) := by
  obtain ⟨cl, A, r⟩ := A
  refine ⟨_, A.same W, ?_⟩
  subst r
  exact Array.toList_setIfInBounds
theorem own_A.lt {a : Addr} {ty : FieldType} {vs : List Value} (A : own_A Z h a ty vs) : a < h.size := by
  obtain ⟨cl, A, -⟩ := A
  exact A.lt
theorem own_A.at {a : Addr} {ty : FieldType} {vs : List Value} {v : Value} (A : own_A Z h a ty vs) (j : Int32) (k : Nat) (h0 : j.toInt = k) (hv : vs[k]? = some v) : own_at Z h a ty j v := by
  obtain ⟨cl, A, r⟩ := A
  have e1 : j.toNatClampNeg = k := by rw [Int32.toNatClampNeg, h0]; rfl
  have e2 : cl.slots[k]? = some v := by rw [← Array.getElem?_toList, r]; exact hv
  refine ⟨cl, A, ?_, by rw [e1]; exact e2⟩
  rintro (q | q)
  · rw [Int32.lt_iff_toInt_lt, h0] at q
    have : (0 : Int32).toInt = 0 := rfl
    omega
  · rw [e1] at q
    exact absurd (Array.getElem?_eq_some_iff.mp e2).1 (by omega)
theorem own_A.ln {a : Addr} {ty : FieldType} {vs : List Value} (A : own_A Z h a ty vs) (N : Int32) (hN : vs.length.toInt32 = N) : own_ln Z h a N := by
  obtain ⟨cl, A, r⟩ := A
  refine ⟨cl, ty, A, ?_⟩
  rw [← hN, ← r, Array.length_toList]
theorem own_A.inb {a : Addr} {ty : FieldType} {vs : List Value} (A : own_A Z h a ty vs) : ∃ cl : Cell, Arr Z h a cl ty ∧ cl.slots.size = vs.length := by
  obtain ⟨cl, A, r⟩ := A
  exact ⟨cl, A, by rw [← r, Array.length_toList]⟩
theorem own_idx {j : Int32} {k n : Nat} (h0 : j.toInt = k) (hk : k < n) : ¬ (j < 0 ∨ n ≤ j.toNatClampNeg) := by
  have e1 : j.toNatClampNeg = k := by rw [Int32.toNatClampNeg, h0]; rfl
  rintro (q | q)
  · rw [Int32.lt_iff_toInt_lt, h0] at q
    have : (0 : Int32).toInt = 0 := rfl
    omega
  · omega
/-- new C -/
theorem own_new (X : Stand p l e R s m args below meth c T locs cells slots) (hx : p.tables.exec = Jvm.exec) (hZ : Z.Warmed39 s.vm) {C : String} {index n : Nat} (hown : s.vm.findClass own = some m.cls) (w : (Cond.classLink own index C).before a0 Z = true) (wi : (Cond.instantiable C n).before a0 Z = true) (wz : (Cond.initialized C).before a0 Z = true) (eT : T.heap = h)
    (hd : decode c.code pc = .ok (.new index, 3)) (hc : cells + 1 ≤ R.cells) (hl : slots + n ≤ R.slots)
    (k : ∀ T' h' a, a = h.size → Stand p l e R s m args below meth c T' locs (cells + 1) (slots + n) → T'.heap = h' → Ext h h' → Exa Z h' a C → (∀ {O nm d : String} {ty : FieldType}, Laid Z a0 C O nm d → parseFieldDescriptor d = some ty → Fld Z h' a O nm d (defaultValue ty)) →
      own_Go p.tables e below Q (T'.setTop (mkF m (pc + 3) (Array.mk ls) (.ref a :: st)))) : own_Go p.tables e below Q (T.setTop (mkF m pc (Array.mk ls) st)) := by
  obtain ⟨T', h', X', e', E, A, D, -, st'⟩ := newO X hx hZ hown w wi wz eT (g := mkF m pc (Array.mk ls) st) rfl hd hc hl
  exact own_go st' (k T' h' _ rfl X' e' E A D)
/-- newarray of a plain kind, of a length that is known -/
theorem own_newP (X : Stand p l e R s m args below meth c T locs cells slots) (hx : p.tables.exec = Jvm.exec) (hZ : Z.Warmed39 s.vm) {aty : ArrayType} (w : (Cond.arrayClass (newarray.typeOf aty)).before a0 Z = true) (eT : T.heap = h)
    {n : Int32} (N : Nat) (hN : n.toInt = N) {cap : Nat} (hcap : N ≤ cap) (hb : cap * 8 ≤ 536870912) (hd : decode c.code pc = .ok (.newarray aty, 2)) (hc : cells + 1 ≤ R.cells) (hl : slots + cap ≤ R.slots)
    (k : ∀ T' h' a, a = h.size → Stand p l e R s m args below meth c T' locs (cells + 1) (slots + cap) → T'.heap = h' → Ext h h' → own_A Z h' a (newarray.typeOf aty) (List.replicate N (defaultValue (newarray.typeOf aty))) →
      own_Go p.tables e below Q (T'.setTop (mkF m (pc + 2) (Array.mk ls) (.ref a :: st)))) : own_Go p.tables e below Q (T.setTop (mkF m pc (Array.mk ls) (.int n :: st))) := by
  have e1 : n.toNatClampNeg = N := by rw [Int32.toNatClampNeg, hN]; rfl
  have hn : ¬ n < 0 := by
    rw [Int32.lt_iff_toInt_lt, hN]
    have : (0 : Int32).toInt = 0 := rfl
    omega
  obtain ⟨T', h', cA, X', e', E, A, st'⟩ := newP X hx hZ w eT (g := mkF m pc (Array.mk ls) (.int n :: st)) rfl hd rfl hn (cap := cap) (by rw [e1]; exact hcap) hb hc hl
  refine own_go st' (k T' h' _ rfl X' e' E ⟨_, A, ?_⟩)
  show (Array.replicate n.toNatClampNeg _).toList = _
  rw [e1]; exact Array.toList_replicate
/-- dastore -/
theorem own_sD (X : Stand p l e R s m args below meth c T locs cells slots) (hx : p.tables.exec = Jvm.exec) (hZ : Z.Warmed39 s.vm) (eT : T.heap = h) {a : Addr} {vs : List Value} (A : own_A Z h a .double vs) {j : Int32} (kk : Nat) (hj : j.toInt = kk) (hk : kk < vs.length) {x : UInt64} (hd : decode c.code pc = .ok (.dastore, 1))
    (k : ∀ T' h', Stand p l e R s m args below meth c T' (locs ++ [⟨a, kk⟩]) cells slots → T'.heap = h' → Wr h h' a kk (.double x) → own_A Z h' a .double (vs.set kk (.double x)) → own_Go p.tables e below Q (T'.setTop (mkF m (pc + 1) (Array.mk ls) st))) :
    own_Go p.tables e below Q (T.setTop (mkF m pc (Array.mk ls) (.double x :: .int j :: .ref a :: st))) := by
  have e1 : j.toNatClampNeg = kk := by rw [Int32.toNatClampNeg, hj]; rfl
  have A' := A
  obtain ⟨cl, Ar, hs⟩ := A.inb
  obtain ⟨T', h', X', e', W, st'⟩ := stD X hx hZ eT Ar (j := j) (x := x) (by rw [hs]; exact own_idx hj hk) (g := mkF m pc (Array.mk ls) (.double x :: .int j :: .ref a :: st)) rfl rfl hd
  rw [e1] at X' W
  exact own_go st' (k T' h' X' e' W (A'.same W))
/-- iastore -/
theorem own_sI (X : Stand p l e R s m args below meth c T locs cells slots) (hx : p.tables.exec = Jvm.exec) (hZ : Z.Warmed39 s.vm) (eT : T.heap = h) {a : Addr} {vs : List Value} (A : own_A Z h a .int vs) {j : Int32} (kk : Nat) (hj : j.toInt = kk) (hk : kk < vs.length) {x : Int32} (hd : decode c.code pc = .ok (.iastore, 1))
    (k : ∀ T' h', Stand p l e R s m args below meth c T' (locs ++ [⟨a, kk⟩]) cells slots → T'.heap = h' → Wr h h' a kk (.int x) → own_A Z h' a .int (vs.set kk (.int x)) → own_Go p.tables e below Q (T'.setTop (mkF m (pc + 1) (Array.mk ls) st))) :
    own_Go p.tables e below Q (T.setTop (mkF m pc (Array.mk ls) (.int x :: .int j :: .ref a :: st))) := by
  have e1 : j.toNatClampNeg = kk := by rw [Int32.toNatClampNeg, hj]; rfl
  have A' := A
  obtain ⟨cl, Ar, hs⟩ := A.inb
  obtain ⟨T', h', X', e', W, st'⟩ := stI X hx hZ eT Ar (j := j) (x := x) (by rw [hs]; exact own_idx hj hk) (g := mkF m pc (Array.mk ls) (.int x :: .int j :: .ref a :: st)) rfl rfl hd
  rw [e1] at X' W
  exact own_go st' (k T' h' X' e' W (A'.same W))
/-- putfield -/
theorem own_putF (X : Stand p l e R s m args below meth c T locs cells slots) (hx : p.tables.exec = Jvm.exec) (hZ : Z.Warmed39 s.vm) {O n d C : String} {index kk : Nat} {ty : FieldType} (hown : s.vm.findClass own = some m.cls) (w : (Cond.fieldLink own index O n d).before a0 Z = true)
    (eT : T.heap = h) {a : Addr} {v old : Value} (F : Fld Z h a O n d old) (E : Exa Z h a C) (L : (Cond.lays C O n d).before a0 Z = true ∨ ((Cond.laysFinal C O n d).before a0 Z = true ∧ own = O ∧ meth.name = "<init>")) (wi : (Cond.instantiable C kk).before a0 Z = true)
    (hty : parseFieldDescriptor d = some ty) (hn : narrow ty v = v) (hf : fits ty v = true) (hd : decode c.code pc = .ok (.putfield index, 3))
    (k : ∀ T' h', Stand p l e R s m args below meth c T' (locs ++ [⟨a, Jvm.RoadKit.slotOf Z O n d⟩]) cells slots → T'.heap = h' → Wr h h' a (Jvm.RoadKit.slotOf Z O n d) v → Fld Z h' a O n d v → Exa Z h' a C → own_Go p.tables e below Q (T'.setTop (mkF m (pc + 3) (Array.mk ls) st))) :
    own_Go p.tables e below Q (T.setTop (mkF m pc (Array.mk ls) (v :: .ref a :: st))) := by
  obtain ⟨T', h', X', e', W, st'⟩ := putF X hx hZ hown (host := "") (Or.inl w) Via.refl eT F E L wi hty hn hf (g := mkF m pc (Array.mk ls) (v :: .ref a :: st)) rfl rfl hd
  exact own_go st' (k T' h' X' e' W (F.same W) (E.wr W))
/-- Object.<init> -/
theorem own_initO (X : Stand p l e R s m args below meth c T locs cells slots) (hx : p.tables.exec = Jvm.exec) (hZ : Z.Warmed39 s.vm) {idx : Nat} (hown : s.vm.findClass own = some m.cls) (w1 : (Cond.methodLink own idx Lib.objectInit).before a0 Z = true) (w2 : (Cond.instanceMethod Lib.objectInit).before a0 Z = true)
    (w3 : (Cond.code Lib.objectInit ⟨#[0xb1]⟩ 1 none).before a0 Z = true) (eT : T.heap = h) (hsize : ls.length = c.maxLocals) {a : Addr} (hd : decode c.code pc = .ok (.invokespecial idx, 3))
    (hf : 1 ≤ R.frames) (W : Nat) (hW : (st.map fun v => v.category).sum ≤ W) (hl : W + 12 ≤ R.locals)
    (k : ∀ T', Stand p l e R s m args below meth c T' locs cells slots → T'.heap = h → own_Go p.tables e below Q (T'.setTop (mkF m (pc + 3) (Array.mk ls) st))) :
    own_Go p.tables e below Q (T.setTop (mkF m pc (Array.mk ls) (.ref a :: st))) := by
  obtain ⟨T', X', e', st'⟩ := initO X hx hZ hown w1 w2 w3 eT (g := mkF m pc (Array.mk ls) (.ref a :: st)) rfl hsize rfl hd hf (W := W) (by show 2 * 0 + _ ≤ _; omega) hl
  exact own_go st' (k T' X' e')
/-- a static call, by the callee's contract -/
theorem own_callS (X : Stand p l e R s m args below meth c T locs cells slots) (hx : p.tables.exec = Jvm.exec) (hZ : Z.Warmed39 s.vm) (hown : s.vm.findClass own = some m.cls) {index : Nat} {y : MethodName} {bytes : ByteArray} {maxL : Nat} {ret : Option FieldType} {rm : Room}
    (w1 : (Cond.methodLink own index y).before a0 Z = true) (w2 : (Cond.static y).before a0 Z = true) (w3 : (Cond.initialized y.cls).before a0 Z = true) (w4 : (Cond.code y bytes maxL ret).before a0 Z = true) (hy : y.cls ≠ "java/lang/invoke/MethodHandle" ∧ y.cls ≠ "java/lang/invoke/VarHandle")
    (eT : T.heap = h) (argsL : List Value) {ps : List FieldType} {r : Option FieldType} (hpd : parseMethodDescriptor y.desc = some ⟨ps, r⟩) (hlen : argsL.length = ps.length) {q : Option Value → Heap → List Loc → Prop}
    (hM : MetFree l y (head1 [Cond.code y bytes maxL ret] rm) (fun a U => a = argsL.toArray ∧ Z.Warmed39 U.vm ∧ U.heap = h) (fun _ _ _ _ _ => True) (fun _ U o U' => own_Fin U rm.cells rm.slots q o U'))
    (hsize : ls.length = c.maxLocals) (W : Nat) {full : List Value} (hst : full = argsL.reverse ++ st) (hW : (st.map fun v => v.category).sum ≤ W) (hd : decode c.code pc = .ok (.invokestatic index, 3)) (hf : rm.frames + 1 ≤ R.frames) (hl : W + (maxL + 11) + rm.locals ≤ R.locals) (hcc : cells + rm.cells ≤ R.cells) (hss : slots + rm.slots ≤ R.slots)
    (k : ∀ T' v L, Stand p l e R s m args below meth c T' (locs ++ L) (cells + rm.cells) (slots + rm.slots) → q v T'.heap L → own_Go p.tables e below Q (T'.setTop (mkF m (pc + 3) (Array.mk ls) (v.toList ++ st)))) :
    own_Go p.tables e below Q (T.setTop (mkF m pc (Array.mk ls) full)) := by
  subst hst
  obtain ⟨v, vm1, ⟨T', L', k', n'⟩, -, X', ⟨Lc, hq, l1, y1, z1⟩, st'⟩ := Jvm.LawKit.callS X hx hown (mvT hZ w1) (mvT hZ w2) (mvT hZ w3) (mvT hZ w4) hy (backOf (W := W) (Q := q) hM hZ w4 w3 hf hl) (g := mkF m pc (Array.mk ls) (argsL.reverse ++ st)) rfl hsize (argsL := argsL) (rest := st) (lenOf hpd hlen) rfl (by show 2 * 0 + _ ≤ _; omega) hd (fun _ _ => ⟨rfl, eT, hcc, hss⟩)
  dsimp only [Pt.U, Pt.locs, Pt.cells, Pt.slots] at X' l1 y1 z1 st' hq
  subst l1 y1 z1
  exact own_go st' (k T' v Lc X' hq)
/-- a static call that leaves all as it was -/
theorem own_callSP (X : Stand p l e R s m args below meth c T locs cells slots) (hx : p.tables.exec = Jvm.exec) (hZ : Z.Warmed39 s.vm) (hown : s.vm.findClass own = some m.cls) {index : Nat} {y : MethodName} {bytes : ByteArray} {maxL : Nat} {ret : Option FieldType} {fr lo : Nat}
    (w1 : (Cond.methodLink own index y).before a0 Z = true) (w2 : (Cond.static y).before a0 Z = true) (w3 : (Cond.initialized y.cls).before a0 Z = true) (w4 : (Cond.code y bytes maxL ret).before a0 Z = true) (hy : y.cls ≠ "java/lang/invoke/MethodHandle" ∧ y.cls ≠ "java/lang/invoke/VarHandle")
    (eT : T.heap = h) (argsL : List Value) {ps : List FieldType} {r : Option FieldType} (hpd : parseMethodDescriptor y.desc = some ⟨ps, r⟩) (hlen : argsL.length = ps.length) {q : Option Value → Prop}
    (hM : MetFree l y (head1 [Cond.code y bytes maxL ret] { frames := fr, cells := 0, slots := 0, locals := lo }) (fun a U => a = argsL.toArray ∧ Z.Warmed39 U.vm ∧ U.heap = h) (fun _ _ _ _ _ => True) (fun _ U o U' => own_Fin U 0 0 (fun v h' L => q v ∧ L = [] ∧ h' = h) o U'))
    (hsize : ls.length = c.maxLocals) (W : Nat) {full : List Value} (hst : full = argsL.reverse ++ st) (hW : (st.map fun v => v.category).sum ≤ W) (hd : decode c.code pc = .ok (.invokestatic index, 3)) (hf : fr + 1 ≤ R.frames) (hl : W + (maxL + 11) + lo ≤ R.locals)
    (hcc : cells ≤ R.cells) (hss : slots ≤ R.slots)
    (k : ∀ T' v, Stand p l e R s m args below meth c T' locs cells slots → T'.heap = h → q v → own_Go p.tables e below Q (T'.setTop (mkF m (pc + 3) (Array.mk ls) (v.toList ++ st)))) :
    own_Go p.tables e below Q (T.setTop (mkF m pc (Array.mk ls) full)) := by
  refine own_callS X hx hZ hown w1 w2 w3 w4 hy eT argsL hpd hlen (rm := { frames := fr, cells := 0, slots := 0, locals := lo }) hM hsize W hst hW hd hf hl hcc hss (fun T' v L X' hq => ?_)
  obtain ⟨h1, rfl, h3⟩ := hq
  rw [List.append_nil] at X'
  exact k T' v X' h3 h1
/-- an instance call that leaves all as it was -/
theorem own_callVP (X : Stand p l e R s m args below meth c T locs cells slots) (hx : p.tables.exec = Jvm.exec) (hZ : Z.Warmed39 s.vm) (hown : s.vm.findClass own = some m.cls) {index : Nat} {C : String} {y : MethodName} {bytes : ByteArray} {maxL : Nat} {ret : Option FieldType} {fr lo : Nat}
    (w1 : (Cond.methodLink own index y).before a0 Z = true) (w2 : (Cond.declares y).before a0 Z = true) (w5 : (Cond.selects C y y).before a0 Z = true) (w6 : (Cond.instanceMethod y).before a0 Z = true) (w3 : (Cond.initialized y.cls).before a0 Z = true) (w4 : (Cond.code y bytes maxL ret).before a0 Z = true) (hy : y.cls ≠ "java/lang/invoke/MethodHandle" ∧ y.cls ≠ "java/lang/invoke/VarHandle")
    (eT : T.heap = h) {a : Addr} (E : Exa Z h a C) (argsL : List Value) {ps : List FieldType} {r : Option FieldType} (hpd : parseMethodDescriptor y.desc = some ⟨ps, r⟩) (hlen : argsL.length = ps.length) {q : Option Value → Prop}
    (hM : MetFree l y (head1 [Cond.code y bytes maxL ret] { frames := fr, cells := 0, slots := 0, locals := lo }) (fun b U => b = (.ref a :: argsL).toArray ∧ Z.Warmed39 U.vm ∧ U.heap = h) (fun _ _ _ _ _ => True) (fun _ U o U' => own_Fin U 0 0 (fun v h' L => q v ∧ L = [] ∧ h' = h) o U'))
    (hsize : ls.length = c.maxLocals) (W : Nat) {full : List Value} (hst : full = argsL.reverse ++ .ref a :: st) (hW : (st.map fun v => v.category).sum ≤ W) (hd : decode c.code pc = .ok (.invokevirtual index, 3)) (hf : fr + 1 ≤ R.frames) (hl : W + (maxL + 11) + lo ≤ R.locals)
    (hcc : cells ≤ R.cells) (hss : slots ≤ R.slots)
    (k : ∀ T' v, Stand p l e R s m args below meth c T' locs cells slots → T'.heap = h → q v → own_Go p.tables e below Q (T'.setTop (mkF m (pc + 3) (Array.mk ls) (v.toList ++ st)))) :
    own_Go p.tables e below Q (T.setTop (mkF m pc (Array.mk ls) full)) := by
  obtain ⟨cB, kB, i1, i2, i3⟩ := isOf (T := T) hZ eT E
  subst hst
  obtain ⟨v, vm1, ⟨T', L', k', n'⟩, -, X', ⟨Lc, hq, l1, y1, z1⟩, st'⟩ := X.virtualBack hx (y := y) (z := y) hown (mvT hZ w1) (mvT hZ w2) (notFace_of_selects (args := #[]) (mvT hZ w5)) (mvT hZ w5) (mvT hZ w6) hy (backOf (W := W) (Q := fun v h' L => q v ∧ L = [] ∧ h' = h) hM hZ w4 w3 hf hl) i1 i3 (g := mkF m pc (Array.mk ls) (argsL.reverse ++ .ref a :: st)) rfl hsize (Steps.refl _) (argsL := argsL) (rest := st) (lenOf hpd hlen) rfl (by show 2 * 0 + _ ≤ _; omega) hd (fun _ _ => ⟨rfl, eT, hcc, hss⟩)
  dsimp only [Pt.U, Pt.locs, Pt.cells, Pt.slots] at X' l1 y1 z1 st' hq
  subst l1 y1 z1
  obtain ⟨h1, rfl, h3⟩ := hq
  rw [List.append_nil] at X'
  exact own_go (fun t k => st'.trans k) (k T' v X' h3 h1)
/-- a constructor, by its contract -/
theorem own_callI (X : Stand p l e R s m args below meth c T locs cells slots) (hx : p.tables.exec = Jvm.exec) (hZ : Z.Warmed39 s.vm) (hown : s.vm.findClass own = some m.cls) {index : Nat} {y : MethodName} (hy1 : y.name = "<init>") {bytes : ByteArray} {maxL : Nat} {rm : Room}
    (w1 : (Cond.methodLink own index y).before a0 Z = true) (w2 : (Cond.instanceMethod y).before a0 Z = true) (w3 : (Cond.initialized y.cls).before a0 Z = true) (w4 : (Cond.code y bytes maxL none).before a0 Z = true) (hy : y.cls ≠ "java/lang/invoke/MethodHandle" ∧ y.cls ≠ "java/lang/invoke/VarHandle")
    (eT : T.heap = h) (a : Addr) (argsL : List Value) {ps : List FieldType} {r : Option FieldType} (hpd : parseMethodDescriptor y.desc = some ⟨ps, r⟩) (hlen : argsL.length = ps.length) {q : Option Value → Heap → List Loc → Prop}
    (hM : MetFree l y (head1 [Cond.code y bytes maxL none] rm) (fun b U => b = (.ref a :: argsL).toArray ∧ Z.Warmed39 U.vm ∧ U.heap = h) (fun _ _ _ _ _ => True) (fun _ U o U' => own_Fin U rm.cells rm.slots q o U'))
    (hsize : ls.length = c.maxLocals) (W : Nat) {full : List Value} (hst : full = argsL.reverse ++ .ref a :: st) (hW : (st.map fun v => v.category).sum ≤ W) (hd : decode c.code pc = .ok (.invokespecial index, 3)) (hf : rm.frames + 1 ≤ R.frames) (hl : W + (maxL + 11) + rm.locals ≤ R.locals) (hcc : cells + rm.cells ≤ R.cells) (hss : slots + rm.slots ≤ R.slots)
    (k : ∀ T' v L, Stand p l e R s m args below meth c T' (locs ++ L) (cells + rm.cells) (slots + rm.slots) → q v T'.heap L → own_Go p.tables e below Q (T'.setTop (mkF m (pc + 3) (Array.mk ls) (v.toList ++ st)))) :
    own_Go p.tables e below Q (T.setTop (mkF m pc (Array.mk ls) full)) := by
  subst hst
  obtain ⟨v, vm1, ⟨T', L', k', n'⟩, -, X', ⟨Lc, hq, l1, y1, z1⟩, st'⟩ := X.specialBack hx hy1 hown (mvT hZ w1) (mvT hZ w2) (mvT hZ w4) hy (backOf (W := W) (Q := q) hM hZ w4 w3 hf hl) (g := mkF m pc (Array.mk ls) (argsL.reverse ++ .ref a :: st)) rfl hsize (Steps.refl _) (a := a) (argsL := argsL) (rest := st) (lenOf hpd hlen) rfl (by show 2 * 0 + _ ≤ _; omega) hd (fun _ _ => ⟨rfl, eT, hcc, hss⟩)
  dsimp only [Pt.U, Pt.locs, Pt.cells, Pt.slots] at X' l1 y1 z1 st' hq
  subst l1 y1 z1
  exact own_go (fun t k => st'.trans k) (k T' v Lc X' hq)
/-- an instance method, by its contract -/
theorem own_callV (X : Stand p l e R s m args below meth c T locs cells slots) (hx : p.tables.exec = Jvm.exec) (hZ : Z.Warmed39 s.vm) (hown : s.vm.findClass own = some m.cls) {index : Nat} {C : String} {y : MethodName} {bytes : ByteArray} {maxL : Nat} {ret : Option FieldType} {rm : Room}
    (w1 : (Cond.methodLink own index y).before a0 Z = true) (w2 : (Cond.declares y).before a0 Z = true) (w5 : (Cond.selects C y y).before a0 Z = true) (w6 : (Cond.instanceMethod y).before a0 Z = true) (w3 : (Cond.initialized y.cls).before a0 Z = true) (w4 : (Cond.code y bytes maxL ret).before a0 Z = true) (hy : y.cls ≠ "java/lang/invoke/MethodHandle" ∧ y.cls ≠ "java/lang/invoke/VarHandle")
    (eT : T.heap = h) {a : Addr} (E : Exa Z h a C) (argsL : List Value) {ps : List FieldType} {r : Option FieldType} (hpd : parseMethodDescriptor y.desc = some ⟨ps, r⟩) (hlen : argsL.length = ps.length) {q : Option Value → Heap → List Loc → Prop}
    (hM : MetFree l y (head1 [Cond.code y bytes maxL ret] rm) (fun b U => b = (.ref a :: argsL).toArray ∧ Z.Warmed39 U.vm ∧ U.heap = h) (fun _ _ _ _ _ => True) (fun _ U o U' => own_Fin U rm.cells rm.slots q o U'))
    (hsize : ls.length = c.maxLocals) (W : Nat) {full : List Value} (hst : full = argsL.reverse ++ .ref a :: st) (hW : (st.map fun v => v.category).sum ≤ W) (hd : decode c.code pc = .ok (.invokevirtual index, 3)) (hf : rm.frames + 1 ≤ R.frames) (hl : W + (maxL + 11) + rm.locals ≤ R.locals) (hcc : cells + rm.cells ≤ R.cells) (hss : slots + rm.slots ≤ R.slots)
    (k : ∀ T' v L, Stand p l e R s m args below meth c T' (locs ++ L) (cells + rm.cells) (slots + rm.slots) → q v T'.heap L → own_Go p.tables e below Q (T'.setTop (mkF m (pc + 3) (Array.mk ls) (v.toList ++ st)))) :
    own_Go p.tables e below Q (T.setTop (mkF m pc (Array.mk ls) full)) := by
  subst hst
  obtain ⟨cB, kB, i1, i2, i3⟩ := isOf (T := T) hZ eT E
  obtain ⟨v, vm1, ⟨T', L', k', n'⟩, -, X', ⟨Lc, hq, l1, y1, z1⟩, st'⟩ := X.virtualBack hx (y := y) (z := y) hown (mvT hZ w1) (mvT hZ w2) (notFace_of_selects (args := #[]) (mvT hZ w5)) (mvT hZ w5) (mvT hZ w6) hy (backOf (W := W) (Q := q) hM hZ w4 w3 hf hl) i1 i3 (g := mkF m pc (Array.mk ls) (argsL.reverse ++ .ref a :: st)) rfl hsize (Steps.refl _) (argsL := argsL) (rest := st) (lenOf hpd hlen) rfl (by show 2 * 0 + _ ≤ _; omega) hd (fun _ _ => ⟨rfl, eT, hcc, hss⟩)
  dsimp only [Pt.U, Pt.locs, Pt.cells, Pt.slots] at X' l1 y1 z1 st' hq
  subst l1 y1 z1
  exact own_go (fun t k => st'.trans k) (k T' v Lc X' hq)
end OwnHeap
/-- a body's contract -/
abbrev own_MF (l : Launch) (y : MethodName) (bytes : ByteArray) (maxL : Nat) (ret : Option FieldType) (ws : List Jvm.Cond) (rm : Room) (as' : Array Value) (Z : State) (h0 : Heap) (q : Option Value → Heap → List Loc → Prop) : Prop :=
  MetFree l y (head1 (Jvm.Cond.code y bytes maxL ret :: ws) rm) (fun a U => a = as' ∧ Z.Warmed39 U.vm ∧ U.heap = h0) (fun _ _ _ _ _ => True) (fun _ U o U' => own_Fin U rm.cells rm.slots q o U')
/-- another field of the object that is written -/
theorem own_so {Z : State} {a0 : Array Value} {h h' : Heap} {a : Addr} {C O n d O' n' d' : String} {v w : Value} (W : Wr h h' a (Jvm.RoadKit.slotOf Z O' n' d') v) (F : Fld Z h a O n d w) (L : Laid Z a0 C O n d) (L' : Laid Z a0 C O' n' d') (hn : n ≠ n' := by decide) (h1 : (parseFieldDescriptor d).isSome = true := by decide) (h2 : (parseFieldDescriptor d').isSome = true := by decide) : Fld Z h' a O n d w := by
  obtain ⟨t, ht⟩ := Option.isSome_iff_exists.mp h1
  obtain ⟨t', ht'⟩ := Option.isSome_iff_exists.mp h2
  exact Fld.other W F (Or.inr (slot_ne L L' hn ht ht'))
/-- a body's contract, entered: the walk begins at pc 0 -/
theorem own_body {l : Launch} {x : MethodName} {bytes : ByteArray} {maxL : Nat} {ret : Option FieldType} {ws : List Jvm.Cond} {rm : Room} {C S : Nat} {Z : State} {as' : Array Value} {h0 : Heap} {q : Option Value → Heap → List Loc → Prop} (hx : plainFor x = true)
    {ls0 : List Slot} (hent : ∀ m : MethodId, entryFrame m as' maxL = mkF m 0 (Array.mk ls0) [])
    (body : ∀ (p : Program) (e : Env) (s : State) (m : MethodId) (below : List Frame) (meth : Method) (c : Code) (T : State), p.tables.exec = Jvm.exec → c.code = bytes → c.maxLocals = maxL → s.vm.findClass x.cls = some m.cls → meth.name = x.name → meth.locks = false → meth.sig.returnType = ret → Z.Warmed39 s.vm → Stand p l e rm s m as' below meth c T [] 0 0 → T.heap = h0 →
      own_Go p.tables e below (own_Fin s C S q) (T.setTop (mkF m 0 (Array.mk ls0) []))) :
    MetFree l x (head1 (Jvm.Cond.code x bytes maxL ret :: ws) rm) (fun a U => a = as' ∧ Z.Warmed39 U.vm ∧ U.heap = h0) (fun _ _ _ _ _ => True) (fun _ U o U' => own_Fin U C S q o U') := by
  refine MetFree.of_bodySF hx hisR ?_
  intro p e s m args below meth c s₁ Bd hml0 hP hK
  obtain ⟨rfl, hZ, hh⟩ := hP
  have e0 : s₁.heap = h0 := by rw [← hh, Bd.state]; rfl
  rw [hent m]
  exact body p e s m below meth c s₁ Bd.exec Bd.bytes hml0 (findClass_of_methodNamed Bd.named) (name_of_methodNamed Bd.named Bd.method).1 Bd.notSynchronized Bd.returns hZ (Stand.of_body Bd) e0
/-! OWN KIT 3: private instance calls; Math.min / max of doubles -/
section OwnHeap3
variable {p : Program} {l : Launch} {e : Env} {R : Room} {s : State} {m : MethodId} {args : Array Value} {below : List Frame} {meth : Method} {c : Code} {T : State} {locs : List Loc} {cells slots : Nat} {Z : State} {a0 : Array Value} {h h' : Heap} {Q : Outcome → State → Prop} {own : String} {pc : Nat} {ls : List Slot} {st : List Value}
/-- an invokevirtual of a private method, by a Back -/
theorem own_privB (X : Stand p l e R s m args below meth c T locs cells slots) (hexec : p.tables.exec = Jvm.exec) {own : String} {index : Nat} {y : MethodName} {bytes : ByteArray} {maxL : Nat} {ret : Option FieldType}
    (hown : s.vm.findClass own = some m.cls) (hlink : (Cond.methodLink own index y).before args s = true) (hinst : (Cond.instanceMethod y).before args s = true) {ns : Nat} (hsel : (Cond.instantiable y.cls ns).before args s = true)
    (hpriv : s.PrivateAt y) (hcode : (Cond.code y bytes maxL ret).before args s = true) (hy : y.cls ≠ "java/lang/invoke/MethodHandle" ∧ y.cls ≠ "java/lang/invoke/VarHandle")
    {W : Nat} {Pre : Free.Pt → Array Value → Prop} {Post : Free.Pt → Array Value → Option Value → Free.Pt → Prop} (hK : Free.Back l R p e below s args y 3 W Pre Post)
    {g : JFrame} (hg : g.method = m) (hsize : g.locals.size = c.maxLocals) {a : Addr} {cell : Cell} (hcell : T.heap[a]? = some cell) (hobj : ∀ q, cell.vm ≠ .statics q)
    {argsL rest : List Value} (hlen : ∀ sig, parseMethodDescriptor y.desc = some sig → argsL.length = sig.parameters.length)
    (hstack : g.stack = argsL.reverse ++ .ref a :: rest) (hW : 2 * g.monitorRoom + (rest.map fun v => v.category).sum ≤ W) (hdg : decode c.code g.pc = .ok (.invokevirtual index, 3))
    (hpre : ∀ vm₁, s.WarmedH vm₁ → Pre ⟨T.setVm vm₁, locs, cells, slots⟩ (.ref a :: argsL).toArray) :
    ∃ (v : Option Value) (vm₁ : Vm) (B : Free.Pt), Stand p l e R s m args below meth c B.U B.locs B.cells B.slots ∧ Post ⟨T.setVm vm₁, locs, cells, slots⟩ (.ref a :: argsL).toArray v B ∧
      Steps p.tables e below (T.setTop g) (B.U.setTop { g with pc := g.pc + 3, stack := v.toList ++ rest }) := by
  obtain ⟨mk, methM, hnamed, hmethM, hstM, habM⟩ := Cond.instanceMethod_spec hinst
  obtain ⟨methM', cM, hmethM', -, -, -, -, -, -, hsigM⟩ := Cond.code_spec hnamed hcode
  cases hmethM.symm.trans hmethM'
  obtain ⟨c2, kP, q1, hkP, -, q4, -⟩ := Cond.instantiable_spec hsel
  cases (findClass_of_methodNamed hnamed).symm.trans q1
  have hkPi : kP.isInterface = false := (Bool.or_eq_false_iff.mp q4).1
  have hselP : selectMethod e.platform s.vm cell.cls mk = .method mk := selectMethod_private hmethM (hpriv mk methM hnamed hmethM)
  obtain ⟨vm₁, X₁, hstep₁⟩ := X.invokevirtual hexec hown hlink hnamed hmethM hstM hkP hkPi hy (a := a) (cell := cell) hcell hobj hselP hmethM habM hkP hkPi (g := g) hg (argsL := argsL) (rest := rest) (hlen _ hsigM) hstack hdg
  obtain ⟨v, B, X', hpost, hsteps⟩ := hK m meth c ⟨T.setVm vm₁, locs, cells, slots⟩ { g with stack := rest } (.invokevirtual index) mk (.ref a :: argsL).toArray X₁ hg hsize hdg hW (X₁.named hnamed) (hpre vm₁ X₁.warmed)
  exact ⟨v, vm₁, B, X', hpost, (hstep₁ _ fun acts => by rw [doInvoke_state]; exact Steps.refl _).trans hsteps⟩
/-- a private instance call that leaves all as it was -/
theorem own_callPP (X : Stand p l e R s m args below meth c T locs cells slots) (hx : p.tables.exec = Jvm.exec) (hZ : Z.Warmed39 s.vm) (hown : s.vm.findClass own = some m.cls) {index : Nat} {C : String} {y : MethodName} {bytes : ByteArray} {maxL : Nat} {ret : Option FieldType} {fr lo ns : Nat}
    (w1 : (Cond.methodLink own index y).before a0 Z = true) (w2 : (Cond.privateMethod y).before a0 Z = true) (w5 : (Cond.instantiable y.cls ns).before a0 Z = true) (w6 : (Cond.instanceMethod y).before a0 Z = true) (w3 : (Cond.initialized y.cls).before a0 Z = true) (w4 : (Cond.code y bytes maxL ret).before a0 Z = true) (hy : y.cls ≠ "java/lang/invoke/MethodHandle" ∧ y.cls ≠ "java/lang/invoke/VarHandle")
    (eT : T.heap = h) {a : Addr} (E : Exa Z h a C) (argsL : List Value) {ps : List FieldType} {r : Option FieldType} (hpd : parseMethodDescriptor y.desc = some ⟨ps, r⟩) (hlen : argsL.length = ps.length) {q : Option Value → Prop}
    (hM : MetFree l y (head1 [Cond.code y bytes maxL ret] { frames := fr, cells := 0, slots := 0, locals := lo }) (fun b U => b = (.ref a :: argsL).toArray ∧ Z.Warmed39 U.vm ∧ U.heap = h) (fun _ _ _ _ _ => True) (fun _ U o U' => own_Fin U 0 0 (fun v h' L => q v ∧ L = [] ∧ h' = h) o U'))
    (hsize : ls.length = c.maxLocals) (W : Nat) {full : List Value} (hst : full = argsL.reverse ++ .ref a :: st) (hW : (st.map fun v => v.category).sum ≤ W) (hd : decode c.code pc = .ok (.invokevirtual index, 3)) (hf : fr + 1 ≤ R.frames) (hl : W + (maxL + 11) + lo ≤ R.locals)
    (hcc : cells ≤ R.cells) (hss : slots ≤ R.slots)
    (k : ∀ T' v, Stand p l e R s m args below meth c T' locs cells slots → T'.heap = h → q v → own_Go p.tables e below Q (T'.setTop (mkF m (pc + 3) (Array.mk ls) (v.toList ++ st)))) :
    own_Go p.tables e below Q (T.setTop (mkF m pc (Array.mk ls) full)) := by
  subst hst
  obtain ⟨cell, k0, e1, e2, e3, e4, -⟩ := E
  obtain ⟨v, vm1, ⟨T', L', k', n'⟩, X', ⟨Lc, hq, l1, y1, z1⟩, st'⟩ := own_privB X hx (y := y) hown (mvT hZ w1) (mvT hZ w6) (mvT hZ w5) (Cond.privateMethod_at (args := #[]) (mvT hZ w2)) (mvT hZ w4) hy (backOf (W := W) (Q := fun v h' L => q v ∧ L = [] ∧ h' = h) hM hZ w4 w3 hf hl) (g := mkF m pc (Array.mk ls) (argsL.reverse ++ .ref a :: st)) rfl hsize (a := a) (cell := cell) (by rw [eT]; exact e1) (fun q hq => by rw [hq] at e4; cases e4) (argsL := argsL) (rest := st) (lenOf hpd hlen) rfl (by show 2 * 0 + _ ≤ _; omega) hd (fun _ _ => ⟨rfl, eT, hcc, hss⟩)
  dsimp only [Pt.U, Pt.locs, Pt.cells, Pt.slots] at X' l1 y1 z1 st' hq
  subst l1 y1 z1
  obtain ⟨h1, rfl, h3⟩ := hq
  rw [List.append_nil] at X'
  exact own_go (fun t k => st'.trans k) (k T' v X' h3 h1)
/-- Math.min of doubles that are no NaNs -/
theorem own_minDD (X : Stand p l e R s m args below meth c T locs cells slots) (hx : p.tables.exec = Jvm.exec) (hZ : Z.Warmed39 s.vm) (hown : s.vm.findClass own = some m.cls) {index : Nat} {by0 : ByteArray} (hby0 : by0 = Jvm.Free.Fl.Abs.minDCode)
    (w1 : (Cond.methodLink own index ⟨"java/lang/Math", "min", "(DD)D"⟩).before a0 Z = true) (w2 : (Cond.static ⟨"java/lang/Math", "min", "(DD)D"⟩).before a0 Z = true) (w3 : (Cond.initialized "java/lang/Math").before a0 Z = true) (w4 : (Cond.code ⟨"java/lang/Math", "min", "(DD)D"⟩ by0 4 (some .double)).before a0 Z = true)
    (eT : T.heap = h) {x y : UInt64} (nx : Jvm.Free.Fl.NoNaN64 x) (ny : Jvm.Free.Fl.NoNaN64 y) (hsize : ls.length = c.maxLocals) (W : Nat) (hW : (st.map fun v => v.category).sum ≤ W) (hd : decode c.code pc = .ok (.invokestatic index, 3)) (hf : 1 ≤ R.frames) (hl : W + 15 ≤ R.locals) (hcc : cells ≤ R.cells) (hss : slots ≤ R.slots)
    (k : ∀ T', Stand p l e R s m args below meth c T' locs cells slots → T'.heap = h → own_Go p.tables e below Q (T'.setTop (mkF m (pc + 3) (Array.mk ls) (.double (Native.java_lang_Math.nans.pick64 false x y) :: st)))) :
    own_Go p.tables e below Q (T.setTop (mkF m pc (Array.mk ls) (.double y :: .double x :: st))) := by
  subst hby0
  obtain ⟨T', X', e', st'⟩ := natS X hx hZ hown w1 w2 w3 w4 (by decide) eT (W := W) (fun hc => Jvm.Free.Fl.Abs.minD_pays x y hc hf hl) (g := mkF m pc (Array.mk ls) (.double y :: .double x :: st)) rfl hsize (argsL := [.double x, .double y]) (rest := st) (lenOf (ps := [.double, .double]) (r := some .double) (by decide +kernel) rfl) rfl (by show 2 * 0 + _ ≤ _; omega) hd hcc hss ⟨rfl, nx, ny⟩ rfl
  exact own_go st' (k T' X' e')
end OwnHeap3
/-! OWN KIT 3: doubles by their value in units of 2^-1074; rounding is monotone; what is a whole number of 2^-g and small is exact -/
def own_z (a : UInt64) : Int := FP.Core.zval FP.Core.b64 (FP.Core.val64 a)
def own_num (a : UInt64) : Prop := FP.Core.val64 a ≠ .nan
theorem own_fin_num {a : UInt64} (h : FP.Core.DFin a) : own_num a := FP.Core.DFin.ne_nan h
theorem own_nn {a : UInt64} (h : own_num a) : Jvm.Free.Fl.NoNaN64 a := Jvm.Free.Fl.val64_no.mpr h
theorem own_cmp {a b : UInt64} (ha : own_num a) (hb : own_num b) : FP.dcmp a b = some (compare (own_z a) (own_z b)) := FP.Core.dcmp_zval ha hb
theorem own_lt {a b : UInt64} (ha : own_num a) (hb : own_num b) (h : own_z a < own_z b) : FP.dcmp a b = some .lt := FP.Core.dcmp_lt.mpr ⟨ha, hb, h⟩
theorem own_gt {a b : UInt64} (ha : own_num a) (hb : own_num b) (h : own_z b < own_z a) : FP.dcmp a b = some .gt := FP.Core.dcmp_gt.mpr ⟨ha, hb, h⟩
theorem own_eq {a b : UInt64} (ha : own_num a) (hb : own_num b) (h : own_z a = own_z b) : FP.dcmp a b = some .eq := FP.Core.dcmp_eq.mpr ⟨ha, hb, h⟩
theorem own_num_add {a b : UInt64} (ha : FP.Core.DFin a) (hb : FP.Core.DFin b) : own_num (FP.dadd a b) :=
  Jvm.Free.Fl.val64_no.mp (Jvm.Free.Fl.dadd_out (own_nn (own_fin_num ha)) (Jvm.Free.Fl.fin64_core.mpr hb))
theorem own_num_sub {a b : UInt64} (ha : FP.Core.DFin a) (hb : FP.Core.DFin b) : own_num (FP.dsub a b) :=
  Jvm.Free.Fl.val64_no.mp (Jvm.Free.Fl.dsub_out (own_nn (own_fin_num ha)) (Jvm.Free.Fl.fin64_core.mpr hb))
theorem own_num_mul {a b : UInt64} (ha : FP.Core.DFin a) (hb : FP.Core.DFin b) : own_num (FP.dmul a b) :=
  Jvm.Free.Fl.val64_no.mp (Jvm.Free.Fl.dmul_out (Jvm.Free.Fl.fin64_core.mpr ha) (Jvm.Free.Fl.fin64_core.mpr hb))
theorem own_num_div {a b : UInt64} (ha : own_num a) (hb : FP.Core.DFin b) (hz : own_z b ≠ 0) : own_num (FP.ddiv a b) := by
  refine Jvm.Free.Fl.val64_no.mp (Jvm.Free.Fl.ddiv_out (own_nn ha) (Jvm.Free.Fl.fin64_core.mpr hb) ((Jvm.Free.Fl.nz64_iff b).mpr fun q => hz ?_))
  exact (FP.Core.zval_eq_zero (own_fin_num hb)).mpr q
theorem own_add_le {a b v : UInt64} (ha : FP.Core.DFin a) (hb : FP.Core.DFin b) (hv : own_num v) (h : own_z a + own_z b ≤ own_z v) : own_z (FP.dadd a b) ≤ own_z v := by
  show FP.Core.zval FP.Core.b64 (FP.Core.val64 (FP.Core.dadd a b)) ≤ _
  rw [FP.Core.val64_dadd]
  exact FP.Core.sum_le FP.Core.good_b64 ha hb (FP.Core.val64_fits _) (FP.Core.val64_fits _) (FP.Core.val64_fits _) hv h
theorem own_add_ge {a b v : UInt64} (ha : FP.Core.DFin a) (hb : FP.Core.DFin b) (hv : own_num v) (h : own_z v ≤ own_z a + own_z b) : own_z v ≤ own_z (FP.dadd a b) := by
  show _ ≤ FP.Core.zval FP.Core.b64 (FP.Core.val64 (FP.Core.dadd a b))
  rw [FP.Core.val64_dadd]
  exact FP.Core.sum_ge FP.Core.good_b64 ha hb (FP.Core.val64_fits _) (FP.Core.val64_fits _) (FP.Core.val64_fits _) hv h
theorem own_neg_fin {b : UInt64} (hb : FP.Core.DFin b) : ∃ s c q, FP.Core.negate (FP.Core.val64 b) = .fin s c q := by
  obtain ⟨s, c, q, e⟩ := hb
  exact ⟨!s, c, q, by rw [e]; rfl⟩
theorem own_sub_le {a b v : UInt64} (ha : FP.Core.DFin a) (hb : FP.Core.DFin b) (hv : own_num v) (h : own_z a - own_z b ≤ own_z v) : own_z (FP.dsub a b) ≤ own_z v := by
  show FP.Core.zval FP.Core.b64 (FP.Core.val64 (FP.Core.dsub a b)) ≤ _
  rw [FP.Core.val64_dsub]
  exact FP.Core.sum_le FP.Core.good_b64 ha (own_neg_fin hb) (FP.Core.val64_fits _) (FP.Core.negate_fits (FP.Core.val64_fits _)) (FP.Core.val64_fits _) hv (by rw [FP.Core.zval_negate]; exact h)
theorem own_sub_ge {a b v : UInt64} (ha : FP.Core.DFin a) (hb : FP.Core.DFin b) (hv : own_num v) (h : own_z v ≤ own_z a - own_z b) : own_z v ≤ own_z (FP.dsub a b) := by
  show _ ≤ FP.Core.zval FP.Core.b64 (FP.Core.val64 (FP.Core.dsub a b))
  rw [FP.Core.val64_dsub]
  exact FP.Core.sum_ge FP.Core.good_b64 ha (own_neg_fin hb) (FP.Core.val64_fits _) (FP.Core.negate_fits (FP.Core.val64_fits _)) (FP.Core.val64_fits _) hv (by rw [FP.Core.zval_negate]; exact h)
theorem own_pow1 : 2 ^ (FP.Core.b64.qmin - 2 * FP.Core.b64.qmin).toNat = FP.Core.one64 := by
  rw [← FP.Core.pow_qmin64, FP.Core.qmin_b64]; rfl
theorem own_mul_le {a b v : UInt64} (ha : FP.Core.DFin a) (hb : FP.Core.DFin b) (hv : own_num v) (h : own_z a * own_z b ≤ own_z v * (FP.Core.one64 : Int)) : own_z (FP.dmul a b) ≤ own_z v := by
  obtain ⟨s, c, q, e1⟩ := ha
  obtain ⟨t, d, r, e2⟩ := hb
  have f1 : FP.Core.fits FP.Core.b64 (.fin s c q) := e1 ▸ FP.Core.val64_fits a
  have f2 : FP.Core.fits FP.Core.b64 (.fin t d r) := e2 ▸ FP.Core.val64_fits b
  obtain ⟨g1, g2, g3⟩ := FP.Core.product_units f1 f2
  show FP.Core.zval FP.Core.b64 (FP.Core.val64 (FP.Core.dmul a b)) ≤ FP.Core.zval FP.Core.b64 (FP.Core.val64 v)
  unfold own_z at h
  rw [FP.Core.val64_dmul, e1, e2, g1]
  rw [e1, e2] at h
  have hq := FP.Core.qmin_neg FP.Core.good_b64
  refine FP.Core.zval_round_le FP.Core.good_b64 (e0 := 2 * FP.Core.b64.qmin) (FP.Core.val64_fits v) hv (by omega) g2 ?_
  rw [g3, own_pow1, FP.Core.signed_xor]
  exact h
theorem own_mul_ge {a b v : UInt64} (ha : FP.Core.DFin a) (hb : FP.Core.DFin b) (hv : own_num v) (h : own_z v * (FP.Core.one64 : Int) ≤ own_z a * own_z b) : own_z v ≤ own_z (FP.dmul a b) := by
  obtain ⟨s, c, q, e1⟩ := ha
  obtain ⟨t, d, r, e2⟩ := hb
  have f1 : FP.Core.fits FP.Core.b64 (.fin s c q) := e1 ▸ FP.Core.val64_fits a
  have f2 : FP.Core.fits FP.Core.b64 (.fin t d r) := e2 ▸ FP.Core.val64_fits b
  obtain ⟨g1, g2, g3⟩ := FP.Core.product_units f1 f2
  show FP.Core.zval FP.Core.b64 (FP.Core.val64 v) ≤ FP.Core.zval FP.Core.b64 (FP.Core.val64 (FP.Core.dmul a b))
  unfold own_z at h
  rw [FP.Core.val64_dmul, e1, e2, g1]
  rw [e1, e2] at h
  have hq := FP.Core.qmin_neg FP.Core.good_b64
  refine FP.Core.zval_round_ge FP.Core.good_b64 (e0 := 2 * FP.Core.b64.qmin) (FP.Core.val64_fits v) hv (by omega) g2 ?_
  rw [g3, own_pow1, FP.Core.signed_xor]
  exact h
/-- the quotient's magnitude against a double's -/
theorem own_div_mag {a b v : UInt64} {s t : Bool} {c d : Nat} {q r : Int} (e1 : FP.Core.val64 a = .fin s c q) (e2 : FP.Core.val64 b = .fin t d r) (hd : 0 < d) (hv : own_num v) :
    FP.Core.val64 (FP.ddiv a b) = FP.Core.roundRatio FP.Core.b64 (s != t) c d (q - r) ∧
    (FP.Core.zmag FP.Core.b64 (FP.Core.val64 a) * FP.Core.one64 ≤ FP.Core.zmag FP.Core.b64 (FP.Core.val64 v) * FP.Core.zmag FP.Core.b64 (FP.Core.val64 b) → FP.Core.zmag FP.Core.b64 (FP.Core.val64 (FP.ddiv a b)) ≤ FP.Core.zmag FP.Core.b64 (FP.Core.val64 v)) ∧
    (FP.Core.zmag FP.Core.b64 (FP.Core.val64 v) * FP.Core.zmag FP.Core.b64 (FP.Core.val64 b) ≤ FP.Core.zmag FP.Core.b64 (FP.Core.val64 a) * FP.Core.one64 → FP.Core.zmag FP.Core.b64 (FP.Core.val64 v) ≤ FP.Core.zmag FP.Core.b64 (FP.Core.val64 (FP.ddiv a b))) := by
  have f1 : FP.Core.fits FP.Core.b64 (.fin s c q) := e1 ▸ FP.Core.val64_fits a
  have f2 : FP.Core.fits FP.Core.b64 (.fin t d r) := e2 ▸ FP.Core.val64_fits b
  have hq := FP.Core.qmin_b64
  have k1 := f1.2.1
  have k2 := f2.2.1
  have E : FP.Core.val64 (FP.ddiv a b) = FP.Core.roundRatio FP.Core.b64 (s != t) c d (q - r) := by
    show FP.Core.val64 (FP.Core.ddiv a b) = _
    rw [FP.Core.val64_ddiv, e1, e2]
    show (if d = 0 then _ else _) = _
    rw [if_neg (by omega)]
  have A1 : FP.Core.inUnits c (q - r) (FP.Core.b64.qmin - (r - FP.Core.b64.qmin)) = FP.Core.zmag FP.Core.b64 (FP.Core.val64 a) * FP.Core.one64 := by
    rw [e1]
    show c * 2 ^ _ = c * 2 ^ _ * 2 ^ 1074
    rw [Nat.mul_assoc, ← Nat.pow_add]
    congr 2
    omega
  have A2 : 2 ^ (FP.Core.b64.qmin - (FP.Core.b64.qmin - (r - FP.Core.b64.qmin))).toNat * d = FP.Core.zmag FP.Core.b64 (FP.Core.val64 b) := by
    rw [e2]
    show _ = d * 2 ^ _
    rw [Nat.mul_comm]
    congr 2
    omega
  refine ⟨E, fun h => ?_, fun h => ?_⟩
  · rw [E]
    refine FP.Core.zmag_roundRatio_le FP.Core.good_b64 (e0 := FP.Core.b64.qmin - (r - FP.Core.b64.qmin)) hd (FP.Core.val64_fits v) hv (by omega) (by omega) ?_
    rw [A1, Nat.mul_assoc, A2]; exact h
  · rw [E]
    refine FP.Core.zmag_roundRatio_ge FP.Core.good_b64 (e0 := FP.Core.b64.qmin - (r - FP.Core.b64.qmin)) hd (FP.Core.val64_fits v) (by omega) (by omega) ?_
    rw [A1, Nat.mul_assoc, A2]; exact h
theorem own_signed_cases (s : Bool) (m : Nat) : (s = false ∧ FP.Core.signed s m = (m : Int)) ∨ (s = true ∧ FP.Core.signed s m = -(m : Int)) := by
  cases s
  · exact Or.inl ⟨rfl, rfl⟩
  · exact Or.inr ⟨rfl, rfl⟩
theorem own_div_le {a b v : UInt64} (ha : FP.Core.DFin a) (hb : FP.Core.DFin b) (hv : own_num v) (hp : 0 < own_z b) (h : own_z a * (FP.Core.one64 : Int) ≤ own_z v * own_z b) : own_z (FP.ddiv a b) ≤ own_z v := by
  obtain ⟨s, c, q, e1⟩ := ha
  obtain ⟨t, d, r, e2⟩ := hb
  have hz : own_z b = FP.Core.signed t (FP.Core.zmag FP.Core.b64 (FP.Core.val64 b)) := by unfold own_z FP.Core.zval; rw [e2]; rfl
  have ht : t = false := by
    rcases own_signed_cases t (FP.Core.zmag FP.Core.b64 (FP.Core.val64 b)) with q | q
    · exact q.1
    · rw [hz, q.2] at hp; omega
  subst ht
  have hz' : own_z b = (FP.Core.zmag FP.Core.b64 (FP.Core.val64 b) : Int) := hz
  have hd : 0 < d := by
    rcases Nat.eq_zero_or_pos d with q0 | q0
    · subst q0
      rw [hz', e2] at hp
      have : FP.Core.zmag FP.Core.b64 (.fin false 0 r) = 0 := Nat.zero_mul _
      rw [this] at hp; omega
    · exact q0
  obtain ⟨E, L, G⟩ := own_div_mag (v := v) e1 e2 hd hv
  have hsr : FP.Core.sgn (FP.Core.val64 (FP.ddiv a b)) = s := by rw [E, FP.Core.sgn_roundRatio]; cases s <;> rfl
  have za : own_z a = FP.Core.signed s (FP.Core.zmag FP.Core.b64 (FP.Core.val64 a)) := by unfold own_z FP.Core.zval; rw [e1]; rfl
  have zr : own_z (FP.ddiv a b) = FP.Core.signed s (FP.Core.zmag FP.Core.b64 (FP.Core.val64 (FP.ddiv a b))) := by unfold own_z FP.Core.zval; rw [hsr]
  have zv : own_z v = FP.Core.signed (FP.Core.sgn (FP.Core.val64 v)) (FP.Core.zmag FP.Core.b64 (FP.Core.val64 v)) := rfl
  rw [za, hz'] at h
  rw [hz'] at hp
  rw [zr]
  generalize FP.Core.zmag FP.Core.b64 (FP.Core.val64 (FP.ddiv a b)) = R at *
  generalize FP.Core.zmag FP.Core.b64 (FP.Core.val64 a) = A at *
  generalize FP.Core.zmag FP.Core.b64 (FP.Core.val64 b) = B at *
  generalize FP.Core.zmag FP.Core.b64 (FP.Core.val64 v) = V at *
  have hU := FP.Core.one64_pos
  generalize FP.Core.one64 = U at *
  rcases own_signed_cases s A with ⟨rfl, h1⟩ | ⟨rfl, h1⟩
  · rw [h1] at h
    have hn : 0 ≤ own_z v := by
      rcases Int.lt_or_le (own_z v) 0 with q | q
      · have := Int.mul_neg_of_neg_of_pos q hp
        have := Int.mul_nonneg (Int.natCast_nonneg A) (Int.natCast_nonneg U)
        omega
      · exact q
    have hvV : own_z v = (V : Int) := by
      rcases own_signed_cases (FP.Core.sgn (FP.Core.val64 v)) V with q | q
      · rw [zv]; exact q.2
      · rw [zv, q.2] at hn; rw [zv, q.2]; omega
    rw [hvV] at h ⊢
    have := L (by exact_mod_cast h)
    show (R : Int) ≤ V
    omega
  · rw [h1] at h
    show -(R : Int) ≤ own_z v
    rcases Int.lt_or_le (own_z v) 0 with q | q
    · have hvV : own_z v = -(V : Int) := by
        rcases own_signed_cases (FP.Core.sgn (FP.Core.val64 v)) V with q' | q'
        · rw [zv, q'.2] at q; omega
        · rw [zv]; exact q'.2
      rw [hvV] at h ⊢
      rw [Int.neg_mul, Int.neg_mul] at h
      have := G (by exact_mod_cast (by omega : (V : Int) * B ≤ A * U))
      omega
    · omega
theorem own_div_ge {a b v : UInt64} (ha : FP.Core.DFin a) (hb : FP.Core.DFin b) (hv : own_num v) (hp : 0 < own_z b) (h : own_z v * own_z b ≤ own_z a * (FP.Core.one64 : Int)) : own_z v ≤ own_z (FP.ddiv a b) := by
  have nz : ∀ x : UInt64, own_z (FP.Core.dneg x) = -own_z x := fun x => by
    unfold own_z
    rw [FP.Core.val64_dneg, FP.Core.zval_negate]
  have nf : FP.Core.DFin (FP.Core.dneg a) := by
    obtain ⟨s, c, q, e⟩ := ha
    exact ⟨!s, c, q, by rw [FP.Core.val64_dneg, e]; rfl⟩
  have nn : own_num (FP.Core.dneg v) := by
    unfold own_num
    rw [FP.Core.val64_dneg]
    exact FP.Core.negate_ne_nan hv
  have q := own_div_le (a := FP.Core.dneg a) (v := FP.Core.dneg v) nf hb nn hp (by rw [nz, nz, Int.neg_mul, Int.neg_mul]; omega)
  have e : FP.ddiv (FP.Core.dneg a) b = FP.Core.dneg (FP.ddiv a b) := FP.Core.ddiv_dneg a b
  rw [e, nz, nz] at q
  omega
/-- a is the number N / 2^g -/
def own_D (g : Nat) (N : Int) (a : UInt64) : Prop := FP.Core.DFin a ∧ own_z a = N * ((2 ^ (1074 - g) : Nat) : Int)
theorem own_rep (g : Nat) (hg : g ≤ 1074) (N : Int) (hN : N.natAbs < 9007199254740992) : ∃ v, own_D g N v := by
  have hq := FP.Core.qmin_b64
  obtain ⟨c', q', e1, e2⟩ := FP.Core.round_exact FP.Core.good_b64 (decide (N < 0)) (c := N.natAbs) (q := -(g : Int)) (by rw [show (2 : Nat) ^ FP.Core.b64.p = 9007199254740992 from by decide]; exact hN) (by omega) (by rw [show FP.Core.b64.qmax = 971 from by decide]; omega)
  have e3 : FP.Core.val64 (FP.Core.of64 (FP.Core.round FP.Core.b64 (.fin (decide (N < 0)) N.natAbs (-(g : Int))))) = .fin (decide (N < 0)) c' q' := by
    rw [FP.Core.val64_of64 (FP.Core.round_fits FP.Core.good_b64 _), e1]
  refine ⟨_, ⟨_, _, _, e3⟩, ?_⟩
  unfold own_z
  rw [e3]
  show FP.Core.signed (decide (N < 0)) (FP.Core.inUnits c' q' FP.Core.b64.qmin) = _
  rw [e2]
  have e4 : FP.Core.inUnits N.natAbs (-(g : Int)) FP.Core.b64.qmin = N.natAbs * 2 ^ (1074 - g) := by
    show _ * 2 ^ _ = _
    rw [hq, show (-(g : Int) - -1074).toNat = 1074 - g by omega]
  rw [e4, FP.Core.signed_mul]
  congr 1
  rcases own_signed_cases (decide (N < 0)) N.natAbs with ⟨h1, h2⟩ | ⟨h1, h2⟩
  · rw [h2]
    have := of_decide_eq_false h1
    omega
  · rw [h2]
    have := of_decide_eq_true h1
    omega
theorem own_D.num {g : Nat} {N : Int} {a : UInt64} (h : own_D g N a) : own_num a := own_fin_num h.1
theorem own_u_pos (g : Nat) : (0 : Int) < ((2 ^ (1074 - g) : Nat) : Int) := by
  have := Nat.two_pow_pos (1074 - g)
  omega
theorem own_one (g : Nat) (hg : g ≤ 1074) : (FP.Core.one64 : Int) = ((2 ^ g : Nat) : Int) * ((2 ^ (1074 - g) : Nat) : Int) := by
  rw [← Int.natCast_mul, ← Nat.pow_add, show g + (1074 - g) = 1074 by omega]
  rfl
theorem own_fin_of {r c : UInt64} (hr : own_num r) (hc : FP.Core.DFin c) (h : own_z r = own_z c) : FP.Core.DFin r := by
  have h1 := FP.Core.DFin.zval_lt hc
  cases hv : FP.Core.val64 r with
  | nan => exact absurd hv hr
  | fin s c q => exact ⟨s, c, q, hv⟩
  | inf s =>
    exfalso
    unfold own_z FP.Core.zval at h
    rw [hv] at h
    have h2 := congrArg Int.natAbs h
    rw [FP.Core.natAbs_signed, FP.Core.natAbs_signed] at h2
    rw [← h2] at h1
    exact Nat.lt_irrefl _ h1
theorem own_D.of_le_ge {g : Nat} {N : Int} {r v : UInt64} (hr : own_num r) (hv : own_D g N v) (h1 : own_z r ≤ own_z v) (h2 : own_z v ≤ own_z r) : own_D g N r := by
  have e : own_z r = own_z v := by omega
  exact ⟨own_fin_of hr hv.1 e, e.trans hv.2⟩
theorem own_D.add {g : Nat} (hg : g ≤ 1074) {N M : Int} {a b : UInt64} (ha : own_D g N a) (hb : own_D g M b) (h : (N + M).natAbs < 9007199254740992) : own_D g (N + M) (FP.dadd a b) := by
  obtain ⟨v, hv⟩ := own_rep g hg _ h
  have e : own_z a + own_z b = own_z v := by rw [ha.2, hb.2, hv.2, Int.add_mul]
  exact own_D.of_le_ge (own_num_add ha.1 hb.1) hv (own_add_le ha.1 hb.1 hv.num (by omega)) (own_add_ge ha.1 hb.1 hv.num (by omega))
theorem own_D.sub {g : Nat} (hg : g ≤ 1074) {N M : Int} {a b : UInt64} (ha : own_D g N a) (hb : own_D g M b) (h : (N - M).natAbs < 9007199254740992) : own_D g (N - M) (FP.dsub a b) := by
  obtain ⟨v, hv⟩ := own_rep g hg _ h
  have e : own_z a - own_z b = own_z v := by rw [ha.2, hb.2, hv.2, Int.sub_mul]
  exact own_D.of_le_ge (own_num_sub ha.1 hb.1) hv (own_sub_le ha.1 hb.1 hv.num (by omega)) (own_sub_ge ha.1 hb.1 hv.num (by omega))
/-- the value of a product against K / 2^g -/
theorem own_mul_z {g : Nat} (hg : g ≤ 1074) {N M K : Int} {a b v : UInt64} (ha : own_D g N a) (hb : own_D g M b) (hv : own_D g K v) :
    (N * M ≤ K * ((2 ^ g : Nat) : Int) → own_z a * own_z b ≤ own_z v * (FP.Core.one64 : Int)) ∧ (K * ((2 ^ g : Nat) : Int) ≤ N * M → own_z v * (FP.Core.one64 : Int) ≤ own_z a * own_z b) := by
  rw [ha.2, hb.2, hv.2, own_one g hg]
  have hu := own_u_pos g
  generalize ((2 ^ (1074 - g) : Nat) : Int) = u at *
  generalize ((2 ^ g : Nat) : Int) = G at *
  have e1 : N * u * (M * u) = (N * M) * (u * u) := by rw [Int.mul_assoc, Int.mul_left_comm u M u, ← Int.mul_assoc N M]
  have e2 : K * u * (G * u) = (K * G) * (u * u) := by rw [Int.mul_assoc, Int.mul_left_comm u G u, ← Int.mul_assoc K G]
  rw [e1, e2]
  have hp : 0 ≤ u * u := Int.mul_nonneg (by omega) (by omega)
  exact ⟨fun h => Int.mul_le_mul_of_nonneg_right h hp, fun h => Int.mul_le_mul_of_nonneg_right h hp⟩
theorem own_D.mul {g : Nat} (hg : g ≤ 1074) {N M K : Int} {a b : UInt64} (ha : own_D g N a) (hb : own_D g M b) (e : N * M = K * ((2 ^ g : Nat) : Int)) (h : K.natAbs < 9007199254740992) : own_D g K (FP.dmul a b) := by
  obtain ⟨v, hv⟩ := own_rep g hg _ h
  have q := own_mul_z hg ha hb hv
  exact own_D.of_le_ge (own_num_mul ha.1 hb.1) hv (own_mul_le ha.1 hb.1 hv.num (q.1 (by omega))) (own_mul_ge ha.1 hb.1 hv.num (q.2 (by omega)))
theorem own_div_z {g : Nat} (hg : g ≤ 1074) {N M K : Int} {a b v : UInt64} (ha : own_D g N a) (hb : own_D g M b) (hv : own_D g K v) :
    (N * ((2 ^ g : Nat) : Int) ≤ K * M → own_z a * (FP.Core.one64 : Int) ≤ own_z v * own_z b) ∧ (K * M ≤ N * ((2 ^ g : Nat) : Int) → own_z v * own_z b ≤ own_z a * (FP.Core.one64 : Int)) := by
  rw [ha.2, hb.2, hv.2, own_one g hg]
  have hu := own_u_pos g
  generalize ((2 ^ (1074 - g) : Nat) : Int) = u at *
  generalize ((2 ^ g : Nat) : Int) = G at *
  have e1 : N * u * (G * u) = (N * G) * (u * u) := by rw [Int.mul_assoc, Int.mul_left_comm u G u, ← Int.mul_assoc N G]
  have e2 : K * u * (M * u) = (K * M) * (u * u) := by rw [Int.mul_assoc, Int.mul_left_comm u M u, ← Int.mul_assoc K M]
  rw [e1, e2]
  have hp : 0 ≤ u * u := Int.mul_nonneg (by omega) (by omega)
  exact ⟨fun h => Int.mul_le_mul_of_nonneg_right h hp, fun h => Int.mul_le_mul_of_nonneg_right h hp⟩
theorem own_D.pos {g : Nat} {M : Int} {b : UInt64} (hb : own_D g M b) (h : 0 < M) : 0 < own_z b := by
  rw [hb.2]
  exact Int.mul_pos h (own_u_pos g)
theorem own_D.ne {g : Nat} {M : Int} {b : UInt64} (hb : own_D g M b) (h : M ≠ 0) : own_z b ≠ 0 := by
  rw [hb.2]
  exact Int.mul_ne_zero h (by have := own_u_pos g; omega)
theorem own_D.div {g : Nat} (hg : g ≤ 1074) {N M K : Int} {a b : UInt64} (ha : own_D g N a) (hb : own_D g M b) (hM : 0 < M) (e : N * ((2 ^ g : Nat) : Int) = K * M) (h : K.natAbs < 9007199254740992) : own_D g K (FP.ddiv a b) := by
  obtain ⟨v, hv⟩ := own_rep g hg _ h
  have q := own_div_z hg ha hb hv
  exact own_D.of_le_ge (own_num_div ha.num hb.1 (hb.ne (by omega))) hv (own_div_le ha.1 hb.1 hv.num (hb.pos hM) (q.1 (by omega))) (own_div_ge ha.1 hb.1 hv.num (hb.pos hM) (q.2 (by omega)))
/-- bounds on a rounded quotient, by numbers K / 2^g -/
theorem own_div_hi {g : Nat} (hg : g ≤ 1074) {N M K : Int} {a b : UInt64} (ha : own_D g N a) (hb : own_D g M b) (hM : 0 < M) (h : N * ((2 ^ g : Nat) : Int) ≤ K * M) (hK : K.natAbs < 9007199254740992) : own_z (FP.ddiv a b) ≤ K * ((2 ^ (1074 - g) : Nat) : Int) := by
  obtain ⟨v, hv⟩ := own_rep g hg _ hK
  rw [← hv.2]
  exact own_div_le ha.1 hb.1 hv.num (hb.pos hM) ((own_div_z hg ha hb hv).1 h)
theorem own_div_lo {g : Nat} (hg : g ≤ 1074) {N M K : Int} {a b : UInt64} (ha : own_D g N a) (hb : own_D g M b) (hM : 0 < M) (h : K * M ≤ N * ((2 ^ g : Nat) : Int)) (hK : K.natAbs < 9007199254740992) : K * ((2 ^ (1074 - g) : Nat) : Int) ≤ own_z (FP.ddiv a b) := by
  obtain ⟨v, hv⟩ := own_rep g hg _ hK
  rw [← hv.2]
  exact own_div_ge ha.1 hb.1 hv.num (hb.pos hM) ((own_div_z hg ha hb hv).2 h)
/-- a number between two doubles' values is finite -/
theorem own_fin_btw {g : Nat} (hg : g ≤ 1074) {A B : Int} {r : UInt64} (hr : own_num r) (h1 : A * ((2 ^ (1074 - g) : Nat) : Int) ≤ own_z r) (h2 : own_z r ≤ B * ((2 ^ (1074 - g) : Nat) : Int)) (hA : A.natAbs < 9007199254740992) (hB : B.natAbs < 9007199254740992) : FP.Core.DFin r := by
  obtain ⟨va, ha⟩ := own_rep g hg _ hA
  obtain ⟨vb, hb⟩ := own_rep g hg _ hB
  rw [← ha.2] at h1
  rw [← hb.2] at h2
  cases hv : FP.Core.val64 r with
  | nan => exact absurd hv hr
  | fin s c q => exact ⟨s, c, q, hv⟩
  | inf s =>
    exfalso
    have la := FP.Core.DFin.zval_lt ha.1
    have lb := FP.Core.DFin.zval_lt hb.1
    have e : own_z r = FP.Core.signed s (FP.Core.b64.tails * 2 ^ (FP.Core.b64.exps - 2)) := by unfold own_z FP.Core.zval; rw [hv]; rfl
    have na : (own_z va).natAbs = FP.Core.zmag FP.Core.b64 (FP.Core.val64 va) := FP.Core.natAbs_signed _ _
    have nb : (own_z vb).natAbs = FP.Core.zmag FP.Core.b64 (FP.Core.val64 vb) := FP.Core.natAbs_signed _ _
    rw [← na] at la
    rw [← nb] at lb
    generalize FP.Core.b64.tails * 2 ^ (FP.Core.b64.exps - 2) = top at *
    rcases own_signed_cases s top with ⟨-, q⟩ | ⟨-, q⟩ <;> rw [q] at e <;> omega
theorem own_D.up {g : Nat} {N : Int} {a : UInt64} (h : own_D g N a) (j : Nat) (hj : g + j ≤ 1074) : own_D (g + j) (N * ((2 ^ j : Nat) : Int)) a := by
  refine ⟨h.1, ?_⟩
  rw [h.2, Int.mul_assoc, ← Int.natCast_mul, ← Nat.pow_add, show j + (1074 - (g + j)) = 1074 - g by omega]
theorem own_D.int {i : Int} {a : UInt64} (h : FP.Core.DInt i a) : own_D 0 i a := by
  refine ⟨?_, ?_⟩
  · have h' : FP.Core.Whole i (FP.Core.val64 a) := h
    cases hv : FP.Core.val64 a with
    | nan => rw [hv] at h'; exact h'.elim
    | inf s => rw [hv] at h'; exact h'.elim
    | fin s c q => exact ⟨s, c, q, hv⟩
  · exact FP.Core.DInt_zval h
theorem own_D.i2d (x : Int32) : own_D 0 x.toInt (FP.i2d x) := own_D.int (FP.Core.i2d_int x)
theorem own_D.l2d {x : Int64} (h : x.toInt.natAbs ≤ 9007199254740992) : own_D 0 x.toInt (FP.l2d x) := own_D.int (FP.Core.l2d_int h)
/-- an int at the granularity g -/
theorem own_D.i2dg (g : Nat) (hg : g ≤ 1074) (x : Int32) : own_D g (x.toInt * ((2 ^ g : Nat) : Int)) (FP.i2d x) := by
  have := (own_D.i2d x).up g (by omega)
  rw [Nat.zero_add] at this
  exact this
theorem own_D.l2dg (g : Nat) (hg : g ≤ 1074) {x : Int64} (h : x.toInt.natAbs ≤ 9007199254740992) : own_D g (x.toInt * ((2 ^ g : Nat) : Int)) (FP.l2d x) := by
  have := (own_D.l2d h).up g (by omega)
  rw [Nat.zero_add] at this
  exact this
theorem own_D.lt {g : Nat} {N M : Int} {a b : UInt64} (ha : own_D g N a) (hb : own_D g M b) (h : N < M) : FP.dcmp a b = some .lt := own_lt ha.num hb.num (by rw [ha.2, hb.2]; exact Int.mul_lt_mul_of_pos_right h (own_u_pos g))
theorem own_D.gt {g : Nat} {N M : Int} {a b : UInt64} (ha : own_D g N a) (hb : own_D g M b) (h : M < N) : FP.dcmp a b = some .gt := own_gt ha.num hb.num (by rw [ha.2, hb.2]; exact Int.mul_lt_mul_of_pos_right h (own_u_pos g))
theorem own_D.eq {g : Nat} {N M : Int} {a b : UInt64} (ha : own_D g N a) (hb : own_D g M b) (h : N = M) : FP.dcmp a b = some .eq := own_eq ha.num hb.num (by rw [ha.2, hb.2, h])
theorem own_z_neg (a : UInt64) : own_z (FP.dneg a) = -own_z a := by
  unfold own_z
  rw [FP.val64_dneg, FP.Core.zval_negate]
theorem own_D.neg {g : Nat} {N : Int} {a : UInt64} (h : own_D g N a) : own_D g (-N) (FP.dneg a) := by
  refine ⟨?_, by rw [own_z_neg, h.2, Int.neg_mul]⟩
  obtain ⟨s, c, q, e⟩ := h.1
  exact ⟨!s, c, q, by rw [FP.val64_dneg, e]; rfl⟩
/-- (k t + r) / t, rounded, against k + c / 2^g -/
theorem own_quot {g : Nat} (hg : g ≤ 1074) {k r : Int} {T : Int64} {t : Int32} (hT : T.toInt = k * t.toInt + r) (hb : T.toInt.natAbs ≤ 9007199254740992) (ht : 0 < t.toInt) :
    own_num (FP.ddiv (FP.l2d T) (FP.i2d t)) ∧
    (r = 0 → (k * ((2 ^ g : Nat) : Int)).natAbs < 9007199254740992 → own_D g (k * ((2 ^ g : Nat) : Int)) (FP.ddiv (FP.l2d T) (FP.i2d t))) ∧
    (∀ c : Int, c * t.toInt ≤ r * ((2 ^ g : Nat) : Int) → (k * ((2 ^ g : Nat) : Int) + c).natAbs < 9007199254740992 → (k * ((2 ^ g : Nat) : Int) + c) * ((2 ^ (1074 - g) : Nat) : Int) ≤ own_z (FP.ddiv (FP.l2d T) (FP.i2d t))) ∧
    (∀ c : Int, r * ((2 ^ g : Nat) : Int) ≤ c * t.toInt → (k * ((2 ^ g : Nat) : Int) + c).natAbs < 9007199254740992 → own_z (FP.ddiv (FP.l2d T) (FP.i2d t)) ≤ (k * ((2 ^ g : Nat) : Int) + c) * ((2 ^ (1074 - g) : Nat) : Int)) ∧
    (∀ c : Int, r * ((2 ^ g : Nat) : Int) = c * t.toInt → (k * ((2 ^ g : Nat) : Int) + c).natAbs < 9007199254740992 → own_D g (k * ((2 ^ g : Nat) : Int) + c) (FP.ddiv (FP.l2d T) (FP.i2d t))) := by
  have d1 := own_D.l2dg g hg hb
  have d2 := own_D.i2dg g hg t
  have hG : (0 : Int) < ((2 ^ g : Nat) : Int) := by have := Nat.two_pow_pos g; omega
  have hM : 0 < t.toInt * ((2 ^ g : Nat) : Int) := Int.mul_pos ht hG
  have key : ∀ c : Int, (k * ((2 ^ g : Nat) : Int) + c) * (t.toInt * ((2 ^ g : Nat) : Int)) = (k * t.toInt * ((2 ^ g : Nat) : Int) + c * t.toInt) * ((2 ^ g : Nat) : Int) := by
    intro c
    rw [← Int.mul_assoc, Int.add_mul, Int.mul_right_comm]
  have key2 : T.toInt * ((2 ^ g : Nat) : Int) * ((2 ^ g : Nat) : Int) = (k * t.toInt * ((2 ^ g : Nat) : Int) + r * ((2 ^ g : Nat) : Int)) * ((2 ^ g : Nat) : Int) := by
    rw [hT, Int.add_mul (k * t.toInt)]
  have hn : own_num (FP.ddiv (FP.l2d T) (FP.i2d t)) := own_num_div d1.num d2.1 (d2.ne (by omega))
  have ex : ∀ c : Int, r * ((2 ^ g : Nat) : Int) = c * t.toInt → (k * ((2 ^ g : Nat) : Int) + c).natAbs < 9007199254740992 → own_D g (k * ((2 ^ g : Nat) : Int) + c) (FP.ddiv (FP.l2d T) (FP.i2d t)) :=
    fun c h hc => d1.div hg d2 hM (by rw [key, key2, h]) hc
  refine ⟨hn, fun h0 hc => ?_, fun c h hc => ?_, fun c h hc => ?_, ex⟩
  · have := ex 0 (by rw [h0]; omega) (by rw [Int.add_zero]; exact hc)
    rwa [Int.add_zero] at this
  · refine own_div_lo hg d1 d2 hM ?_ hc
    rw [key, key2]
    exact Int.mul_le_mul_of_nonneg_right (by omega) (by omega)
  · refine own_div_hi hg d1 d2 hM ?_ hc
    rw [key, key2]
    exact Int.mul_le_mul_of_nonneg_right (by omega) (by omega)
theorem own_D.uniq {g : Nat} {N M : Int} {a b : UInt64} (ha : own_D g N a) (hb : own_D g M b) (e : N = M) (h : M ≠ 0) : a = b :=
  FP.Core.eq_bits (fun z => hb.ne h (FP.Core.DZero.zval z)) (ha.eq hb e)
/-! OWN KIT 4: ints and longs by their whole numbers -/
theorem own_and32 (x m : Int32) (h : 0 ≤ m.toInt) : 0 ≤ (x &&& m).toInt ∧ (x &&& m).toInt ≤ m.toInt := by
  have e : (x &&& m).toBitVec.toNat = x.toBitVec.toNat &&& m.toBitVec.toNat := by
    show (x.toBitVec &&& m.toBitVec).toNat = _
    rw [BitVec.toNat_and]
  have h1 : x.toBitVec.toNat &&& m.toBitVec.toNat ≤ m.toBitVec.toNat := Nat.and_le_right
  have h2 := m.toBitVec.isLt
  have h3 : 0 ≤ m.toBitVec.toInt := h
  show 0 ≤ (x &&& m).toBitVec.toInt ∧ (x &&& m).toBitVec.toInt ≤ m.toBitVec.toInt
  rw [BitVec.toInt_eq_toNat_cond] at h3 ⊢
  rw [BitVec.toInt_eq_toNat_cond, e]
  split at h3
  · rw [if_pos (by omega), if_pos (by omega)]; omega
  · omega
theorem own_and64 (x m : Int64) (h : 0 ≤ m.toInt) : 0 ≤ (x &&& m).toInt ∧ (x &&& m).toInt ≤ m.toInt := by
  have e : (x &&& m).toBitVec.toNat = x.toBitVec.toNat &&& m.toBitVec.toNat := by
    show (x.toBitVec &&& m.toBitVec).toNat = _
    rw [BitVec.toNat_and]
  have h1 : x.toBitVec.toNat &&& m.toBitVec.toNat ≤ m.toBitVec.toNat := Nat.and_le_right
  have h2 := m.toBitVec.isLt
  have h3 : 0 ≤ m.toBitVec.toInt := h
  show 0 ≤ (x &&& m).toBitVec.toInt ∧ (x &&& m).toBitVec.toInt ≤ m.toBitVec.toInt
  rw [BitVec.toInt_eq_toNat_cond] at h3 ⊢
  rw [BitVec.toInt_eq_toNat_cond, e]
  split at h3
  · rw [if_pos (by omega), if_pos (by omega)]; omega
  · omega
theorem own_rng32 (x : Int32) : -2147483648 ≤ x.toInt ∧ x.toInt < 2147483648 := ⟨Int32.le_toInt x, Int32.toInt_lt x⟩
theorem own_rng64 (x : Int64) : -9223372036854775808 ≤ x.toInt ∧ x.toInt < 9223372036854775808 := ⟨Int64.le_toInt x, Int64.toInt_lt x⟩
theorem own_i2l (x : Int32) : x.toInt64.toInt = x.toInt := Int32.toInt_toInt64 x
theorem own_add64 {a b : Int64} (h : -9223372036854775808 ≤ a.toInt + b.toInt) (h' : a.toInt + b.toInt < 9223372036854775808) : (a + b).toInt = a.toInt + b.toInt := FP.Core.int64_add h h'
theorem own_sub64 {a b : Int64} (h : -9223372036854775808 ≤ a.toInt - b.toInt) (h' : a.toInt - b.toInt < 9223372036854775808) : (a - b).toInt = a.toInt - b.toInt := FP.Core.int64_sub h h'
theorem own_mul64 {a b : Int64} (h : -9223372036854775808 ≤ a.toInt * b.toInt) (h' : a.toInt * b.toInt < 9223372036854775808) : (a * b).toInt = a.toInt * b.toInt := FP.Core.int64_mul h h'
theorem own_add32 {a b : Int32} (h : -2147483648 ≤ a.toInt + b.toInt) (h' : a.toInt + b.toInt < 2147483648) : (a + b).toInt = a.toInt + b.toInt := by
  rw [Int32.toInt_add, Int.bmod_eq_of_le (by omega) (by omega)]
theorem own_sub32 {a b : Int32} (h : -2147483648 ≤ a.toInt - b.toInt) (h' : a.toInt - b.toInt < 2147483648) : (a - b).toInt = a.toInt - b.toInt := by
  rw [Int32.toInt_sub, Int.bmod_eq_of_le (by omega) (by omega)]
theorem own_mul32 {a b : Int32} (h : -2147483648 ≤ a.toInt * b.toInt) (h' : a.toInt * b.toInt < 2147483648) : (a * b).toInt = a.toInt * b.toInt := by
  rw [Int32.toInt_mul, Int.bmod_eq_of_le (by omega) (by omega)]
theorem own_rem32 (a b : Int32) : (a % b).toInt = a.toInt.tmod b.toInt := Int32.toInt_mod a b
theorem own_rem_pos {a b : Int32} (ha : 0 ≤ a.toInt) (hb : 0 < b.toInt) : 0 ≤ (a % b).toInt ∧ (a % b).toInt < b.toInt := by
  rw [own_rem32, Int.tmod_eq_emod_of_nonneg ha]
  exact ⟨Int.emod_nonneg _ (by omega), Int.emod_lt_of_pos _ hb⟩
/-- what a comparison of doubles pushes -/
theorem own_cv_lt {a b : UInt64} (h : FP.dcmp a b = some .lt) (o : CmpOp) : (cmpValue (FP.dcmp a b) o).toInt = -1 := by rw [h]; rfl
theorem own_cv_eq {a b : UInt64} (h : FP.dcmp a b = some .eq) (o : CmpOp) : (cmpValue (FP.dcmp a b) o).toInt = 0 := by rw [h]; rfl
theorem own_cv_gt {a b : UInt64} (h : FP.dcmp a b = some .gt) (o : CmpOp) : (cmpValue (FP.dcmp a b) o).toInt = 1 := by rw [h]; rfl
/-! OWN KIT 4 (behind MathD, MathI): the lesser of two doubles, comparisons by own_z -/
def own_mn (r x y : UInt64) : Prop := own_num r ∧ own_z r ≤ own_z x ∧ own_z r ≤ own_z y ∧ (own_z r = own_z x ∨ own_z r = own_z y)
theorem own_pick {x y : UInt64} (nx : own_num x) (ny : own_num y) : own_mn (Native.java_lang_Math.nans.pick64 false x y) x y := by
  rcases Int.lt_trichotomy (own_z x) (own_z y) with q | q | q
  · have e : Native.java_lang_Math.nans.pick64 false x y = x := by unfold Native.java_lang_Math.nans.pick64; rw [own_lt nx ny q]; rfl
    rw [e]; exact ⟨nx, by omega, by omega, Or.inl rfl⟩
  · rcases Jvm.Free.Fl.pick64_or false x y with e | e <;> rw [e]
    · exact ⟨nx, by omega, by omega, Or.inl rfl⟩
    · exact ⟨ny, by omega, by omega, Or.inr rfl⟩
  · have e : Native.java_lang_Math.nans.pick64 false x y = y := by unfold Native.java_lang_Math.nans.pick64; rw [own_gt nx ny q]; rfl
    rw [e]; exact ⟨ny, by omega, by omega, Or.inr rfl⟩
theorem own_gle {x y : UInt64} {k : CmpOp} (nx : own_num x) (ny : own_num y) (h : own_z x ≤ own_z y) : (cmpValue (FP.dcmp x y) k).toInt ≤ 0 := by
  rcases Int.lt_or_eq_of_le h with q | q
  · rw [own_cv_lt (own_lt nx ny q)]; omega
  · rw [own_cv_eq (own_eq nx ny q)]; omega
theorem own_ggt {x y : UInt64} {k : CmpOp} (nx : own_num x) (ny : own_num y) (h : own_z y < own_z x) : 0 < (cmpValue (FP.dcmp x y) k).toInt := by
  rw [own_cv_gt (own_gt nx ny h)]; omega
theorem own_infn : own_num 9218868437227405312 := by unfold own_num; decide +kernel
theorem own_i2d_inf (x : Int32) : own_z (FP.i2d x) < own_z 9218868437227405312 := by
  have h := (own_D.i2d x).2
  rw [h]
  have h1 := Int32.toInt_lt x
  have h2 : x.toInt * ((2 ^ (1074 - 0) : Nat) : Int) ≤ 2147483648 * ((2 ^ (1074 - 0) : Nat) : Int) := Int.mul_le_mul_of_nonneg_right (by omega) (by decide +kernel)
  have h3 : 2147483648 * ((2 ^ (1074 - 0) : Nat) : Int) < own_z 9218868437227405312 := by decide +kernel
  exact Int.lt_of_le_of_lt h2 h3
theorem wm (i : Nat) {d : Jvm.Cond} (h : tables_1[i]? = some d) : d ∈ tables_1 := List.mem_of_getElem? h
def tab0 : List (Nat × Instr) := [(0, .iload_n 2), (1, .bipush 15), (3, .iand), (4, .bipush 9), (6, .irem), (7, .istore 4), (9, .lload_n 0), (10, .iconst 0), (11, .invokestatic 7), (14, .dstore 5), (16, .lload_n 0), (17, .iconst 1), (18, .invokestatic 7), (21, .dstore 7), (23, .lload_n 0), (24, .iconst 2), (25, .invokestatic 7), (28, .dstore 9), (30, .lload_n 0), (31, .iconst 3), (32, .invokestatic 7), (35, .dstore 11), (37, .lload_n 0), (38, .iconst 4), (39, .invokestatic 7), (42, .dstore 13), (44, .lload_n 0), (45, .iconst 5), (46, .invokestatic 7), (49, .dstore 15), (51, .lload_n 0), (52, .bipush 6), (54, .invokestatic 7), (57, .dstore 17), (59, .lload_n 0), (60, .bipush 7), (62, .invokestatic 7), (65, .dstore 19), (67, .iload 4), (69, .newarray .double), (71, .astore 21), (73, .iload 4), (75, .ifCond .le 9), (78, .aload 21), (80, .iconst 0), (81, .dload 5), (83, .dastore), (84, .iload 4), (86, .iconst 1), (87, .if_icmp .le 9), (90, .aload 21), (92, .iconst 1), (93, .dload 7), (95, .dastore), (96, .iload 4), (98, .iconst 2), (99, .if_icmp .le 9), (102, .aload 21), (104, .iconst 2), (105, .dload 9), (107, .dastore), (108, .iload 4), (110, .iconst 3), (111, .if_icmp .le 9), (114, .aload 21), (116, .iconst 3), (117, .dload 11), (119, .dastore), (120, .iload 4), (122, .iconst 4), (123, .if_icmp .le 9), (126, .aload 21), (128, .iconst 4), (129, .dload 13), (131, .dastore), (132, .iload 4), (134, .iconst 5), (135, .if_icmp .le 9), (138, .aload 21), (140, .iconst 5), (141, .dload 15), (143, .dastore), (144, .iload 4), (146, .bipush 6), (148, .if_icmp .le 10), (151, .aload 21), (153, .bipush 6), (155, .dload 17), (157, .dastore), (158, .iload 4), (160, .bipush 7), (162, .if_icmp .le 10), (165, .aload 21), (167, .bipush 7), (169, .dload 19), (171, .dastore), (172, .iload_n 3), (173, .i2b), (174, .i2d), (175, .dstore 22), (177, .new 13), (180, .dup), (181, .aload 21), (183, .invokespecial 15), (186, .astore 24), (188, .aload 24), (190, .dload 22), (192, .invokevirtual 18), (195, .istore 25), (197, .iconst (-1)), (198, .istore 26), (200, .iload 4), (202, .bipush 7), (204, .if_icmp .le 15), (207, .dload 19), (209, .dload 22), (211, .dcmp .g), (212, .ifCond .gt 7), (215, .bipush 7), (217, .istore 26), (219, .iload 4), (221, .bipush 6), (223, .if_icmp .le 15), (226, .dload 17), (228, .dload 22), (230, .dcmp .g), (231, .ifCond .gt 7), (234, .bipush 6), (236, .istore 26), (238, .iload 4), (240, .iconst 5), (241, .if_icmp .le 14), (244, .dload 15), (246, .dload 22), (248, .dcmp .g), (249, .ifCond .gt 6), (252, .iconst 5), (253, .istore 26), (255, .iload 4), (257, .iconst 4), (258, .if_icmp .le 14), (261, .dload 13), (263, .dload 22), (265, .dcmp .g), (266, .ifCond .gt 6), (269, .iconst 4), (270, .istore 26), (272, .iload 4), (274, .iconst 3), (275, .if_icmp .le 14), (278, .dload 11), (280, .dload 22), (282, .dcmp .g), (283, .ifCond .gt 6), (286, .iconst 3), (287, .istore 26), (289, .iload 4), (291, .iconst 2), (292, .if_icmp .le 14), (295, .dload 9), (297, .dload 22), (299, .dcmp .g), (300, .ifCond .gt 6), (303, .iconst 2), (304, .istore 26), (306, .iload 4), (308, .iconst 1), (309, .if_icmp .le 14), (312, .dload 7), (314, .dload 22), (316, .dcmp .g), (317, .ifCond .gt 6), (320, .iconst 1), (321, .istore 26), (323, .iload 4), (325, .ifCond .le 14), (328, .dload 5), (330, .dload 22), (332, .dcmp .g), (333, .ifCond .gt 6), (336, .iconst 0), (337, .istore 26), (339, .iload 25), (341, .iload 26), (343, .if_icmp .ne 7), (346, .iconst 1), (347, .goto 4), (350, .iconst 0), (351, .ireturn)]
set_option maxRecDepth 65536 in
theorem dec0 : own_dec code tab0 := by
  show ∀ e ∈ tab0, decode code e.1 = .ok (e.2, own_len e.2)
  decide +kernel
theorem seq0 : own_seq tab0 = true := by decide +kernel
def kt0 : List (Nat × Value) := []
def ft0 : List (Nat × String × String × String) := []
theorem hKt0 {a0 : Array Value} {Z : State} (hw : ∀ d ∈ tables_1, d.before a0 Z = true) : own_ks "com/example/binwright/binwright/binning/LeastTreeFirstAtMostPinLaw" a0 Z kt0 := trivial
theorem hFt0 {a0 : Array Value} {Z : State} (hw : ∀ d ∈ tables_1, d.before a0 Z = true) : own_fs "com/example/binwright/binwright/binning/LeastTreeFirstAtMostPinLaw" a0 Z ft0 := trivial
theorem pn0 : plainName "com/example/binwright/binwright/binning/LeastTreeFirstAtMostPinLaw" = true := by first | (simp [plainName, overriddenIn]; done) | decide +kernel
theorem pf0 : plainFor x = true := plainFor_of_name pn0
theorem pd0 : parseMethodDescriptor "(JII)Z" = some ⟨[.long, .int, .int], some .boolean⟩ := by decide +kernel
def tab1 : List (Nat × Instr) := [(0, .lload_n 0), (1, .bipush 8), (3, .iload_n 2), (4, .imul), (5, .lushr), (6, .l2i), (7, .i2b), (8, .i2d), (9, .dreturn)]
set_option maxRecDepth 65536 in
theorem dec1 : own_dec method_2_code tab1 := by
  show ∀ e ∈ tab1, decode method_2_code e.1 = .ok (e.2, own_len e.2)
  decide +kernel
theorem seq1 : own_seq tab1 = true := by decide +kernel
theorem d1_9 : decode method_2_code 9 = .ok (.dreturn, 1) := by decide +kernel
theorem pn1 : plainName "com/example/binwright/binwright/binning/LeastTreeFirstAtMostPinLaw" = true := by first | (simp [plainName, overriddenIn]; done) | decide +kernel
theorem pf1 : plainFor (⟨"com/example/binwright/binwright/binning/LeastTreeFirstAtMostPinLaw", "byteAt", "(JI)D"⟩ : MethodName) = true := plainFor_of_name pn1
theorem pd1 : parseMethodDescriptor "(JI)D" = some ⟨[.long, .int], some .double⟩ := by decide +kernel
def tab2 : List (Nat × Instr) := [(0, .aload_n 0), (1, .invokespecial 1), (4, .aload_n 0), (5, .aload_n 1), (6, .putfield 7), (9, .aload_n 0), (10, .iconst 1), (11, .aload_n 1), (12, .arraylength), (13, .iconst 1), (14, .isub), (15, .invokestatic 13), (18, .invokestatic 19), (21, .iconst 1), (22, .ishl), (23, .putfield 25), (26, .aload_n 0), (27, .aload_n 0), (28, .getfield 25), (31, .newarray .double), (33, .putfield 29), (36, .aload_n 0), (37, .getfield 29), (40, .ldc2_w 34), (43, .invokestatic 36), (46, .aload_n 0), (47, .iconst 0), (48, .aload_n 1), (49, .arraylength), (50, .invokevirtual 42), (53, .return_)]
set_option maxRecDepth 65536 in
theorem dec2 : own_dec prog_15_method_1_code tab2 := by
  show ∀ e ∈ tab2, decode prog_15_method_1_code e.1 = .ok (e.2, own_len e.2)
  decide +kernel
theorem seq2 : own_seq tab2 = true := by decide +kernel
theorem d2_1 : decode prog_15_method_1_code 1 = .ok (.invokespecial 1, 3) := by decide +kernel
theorem d2_6 : decode prog_15_method_1_code 6 = .ok (.putfield 7, 3) := by decide +kernel
theorem d2_15 : decode prog_15_method_1_code 15 = .ok (.invokestatic 13, 3) := by decide +kernel
theorem d2_18 : decode prog_15_method_1_code 18 = .ok (.invokestatic 19, 3) := by decide +kernel
theorem d2_23 : decode prog_15_method_1_code 23 = .ok (.putfield 25, 3) := by decide +kernel
theorem d2_31 : decode prog_15_method_1_code 31 = .ok (.newarray .double, 2) := by decide +kernel
theorem d2_33 : decode prog_15_method_1_code 33 = .ok (.putfield 29, 3) := by decide +kernel
theorem d2_43 : decode prog_15_method_1_code 43 = .ok (.invokestatic 36, 3) := by decide +kernel
theorem d2_50 : decode prog_15_method_1_code 50 = .ok (.invokevirtual 42, 3) := by decide +kernel
theorem d2_53 : decode prog_15_method_1_code 53 = .ok (.return_, 1) := by decide +kernel
def kt2 : List (Nat × Value) := [(34, .double 9218868437227405312)]
def ft2 : List (Nat × String × String × String) := [(7, "com/example/binwright/binwright/binning/LeastTree", "values", "[D"), (25, "com/example/binwright/binwright/binning/LeastTree", "leaves", "I"), (29, "com/example/binwright/binwright/binning/LeastTree", "least", "[D")]
theorem hKt2 {a0 : Array Value} {Z : State} (hw : ∀ d ∈ tables_1, d.before a0 Z = true) : own_ks "com/example/binwright/binwright/binning/LeastTree" a0 Z kt2 := ⟨hw _ (wm 33 rfl), trivial⟩
theorem hFt2 {a0 : Array Value} {Z : State} (hw : ∀ d ∈ tables_1, d.before a0 Z = true) : own_fs "com/example/binwright/binwright/binning/LeastTree" a0 Z ft2 := ⟨hw _ (wm 14 rfl), hw _ (wm 29 rfl), hw _ (wm 31 rfl), trivial⟩
theorem pn2 : plainName "com/example/binwright/binwright/binning/LeastTree" = true := by first | (simp [plainName, overriddenIn]; done) | decide +kernel
theorem pf2 : plainFor (⟨"com/example/binwright/binwright/binning/LeastTree", "<init>", "([D)V"⟩ : MethodName) = true := plainFor_of_name pn2
theorem pd2 : parseMethodDescriptor "([D)V" = some ⟨[(.array .double)], none⟩ := by decide +kernel
def tab4 : List (Nat × Instr) := [(0, .iload_n 0), (1, .iload_n 1), (2, .if_icmp .lt 7), (5, .iload_n 0), (6, .goto 4), (9, .iload_n 1), (10, .ireturn)]
set_option maxRecDepth 65536 in
theorem dec4 : own_dec jdk_29_method_65_code tab4 := by
  show ∀ e ∈ tab4, decode jdk_29_method_65_code e.1 = .ok (e.2, own_len e.2)
  decide +kernel
theorem seq4 : own_seq tab4 = true := by decide +kernel
theorem d4_10 : decode jdk_29_method_65_code 10 = .ok (.ireturn, 1) := by decide +kernel
def kt4 : List (Nat × Value) := []
def ft4 : List (Nat × String × String × String) := []
theorem hKt4 {a0 : Array Value} {Z : State} (hw : ∀ d ∈ tables_1, d.before a0 Z = true) : own_ks "java/lang/Math" a0 Z kt4 := trivial
theorem hFt4 {a0 : Array Value} {Z : State} (hw : ∀ d ∈ tables_1, d.before a0 Z = true) : own_fs "java/lang/Math" a0 Z ft4 := trivial
theorem pf4 : plainFor (⟨"java/lang/Math", "max", "(II)I"⟩ : MethodName) = true := by decide +kernel
theorem pd4 : parseMethodDescriptor "(II)I" = some ⟨[.int, .int], some .int⟩ := by decide +kernel
def tab5 : List (Nat × Instr) := [(0, .iload_n 0), (1, .ldc 127), (3, .iload_n 0), (4, .invokestatic 51), (7, .iushr), (8, .iand), (9, .ireturn)]
set_option maxRecDepth 65536 in
theorem dec5 : own_dec jdk_33_method_45_code tab5 := by
  show ∀ e ∈ tab5, decode jdk_33_method_45_code e.1 = .ok (e.2, own_len e.2)
  decide +kernel
theorem seq5 : own_seq tab5 = true := by decide +kernel
theorem d5_4 : decode jdk_33_method_45_code 4 = .ok (.invokestatic 51, 3) := by decide +kernel
theorem d5_9 : decode jdk_33_method_45_code 9 = .ok (.ireturn, 1) := by decide +kernel
def kt5 : List (Nat × Value) := [(127, .int (-2147483648)), (264, .int 65536)]
def ft5 : List (Nat × String × String × String) := []
theorem hKt5 {a0 : Array Value} {Z : State} (hw : ∀ d ∈ tables_1, d.before a0 Z = true) : own_ks "java/lang/Integer" a0 Z kt5 := ⟨hw _ (wm 24 rfl), hw _ (wm 28 rfl), trivial⟩
theorem hFt5 {a0 : Array Value} {Z : State} (hw : ∀ d ∈ tables_1, d.before a0 Z = true) : own_fs "java/lang/Integer" a0 Z ft5 := trivial
theorem pn5 : plainName "java/lang/Integer" = true := by first | (simp [plainName, overriddenIn]; done) | decide +kernel
theorem pf5 : plainFor (⟨"java/lang/Integer", "highestOneBit", "(I)I"⟩ : MethodName) = true := plainFor_of_name pn5
theorem pd5 : parseMethodDescriptor "(I)I" = some ⟨[.int], some .int⟩ := by decide +kernel
def tab6 : List (Nat × Instr) := [(0, .iload_n 0), (1, .ifCond .gt 14), (4, .iload_n 0), (5, .ifCond .ne 8), (8, .bipush 32), (10, .goto 4), (13, .iconst 0), (14, .ireturn), (15, .bipush 31), (17, .istore_n 1), (18, .iload_n 0), (19, .ldc_w 264), (22, .if_icmp .lt 11), (25, .iinc 1 (-16)), (28, .iload_n 0), (29, .bipush 16), (31, .iushr), (32, .istore_n 0), (33, .iload_n 0), (34, .sipush 256), (37, .if_icmp .lt 11), (40, .iinc 1 (-8)), (43, .iload_n 0), (44, .bipush 8), (46, .iushr), (47, .istore_n 0), (48, .iload_n 0), (49, .bipush 16), (51, .if_icmp .lt 10), (54, .iinc 1 (-4)), (57, .iload_n 0), (58, .iconst 4), (59, .iushr), (60, .istore_n 0), (61, .iload_n 0), (62, .iconst 4), (63, .if_icmp .lt 10), (66, .iinc 1 (-2)), (69, .iload_n 0), (70, .iconst 2), (71, .iushr), (72, .istore_n 0), (73, .iload_n 1), (74, .iload_n 0), (75, .iconst 1), (76, .iushr), (77, .isub), (78, .ireturn)]
set_option maxRecDepth 65536 in
theorem dec6 : own_dec jdk_33_method_47_code tab6 := by
  show ∀ e ∈ tab6, decode jdk_33_method_47_code e.1 = .ok (e.2, own_len e.2)
  decide +kernel
theorem seq6 : own_seq tab6 = true := by decide +kernel
theorem d6_14 : decode jdk_33_method_47_code 14 = .ok (.ireturn, 1) := by decide +kernel
theorem d6_78 : decode jdk_33_method_47_code 78 = .ok (.ireturn, 1) := by decide +kernel
theorem pn6 : plainName "java/lang/Integer" = true := by first | (simp [plainName, overriddenIn]; done) | decide +kernel
theorem pf6 : plainFor (⟨"java/lang/Integer", "numberOfLeadingZeros", "(I)I"⟩ : MethodName) = true := plainFor_of_name pn6
theorem pd6 : parseMethodDescriptor "(I)I" = some ⟨[.int], some .int⟩ := by decide +kernel
def tab7 : List (Nat × Instr) := [(0, .iconst 0), (1, .istore_n 3), (2, .aload_n 0), (3, .arraylength), (4, .istore 4), (6, .iload_n 3), (7, .iload 4), (9, .if_icmp .ge 13), (12, .aload_n 0), (13, .iload_n 3), (14, .dload_n 1), (15, .dastore), (16, .iinc 3 1), (19, .goto (-13)), (22, .return_)]
set_option maxRecDepth 65536 in
theorem dec7 : own_dec jdk_65_method_113_code tab7 := by
  show ∀ e ∈ tab7, decode jdk_65_method_113_code e.1 = .ok (e.2, own_len e.2)
  decide +kernel
theorem seq7 : own_seq tab7 = true := by decide +kernel
theorem d7_15 : decode jdk_65_method_113_code 15 = .ok (.dastore, 1) := by decide +kernel
theorem d7_22 : decode jdk_65_method_113_code 22 = .ok (.return_, 1) := by decide +kernel
def kt7 : List (Nat × Value) := []
def ft7 : List (Nat × String × String × String) := []
theorem hKt7 {a0 : Array Value} {Z : State} (hw : ∀ d ∈ tables_1, d.before a0 Z = true) : own_ks "java/util/Arrays" a0 Z kt7 := trivial
theorem hFt7 {a0 : Array Value} {Z : State} (hw : ∀ d ∈ tables_1, d.before a0 Z = true) : own_fs "java/util/Arrays" a0 Z ft7 := trivial
theorem pn7 : plainName "java/util/Arrays" = true := by first | (simp [plainName, overriddenIn]; done) | decide +kernel
theorem pf7 : plainFor (⟨"java/util/Arrays", "fill", "([DD)V"⟩ : MethodName) = true := plainFor_of_name pn7
theorem pd7 : parseMethodDescriptor "([DD)V" = some ⟨[(.array .double), .double], none⟩ := by decide +kernel
def tab8 : List (Nat × Instr) := [(0, .iload_n 1), (1, .iload_n 2), (2, .if_icmp .lt 4), (5, .return_), (6, .aload_n 0), (7, .getfield 25), (10, .iload_n 1), (11, .iadd), (12, .iconst 2), (13, .idiv), (14, .istore_n 3), (15, .aload_n 0), (16, .getfield 25), (19, .iload_n 2), (20, .iadd), (21, .iconst 1), (22, .isub), (23, .iconst 2), (24, .idiv), (25, .istore 4), (27, .iload_n 3), (28, .iconst 1), (29, .if_icmp .lt 60), (32, .iload_n 3), (33, .istore 5), (35, .iload 5), (37, .iload 4), (39, .if_icmp .gt 37), (42, .aload_n 0), (43, .getfield 29), (46, .iload 5), (48, .aload_n 0), (49, .iconst 2), (50, .iload 5), (52, .imul), (53, .invokevirtual 46), (56, .aload_n 0), (57, .iconst 2), (58, .iload 5), (60, .imul), (61, .iconst 1), (62, .iadd), (63, .invokevirtual 46), (66, .invokestatic 50), (69, .dastore), (70, .iinc 5 1), (73, .goto (-38)), (76, .iload_n 3), (77, .iconst 2), (78, .idiv), (79, .istore_n 3), (80, .iload 4), (82, .iconst 2), (83, .idiv), (84, .istore 4), (86, .goto (-59)), (89, .return_)]
set_option maxRecDepth 65536 in
theorem dec8 : own_dec prog_15_method_2_code tab8 := by
  show ∀ e ∈ tab8, decode prog_15_method_2_code e.1 = .ok (e.2, own_len e.2)
  decide +kernel
theorem seq8 : own_seq tab8 = true := by decide +kernel
theorem d8_5 : decode prog_15_method_2_code 5 = .ok (.return_, 1) := by decide +kernel
theorem d8_53 : decode prog_15_method_2_code 53 = .ok (.invokevirtual 46, 3) := by decide +kernel
theorem d8_63 : decode prog_15_method_2_code 63 = .ok (.invokevirtual 46, 3) := by decide +kernel
theorem d8_66 : decode prog_15_method_2_code 66 = .ok (.invokestatic 50, 3) := by decide +kernel
theorem d8_69 : decode prog_15_method_2_code 69 = .ok (.dastore, 1) := by decide +kernel
theorem d8_89 : decode prog_15_method_2_code 89 = .ok (.return_, 1) := by decide +kernel
theorem pn8 : plainName "com/example/binwright/binwright/binning/LeastTree" = true := by first | (simp [plainName, overriddenIn]; done) | decide +kernel
theorem pf8 : plainFor (⟨"com/example/binwright/binwright/binning/LeastTree", "changed", "(II)V"⟩ : MethodName) = true := plainFor_of_name pn8
theorem pd8 : parseMethodDescriptor "(II)V" = some ⟨[.int, .int], none⟩ := by decide +kernel
def tab9 : List (Nat × Instr) := [(0, .iload_n 1), (1, .aload_n 0), (2, .getfield 25), (5, .isub), (6, .istore_n 2), (7, .iload_n 2), (8, .ifCond .ge 13), (11, .aload_n 0), (12, .getfield 29), (15, .iload_n 1), (16, .daload), (17, .dstore_n 3), (18, .goto 26), (21, .iload_n 2), (22, .aload_n 0), (23, .getfield 7), (26, .arraylength), (27, .if_icmp .ge 13), (30, .aload_n 0), (31, .getfield 7), (34, .iload_n 2), (35, .daload), (36, .dstore_n 3), (37, .goto 7), (40, .ldc2_w 34), (43, .dstore_n 3), (44, .dload_n 3), (45, .dreturn)]
set_option maxRecDepth 65536 in
theorem dec9 : own_dec prog_15_method_5_code tab9 := by
  show ∀ e ∈ tab9, decode prog_15_method_5_code e.1 = .ok (e.2, own_len e.2)
  decide +kernel
theorem seq9 : own_seq tab9 = true := by decide +kernel
theorem d9_45 : decode prog_15_method_5_code 45 = .ok (.dreturn, 1) := by decide +kernel
theorem pn9 : plainName "com/example/binwright/binwright/binning/LeastTree" = true := by first | (simp [plainName, overriddenIn]; done) | decide +kernel
theorem pf9 : plainFor (⟨"com/example/binwright/binwright/binning/LeastTree", "at", "(I)D"⟩ : MethodName) = true := plainFor_of_name pn9
theorem pd9 : parseMethodDescriptor "(I)D" = some ⟨[.int], some .double⟩ := by decide +kernel
def tab11 : List (Nat × Instr) := [(0, .aload_n 0), (1, .getfield 29), (4, .iconst 1), (5, .daload), (6, .dload_n 1), (7, .dcmp .g), (8, .ifCond .le 5), (11, .iconst (-1)), (12, .ireturn), (13, .iconst 1), (14, .istore_n 3), (15, .iload_n 3), (16, .aload_n 0), (17, .getfield 25), (20, .if_icmp .ge 30), (23, .aload_n 0), (24, .iconst 2), (25, .iload_n 3), (26, .imul), (27, .invokevirtual 46), (30, .dload_n 1), (31, .dcmp .g), (32, .ifCond .gt 9), (35, .iconst 2), (36, .iload_n 3), (37, .imul), (38, .goto 8), (41, .iconst 2), (42, .iload_n 3), (43, .imul), (44, .iconst 1), (45, .iadd), (46, .istore_n 3), (47, .goto (-32)), (50, .iload_n 3), (51, .aload_n 0), (52, .getfield 25), (55, .isub), (56, .ireturn)]
set_option maxRecDepth 65536 in
theorem dec11 : own_dec prog_15_method_4_code tab11 := by
  show ∀ e ∈ tab11, decode prog_15_method_4_code e.1 = .ok (e.2, own_len e.2)
  decide +kernel
theorem seq11 : own_seq tab11 = true := by decide +kernel
theorem d11_12 : decode prog_15_method_4_code 12 = .ok (.ireturn, 1) := by decide +kernel
theorem d11_27 : decode prog_15_method_4_code 27 = .ok (.invokevirtual 46, 3) := by decide +kernel
theorem d11_56 : decode prog_15_method_4_code 56 = .ok (.ireturn, 1) := by decide +kernel
theorem pn11 : plainName "com/example/binwright/binwright/binning/LeastTree" = true := by first | (simp [plainName, overriddenIn]; done) | decide +kernel
theorem pf11 : plainFor (⟨"com/example/binwright/binwright/binning/LeastTree", "firstAtMost", "(D)I"⟩ : MethodName) = true := plainFor_of_name pn11
theorem pd11 : parseMethodDescriptor "(D)I" = some ⟨[.double], some .int⟩ := by decide +kernel
set_option maxRecDepth 65536 in
set_option maxHeartbeats 40000000 in
theorem rm1 (l : Launch) (Z : State) (a0 : Array Value) (hw : ∀ d ∈ tables_1, d.before a0 Z = true) (ws : List Jvm.Cond) (pk : Int64) (i : Int32) (h0 : Heap) (n0 : Nat) (Z0 : n0 ≤ h0.size)  :
    own_MF l (⟨"com/example/binwright/binwright/binning/LeastTreeFirstAtMostPinLaw", "byteAt", "(JI)D"⟩ : MethodName) method_2_code 3 (some .double) ws ({ frames := 0, cells := 0, slots := 0, locals := 0 } : Room) #[.long pk, .int i] Z h0 (fun v h L => (∃ y : Int32, v = some (.double (FP.i2d y))) ∧ L = [] ∧ h = h0) := by
  refine own_body pf1 (ls0 := [.val (.long pk), .second, .val (.int i)]) (fun m => by first | (simp [entryFrame, mkF, argsToLocals, Value.category, maxLocals]; done) | rfl) ?_
  intro p e s m below meth c T0 hx hby hml hown hnm hlk hret hZ X0 e0
  have hK := hKt0 hw; have hF := hFt0 hw
  have N0 := Fr.nil n0
  refine own_blk dec1 seq1 hby hx hZ hown hK hF 8 [] [.int 8] X0 e0 ?_
  show ((Int8.ofInt 8).toInt32 = (8 : Int32)) ∧ own_Aft X0 h0 _ 9 [zL pk, zS, zI i] [.double (FP.i2d (((Jvm.Free.XT.ushrL pk ((8 : Int32) * i)).toInt32).toInt8.toInt32))]
  refine ⟨by decide +kernel, fun T1 X1 eh1 => ?_⟩
  exact own_ret X1 hx hlk eh1 hret (by first | rfl | decide) (Or.inr (Or.inr (Or.inl ⟨rfl, rfl, _, rfl⟩))) (hb hby d1_9) (by decide) (by decide) (⟨⟨_, rfl⟩, rfl, rfl⟩)
set_option maxRecDepth 65536 in
set_option maxHeartbeats 40000000 in
theorem rm4_0 (l : Launch) (Z : State) (a0 : Array Value) (hw : ∀ d ∈ tables_1, d.before a0 Z = true) (ws : List Jvm.Cond)  (h0 : Heap) (n0 : Nat) (Z0 : n0 ≤ h0.size)  :
    own_MF l (⟨"java/lang/Math", "max", "(II)I"⟩ : MethodName) jdk_29_method_65_code 2 (some .int) ws ({ frames := 0, cells := 0, slots := 0, locals := 0 } : Room) #[.int 1, .int (-1)] Z h0 (fun v h L => (v = some (.int 1)) ∧ L = [] ∧ h = h0) := by
  refine own_body pf4 (ls0 := [.val (.int 1), .val (.int (-1))]) (fun m => by first | (simp [entryFrame, mkF, argsToLocals, Value.category, maxLocals]; done) | rfl) ?_
  intro p e s m below meth c T0 hx hby hml hown hnm hlk hret hZ X0 e0
  have hK := hKt4 hw; have hF := hFt4 hw
  have N0 := Fr.nil n0
  refine own_blk dec4 seq4 hby hx hZ hown hK hF 5 [false] [] X0 e0 ?_
  show (¬ (((1 : Int32)).toInt < ((-1 : Int32)).toInt)) ∧ own_Aft X0 h0 _ 10 [zI 1, zI (-1)] [.int 1]
  refine ⟨by decide, fun T1 X1 eh1 => ?_⟩
  exact own_ret X1 hx hlk eh1 hret (by first | rfl | decide) (Or.inl ⟨rfl, by simp, _, rfl⟩) (hb hby d4_10) (by decide) (by decide) (⟨rfl, rfl, rfl⟩)
set_option maxRecDepth 65536 in
set_option maxHeartbeats 40000000 in
theorem rm4_1 (l : Launch) (Z : State) (a0 : Array Value) (hw : ∀ d ∈ tables_1, d.before a0 Z = true) (ws : List Jvm.Cond)  (h0 : Heap) (n0 : Nat) (Z0 : n0 ≤ h0.size)  :
    own_MF l (⟨"java/lang/Math", "max", "(II)I"⟩ : MethodName) jdk_29_method_65_code 2 (some .int) ws ({ frames := 0, cells := 0, slots := 0, locals := 0 } : Room) #[.int 1, .int 0] Z h0 (fun v h L => (v = some (.int 1)) ∧ L = [] ∧ h = h0) := by
  refine own_body pf4 (ls0 := [.val (.int 1), .val (.int 0)]) (fun m => by first | (simp [entryFrame, mkF, argsToLocals, Value.category, maxLocals]; done) | rfl) ?_
  intro p e s m below meth c T0 hx hby hml hown hnm hlk hret hZ X0 e0
  have hK := hKt4 hw; have hF := hFt4 hw
  have N0 := Fr.nil n0
  refine own_blk dec4 seq4 hby hx hZ hown hK hF 5 [false] [] X0 e0 ?_
  show (¬ (((1 : Int32)).toInt < ((0 : Int32)).toInt)) ∧ own_Aft X0 h0 _ 10 [zI 1, zI 0] [.int 1]
  refine ⟨by decide, fun T1 X1 eh1 => ?_⟩
  exact own_ret X1 hx hlk eh1 hret (by first | rfl | decide) (Or.inl ⟨rfl, by simp, _, rfl⟩) (hb hby d4_10) (by decide) (by decide) (⟨rfl, rfl, rfl⟩)
set_option maxRecDepth 65536 in
set_option maxHeartbeats 40000000 in
theorem rm4_2 (l : Launch) (Z : State) (a0 : Array Value) (hw : ∀ d ∈ tables_1, d.before a0 Z = true) (ws : List Jvm.Cond)  (h0 : Heap) (n0 : Nat) (Z0 : n0 ≤ h0.size)  :
    own_MF l (⟨"java/lang/Math", "max", "(II)I"⟩ : MethodName) jdk_29_method_65_code 2 (some .int) ws ({ frames := 0, cells := 0, slots := 0, locals := 0 } : Room) #[.int 1, .int 1] Z h0 (fun v h L => (v = some (.int 1)) ∧ L = [] ∧ h = h0) := by
  refine own_body pf4 (ls0 := [.val (.int 1), .val (.int 1)]) (fun m => by first | (simp [entryFrame, mkF, argsToLocals, Value.category, maxLocals]; done) | rfl) ?_
  intro p e s m below meth c T0 hx hby hml hown hnm hlk hret hZ X0 e0
  have hK := hKt4 hw; have hF := hFt4 hw
  have N0 := Fr.nil n0
  refine own_blk dec4 seq4 hby hx hZ hown hK hF 5 [false] [] X0 e0 ?_
  show (¬ (((1 : Int32)).toInt < ((1 : Int32)).toInt)) ∧ own_Aft X0 h0 _ 10 [zI 1, zI 1] [.int 1]
  refine ⟨by decide, fun T1 X1 eh1 => ?_⟩
  exact own_ret X1 hx hlk eh1 hret (by first | rfl | decide) (Or.inl ⟨rfl, by simp, _, rfl⟩) (hb hby d4_10) (by decide) (by decide) (⟨rfl, rfl, rfl⟩)
set_option maxRecDepth 65536 in
set_option maxHeartbeats 40000000 in
theorem rm4_3 (l : Launch) (Z : State) (a0 : Array Value) (hw : ∀ d ∈ tables_1, d.before a0 Z = true) (ws : List Jvm.Cond)  (h0 : Heap) (n0 : Nat) (Z0 : n0 ≤ h0.size)  :
    own_MF l (⟨"java/lang/Math", "max", "(II)I"⟩ : MethodName) jdk_29_method_65_code 2 (some .int) ws ({ frames := 0, cells := 0, slots := 0, locals := 0 } : Room) #[.int 1, .int 2] Z h0 (fun v h L => (v = some (.int 2)) ∧ L = [] ∧ h = h0) := by
  refine own_body pf4 (ls0 := [.val (.int 1), .val (.int 2)]) (fun m => by first | (simp [entryFrame, mkF, argsToLocals, Value.category, maxLocals]; done) | rfl) ?_
  intro p e s m below meth c T0 hx hby hml hown hnm hlk hret hZ X0 e0
  have hK := hKt4 hw; have hF := hFt4 hw
  have N0 := Fr.nil n0
  refine own_blk dec4 seq4 hby hx hZ hown hK hF 4 [true] [] X0 e0 ?_
  show (((1 : Int32)).toInt < ((2 : Int32)).toInt) ∧ own_Aft X0 h0 _ 10 [zI 1, zI 2] [.int 2]
  refine ⟨by decide, fun T1 X1 eh1 => ?_⟩
  exact own_ret X1 hx hlk eh1 hret (by first | rfl | decide) (Or.inl ⟨rfl, by simp, _, rfl⟩) (hb hby d4_10) (by decide) (by decide) (⟨rfl, rfl, rfl⟩)
set_option maxRecDepth 65536 in
set_option maxHeartbeats 40000000 in
theorem rm4_4 (l : Launch) (Z : State) (a0 : Array Value) (hw : ∀ d ∈ tables_1, d.before a0 Z = true) (ws : List Jvm.Cond)  (h0 : Heap) (n0 : Nat) (Z0 : n0 ≤ h0.size)  :
    own_MF l (⟨"java/lang/Math", "max", "(II)I"⟩ : MethodName) jdk_29_method_65_code 2 (some .int) ws ({ frames := 0, cells := 0, slots := 0, locals := 0 } : Room) #[.int 1, .int 3] Z h0 (fun v h L => (v = some (.int 3)) ∧ L = [] ∧ h = h0) := by
  refine own_body pf4 (ls0 := [.val (.int 1), .val (.int 3)]) (fun m => by first | (simp [entryFrame, mkF, argsToLocals, Value.category, maxLocals]; done) | rfl) ?_
  intro p e s m below meth c T0 hx hby hml hown hnm hlk hret hZ X0 e0
  have hK := hKt4 hw; have hF := hFt4 hw
  have N0 := Fr.nil n0
  refine own_blk dec4 seq4 hby hx hZ hown hK hF 4 [true] [] X0 e0 ?_
  show (((1 : Int32)).toInt < ((3 : Int32)).toInt) ∧ own_Aft X0 h0 _ 10 [zI 1, zI 3] [.int 3]
  refine ⟨by decide, fun T1 X1 eh1 => ?_⟩
  exact own_ret X1 hx hlk eh1 hret (by first | rfl | decide) (Or.inl ⟨rfl, by simp, _, rfl⟩) (hb hby d4_10) (by decide) (by decide) (⟨rfl, rfl, rfl⟩)
set_option maxRecDepth 65536 in
set_option maxHeartbeats 40000000 in
theorem rm4_5 (l : Launch) (Z : State) (a0 : Array Value) (hw : ∀ d ∈ tables_1, d.before a0 Z = true) (ws : List Jvm.Cond)  (h0 : Heap) (n0 : Nat) (Z0 : n0 ≤ h0.size)  :
    own_MF l (⟨"java/lang/Math", "max", "(II)I"⟩ : MethodName) jdk_29_method_65_code 2 (some .int) ws ({ frames := 0, cells := 0, slots := 0, locals := 0 } : Room) #[.int 1, .int 4] Z h0 (fun v h L => (v = some (.int 4)) ∧ L = [] ∧ h = h0) := by
  refine own_body pf4 (ls0 := [.val (.int 1), .val (.int 4)]) (fun m => by first | (simp [entryFrame, mkF, argsToLocals, Value.category, maxLocals]; done) | rfl) ?_
  intro p e s m below meth c T0 hx hby hml hown hnm hlk hret hZ X0 e0
  have hK := hKt4 hw; have hF := hFt4 hw
  have N0 := Fr.nil n0
  refine own_blk dec4 seq4 hby hx hZ hown hK hF 4 [true] [] X0 e0 ?_
  show (((1 : Int32)).toInt < ((4 : Int32)).toInt) ∧ own_Aft X0 h0 _ 10 [zI 1, zI 4] [.int 4]
  refine ⟨by decide, fun T1 X1 eh1 => ?_⟩
  exact own_ret X1 hx hlk eh1 hret (by first | rfl | decide) (Or.inl ⟨rfl, by simp, _, rfl⟩) (hb hby d4_10) (by decide) (by decide) (⟨rfl, rfl, rfl⟩)
set_option maxRecDepth 65536 in
set_option maxHeartbeats 40000000 in
theorem rm4_6 (l : Launch) (Z : State) (a0 : Array Value) (hw : ∀ d ∈ tables_1, d.before a0 Z = true) (ws : List Jvm.Cond)  (h0 : Heap) (n0 : Nat) (Z0 : n0 ≤ h0.size)  :
    own_MF l (⟨"java/lang/Math", "max", "(II)I"⟩ : MethodName) jdk_29_method_65_code 2 (some .int) ws ({ frames := 0, cells := 0, slots := 0, locals := 0 } : Room) #[.int 1, .int 5] Z h0 (fun v h L => (v = some (.int 5)) ∧ L = [] ∧ h = h0) := by
  refine own_body pf4 (ls0 := [.val (.int 1), .val (.int 5)]) (fun m => by first | (simp [entryFrame, mkF, argsToLocals, Value.category, maxLocals]; done) | rfl) ?_
  intro p e s m below meth c T0 hx hby hml hown hnm hlk hret hZ X0 e0
  have hK := hKt4 hw; have hF := hFt4 hw
  have N0 := Fr.nil n0
  refine own_blk dec4 seq4 hby hx hZ hown hK hF 4 [true] [] X0 e0 ?_
  show (((1 : Int32)).toInt < ((5 : Int32)).toInt) ∧ own_Aft X0 h0 _ 10 [zI 1, zI 5] [.int 5]
  refine ⟨by decide, fun T1 X1 eh1 => ?_⟩
  exact own_ret X1 hx hlk eh1 hret (by first | rfl | decide) (Or.inl ⟨rfl, by simp, _, rfl⟩) (hb hby d4_10) (by decide) (by decide) (⟨rfl, rfl, rfl⟩)
set_option maxRecDepth 65536 in
set_option maxHeartbeats 40000000 in
theorem rm4_7 (l : Launch) (Z : State) (a0 : Array Value) (hw : ∀ d ∈ tables_1, d.before a0 Z = true) (ws : List Jvm.Cond)  (h0 : Heap) (n0 : Nat) (Z0 : n0 ≤ h0.size)  :
    own_MF l (⟨"java/lang/Math", "max", "(II)I"⟩ : MethodName) jdk_29_method_65_code 2 (some .int) ws ({ frames := 0, cells := 0, slots := 0, locals := 0 } : Room) #[.int 1, .int 6] Z h0 (fun v h L => (v = some (.int 6)) ∧ L = [] ∧ h = h0) := by
  refine own_body pf4 (ls0 := [.val (.int 1), .val (.int 6)]) (fun m => by first | (simp [entryFrame, mkF, argsToLocals, Value.category, maxLocals]; done) | rfl) ?_
  intro p e s m below meth c T0 hx hby hml hown hnm hlk hret hZ X0 e0
  have hK := hKt4 hw; have hF := hFt4 hw
  have N0 := Fr.nil n0
  refine own_blk dec4 seq4 hby hx hZ hown hK hF 4 [true] [] X0 e0 ?_
  show (((1 : Int32)).toInt < ((6 : Int32)).toInt) ∧ own_Aft X0 h0 _ 10 [zI 1, zI 6] [.int 6]
  refine ⟨by decide, fun T1 X1 eh1 => ?_⟩
  exact own_ret X1 hx hlk eh1 hret (by first | rfl | decide) (Or.inl ⟨rfl, by simp, _, rfl⟩) (hb hby d4_10) (by decide) (by decide) (⟨rfl, rfl, rfl⟩)
set_option maxRecDepth 65536 in
set_option maxHeartbeats 40000000 in
theorem rm4_8 (l : Launch) (Z : State) (a0 : Array Value) (hw : ∀ d ∈ tables_1, d.before a0 Z = true) (ws : List Jvm.Cond)  (h0 : Heap) (n0 : Nat) (Z0 : n0 ≤ h0.size)  :
    own_MF l (⟨"java/lang/Math", "max", "(II)I"⟩ : MethodName) jdk_29_method_65_code 2 (some .int) ws ({ frames := 0, cells := 0, slots := 0, locals := 0 } : Room) #[.int 1, .int 7] Z h0 (fun v h L => (v = some (.int 7)) ∧ L = [] ∧ h = h0) := by
  refine own_body pf4 (ls0 := [.val (.int 1), .val (.int 7)]) (fun m => by first | (simp [entryFrame, mkF, argsToLocals, Value.category, maxLocals]; done) | rfl) ?_
  intro p e s m below meth c T0 hx hby hml hown hnm hlk hret hZ X0 e0
  have hK := hKt4 hw; have hF := hFt4 hw
  have N0 := Fr.nil n0
  refine own_blk dec4 seq4 hby hx hZ hown hK hF 4 [true] [] X0 e0 ?_
  show (((1 : Int32)).toInt < ((7 : Int32)).toInt) ∧ own_Aft X0 h0 _ 10 [zI 1, zI 7] [.int 7]
  refine ⟨by decide, fun T1 X1 eh1 => ?_⟩
  exact own_ret X1 hx hlk eh1 hret (by first | rfl | decide) (Or.inl ⟨rfl, by simp, _, rfl⟩) (hb hby d4_10) (by decide) (by decide) (⟨rfl, rfl, rfl⟩)
set_option maxRecDepth 65536 in
set_option maxHeartbeats 40000000 in
theorem rm6_1 (l : Launch) (Z : State) (a0 : Array Value) (hw : ∀ d ∈ tables_1, d.before a0 Z = true) (ws : List Jvm.Cond)  (h0 : Heap) (n0 : Nat) (Z0 : n0 ≤ h0.size)  :
    own_MF l (⟨"java/lang/Integer", "numberOfLeadingZeros", "(I)I"⟩ : MethodName) jdk_33_method_47_code 2 (some .int) ws ({ frames := 0, cells := 0, slots := 0, locals := 0 } : Room) #[.int 1] Z h0 (fun v h L => (v = some (.int 31)) ∧ L = [] ∧ h = h0) := by
  refine own_body pf6 (ls0 := [.val (.int 1), .unset]) (fun m => by first | (simp [entryFrame, mkF, argsToLocals, Value.category, maxLocals]; done) | rfl) ?_
  intro p e s m below meth c T0 hx hby hml hown hnm hlk hret hZ X0 e0
  have hK := hKt5 hw; have hF := hFt5 hw
  have N0 := Fr.nil n0
  refine own_blk dec6 seq6 hby hx hZ hown hK hF 21 [true, true, true, true, true] [.int 31, .int 256, .int 16] X0 e0 ?_
  show (0 < ((1 : Int32)).toInt) ∧ ((Int8.ofInt 31).toInt32 = (31 : Int32)) ∧ (((1 : Int32)).toInt < ((65536 : Int32)).toInt) ∧ ((Int16.ofInt 256).toInt32 = (256 : Int32)) ∧ (((1 : Int32)).toInt < ((256 : Int32)).toInt) ∧ ((Int8.ofInt 16).toInt32 = (16 : Int32)) ∧ (((1 : Int32)).toInt < ((16 : Int32)).toInt) ∧ (((1 : Int32)).toInt < ((4 : Int32)).toInt) ∧ own_Aft X0 h0 _ 78 [zI 1, zI 31] [.int 31]
  refine ⟨by decide, by decide +kernel, by decide, by decide +kernel, by decide, by decide +kernel, by decide, by decide, fun T1 X1 eh1 => ?_⟩
  exact own_ret X1 hx hlk eh1 hret (by first | rfl | decide) (Or.inl ⟨rfl, by simp, _, rfl⟩) (hb hby d6_78) (by decide) (by decide) (⟨rfl, rfl, rfl⟩)
set_option maxRecDepth 65536 in
set_option maxHeartbeats 40000000 in
theorem rm5_1 (l : Launch) (Z : State) (a0 : Array Value) (hw : ∀ d ∈ tables_1, d.before a0 Z = true) (ws : List Jvm.Cond)  (h0 : Heap) (n0 : Nat) (Z0 : n0 ≤ h0.size)  :
    own_MF l (⟨"java/lang/Integer", "highestOneBit", "(I)I"⟩ : MethodName) jdk_33_method_45_code 1 (some .int) ws ({ frames := 1, cells := 0, slots := 0, locals := 16 } : Room) #[.int 1] Z h0 (fun v h L => (v = some (.int 1)) ∧ L = [] ∧ h = h0) := by
  refine own_body pf5 (ls0 := [.val (.int 1)]) (fun m => by first | (simp [entryFrame, mkF, argsToLocals, Value.category, maxLocals]; done) | rfl) ?_
  intro p e s m below meth c T0 hx hby hml hown hnm hlk hret hZ X0 e0
  have hK := hKt5 hw; have hF := hFt5 hw
  have N0 := Fr.nil n0
  refine own_blk dec5 seq5 hby hx hZ hown hK hF 3 [] [] X0 e0 ?_
  show own_Aft X0 h0 _ 4 [zI 1] [.int 1, .int (-2147483648), .int 1]
  refine fun T1 X1 eh1 => ?_
  refine own_callSP X1 hx hZ hown (hw _ (wm 25 rfl)) (hw _ (wm 26 rfl)) (hw _ (wm 22 rfl)) (hw _ (wm 27 rfl)) (by decide) eh1 [.int 1] pd6 rfl (fr := 0) (lo := 0) (rm6_1 l Z a0 hw [] h0 n0 Z0) (by rw [hml]; rfl) 2 rfl (Nat.le_of_eq rfl) (hb hby d5_4) (by decide) (by decide) (by decide) (by decide) (fun T2 rv2 X2 eh2 qc2 => ?_)
  obtain rfl := qc2
  show own_Go p.tables e below _ (T2.setTop (mkF m 7 (Array.mk [zI 1]) [.int 31, .int (-2147483648), .int 1]))
  refine own_blk dec5 seq5 hby hx hZ hown hK hF 2 [] [] X2 eh2 ?_
  show own_Aft X2 h0 _ 9 [zI 1] [.int 1]
  refine fun T3 X3 eh3 => ?_
  exact own_ret X3 hx hlk eh3 hret (by first | rfl | decide) (Or.inl ⟨rfl, by simp, _, rfl⟩) (hb hby d5_9) (by decide) (by decide) (⟨rfl, rfl, rfl⟩)
set_option maxRecDepth 65536 in
set_option maxHeartbeats 40000000 in
theorem rm6_2 (l : Launch) (Z : State) (a0 : Array Value) (hw : ∀ d ∈ tables_1, d.before a0 Z = true) (ws : List Jvm.Cond)  (h0 : Heap) (n0 : Nat) (Z0 : n0 ≤ h0.size)  :
    own_MF l (⟨"java/lang/Integer", "numberOfLeadingZeros", "(I)I"⟩ : MethodName) jdk_33_method_47_code 2 (some .int) ws ({ frames := 0, cells := 0, slots := 0, locals := 0 } : Room) #[.int 2] Z h0 (fun v h L => (v = some (.int 30)) ∧ L = [] ∧ h = h0) := by
  refine own_body pf6 (ls0 := [.val (.int 2), .unset]) (fun m => by first | (simp [entryFrame, mkF, argsToLocals, Value.category, maxLocals]; done) | rfl) ?_
  intro p e s m below meth c T0 hx hby hml hown hnm hlk hret hZ X0 e0
  have hK := hKt5 hw; have hF := hFt5 hw
  have N0 := Fr.nil n0
  refine own_blk dec6 seq6 hby hx hZ hown hK hF 21 [true, true, true, true, true] [.int 31, .int 256, .int 16] X0 e0 ?_
  show (0 < ((2 : Int32)).toInt) ∧ ((Int8.ofInt 31).toInt32 = (31 : Int32)) ∧ (((2 : Int32)).toInt < ((65536 : Int32)).toInt) ∧ ((Int16.ofInt 256).toInt32 = (256 : Int32)) ∧ (((2 : Int32)).toInt < ((256 : Int32)).toInt) ∧ ((Int8.ofInt 16).toInt32 = (16 : Int32)) ∧ (((2 : Int32)).toInt < ((16 : Int32)).toInt) ∧ (((2 : Int32)).toInt < ((4 : Int32)).toInt) ∧ own_Aft X0 h0 _ 78 [zI 2, zI 31] [.int 30]
  refine ⟨by decide, by decide +kernel, by decide, by decide +kernel, by decide, by decide +kernel, by decide, by decide, fun T1 X1 eh1 => ?_⟩
  exact own_ret X1 hx hlk eh1 hret (by first | rfl | decide) (Or.inl ⟨rfl, by simp, _, rfl⟩) (hb hby d6_78) (by decide) (by decide) (⟨rfl, rfl, rfl⟩)
set_option maxRecDepth 65536 in
set_option maxHeartbeats 40000000 in
theorem rm5_2 (l : Launch) (Z : State) (a0 : Array Value) (hw : ∀ d ∈ tables_1, d.before a0 Z = true) (ws : List Jvm.Cond)  (h0 : Heap) (n0 : Nat) (Z0 : n0 ≤ h0.size)  :
    own_MF l (⟨"java/lang/Integer", "highestOneBit", "(I)I"⟩ : MethodName) jdk_33_method_45_code 1 (some .int) ws ({ frames := 1, cells := 0, slots := 0, locals := 16 } : Room) #[.int 2] Z h0 (fun v h L => (v = some (.int 2)) ∧ L = [] ∧ h = h0) := by
  refine own_body pf5 (ls0 := [.val (.int 2)]) (fun m => by first | (simp [entryFrame, mkF, argsToLocals, Value.category, maxLocals]; done) | rfl) ?_
  intro p e s m below meth c T0 hx hby hml hown hnm hlk hret hZ X0 e0
  have hK := hKt5 hw; have hF := hFt5 hw
  have N0 := Fr.nil n0
  refine own_blk dec5 seq5 hby hx hZ hown hK hF 3 [] [] X0 e0 ?_
  show own_Aft X0 h0 _ 4 [zI 2] [.int 2, .int (-2147483648), .int 2]
  refine fun T1 X1 eh1 => ?_
  refine own_callSP X1 hx hZ hown (hw _ (wm 25 rfl)) (hw _ (wm 26 rfl)) (hw _ (wm 22 rfl)) (hw _ (wm 27 rfl)) (by decide) eh1 [.int 2] pd6 rfl (fr := 0) (lo := 0) (rm6_2 l Z a0 hw [] h0 n0 Z0) (by rw [hml]; rfl) 2 rfl (Nat.le_of_eq rfl) (hb hby d5_4) (by decide) (by decide) (by decide) (by decide) (fun T2 rv2 X2 eh2 qc2 => ?_)
  obtain rfl := qc2
  show own_Go p.tables e below _ (T2.setTop (mkF m 7 (Array.mk [zI 2]) [.int 30, .int (-2147483648), .int 2]))
  refine own_blk dec5 seq5 hby hx hZ hown hK hF 2 [] [] X2 eh2 ?_
  show own_Aft X2 h0 _ 9 [zI 2] [.int 2]
  refine fun T3 X3 eh3 => ?_
  exact own_ret X3 hx hlk eh3 hret (by first | rfl | decide) (Or.inl ⟨rfl, by simp, _, rfl⟩) (hb hby d5_9) (by decide) (by decide) (⟨rfl, rfl, rfl⟩)
set_option maxRecDepth 65536 in
set_option maxHeartbeats 40000000 in
theorem rm6_3 (l : Launch) (Z : State) (a0 : Array Value) (hw : ∀ d ∈ tables_1, d.before a0 Z = true) (ws : List Jvm.Cond)  (h0 : Heap) (n0 : Nat) (Z0 : n0 ≤ h0.size)  :
    own_MF l (⟨"java/lang/Integer", "numberOfLeadingZeros", "(I)I"⟩ : MethodName) jdk_33_method_47_code 2 (some .int) ws ({ frames := 0, cells := 0, slots := 0, locals := 0 } : Room) #[.int 3] Z h0 (fun v h L => (v = some (.int 30)) ∧ L = [] ∧ h = h0) := by
  refine own_body pf6 (ls0 := [.val (.int 3), .unset]) (fun m => by first | (simp [entryFrame, mkF, argsToLocals, Value.category, maxLocals]; done) | rfl) ?_
  intro p e s m below meth c T0 hx hby hml hown hnm hlk hret hZ X0 e0
  have hK := hKt5 hw; have hF := hFt5 hw
  have N0 := Fr.nil n0
  refine own_blk dec6 seq6 hby hx hZ hown hK hF 21 [true, true, true, true, true] [.int 31, .int 256, .int 16] X0 e0 ?_
  show (0 < ((3 : Int32)).toInt) ∧ ((Int8.ofInt 31).toInt32 = (31 : Int32)) ∧ (((3 : Int32)).toInt < ((65536 : Int32)).toInt) ∧ ((Int16.ofInt 256).toInt32 = (256 : Int32)) ∧ (((3 : Int32)).toInt < ((256 : Int32)).toInt) ∧ ((Int8.ofInt 16).toInt32 = (16 : Int32)) ∧ (((3 : Int32)).toInt < ((16 : Int32)).toInt) ∧ (((3 : Int32)).toInt < ((4 : Int32)).toInt) ∧ own_Aft X0 h0 _ 78 [zI 3, zI 31] [.int 30]
  refine ⟨by decide, by decide +kernel, by decide, by decide +kernel, by decide, by decide +kernel, by decide, by decide, fun T1 X1 eh1 => ?_⟩
  exact own_ret X1 hx hlk eh1 hret (by first | rfl | decide) (Or.inl ⟨rfl, by simp, _, rfl⟩) (hb hby d6_78) (by decide) (by decide) (⟨rfl, rfl, rfl⟩)
set_option maxRecDepth 65536 in
set_option maxHeartbeats 40000000 in
theorem rm5_3 (l : Launch) (Z : State) (a0 : Array Value) (hw : ∀ d ∈ tables_1, d.before a0 Z = true) (ws : List Jvm.Cond)  (h0 : Heap) (n0 : Nat) (Z0 : n0 ≤ h0.size)  :
    own_MF l (⟨"java/lang/Integer", "highestOneBit", "(I)I"⟩ : MethodName) jdk_33_method_45_code 1 (some .int) ws ({ frames := 1, cells := 0, slots := 0, locals := 16 } : Room) #[.int 3] Z h0 (fun v h L => (v = some (.int 2)) ∧ L = [] ∧ h = h0) := by
  refine own_body pf5 (ls0 := [.val (.int 3)]) (fun m => by first | (simp [entryFrame, mkF, argsToLocals, Value.category, maxLocals]; done) | rfl) ?_
  intro p e s m below meth c T0 hx hby hml hown hnm hlk hret hZ X0 e0
  have hK := hKt5 hw; have hF := hFt5 hw
  have N0 := Fr.nil n0
  refine own_blk dec5 seq5 hby hx hZ hown hK hF 3 [] [] X0 e0 ?_
  show own_Aft X0 h0 _ 4 [zI 3] [.int 3, .int (-2147483648), .int 3]
  refine fun T1 X1 eh1 => ?_
  refine own_callSP X1 hx hZ hown (hw _ (wm 25 rfl)) (hw _ (wm 26 rfl)) (hw _ (wm 22 rfl)) (hw _ (wm 27 rfl)) (by decide) eh1 [.int 3] pd6 rfl (fr := 0) (lo := 0) (rm6_3 l Z a0 hw [] h0 n0 Z0) (by rw [hml]; rfl) 2 rfl (Nat.le_of_eq rfl) (hb hby d5_4) (by decide) (by decide) (by decide) (by decide) (fun T2 rv2 X2 eh2 qc2 => ?_)
  obtain rfl := qc2
  show own_Go p.tables e below _ (T2.setTop (mkF m 7 (Array.mk [zI 3]) [.int 30, .int (-2147483648), .int 3]))
  refine own_blk dec5 seq5 hby hx hZ hown hK hF 2 [] [] X2 eh2 ?_
  show own_Aft X2 h0 _ 9 [zI 3] [.int 2]
  refine fun T3 X3 eh3 => ?_
  exact own_ret X3 hx hlk eh3 hret (by first | rfl | decide) (Or.inl ⟨rfl, by simp, _, rfl⟩) (hb hby d5_9) (by decide) (by decide) (⟨rfl, rfl, rfl⟩)
set_option maxRecDepth 65536 in
set_option maxHeartbeats 40000000 in
theorem rm6_4 (l : Launch) (Z : State) (a0 : Array Value) (hw : ∀ d ∈ tables_1, d.before a0 Z = true) (ws : List Jvm.Cond)  (h0 : Heap) (n0 : Nat) (Z0 : n0 ≤ h0.size)  :
    own_MF l (⟨"java/lang/Integer", "numberOfLeadingZeros", "(I)I"⟩ : MethodName) jdk_33_method_47_code 2 (some .int) ws ({ frames := 0, cells := 0, slots := 0, locals := 0 } : Room) #[.int 4] Z h0 (fun v h L => (v = some (.int 29)) ∧ L = [] ∧ h = h0) := by
  refine own_body pf6 (ls0 := [.val (.int 4), .unset]) (fun m => by first | (simp [entryFrame, mkF, argsToLocals, Value.category, maxLocals]; done) | rfl) ?_
  intro p e s m below meth c T0 hx hby hml hown hnm hlk hret hZ X0 e0
  have hK := hKt5 hw; have hF := hFt5 hw
  have N0 := Fr.nil n0
  refine own_blk dec6 seq6 hby hx hZ hown hK hF 24 [true, true, true, true, false] [.int 31, .int 256, .int 16] X0 e0 ?_
  show (0 < ((4 : Int32)).toInt) ∧ ((Int8.ofInt 31).toInt32 = (31 : Int32)) ∧ (((4 : Int32)).toInt < ((65536 : Int32)).toInt) ∧ ((Int16.ofInt 256).toInt32 = (256 : Int32)) ∧ (((4 : Int32)).toInt < ((256 : Int32)).toInt) ∧ ((Int8.ofInt 16).toInt32 = (16 : Int32)) ∧ (((4 : Int32)).toInt < ((16 : Int32)).toInt) ∧ (¬ (((4 : Int32)).toInt < ((4 : Int32)).toInt)) ∧ own_Aft X0 h0 _ 76 [zI 1, zI 29] [.int 1, .int 1, .int 29]
  refine ⟨by decide, by decide +kernel, by decide, by decide +kernel, by decide, by decide +kernel, by decide, by decide, fun T1 X1 eh1 => ?_⟩
  refine own_blk dec6 seq6 hby hx hZ hown hK hF 2 [] [] X1 eh1 ?_
  show own_Aft X1 h0 _ 78 [zI 1, zI 29] [.int 29]
  refine fun T2 X2 eh2 => ?_
  exact own_ret X2 hx hlk eh2 hret (by first | rfl | decide) (Or.inl ⟨rfl, by simp, _, rfl⟩) (hb hby d6_78) (by decide) (by decide) (⟨rfl, rfl, rfl⟩)
set_option maxRecDepth 65536 in
set_option maxHeartbeats 40000000 in
theorem rm5_4 (l : Launch) (Z : State) (a0 : Array Value) (hw : ∀ d ∈ tables_1, d.before a0 Z = true) (ws : List Jvm.Cond)  (h0 : Heap) (n0 : Nat) (Z0 : n0 ≤ h0.size)  :
    own_MF l (⟨"java/lang/Integer", "highestOneBit", "(I)I"⟩ : MethodName) jdk_33_method_45_code 1 (some .int) ws ({ frames := 1, cells := 0, slots := 0, locals := 16 } : Room) #[.int 4] Z h0 (fun v h L => (v = some (.int 4)) ∧ L = [] ∧ h = h0) := by
  refine own_body pf5 (ls0 := [.val (.int 4)]) (fun m => by first | (simp [entryFrame, mkF, argsToLocals, Value.category, maxLocals]; done) | rfl) ?_
  intro p e s m below meth c T0 hx hby hml hown hnm hlk hret hZ X0 e0
  have hK := hKt5 hw; have hF := hFt5 hw
  have N0 := Fr.nil n0
  refine own_blk dec5 seq5 hby hx hZ hown hK hF 3 [] [] X0 e0 ?_
  show own_Aft X0 h0 _ 4 [zI 4] [.int 4, .int (-2147483648), .int 4]
  refine fun T1 X1 eh1 => ?_
  refine own_callSP X1 hx hZ hown (hw _ (wm 25 rfl)) (hw _ (wm 26 rfl)) (hw _ (wm 22 rfl)) (hw _ (wm 27 rfl)) (by decide) eh1 [.int 4] pd6 rfl (fr := 0) (lo := 0) (rm6_4 l Z a0 hw [] h0 n0 Z0) (by rw [hml]; rfl) 2 rfl (Nat.le_of_eq rfl) (hb hby d5_4) (by decide) (by decide) (by decide) (by decide) (fun T2 rv2 X2 eh2 qc2 => ?_)
  obtain rfl := qc2
  show own_Go p.tables e below _ (T2.setTop (mkF m 7 (Array.mk [zI 4]) [.int 29, .int (-2147483648), .int 4]))
  refine own_blk dec5 seq5 hby hx hZ hown hK hF 2 [] [] X2 eh2 ?_
  show own_Aft X2 h0 _ 9 [zI 4] [.int 4]
  refine fun T3 X3 eh3 => ?_
  exact own_ret X3 hx hlk eh3 hret (by first | rfl | decide) (Or.inl ⟨rfl, by simp, _, rfl⟩) (hb hby d5_9) (by decide) (by decide) (⟨rfl, rfl, rfl⟩)
set_option maxRecDepth 65536 in
set_option maxHeartbeats 40000000 in
theorem rm6_5 (l : Launch) (Z : State) (a0 : Array Value) (hw : ∀ d ∈ tables_1, d.before a0 Z = true) (ws : List Jvm.Cond)  (h0 : Heap) (n0 : Nat) (Z0 : n0 ≤ h0.size)  :
    own_MF l (⟨"java/lang/Integer", "numberOfLeadingZeros", "(I)I"⟩ : MethodName) jdk_33_method_47_code 2 (some .int) ws ({ frames := 0, cells := 0, slots := 0, locals := 0 } : Room) #[.int 5] Z h0 (fun v h L => (v = some (.int 29)) ∧ L = [] ∧ h = h0) := by
  refine own_body pf6 (ls0 := [.val (.int 5), .unset]) (fun m => by first | (simp [entryFrame, mkF, argsToLocals, Value.category, maxLocals]; done) | rfl) ?_
  intro p e s m below meth c T0 hx hby hml hown hnm hlk hret hZ X0 e0
  have hK := hKt5 hw; have hF := hFt5 hw
  have N0 := Fr.nil n0
  refine own_blk dec6 seq6 hby hx hZ hown hK hF 24 [true, true, true, true, false] [.int 31, .int 256, .int 16] X0 e0 ?_
  show (0 < ((5 : Int32)).toInt) ∧ ((Int8.ofInt 31).toInt32 = (31 : Int32)) ∧ (((5 : Int32)).toInt < ((65536 : Int32)).toInt) ∧ ((Int16.ofInt 256).toInt32 = (256 : Int32)) ∧ (((5 : Int32)).toInt < ((256 : Int32)).toInt) ∧ ((Int8.ofInt 16).toInt32 = (16 : Int32)) ∧ (((5 : Int32)).toInt < ((16 : Int32)).toInt) ∧ (¬ (((5 : Int32)).toInt < ((4 : Int32)).toInt)) ∧ own_Aft X0 h0 _ 76 [zI 1, zI 29] [.int 1, .int 1, .int 29]
  refine ⟨by decide, by decide +kernel, by decide, by decide +kernel, by decide, by decide +kernel, by decide, by decide, fun T1 X1 eh1 => ?_⟩
  refine own_blk dec6 seq6 hby hx hZ hown hK hF 2 [] [] X1 eh1 ?_
  show own_Aft X1 h0 _ 78 [zI 1, zI 29] [.int 29]
  refine fun T2 X2 eh2 => ?_
  exact own_ret X2 hx hlk eh2 hret (by first | rfl | decide) (Or.inl ⟨rfl, by simp, _, rfl⟩) (hb hby d6_78) (by decide) (by decide) (⟨rfl, rfl, rfl⟩)
set_option maxRecDepth 65536 in
set_option maxHeartbeats 40000000 in
theorem rm5_5 (l : Launch) (Z : State) (a0 : Array Value) (hw : ∀ d ∈ tables_1, d.before a0 Z = true) (ws : List Jvm.Cond)  (h0 : Heap) (n0 : Nat) (Z0 : n0 ≤ h0.size)  :
    own_MF l (⟨"java/lang/Integer", "highestOneBit", "(I)I"⟩ : MethodName) jdk_33_method_45_code 1 (some .int) ws ({ frames := 1, cells := 0, slots := 0, locals := 16 } : Room) #[.int 5] Z h0 (fun v h L => (v = some (.int 4)) ∧ L = [] ∧ h = h0) := by
  refine own_body pf5 (ls0 := [.val (.int 5)]) (fun m => by first | (simp [entryFrame, mkF, argsToLocals, Value.category, maxLocals]; done) | rfl) ?_
  intro p e s m below meth c T0 hx hby hml hown hnm hlk hret hZ X0 e0
  have hK := hKt5 hw; have hF := hFt5 hw
  have N0 := Fr.nil n0
  refine own_blk dec5 seq5 hby hx hZ hown hK hF 3 [] [] X0 e0 ?_
  show own_Aft X0 h0 _ 4 [zI 5] [.int 5, .int (-2147483648), .int 5]
  refine fun T1 X1 eh1 => ?_
  refine own_callSP X1 hx hZ hown (hw _ (wm 25 rfl)) (hw _ (wm 26 rfl)) (hw _ (wm 22 rfl)) (hw _ (wm 27 rfl)) (by decide) eh1 [.int 5] pd6 rfl (fr := 0) (lo := 0) (rm6_5 l Z a0 hw [] h0 n0 Z0) (by rw [hml]; rfl) 2 rfl (Nat.le_of_eq rfl) (hb hby d5_4) (by decide) (by decide) (by decide) (by decide) (fun T2 rv2 X2 eh2 qc2 => ?_)
  obtain rfl := qc2
  show own_Go p.tables e below _ (T2.setTop (mkF m 7 (Array.mk [zI 5]) [.int 29, .int (-2147483648), .int 5]))
  refine own_blk dec5 seq5 hby hx hZ hown hK hF 2 [] [] X2 eh2 ?_
  show own_Aft X2 h0 _ 9 [zI 5] [.int 4]
  refine fun T3 X3 eh3 => ?_
  exact own_ret X3 hx hlk eh3 hret (by first | rfl | decide) (Or.inl ⟨rfl, by simp, _, rfl⟩) (hb hby d5_9) (by decide) (by decide) (⟨rfl, rfl, rfl⟩)
set_option maxRecDepth 65536 in
set_option maxHeartbeats 40000000 in
theorem rm6_6 (l : Launch) (Z : State) (a0 : Array Value) (hw : ∀ d ∈ tables_1, d.before a0 Z = true) (ws : List Jvm.Cond)  (h0 : Heap) (n0 : Nat) (Z0 : n0 ≤ h0.size)  :
    own_MF l (⟨"java/lang/Integer", "numberOfLeadingZeros", "(I)I"⟩ : MethodName) jdk_33_method_47_code 2 (some .int) ws ({ frames := 0, cells := 0, slots := 0, locals := 0 } : Room) #[.int 6] Z h0 (fun v h L => (v = some (.int 29)) ∧ L = [] ∧ h = h0) := by
  refine own_body pf6 (ls0 := [.val (.int 6), .unset]) (fun m => by first | (simp [entryFrame, mkF, argsToLocals, Value.category, maxLocals]; done) | rfl) ?_
  intro p e s m below meth c T0 hx hby hml hown hnm hlk hret hZ X0 e0
  have hK := hKt5 hw; have hF := hFt5 hw
  have N0 := Fr.nil n0
  refine own_blk dec6 seq6 hby hx hZ hown hK hF 24 [true, true, true, true, false] [.int 31, .int 256, .int 16] X0 e0 ?_
  show (0 < ((6 : Int32)).toInt) ∧ ((Int8.ofInt 31).toInt32 = (31 : Int32)) ∧ (((6 : Int32)).toInt < ((65536 : Int32)).toInt) ∧ ((Int16.ofInt 256).toInt32 = (256 : Int32)) ∧ (((6 : Int32)).toInt < ((256 : Int32)).toInt) ∧ ((Int8.ofInt 16).toInt32 = (16 : Int32)) ∧ (((6 : Int32)).toInt < ((16 : Int32)).toInt) ∧ (¬ (((6 : Int32)).toInt < ((4 : Int32)).toInt)) ∧ own_Aft X0 h0 _ 76 [zI 1, zI 29] [.int 1, .int 1, .int 29]
  refine ⟨by decide, by decide +kernel, by decide, by decide +kernel, by decide, by decide +kernel, by decide, by decide, fun T1 X1 eh1 => ?_⟩
  refine own_blk dec6 seq6 hby hx hZ hown hK hF 2 [] [] X1 eh1 ?_
  show own_Aft X1 h0 _ 78 [zI 1, zI 29] [.int 29]
  refine fun T2 X2 eh2 => ?_
  exact own_ret X2 hx hlk eh2 hret (by first | rfl | decide) (Or.inl ⟨rfl, by simp, _, rfl⟩) (hb hby d6_78) (by decide) (by decide) (⟨rfl, rfl, rfl⟩)
set_option maxRecDepth 65536 in
set_option maxHeartbeats 40000000 in
theorem rm5_6 (l : Launch) (Z : State) (a0 : Array Value) (hw : ∀ d ∈ tables_1, d.before a0 Z = true) (ws : List Jvm.Cond)  (h0 : Heap) (n0 : Nat) (Z0 : n0 ≤ h0.size)  :
    own_MF l (⟨"java/lang/Integer", "highestOneBit", "(I)I"⟩ : MethodName) jdk_33_method_45_code 1 (some .int) ws ({ frames := 1, cells := 0, slots := 0, locals := 16 } : Room) #[.int 6] Z h0 (fun v h L => (v = some (.int 4)) ∧ L = [] ∧ h = h0) := by
  refine own_body pf5 (ls0 := [.val (.int 6)]) (fun m => by first | (simp [entryFrame, mkF, argsToLocals, Value.category, maxLocals]; done) | rfl) ?_
  intro p e s m below meth c T0 hx hby hml hown hnm hlk hret hZ X0 e0
  have hK := hKt5 hw; have hF := hFt5 hw
  have N0 := Fr.nil n0
  refine own_blk dec5 seq5 hby hx hZ hown hK hF 3 [] [] X0 e0 ?_
  show own_Aft X0 h0 _ 4 [zI 6] [.int 6, .int (-2147483648), .int 6]
  refine fun T1 X1 eh1 => ?_
  refine own_callSP X1 hx hZ hown (hw _ (wm 25 rfl)) (hw _ (wm 26 rfl)) (hw _ (wm 22 rfl)) (hw _ (wm 27 rfl)) (by decide) eh1 [.int 6] pd6 rfl (fr := 0) (lo := 0) (rm6_6 l Z a0 hw [] h0 n0 Z0) (by rw [hml]; rfl) 2 rfl (Nat.le_of_eq rfl) (hb hby d5_4) (by decide) (by decide) (by decide) (by decide) (fun T2 rv2 X2 eh2 qc2 => ?_)
  obtain rfl := qc2
  show own_Go p.tables e below _ (T2.setTop (mkF m 7 (Array.mk [zI 6]) [.int 29, .int (-2147483648), .int 6]))
  refine own_blk dec5 seq5 hby hx hZ hown hK hF 2 [] [] X2 eh2 ?_
  show own_Aft X2 h0 _ 9 [zI 6] [.int 4]
  refine fun T3 X3 eh3 => ?_
  exact own_ret X3 hx hlk eh3 hret (by first | rfl | decide) (Or.inl ⟨rfl, by simp, _, rfl⟩) (hb hby d5_9) (by decide) (by decide) (⟨rfl, rfl, rfl⟩)
set_option maxRecDepth 65536 in
set_option maxHeartbeats 40000000 in
theorem rm6_7 (l : Launch) (Z : State) (a0 : Array Value) (hw : ∀ d ∈ tables_1, d.before a0 Z = true) (ws : List Jvm.Cond)  (h0 : Heap) (n0 : Nat) (Z0 : n0 ≤ h0.size)  :
    own_MF l (⟨"java/lang/Integer", "numberOfLeadingZeros", "(I)I"⟩ : MethodName) jdk_33_method_47_code 2 (some .int) ws ({ frames := 0, cells := 0, slots := 0, locals := 0 } : Room) #[.int 7] Z h0 (fun v h L => (v = some (.int 29)) ∧ L = [] ∧ h = h0) := by
  refine own_body pf6 (ls0 := [.val (.int 7), .unset]) (fun m => by first | (simp [entryFrame, mkF, argsToLocals, Value.category, maxLocals]; done) | rfl) ?_
  intro p e s m below meth c T0 hx hby hml hown hnm hlk hret hZ X0 e0
  have hK := hKt5 hw; have hF := hFt5 hw
  have N0 := Fr.nil n0
  refine own_blk dec6 seq6 hby hx hZ hown hK hF 24 [true, true, true, true, false] [.int 31, .int 256, .int 16] X0 e0 ?_
  show (0 < ((7 : Int32)).toInt) ∧ ((Int8.ofInt 31).toInt32 = (31 : Int32)) ∧ (((7 : Int32)).toInt < ((65536 : Int32)).toInt) ∧ ((Int16.ofInt 256).toInt32 = (256 : Int32)) ∧ (((7 : Int32)).toInt < ((256 : Int32)).toInt) ∧ ((Int8.ofInt 16).toInt32 = (16 : Int32)) ∧ (((7 : Int32)).toInt < ((16 : Int32)).toInt) ∧ (¬ (((7 : Int32)).toInt < ((4 : Int32)).toInt)) ∧ own_Aft X0 h0 _ 76 [zI 1, zI 29] [.int 1, .int 1, .int 29]
  refine ⟨by decide, by decide +kernel, by decide, by decide +kernel, by decide, by decide +kernel, by decide, by decide, fun T1 X1 eh1 => ?_⟩
  refine own_blk dec6 seq6 hby hx hZ hown hK hF 2 [] [] X1 eh1 ?_
  show own_Aft X1 h0 _ 78 [zI 1, zI 29] [.int 29]
  refine fun T2 X2 eh2 => ?_
  exact own_ret X2 hx hlk eh2 hret (by first | rfl | decide) (Or.inl ⟨rfl, by simp, _, rfl⟩) (hb hby d6_78) (by decide) (by decide) (⟨rfl, rfl, rfl⟩)
set_option maxRecDepth 65536 in
set_option maxHeartbeats 40000000 in
theorem rm5_7 (l : Launch) (Z : State) (a0 : Array Value) (hw : ∀ d ∈ tables_1, d.before a0 Z = true) (ws : List Jvm.Cond)  (h0 : Heap) (n0 : Nat) (Z0 : n0 ≤ h0.size)  :
    own_MF l (⟨"java/lang/Integer", "highestOneBit", "(I)I"⟩ : MethodName) jdk_33_method_45_code 1 (some .int) ws ({ frames := 1, cells := 0, slots := 0, locals := 16 } : Room) #[.int 7] Z h0 (fun v h L => (v = some (.int 4)) ∧ L = [] ∧ h = h0) := by
  refine own_body pf5 (ls0 := [.val (.int 7)]) (fun m => by first | (simp [entryFrame, mkF, argsToLocals, Value.category, maxLocals]; done) | rfl) ?_
  intro p e s m below meth c T0 hx hby hml hown hnm hlk hret hZ X0 e0
  have hK := hKt5 hw; have hF := hFt5 hw
  have N0 := Fr.nil n0
  refine own_blk dec5 seq5 hby hx hZ hown hK hF 3 [] [] X0 e0 ?_
  show own_Aft X0 h0 _ 4 [zI 7] [.int 7, .int (-2147483648), .int 7]
  refine fun T1 X1 eh1 => ?_
  refine own_callSP X1 hx hZ hown (hw _ (wm 25 rfl)) (hw _ (wm 26 rfl)) (hw _ (wm 22 rfl)) (hw _ (wm 27 rfl)) (by decide) eh1 [.int 7] pd6 rfl (fr := 0) (lo := 0) (rm6_7 l Z a0 hw [] h0 n0 Z0) (by rw [hml]; rfl) 2 rfl (Nat.le_of_eq rfl) (hb hby d5_4) (by decide) (by decide) (by decide) (by decide) (fun T2 rv2 X2 eh2 qc2 => ?_)
  obtain rfl := qc2
  show own_Go p.tables e below _ (T2.setTop (mkF m 7 (Array.mk [zI 7]) [.int 29, .int (-2147483648), .int 7]))
  refine own_blk dec5 seq5 hby hx hZ hown hK hF 2 [] [] X2 eh2 ?_
  show own_Aft X2 h0 _ 9 [zI 7] [.int 4]
  refine fun T3 X3 eh3 => ?_
  exact own_ret X3 hx hlk eh3 hret (by first | rfl | decide) (Or.inl ⟨rfl, by simp, _, rfl⟩) (hb hby d5_9) (by decide) (by decide) (⟨rfl, rfl, rfl⟩)
set_option maxRecDepth 65536 in
set_option maxHeartbeats 40000000 in
theorem rm7_2 (l : Launch) (Z : State) (a0 : Array Value) (hw : ∀ d ∈ tables_1, d.before a0 Z = true) (ws : List Jvm.Cond) (la : Addr) (h0 : Heap) (n0 : Nat) (Z0 : n0 ≤ h0.size) (nl : n0 ≤ la) (A1 : own_A Z h0 la .double [.double 0, .double 0]) :
    own_MF l (⟨"java/util/Arrays", "fill", "([DD)V"⟩ : MethodName) jdk_65_method_113_code 5 none ws ({ frames := 0, cells := 0, slots := 0, locals := 0 } : Room) #[.ref la, .double 9218868437227405312] Z h0 (fun v h L => v = none ∧ Fr n0 L ∧ Keep h0 h [la] ∧ own_A Z h la .double [.double 9218868437227405312, .double 9218868437227405312]) := by
  refine own_body pf7 (ls0 := [.val (.ref la), .val (.double 9218868437227405312), .second, .unset, .unset]) (fun m => by first | (simp [entryFrame, mkF, argsToLocals, Value.category, maxLocals]; done) | rfl) ?_
  intro p e s m below meth c T0 hx hby hml hown hnm hlk hret hZ X0 e0
  have hK := hKt7 hw; have hF := hFt7 hw
  have N0 := Fr.nil n0
  have K0 := Keep.refl h0 [la]
  refine own_blk dec7 seq7 hby hx hZ hown hK hF 11 [false] [.int 2] X0 e0 ?_
  show (own_ln Z h0 la (2 : Int32)) ∧ (¬ (((2 : Int32)).toInt ≤ ((0 : Int32)).toInt)) ∧ own_Aft X0 h0 _ 15 [zA la, zD 9218868437227405312, zS, zI 0, zI 2] [.double 9218868437227405312, .int 0, .ref la]
  refine ⟨A1.ln (2 : Int32) rfl, by decide, fun T1 X1 eh1 => ?_⟩
  refine own_sD X1 hx hZ eh1 A1 0 rfl (by show 0 < 2; decide) (hb hby d7_15) (fun T2 hp2 X2 eh2 Wr2 Ar2 => ?_)
  have Ar2' : own_A Z hp2 la .double [.double 9218868437227405312, .double 0] := Ar2
  have Nf2 := Fr.snoc X2 N0 nl
  have Z_2 : n0 ≤ hp2.size := by rw [Wr.size Wr2]; exact Z0
  have K_2 := Keep.wr K0 Wr2 (Or.inl (List.mem_of_getElem? (i := 0) rfl))
  refine own_blk dec7 seq7 hby hx hZ hown hK hF 8 [false] [] X2 eh2 ?_
  show (¬ (((2 : Int32)).toInt ≤ ((1 : Int32)).toInt)) ∧ own_Aft X2 hp2 _ 15 [zA la, zD 9218868437227405312, zS, zI 1, zI 2] [.double 9218868437227405312, .int 1, .ref la]
  refine ⟨by decide, fun T3 X3 eh3 => ?_⟩
  refine own_sD X3 hx hZ eh3 Ar2' 1 rfl (by show 1 < 2; decide) (hb hby d7_15) (fun T4 hp4 X4 eh4 Wr4 Ar4 => ?_)
  have Ar4' : own_A Z hp4 la .double [.double 9218868437227405312, .double 9218868437227405312] := Ar4
  have Nf4 := Fr.snoc X4 Nf2 nl
  have Z_4 : n0 ≤ hp4.size := by rw [Wr.size Wr4]; exact Z_2
  have K_4 := Keep.wr K_2 Wr4 (Or.inl (List.mem_of_getElem? (i := 0) rfl))
  refine own_blk dec7 seq7 hby hx hZ hown hK hF 5 [true] [] X4 eh4 ?_
  show (((2 : Int32)).toInt ≤ ((2 : Int32)).toInt) ∧ own_Aft X4 hp4 _ 22 [zA la, zD 9218868437227405312, zS, zI 2, zI 2] []
  refine ⟨by decide, fun T5 X5 eh5 => ?_⟩
  exact own_retV X5 hx hlk eh5 hret (hb hby d7_22) (by decide) (by decide) (⟨rfl, Nf4, K_4, Ar4'⟩)
set_option maxRecDepth 65536 in
set_option maxHeartbeats 40000000 in
theorem rm7_4 (l : Launch) (Z : State) (a0 : Array Value) (hw : ∀ d ∈ tables_1, d.before a0 Z = true) (ws : List Jvm.Cond) (la : Addr) (h0 : Heap) (n0 : Nat) (Z0 : n0 ≤ h0.size) (nl : n0 ≤ la) (A1 : own_A Z h0 la .double [.double 0, .double 0, .double 0, .double 0]) :
    own_MF l (⟨"java/util/Arrays", "fill", "([DD)V"⟩ : MethodName) jdk_65_method_113_code 5 none ws ({ frames := 0, cells := 0, slots := 0, locals := 0 } : Room) #[.ref la, .double 9218868437227405312] Z h0 (fun v h L => v = none ∧ Fr n0 L ∧ Keep h0 h [la] ∧ own_A Z h la .double [.double 9218868437227405312, .double 9218868437227405312, .double 9218868437227405312, .double 9218868437227405312]) := by
  refine own_body pf7 (ls0 := [.val (.ref la), .val (.double 9218868437227405312), .second, .unset, .unset]) (fun m => by first | (simp [entryFrame, mkF, argsToLocals, Value.category, maxLocals]; done) | rfl) ?_
  intro p e s m below meth c T0 hx hby hml hown hnm hlk hret hZ X0 e0
  have hK := hKt7 hw; have hF := hFt7 hw
  have N0 := Fr.nil n0
  have K0 := Keep.refl h0 [la]
  refine own_blk dec7 seq7 hby hx hZ hown hK hF 11 [false] [.int 4] X0 e0 ?_
  show (own_ln Z h0 la (4 : Int32)) ∧ (¬ (((4 : Int32)).toInt ≤ ((0 : Int32)).toInt)) ∧ own_Aft X0 h0 _ 15 [zA la, zD 9218868437227405312, zS, zI 0, zI 4] [.double 9218868437227405312, .int 0, .ref la]
  refine ⟨A1.ln (4 : Int32) rfl, by decide, fun T1 X1 eh1 => ?_⟩
  refine own_sD X1 hx hZ eh1 A1 0 rfl (by show 0 < 4; decide) (hb hby d7_15) (fun T2 hp2 X2 eh2 Wr2 Ar2 => ?_)
  have Ar2' : own_A Z hp2 la .double [.double 9218868437227405312, .double 0, .double 0, .double 0] := Ar2
  have Nf2 := Fr.snoc X2 N0 nl
  have Z_2 : n0 ≤ hp2.size := by rw [Wr.size Wr2]; exact Z0
  have K_2 := Keep.wr K0 Wr2 (Or.inl (List.mem_of_getElem? (i := 0) rfl))
  refine own_blk dec7 seq7 hby hx hZ hown hK hF 8 [false] [] X2 eh2 ?_
  show (¬ (((4 : Int32)).toInt ≤ ((1 : Int32)).toInt)) ∧ own_Aft X2 hp2 _ 15 [zA la, zD 9218868437227405312, zS, zI 1, zI 4] [.double 9218868437227405312, .int 1, .ref la]
  refine ⟨by decide, fun T3 X3 eh3 => ?_⟩
  refine own_sD X3 hx hZ eh3 Ar2' 1 rfl (by show 1 < 4; decide) (hb hby d7_15) (fun T4 hp4 X4 eh4 Wr4 Ar4 => ?_)
  have Ar4' : own_A Z hp4 la .double [.double 9218868437227405312, .double 9218868437227405312, .double 0, .double 0] := Ar4
  have Nf4 := Fr.snoc X4 Nf2 nl
  have Z_4 : n0 ≤ hp4.size := by rw [Wr.size Wr4]; exact Z_2
  have K_4 := Keep.wr K_2 Wr4 (Or.inl (List.mem_of_getElem? (i := 0) rfl))
  refine own_blk dec7 seq7 hby hx hZ hown hK hF 8 [false] [] X4 eh4 ?_
  show (¬ (((4 : Int32)).toInt ≤ ((2 : Int32)).toInt)) ∧ own_Aft X4 hp4 _ 15 [zA la, zD 9218868437227405312, zS, zI 2, zI 4] [.double 9218868437227405312, .int 2, .ref la]
  refine ⟨by decide, fun T5 X5 eh5 => ?_⟩
  refine own_sD X5 hx hZ eh5 Ar4' 2 rfl (by show 2 < 4; decide) (hb hby d7_15) (fun T6 hp6 X6 eh6 Wr6 Ar6 => ?_)
  have Ar6' : own_A Z hp6 la .double [.double 9218868437227405312, .double 9218868437227405312, .double 9218868437227405312, .double 0] := Ar6
  have Nf6 := Fr.snoc X6 Nf4 nl
  have Z_6 : n0 ≤ hp6.size := by rw [Wr.size Wr6]; exact Z_4
  have K_6 := Keep.wr K_4 Wr6 (Or.inl (List.mem_of_getElem? (i := 0) rfl))
  refine own_blk dec7 seq7 hby hx hZ hown hK hF 8 [false] [] X6 eh6 ?_
  show (¬ (((4 : Int32)).toInt ≤ ((3 : Int32)).toInt)) ∧ own_Aft X6 hp6 _ 15 [zA la, zD 9218868437227405312, zS, zI 3, zI 4] [.double 9218868437227405312, .int 3, .ref la]
  refine ⟨by decide, fun T7 X7 eh7 => ?_⟩
  refine own_sD X7 hx hZ eh7 Ar6' 3 rfl (by show 3 < 4; decide) (hb hby d7_15) (fun T8 hp8 X8 eh8 Wr8 Ar8 => ?_)
  have Ar8' : own_A Z hp8 la .double [.double 9218868437227405312, .double 9218868437227405312, .double 9218868437227405312, .double 9218868437227405312] := Ar8
  have Nf8 := Fr.snoc X8 Nf6 nl
  have Z_8 : n0 ≤ hp8.size := by rw [Wr.size Wr8]; exact Z_6
  have K_8 := Keep.wr K_6 Wr8 (Or.inl (List.mem_of_getElem? (i := 0) rfl))
  refine own_blk dec7 seq7 hby hx hZ hown hK hF 5 [true] [] X8 eh8 ?_
  show (((4 : Int32)).toInt ≤ ((4 : Int32)).toInt) ∧ own_Aft X8 hp8 _ 22 [zA la, zD 9218868437227405312, zS, zI 4, zI 4] []
  refine ⟨by decide, fun T9 X9 eh9 => ?_⟩
  exact own_retV X9 hx hlk eh9 hret (hb hby d7_22) (by decide) (by decide) (⟨rfl, Nf8, K_8, Ar8'⟩)
set_option maxRecDepth 65536 in
set_option maxHeartbeats 40000000 in
theorem rm7_8 (l : Launch) (Z : State) (a0 : Array Value) (hw : ∀ d ∈ tables_1, d.before a0 Z = true) (ws : List Jvm.Cond) (la : Addr) (h0 : Heap) (n0 : Nat) (Z0 : n0 ≤ h0.size) (nl : n0 ≤ la) (A1 : own_A Z h0 la .double [.double 0, .double 0, .double 0, .double 0, .double 0, .double 0, .double 0, .double 0]) :
    own_MF l (⟨"java/util/Arrays", "fill", "([DD)V"⟩ : MethodName) jdk_65_method_113_code 5 none ws ({ frames := 0, cells := 0, slots := 0, locals := 0 } : Room) #[.ref la, .double 9218868437227405312] Z h0 (fun v h L => v = none ∧ Fr n0 L ∧ Keep h0 h [la] ∧ own_A Z h la .double [.double 9218868437227405312, .double 9218868437227405312, .double 9218868437227405312, .double 9218868437227405312, .double 9218868437227405312, .double 9218868437227405312, .double 9218868437227405312, .double 9218868437227405312]) := by
  refine own_body pf7 (ls0 := [.val (.ref la), .val (.double 9218868437227405312), .second, .unset, .unset]) (fun m => by first | (simp [entryFrame, mkF, argsToLocals, Value.category, maxLocals]; done) | rfl) ?_
  intro p e s m below meth c T0 hx hby hml hown hnm hlk hret hZ X0 e0
  have hK := hKt7 hw; have hF := hFt7 hw
  have N0 := Fr.nil n0
  have K0 := Keep.refl h0 [la]
  refine own_blk dec7 seq7 hby hx hZ hown hK hF 11 [false] [.int 8] X0 e0 ?_
  show (own_ln Z h0 la (8 : Int32)) ∧ (¬ (((8 : Int32)).toInt ≤ ((0 : Int32)).toInt)) ∧ own_Aft X0 h0 _ 15 [zA la, zD 9218868437227405312, zS, zI 0, zI 8] [.double 9218868437227405312, .int 0, .ref la]
  refine ⟨A1.ln (8 : Int32) rfl, by decide, fun T1 X1 eh1 => ?_⟩
  refine own_sD X1 hx hZ eh1 A1 0 rfl (by show 0 < 8; decide) (hb hby d7_15) (fun T2 hp2 X2 eh2 Wr2 Ar2 => ?_)
  have Ar2' : own_A Z hp2 la .double [.double 9218868437227405312, .double 0, .double 0, .double 0, .double 0, .double 0, .double 0, .double 0] := Ar2
  have Nf2 := Fr.snoc X2 N0 nl
  have Z_2 : n0 ≤ hp2.size := by rw [Wr.size Wr2]; exact Z0
  have K_2 := Keep.wr K0 Wr2 (Or.inl (List.mem_of_getElem? (i := 0) rfl))
  refine own_blk dec7 seq7 hby hx hZ hown hK hF 8 [false] [] X2 eh2 ?_
  show (¬ (((8 : Int32)).toInt ≤ ((1 : Int32)).toInt)) ∧ own_Aft X2 hp2 _ 15 [zA la, zD 9218868437227405312, zS, zI 1, zI 8] [.double 9218868437227405312, .int 1, .ref la]
  refine ⟨by decide, fun T3 X3 eh3 => ?_⟩
  refine own_sD X3 hx hZ eh3 Ar2' 1 rfl (by show 1 < 8; decide) (hb hby d7_15) (fun T4 hp4 X4 eh4 Wr4 Ar4 => ?_)
  have Ar4' : own_A Z hp4 la .double [.double 9218868437227405312, .double 9218868437227405312, .double 0, .double 0, .double 0, .double 0, .double 0, .double 0] := Ar4
  have Nf4 := Fr.snoc X4 Nf2 nl
  have Z_4 : n0 ≤ hp4.size := by rw [Wr.size Wr4]; exact Z_2
  have K_4 := Keep.wr K_2 Wr4 (Or.inl (List.mem_of_getElem? (i := 0) rfl))
  refine own_blk dec7 seq7 hby hx hZ hown hK hF 8 [false] [] X4 eh4 ?_
  show (¬ (((8 : Int32)).toInt ≤ ((2 : Int32)).toInt)) ∧ own_Aft X4 hp4 _ 15 [zA la, zD 9218868437227405312, zS, zI 2, zI 8] [.double 9218868437227405312, .int 2, .ref la]
  refine ⟨by decide, fun T5 X5 eh5 => ?_⟩
  refine own_sD X5 hx hZ eh5 Ar4' 2 rfl (by show 2 < 8; decide) (hb hby d7_15) (fun T6 hp6 X6 eh6 Wr6 Ar6 => ?_)
  have Ar6' : own_A Z hp6 la .double [.double 9218868437227405312, .double 9218868437227405312, .double 9218868437227405312, .double 0, .double 0, .double 0, .double 0, .double 0] := Ar6
  have Nf6 := Fr.snoc X6 Nf4 nl
  have Z_6 : n0 ≤ hp6.size := by rw [Wr.size Wr6]; exact Z_4
  have K_6 := Keep.wr K_4 Wr6 (Or.inl (List.mem_of_getElem? (i := 0) rfl))
  refine own_blk dec7 seq7 hby hx hZ hown hK hF 8 [false] [] X6 eh6 ?_
  show (¬ (((8 : Int32)).toInt ≤ ((3 : Int32)).toInt)) ∧ own_Aft X6 hp6 _ 15 [zA la, zD 9218868437227405312, zS, zI 3, zI 8] [.double 9218868437227405312, .int 3, .ref la]
  refine ⟨by decide, fun T7 X7 eh7 => ?_⟩
  refine own_sD X7 hx hZ eh7 Ar6' 3 rfl (by show 3 < 8; decide) (hb hby d7_15) (fun T8 hp8 X8 eh8 Wr8 Ar8 => ?_)
  have Ar8' : own_A Z hp8 la .double [.double 9218868437227405312, .double 9218868437227405312, .double 9218868437227405312, .double 9218868437227405312, .double 0, .double 0, .double 0, .double 0] := Ar8
  have Nf8 := Fr.snoc X8 Nf6 nl
  have Z_8 : n0 ≤ hp8.size := by rw [Wr.size Wr8]; exact Z_6
  have K_8 := Keep.wr K_6 Wr8 (Or.inl (List.mem_of_getElem? (i := 0) rfl))
  refine own_blk dec7 seq7 hby hx hZ hown hK hF 8 [false] [] X8 eh8 ?_
  show (¬ (((8 : Int32)).toInt ≤ ((4 : Int32)).toInt)) ∧ own_Aft X8 hp8 _ 15 [zA la, zD 9218868437227405312, zS, zI 4, zI 8] [.double 9218868437227405312, .int 4, .ref la]
  refine ⟨by decide, fun T9 X9 eh9 => ?_⟩
  refine own_sD X9 hx hZ eh9 Ar8' 4 rfl (by show 4 < 8; decide) (hb hby d7_15) (fun T10 hp10 X10 eh10 Wr10 Ar10 => ?_)
  have Ar10' : own_A Z hp10 la .double [.double 9218868437227405312, .double 9218868437227405312, .double 9218868437227405312, .double 9218868437227405312, .double 9218868437227405312, .double 0, .double 0, .double 0] := Ar10
  have Nf10 := Fr.snoc X10 Nf8 nl
  have Z_10 : n0 ≤ hp10.size := by rw [Wr.size Wr10]; exact Z_8
  have K_10 := Keep.wr K_8 Wr10 (Or.inl (List.mem_of_getElem? (i := 0) rfl))
  refine own_blk dec7 seq7 hby hx hZ hown hK hF 8 [false] [] X10 eh10 ?_
  show (¬ (((8 : Int32)).toInt ≤ ((5 : Int32)).toInt)) ∧ own_Aft X10 hp10 _ 15 [zA la, zD 9218868437227405312, zS, zI 5, zI 8] [.double 9218868437227405312, .int 5, .ref la]
  refine ⟨by decide, fun T11 X11 eh11 => ?_⟩
  refine own_sD X11 hx hZ eh11 Ar10' 5 rfl (by show 5 < 8; decide) (hb hby d7_15) (fun T12 hp12 X12 eh12 Wr12 Ar12 => ?_)
  have Ar12' : own_A Z hp12 la .double [.double 9218868437227405312, .double 9218868437227405312, .double 9218868437227405312, .double 9218868437227405312, .double 9218868437227405312, .double 9218868437227405312, .double 0, .double 0] := Ar12
  have Nf12 := Fr.snoc X12 Nf10 nl
  have Z_12 : n0 ≤ hp12.size := by rw [Wr.size Wr12]; exact Z_10
  have K_12 := Keep.wr K_10 Wr12 (Or.inl (List.mem_of_getElem? (i := 0) rfl))
  refine own_blk dec7 seq7 hby hx hZ hown hK hF 8 [false] [] X12 eh12 ?_
  show (¬ (((8 : Int32)).toInt ≤ ((6 : Int32)).toInt)) ∧ own_Aft X12 hp12 _ 15 [zA la, zD 9218868437227405312, zS, zI 6, zI 8] [.double 9218868437227405312, .int 6, .ref la]
  refine ⟨by decide, fun T13 X13 eh13 => ?_⟩
  refine own_sD X13 hx hZ eh13 Ar12' 6 rfl (by show 6 < 8; decide) (hb hby d7_15) (fun T14 hp14 X14 eh14 Wr14 Ar14 => ?_)
  have Ar14' : own_A Z hp14 la .double [.double 9218868437227405312, .double 9218868437227405312, .double 9218868437227405312, .double 9218868437227405312, .double 9218868437227405312, .double 9218868437227405312, .double 9218868437227405312, .double 0] := Ar14
  have Nf14 := Fr.snoc X14 Nf12 nl
  have Z_14 : n0 ≤ hp14.size := by rw [Wr.size Wr14]; exact Z_12
  have K_14 := Keep.wr K_12 Wr14 (Or.inl (List.mem_of_getElem? (i := 0) rfl))
  refine own_blk dec7 seq7 hby hx hZ hown hK hF 8 [false] [] X14 eh14 ?_
  show (¬ (((8 : Int32)).toInt ≤ ((7 : Int32)).toInt)) ∧ own_Aft X14 hp14 _ 15 [zA la, zD 9218868437227405312, zS, zI 7, zI 8] [.double 9218868437227405312, .int 7, .ref la]
  refine ⟨by decide, fun T15 X15 eh15 => ?_⟩
  refine own_sD X15 hx hZ eh15 Ar14' 7 rfl (by show 7 < 8; decide) (hb hby d7_15) (fun T16 hp16 X16 eh16 Wr16 Ar16 => ?_)
  have Ar16' : own_A Z hp16 la .double [.double 9218868437227405312, .double 9218868437227405312, .double 9218868437227405312, .double 9218868437227405312, .double 9218868437227405312, .double 9218868437227405312, .double 9218868437227405312, .double 9218868437227405312] := Ar16
  have Nf16 := Fr.snoc X16 Nf14 nl
  have Z_16 : n0 ≤ hp16.size := by rw [Wr.size Wr16]; exact Z_14
  have K_16 := Keep.wr K_14 Wr16 (Or.inl (List.mem_of_getElem? (i := 0) rfl))
  refine own_blk dec7 seq7 hby hx hZ hown hK hF 5 [true] [] X16 eh16 ?_
  show (((8 : Int32)).toInt ≤ ((8 : Int32)).toInt) ∧ own_Aft X16 hp16 _ 22 [zA la, zD 9218868437227405312, zS, zI 8, zI 8] []
  refine ⟨by decide, fun T17 X17 eh17 => ?_⟩
  exact own_retV X17 hx hlk eh17 hret (hb hby d7_22) (by decide) (by decide) (⟨rfl, Nf16, K_16, Ar16'⟩)
set_option maxRecDepth 65536 in
set_option maxHeartbeats 40000000 in
theorem rm9_l (l : Launch) (Z : State) (a0 : Array Value) (hw : ∀ d ∈ tables_1, d.before a0 Z = true) (ws : List Jvm.Cond) (a la va : Addr) (i lv ln : Int32) (r : UInt64) (h0 : Heap) (n0 : Nat) (Z0 : n0 ≤ h0.size) (F1 : Fld Z h0 a "com/example/binwright/binwright/binning/LeastTree" "leaves" "I" (.int lv)) (F2 : Fld Z h0 a "com/example/binwright/binwright/binning/LeastTree" "least" "[D" (.ref la)) (F3 : Fld Z h0 a "com/example/binwright/binwright/binning/LeastTree" "values" "[D" (.ref va)) (G2 : own_ln Z h0 va ln) (c1 : (i - lv).toInt < 0) (G1 : own_at Z h0 la .double i (.double r)) :
    own_MF l (⟨"com/example/binwright/binwright/binning/LeastTree", "at", "(I)D"⟩ : MethodName) prog_15_method_5_code 5 (some .double) ws ({ frames := 0, cells := 0, slots := 0, locals := 0 } : Room) #[.ref a, .int i] Z h0 (fun v h L => (v = some (.double r)) ∧ L = [] ∧ h = h0) := by
  refine own_body pf9 (ls0 := [.val (.ref a), .val (.int i), .unset, .unset, .unset]) (fun m => by first | (simp [entryFrame, mkF, argsToLocals, Value.category, maxLocals]; done) | rfl) ?_
  intro p e s m below meth c T0 hx hby hml hown hnm hlk hret hZ X0 e0
  have hK := hKt2 hw; have hF := hFt2 hw
  have N0 := Fr.nil n0
  refine own_blk dec9 seq9 hby hx hZ hown hK hF 14 [false] [.int lv, .ref la, .double r] X0 e0 ?_
  show (Fld Z h0 a "com/example/binwright/binwright/binning/LeastTree" "leaves" "I" (.int lv)) ∧ (¬ (0 ≤ (i - lv).toInt)) ∧ (Fld Z h0 a "com/example/binwright/binwright/binning/LeastTree" "least" "[D" (.ref la)) ∧ (own_at Z h0 la .double i (.double r)) ∧ own_Aft X0 h0 _ 45 [zA a, zI i, zI (i - lv), zD r, zS] [.double r]
  refine ⟨F1, by omega, F2, G1, fun T1 X1 eh1 => ?_⟩
  try subst er
  exact own_ret X1 hx hlk eh1 hret (by first | rfl | decide) (Or.inr (Or.inr (Or.inl ⟨rfl, rfl, _, rfl⟩))) (hb hby d9_45) (by decide) (by decide) (⟨rfl, rfl, rfl⟩)
set_option maxRecDepth 65536 in
set_option maxHeartbeats 40000000 in
theorem rm9_v (l : Launch) (Z : State) (a0 : Array Value) (hw : ∀ d ∈ tables_1, d.before a0 Z = true) (ws : List Jvm.Cond) (a la va : Addr) (i lv ln : Int32) (r : UInt64) (h0 : Heap) (n0 : Nat) (Z0 : n0 ≤ h0.size) (F1 : Fld Z h0 a "com/example/binwright/binwright/binning/LeastTree" "leaves" "I" (.int lv)) (F2 : Fld Z h0 a "com/example/binwright/binwright/binning/LeastTree" "least" "[D" (.ref la)) (F3 : Fld Z h0 a "com/example/binwright/binwright/binning/LeastTree" "values" "[D" (.ref va)) (G2 : own_ln Z h0 va ln) (c1 : 0 ≤ (i - lv).toInt) (c2 : (i - lv).toInt < ln.toInt) (G1 : own_at Z h0 va .double (i - lv) (.double r)) :
    own_MF l (⟨"com/example/binwright/binwright/binning/LeastTree", "at", "(I)D"⟩ : MethodName) prog_15_method_5_code 5 (some .double) ws ({ frames := 0, cells := 0, slots := 0, locals := 0 } : Room) #[.ref a, .int i] Z h0 (fun v h L => (v = some (.double r)) ∧ L = [] ∧ h = h0) := by
  refine own_body pf9 (ls0 := [.val (.ref a), .val (.int i), .unset, .unset, .unset]) (fun m => by first | (simp [entryFrame, mkF, argsToLocals, Value.category, maxLocals]; done) | rfl) ?_
  intro p e s m below meth c T0 hx hby hml hown hnm hlk hret hZ X0 e0
  have hK := hKt2 hw; have hF := hFt2 hw
  have N0 := Fr.nil n0
  refine own_blk dec9 seq9 hby hx hZ hown hK hF 19 [true, false] [.int lv, .ref va, .int ln, .ref va, .double r] X0 e0 ?_
  show (Fld Z h0 a "com/example/binwright/binwright/binning/LeastTree" "leaves" "I" (.int lv)) ∧ (0 ≤ (i - lv).toInt) ∧ (Fld Z h0 a "com/example/binwright/binwright/binning/LeastTree" "values" "[D" (.ref va)) ∧ (own_ln Z h0 va ln) ∧ (¬ ((ln).toInt ≤ (i - lv).toInt)) ∧ (Fld Z h0 a "com/example/binwright/binwright/binning/LeastTree" "values" "[D" (.ref va)) ∧ (own_at Z h0 va .double (i - lv) (.double r)) ∧ own_Aft X0 h0 _ 45 [zA a, zI i, zI (i - lv), zD r, zS] [.double r]
  refine ⟨F1, by omega, F3, G2, by omega, F3, G1, fun T1 X1 eh1 => ?_⟩
  try subst er
  exact own_ret X1 hx hlk eh1 hret (by first | rfl | decide) (Or.inr (Or.inr (Or.inl ⟨rfl, rfl, _, rfl⟩))) (hb hby d9_45) (by decide) (by decide) (⟨rfl, rfl, rfl⟩)
set_option maxRecDepth 65536 in
set_option maxHeartbeats 40000000 in
theorem rm9_o (l : Launch) (Z : State) (a0 : Array Value) (hw : ∀ d ∈ tables_1, d.before a0 Z = true) (ws : List Jvm.Cond) (a la va : Addr) (i lv ln : Int32) (r : UInt64) (h0 : Heap) (n0 : Nat) (Z0 : n0 ≤ h0.size) (F1 : Fld Z h0 a "com/example/binwright/binwright/binning/LeastTree" "leaves" "I" (.int lv)) (F2 : Fld Z h0 a "com/example/binwright/binwright/binning/LeastTree" "least" "[D" (.ref la)) (F3 : Fld Z h0 a "com/example/binwright/binwright/binning/LeastTree" "values" "[D" (.ref va)) (G2 : own_ln Z h0 va ln) (c1 : 0 ≤ (i - lv).toInt) (c2 : ln.toInt ≤ (i - lv).toInt) (er : r = 9218868437227405312) :
    own_MF l (⟨"com/example/binwright/binwright/binning/LeastTree", "at", "(I)D"⟩ : MethodName) prog_15_method_5_code 5 (some .double) ws ({ frames := 0, cells := 0, slots := 0, locals := 0 } : Room) #[.ref a, .int i] Z h0 (fun v h L => (v = some (.double r)) ∧ L = [] ∧ h = h0) := by
  refine own_body pf9 (ls0 := [.val (.ref a), .val (.int i), .unset, .unset, .unset]) (fun m => by first | (simp [entryFrame, mkF, argsToLocals, Value.category, maxLocals]; done) | rfl) ?_
  intro p e s m below meth c T0 hx hby hml hown hnm hlk hret hZ X0 e0
  have hK := hKt2 hw; have hF := hFt2 hw
  have N0 := Fr.nil n0
  refine own_blk dec9 seq9 hby hx hZ hown hK hF 15 [true, true] [.int lv, .ref va, .int ln] X0 e0 ?_
  show (Fld Z h0 a "com/example/binwright/binwright/binning/LeastTree" "leaves" "I" (.int lv)) ∧ (0 ≤ (i - lv).toInt) ∧ (Fld Z h0 a "com/example/binwright/binwright/binning/LeastTree" "values" "[D" (.ref va)) ∧ (own_ln Z h0 va ln) ∧ ((ln).toInt ≤ (i - lv).toInt) ∧ own_Aft X0 h0 _ 45 [zA a, zI i, zI (i - lv), zD 9218868437227405312, zS] [.double 9218868437227405312]
  refine ⟨F1, by omega, F3, G2, by omega, fun T1 X1 eh1 => ?_⟩
  try subst er
  exact own_ret X1 hx hlk eh1 hret (by first | rfl | decide) (Or.inr (Or.inr (Or.inl ⟨rfl, rfl, _, rfl⟩))) (hb hby d9_45) (by decide) (by decide) (⟨rfl, rfl, rfl⟩)
set_option maxRecDepth 65536 in
set_option maxHeartbeats 40000000 in
theorem rm8_1 (l : Launch) (Z : State) (a0 : Array Value) (hw : ∀ d ∈ tables_1, d.before a0 Z = true) (ws : List Jvm.Cond) (a la va : Addr) (v0 : UInt64) (h0 : Heap) (n0 : Nat) (Z0 : n0 ≤ h0.size) (EX : Exa Z h0 a "com/example/binwright/binwright/binning/LeastTree") (nl : n0 ≤ la) (nav : va ≠ la) (nal : a ≠ la) (F1 : Fld Z h0 a "com/example/binwright/binwright/binning/LeastTree" "leaves" "I" (.int (2 : Int32))) (F2 : Fld Z h0 a "com/example/binwright/binwright/binning/LeastTree" "least" "[D" (.ref la)) (F3 : Fld Z h0 a "com/example/binwright/binwright/binning/LeastTree" "values" "[D" (.ref va)) (Al : own_A Z h0 la .double [.double 9218868437227405312, .double 9218868437227405312]) (Av : own_A Z h0 va .double [.double v0]) (Nv0 : own_num v0) :
    own_MF l (⟨"com/example/binwright/binwright/binning/LeastTree", "changed", "(II)V"⟩ : MethodName) prog_15_method_2_code 6 none ws ({ frames := 1, cells := 0, slots := 0, locals := 24 } : Room) #[.ref a, .int 0, .int 1] Z h0 (fun v h L => v = none ∧ Fr n0 L ∧ Keep h0 h [la] ∧ ∃ (r1 : UInt64), own_A Z h la .double [.double 9218868437227405312, .double r1] ∧ own_mn r1 v0 9218868437227405312) := by
  refine own_body pf8 (ls0 := [.val (.ref a), .val (.int 0), .val (.int 1), .unset, .unset, .unset]) (fun m => by first | (simp [entryFrame, mkF, argsToLocals, Value.category, maxLocals]; done) | rfl) ?_
  intro p e s m below meth c T0 hx hby hml hown hnm hlk hret hZ X0 e0
  have hK := hKt2 hw; have hF := hFt2 hw
  have N0 := Fr.nil n0
  have K0 := Keep.refl h0 [la]
  refine own_blk dec8 seq8 hby hx hZ hown hK hF 24 [true, false] [.int 2, .int 2] X0 e0 ?_
  show (((0 : Int32)).toInt < ((1 : Int32)).toInt) ∧ (Fld Z h0 a "com/example/binwright/binwright/binning/LeastTree" "leaves" "I" (.int 2)) ∧ ((2 : Int32) ≠ 0) ∧ (Fld Z h0 a "com/example/binwright/binwright/binning/LeastTree" "leaves" "I" (.int 2)) ∧ ((2 : Int32) ≠ 0) ∧ (¬ (((1 : Int32)).toInt < ((1 : Int32)).toInt)) ∧ own_Aft X0 h0 _ 35 [zA a, zI 0, zI 1, zI 1, zI 1, zI 1] []
  refine ⟨by decide, F1, by decide, F1, by decide, by decide, fun T1 X1 eh1 => ?_⟩
  refine own_blk dec8 seq8 hby hx hZ hown hK hF 10 [false] [.ref la] X1 eh1 ?_
  show (¬ (((1 : Int32)).toInt < ((1 : Int32)).toInt)) ∧ (Fld Z h0 a "com/example/binwright/binwright/binning/LeastTree" "least" "[D" (.ref la)) ∧ own_Aft X1 h0 _ 53 [zA a, zI 0, zI 1, zI 1, zI 1, zI 1] [.int 2, .ref a, .int 1, .ref la]
  refine ⟨by decide, F2, fun T2 X2 eh2 => ?_⟩
  refine own_callPP X2 hx hZ hown (hw _ (wm 43 rfl)) (hw _ (wm 45 rfl)) (hw _ (wm 6 rfl)) (hw _ (wm 44 rfl)) (hw _ (wm 7 rfl)) (hw _ (wm 46 rfl)) (by decide) eh2 EX [.int 2] pd9 rfl (fr := 0) (lo := 0) (rm9_v l Z a0 hw [] a la va (2 : Int32) (2 : Int32) (1 : Int32) v0 h0 n0 Z0 F1 F2 F3 (Av.ln (1 : Int32) rfl) (by decide) (by decide) (Av.at ((2 : Int32) - (2 : Int32)) 0 rfl rfl)) (by rw [hml]; rfl) 2 rfl (Nat.le_of_eq rfl) (hb hby d8_53) (by decide) (by decide) (by decide) (by decide) (fun T3 rv3 X3 eh3 qc3 => ?_)
  obtain rfl := qc3
  show own_Go p.tables e below _ (T3.setTop (mkF m 56 (Array.mk [zA a, zI 0, zI 1, zI 1, zI 1, zI 1]) [.double v0, .int 1, .ref la]))
  refine own_blk dec8 seq8 hby hx hZ hown hK hF 6 [] [] X3 eh3 ?_
  show own_Aft X3 h0 _ 63 [zA a, zI 0, zI 1, zI 1, zI 1, zI 1] [.int 3, .ref a, .double v0, .int 1, .ref la]
  refine fun T4 X4 eh4 => ?_
  refine own_callPP X4 hx hZ hown (hw _ (wm 43 rfl)) (hw _ (wm 45 rfl)) (hw _ (wm 6 rfl)) (hw _ (wm 44 rfl)) (hw _ (wm 7 rfl)) (hw _ (wm 46 rfl)) (by decide) eh4 EX [.int 3] pd9 rfl (fr := 0) (lo := 0) (rm9_o l Z a0 hw [] a la va (3 : Int32) (2 : Int32) (1 : Int32) 9218868437227405312 h0 n0 Z0 F1 F2 F3 (Av.ln (1 : Int32) rfl) (by decide) (by decide) rfl) (by rw [hml]; rfl) 4 rfl (Nat.le_of_eq rfl) (hb hby d8_63) (by decide) (by decide) (by decide) (by decide) (fun T5 rv5 X5 eh5 qc5 => ?_)
  obtain rfl := qc5
  show own_Go p.tables e below _ (T5.setTop (mkF m 66 (Array.mk [zA a, zI 0, zI 1, zI 1, zI 1, zI 1]) [.double 9218868437227405312, .double v0, .int 1, .ref la]))
  refine own_minDD X5 hx hZ hown (by decide +kernel) (hw _ (wm 47 rfl)) (hw _ (wm 48 rfl)) (hw _ (wm 18 rfl)) (hw _ (wm 49 rfl)) eh5 (own_nn Nv0) (own_nn own_infn) (by rw [hml]; rfl) 2 (Nat.le_of_eq rfl) (hb hby d8_66) (by decide) (by decide) (by decide) (by decide) (fun T6 X6 eh6 => ?_)
  have Hr1 := own_pick Nv0 own_infn
  generalize Native.java_lang_Math.nans.pick64 false v0 9218868437227405312 = r1 at Hr1 ⊢
  show own_Go p.tables e below _ (T6.setTop (mkF m 69 (Array.mk [zA a, zI 0, zI 1, zI 1, zI 1, zI 1]) [.double r1, .int 1, .ref la]))
  refine own_sD X6 hx hZ eh6 Al 1 rfl (by show 1 < 2; decide) (hb hby d8_69) (fun T7 hp7 X7 eh7 Wr7 Ar7 => ?_)
  have Ar7' : own_A Z hp7 la .double [.double 9218868437227405312, .double r1] := Ar7
  have Av_7 := Av.other Wr7 nav
  have EX_7 := Exa.wr Wr7 EX
  have F1_7 := Fld.other Wr7 F1 (Or.inl nal)
  have F2_7 := Fld.other Wr7 F2 (Or.inl nal)
  have F3_7 := Fld.other Wr7 F3 (Or.inl nal)
  have Nf7 := Fr.snoc X7 N0 nl
  have Z_7 : n0 ≤ hp7.size := by rw [Wr.size Wr7]; exact Z0
  have K_7 := Keep.wr K0 Wr7 (Or.inl (List.mem_of_getElem? (i := 0) rfl))
  refine own_blk dec8 seq8 hby hx hZ hown hK hF 17 [true, true] [] X7 eh7 ?_
  show (((1 : Int32)).toInt < ((2 : Int32)).toInt) ∧ ((2 : Int32) ≠ 0) ∧ ((2 : Int32) ≠ 0) ∧ (((0 : Int32)).toInt < ((1 : Int32)).toInt) ∧ own_Aft X7 hp7 _ 89 [zA a, zI 0, zI 1, zI 0, zI 0, zI 2] []
  refine ⟨by decide, by decide, by decide, by decide, fun T8 X8 eh8 => ?_⟩
  exact own_retV X8 hx hlk eh8 hret (hb hby d8_89) (by decide) (by decide) (⟨rfl, Nf7, K_7, r1, Ar7', Hr1⟩)
set_option maxRecDepth 65536 in
set_option maxHeartbeats 40000000 in
theorem rm8_2 (l : Launch) (Z : State) (a0 : Array Value) (hw : ∀ d ∈ tables_1, d.before a0 Z = true) (ws : List Jvm.Cond) (a la va : Addr) (v0 v1 : UInt64) (h0 : Heap) (n0 : Nat) (Z0 : n0 ≤ h0.size) (EX : Exa Z h0 a "com/example/binwright/binwright/binning/LeastTree") (nl : n0 ≤ la) (nav : va ≠ la) (nal : a ≠ la) (F1 : Fld Z h0 a "com/example/binwright/binwright/binning/LeastTree" "leaves" "I" (.int (2 : Int32))) (F2 : Fld Z h0 a "com/example/binwright/binwright/binning/LeastTree" "least" "[D" (.ref la)) (F3 : Fld Z h0 a "com/example/binwright/binwright/binning/LeastTree" "values" "[D" (.ref va)) (Al : own_A Z h0 la .double [.double 9218868437227405312, .double 9218868437227405312]) (Av : own_A Z h0 va .double [.double v0, .double v1]) (Nv0 : own_num v0) (Nv1 : own_num v1) :
    own_MF l (⟨"com/example/binwright/binwright/binning/LeastTree", "changed", "(II)V"⟩ : MethodName) prog_15_method_2_code 6 none ws ({ frames := 1, cells := 0, slots := 0, locals := 24 } : Room) #[.ref a, .int 0, .int 2] Z h0 (fun v h L => v = none ∧ Fr n0 L ∧ Keep h0 h [la] ∧ ∃ (r1 : UInt64), own_A Z h la .double [.double 9218868437227405312, .double r1] ∧ own_mn r1 v0 v1) := by
  refine own_body pf8 (ls0 := [.val (.ref a), .val (.int 0), .val (.int 2), .unset, .unset, .unset]) (fun m => by first | (simp [entryFrame, mkF, argsToLocals, Value.category, maxLocals]; done) | rfl) ?_
  intro p e s m below meth c T0 hx hby hml hown hnm hlk hret hZ X0 e0
  have hK := hKt2 hw; have hF := hFt2 hw
  have N0 := Fr.nil n0
  have K0 := Keep.refl h0 [la]
  refine own_blk dec8 seq8 hby hx hZ hown hK hF 24 [true, false] [.int 2, .int 2] X0 e0 ?_
  show (((0 : Int32)).toInt < ((2 : Int32)).toInt) ∧ (Fld Z h0 a "com/example/binwright/binwright/binning/LeastTree" "leaves" "I" (.int 2)) ∧ ((2 : Int32) ≠ 0) ∧ (Fld Z h0 a "com/example/binwright/binwright/binning/LeastTree" "leaves" "I" (.int 2)) ∧ ((2 : Int32) ≠ 0) ∧ (¬ (((1 : Int32)).toInt < ((1 : Int32)).toInt)) ∧ own_Aft X0 h0 _ 35 [zA a, zI 0, zI 2, zI 1, zI 1, zI 1] []
  refine ⟨by decide, F1, by decide, F1, by decide, by decide, fun T1 X1 eh1 => ?_⟩
  refine own_blk dec8 seq8 hby hx hZ hown hK hF 10 [false] [.ref la] X1 eh1 ?_
  show (¬ (((1 : Int32)).toInt < ((1 : Int32)).toInt)) ∧ (Fld Z h0 a "com/example/binwright/binwright/binning/LeastTree" "least" "[D" (.ref la)) ∧ own_Aft X1 h0 _ 53 [zA a, zI 0, zI 2, zI 1, zI 1, zI 1] [.int 2, .ref a, .int 1, .ref la]
  refine ⟨by decide, F2, fun T2 X2 eh2 => ?_⟩
  refine own_callPP X2 hx hZ hown (hw _ (wm 43 rfl)) (hw _ (wm 45 rfl)) (hw _ (wm 6 rfl)) (hw _ (wm 44 rfl)) (hw _ (wm 7 rfl)) (hw _ (wm 46 rfl)) (by decide) eh2 EX [.int 2] pd9 rfl (fr := 0) (lo := 0) (rm9_v l Z a0 hw [] a la va (2 : Int32) (2 : Int32) (2 : Int32) v0 h0 n0 Z0 F1 F2 F3 (Av.ln (2 : Int32) rfl) (by decide) (by decide) (Av.at ((2 : Int32) - (2 : Int32)) 0 rfl rfl)) (by rw [hml]; rfl) 2 rfl (Nat.le_of_eq rfl) (hb hby d8_53) (by decide) (by decide) (by decide) (by decide) (fun T3 rv3 X3 eh3 qc3 => ?_)
  obtain rfl := qc3
  show own_Go p.tables e below _ (T3.setTop (mkF m 56 (Array.mk [zA a, zI 0, zI 2, zI 1, zI 1, zI 1]) [.double v0, .int 1, .ref la]))
  refine own_blk dec8 seq8 hby hx hZ hown hK hF 6 [] [] X3 eh3 ?_
  show own_Aft X3 h0 _ 63 [zA a, zI 0, zI 2, zI 1, zI 1, zI 1] [.int 3, .ref a, .double v0, .int 1, .ref la]
  refine fun T4 X4 eh4 => ?_
  refine own_callPP X4 hx hZ hown (hw _ (wm 43 rfl)) (hw _ (wm 45 rfl)) (hw _ (wm 6 rfl)) (hw _ (wm 44 rfl)) (hw _ (wm 7 rfl)) (hw _ (wm 46 rfl)) (by decide) eh4 EX [.int 3] pd9 rfl (fr := 0) (lo := 0) (rm9_v l Z a0 hw [] a la va (3 : Int32) (2 : Int32) (2 : Int32) v1 h0 n0 Z0 F1 F2 F3 (Av.ln (2 : Int32) rfl) (by decide) (by decide) (Av.at ((3 : Int32) - (2 : Int32)) 1 rfl rfl)) (by rw [hml]; rfl) 4 rfl (Nat.le_of_eq rfl) (hb hby d8_63) (by decide) (by decide) (by decide) (by decide) (fun T5 rv5 X5 eh5 qc5 => ?_)
  obtain rfl := qc5
  show own_Go p.tables e below _ (T5.setTop (mkF m 66 (Array.mk [zA a, zI 0, zI 2, zI 1, zI 1, zI 1]) [.double v1, .double v0, .int 1, .ref la]))
  refine own_minDD X5 hx hZ hown (by decide +kernel) (hw _ (wm 47 rfl)) (hw _ (wm 48 rfl)) (hw _ (wm 18 rfl)) (hw _ (wm 49 rfl)) eh5 (own_nn Nv0) (own_nn Nv1) (by rw [hml]; rfl) 2 (Nat.le_of_eq rfl) (hb hby d8_66) (by decide) (by decide) (by decide) (by decide) (fun T6 X6 eh6 => ?_)
  have Hr1 := own_pick Nv0 Nv1
  generalize Native.java_lang_Math.nans.pick64 false v0 v1 = r1 at Hr1 ⊢
  show own_Go p.tables e below _ (T6.setTop (mkF m 69 (Array.mk [zA a, zI 0, zI 2, zI 1, zI 1, zI 1]) [.double r1, .int 1, .ref la]))
  refine own_sD X6 hx hZ eh6 Al 1 rfl (by show 1 < 2; decide) (hb hby d8_69) (fun T7 hp7 X7 eh7 Wr7 Ar7 => ?_)
  have Ar7' : own_A Z hp7 la .double [.double 9218868437227405312, .double r1] := Ar7
  have Av_7 := Av.other Wr7 nav
  have EX_7 := Exa.wr Wr7 EX
  have F1_7 := Fld.other Wr7 F1 (Or.inl nal)
  have F2_7 := Fld.other Wr7 F2 (Or.inl nal)
  have F3_7 := Fld.other Wr7 F3 (Or.inl nal)
  have Nf7 := Fr.snoc X7 N0 nl
  have Z_7 : n0 ≤ hp7.size := by rw [Wr.size Wr7]; exact Z0
  have K_7 := Keep.wr K0 Wr7 (Or.inl (List.mem_of_getElem? (i := 0) rfl))
  refine own_blk dec8 seq8 hby hx hZ hown hK hF 17 [true, true] [] X7 eh7 ?_
  show (((1 : Int32)).toInt < ((2 : Int32)).toInt) ∧ ((2 : Int32) ≠ 0) ∧ ((2 : Int32) ≠ 0) ∧ (((0 : Int32)).toInt < ((1 : Int32)).toInt) ∧ own_Aft X7 hp7 _ 89 [zA a, zI 0, zI 2, zI 0, zI 0, zI 2] []
  refine ⟨by decide, by decide, by decide, by decide, fun T8 X8 eh8 => ?_⟩
  exact own_retV X8 hx hlk eh8 hret (hb hby d8_89) (by decide) (by decide) (⟨rfl, Nf7, K_7, r1, Ar7', Hr1⟩)
set_option maxRecDepth 65536 in
set_option maxHeartbeats 40000000 in
theorem rm8_3 (l : Launch) (Z : State) (a0 : Array Value) (hw : ∀ d ∈ tables_1, d.before a0 Z = true) (ws : List Jvm.Cond) (a la va : Addr) (v0 v1 v2 : UInt64) (h0 : Heap) (n0 : Nat) (Z0 : n0 ≤ h0.size) (EX : Exa Z h0 a "com/example/binwright/binwright/binning/LeastTree") (nl : n0 ≤ la) (nav : va ≠ la) (nal : a ≠ la) (F1 : Fld Z h0 a "com/example/binwright/binwright/binning/LeastTree" "leaves" "I" (.int (4 : Int32))) (F2 : Fld Z h0 a "com/example/binwright/binwright/binning/LeastTree" "least" "[D" (.ref la)) (F3 : Fld Z h0 a "com/example/binwright/binwright/binning/LeastTree" "values" "[D" (.ref va)) (Al : own_A Z h0 la .double [.double 9218868437227405312, .double 9218868437227405312, .double 9218868437227405312, .double 9218868437227405312]) (Av : own_A Z h0 va .double [.double v0, .double v1, .double v2]) (Nv0 : own_num v0) (Nv1 : own_num v1) (Nv2 : own_num v2) :
    own_MF l (⟨"com/example/binwright/binwright/binning/LeastTree", "changed", "(II)V"⟩ : MethodName) prog_15_method_2_code 6 none ws ({ frames := 1, cells := 0, slots := 0, locals := 24 } : Room) #[.ref a, .int 0, .int 3] Z h0 (fun v h L => v = none ∧ Fr n0 L ∧ Keep h0 h [la] ∧ ∃ (r2 r3 r1 : UInt64), own_A Z h la .double [.double 9218868437227405312, .double r1, .double r2, .double r3] ∧ own_mn r2 v0 v1 ∧ own_mn r3 v2 9218868437227405312 ∧ own_mn r1 r2 r3) := by
  refine own_body pf8 (ls0 := [.val (.ref a), .val (.int 0), .val (.int 3), .unset, .unset, .unset]) (fun m => by first | (simp [entryFrame, mkF, argsToLocals, Value.category, maxLocals]; done) | rfl) ?_
  intro p e s m below meth c T0 hx hby hml hown hnm hlk hret hZ X0 e0
  have hK := hKt2 hw; have hF := hFt2 hw
  have N0 := Fr.nil n0
  have K0 := Keep.refl h0 [la]
  refine own_blk dec8 seq8 hby hx hZ hown hK hF 24 [true, false] [.int 4, .int 4] X0 e0 ?_
  show (((0 : Int32)).toInt < ((3 : Int32)).toInt) ∧ (Fld Z h0 a "com/example/binwright/binwright/binning/LeastTree" "leaves" "I" (.int 4)) ∧ ((2 : Int32) ≠ 0) ∧ (Fld Z h0 a "com/example/binwright/binwright/binning/LeastTree" "leaves" "I" (.int 4)) ∧ ((2 : Int32) ≠ 0) ∧ (¬ (((2 : Int32)).toInt < ((1 : Int32)).toInt)) ∧ own_Aft X0 h0 _ 35 [zA a, zI 0, zI 3, zI 2, zI 3, zI 2] []
  refine ⟨by decide, F1, by decide, F1, by decide, by decide, fun T1 X1 eh1 => ?_⟩
  refine own_blk dec8 seq8 hby hx hZ hown hK hF 10 [false] [.ref la] X1 eh1 ?_
  show (¬ (((3 : Int32)).toInt < ((2 : Int32)).toInt)) ∧ (Fld Z h0 a "com/example/binwright/binwright/binning/LeastTree" "least" "[D" (.ref la)) ∧ own_Aft X1 h0 _ 53 [zA a, zI 0, zI 3, zI 2, zI 3, zI 2] [.int 4, .ref a, .int 2, .ref la]
  refine ⟨by decide, F2, fun T2 X2 eh2 => ?_⟩
  refine own_callPP X2 hx hZ hown (hw _ (wm 43 rfl)) (hw _ (wm 45 rfl)) (hw _ (wm 6 rfl)) (hw _ (wm 44 rfl)) (hw _ (wm 7 rfl)) (hw _ (wm 46 rfl)) (by decide) eh2 EX [.int 4] pd9 rfl (fr := 0) (lo := 0) (rm9_v l Z a0 hw [] a la va (4 : Int32) (4 : Int32) (3 : Int32) v0 h0 n0 Z0 F1 F2 F3 (Av.ln (3 : Int32) rfl) (by decide) (by decide) (Av.at ((4 : Int32) - (4 : Int32)) 0 rfl rfl)) (by rw [hml]; rfl) 2 rfl (Nat.le_of_eq rfl) (hb hby d8_53) (by decide) (by decide) (by decide) (by decide) (fun T3 rv3 X3 eh3 qc3 => ?_)
  obtain rfl := qc3
  show own_Go p.tables e below _ (T3.setTop (mkF m 56 (Array.mk [zA a, zI 0, zI 3, zI 2, zI 3, zI 2]) [.double v0, .int 2, .ref la]))
  refine own_blk dec8 seq8 hby hx hZ hown hK hF 6 [] [] X3 eh3 ?_
  show own_Aft X3 h0 _ 63 [zA a, zI 0, zI 3, zI 2, zI 3, zI 2] [.int 5, .ref a, .double v0, .int 2, .ref la]
  refine fun T4 X4 eh4 => ?_
  refine own_callPP X4 hx hZ hown (hw _ (wm 43 rfl)) (hw _ (wm 45 rfl)) (hw _ (wm 6 rfl)) (hw _ (wm 44 rfl)) (hw _ (wm 7 rfl)) (hw _ (wm 46 rfl)) (by decide) eh4 EX [.int 5] pd9 rfl (fr := 0) (lo := 0) (rm9_v l Z a0 hw [] a la va (5 : Int32) (4 : Int32) (3 : Int32) v1 h0 n0 Z0 F1 F2 F3 (Av.ln (3 : Int32) rfl) (by decide) (by decide) (Av.at ((5 : Int32) - (4 : Int32)) 1 rfl rfl)) (by rw [hml]; rfl) 4 rfl (Nat.le_of_eq rfl) (hb hby d8_63) (by decide) (by decide) (by decide) (by decide) (fun T5 rv5 X5 eh5 qc5 => ?_)
  obtain rfl := qc5
  show own_Go p.tables e below _ (T5.setTop (mkF m 66 (Array.mk [zA a, zI 0, zI 3, zI 2, zI 3, zI 2]) [.double v1, .double v0, .int 2, .ref la]))
  refine own_minDD X5 hx hZ hown (by decide +kernel) (hw _ (wm 47 rfl)) (hw _ (wm 48 rfl)) (hw _ (wm 18 rfl)) (hw _ (wm 49 rfl)) eh5 (own_nn Nv0) (own_nn Nv1) (by rw [hml]; rfl) 2 (Nat.le_of_eq rfl) (hb hby d8_66) (by decide) (by decide) (by decide) (by decide) (fun T6 X6 eh6 => ?_)
  have Hr2 := own_pick Nv0 Nv1
  generalize Native.java_lang_Math.nans.pick64 false v0 v1 = r2 at Hr2 ⊢
  show own_Go p.tables e below _ (T6.setTop (mkF m 69 (Array.mk [zA a, zI 0, zI 3, zI 2, zI 3, zI 2]) [.double r2, .int 2, .ref la]))
  refine own_sD X6 hx hZ eh6 Al 2 rfl (by show 2 < 4; decide) (hb hby d8_69) (fun T7 hp7 X7 eh7 Wr7 Ar7 => ?_)
  have Ar7' : own_A Z hp7 la .double [.double 9218868437227405312, .double 9218868437227405312, .double r2, .double 9218868437227405312] := Ar7
  have Av_7 := Av.other Wr7 nav
  have EX_7 := Exa.wr Wr7 EX
  have F1_7 := Fld.other Wr7 F1 (Or.inl nal)
  have F2_7 := Fld.other Wr7 F2 (Or.inl nal)
  have F3_7 := Fld.other Wr7 F3 (Or.inl nal)
  have Nf7 := Fr.snoc X7 N0 nl
  have Z_7 : n0 ≤ hp7.size := by rw [Wr.size Wr7]; exact Z0
  have K_7 := Keep.wr K0 Wr7 (Or.inl (List.mem_of_getElem? (i := 0) rfl))
  refine own_blk dec8 seq8 hby hx hZ hown hK hF 12 [false] [.ref la] X7 eh7 ?_
  show (¬ (((3 : Int32)).toInt < ((3 : Int32)).toInt)) ∧ (Fld Z hp7 a "com/example/binwright/binwright/binning/LeastTree" "least" "[D" (.ref la)) ∧ own_Aft X7 hp7 _ 53 [zA a, zI 0, zI 3, zI 2, zI 3, zI 3] [.int 6, .ref a, .int 3, .ref la]
  refine ⟨by decide, F2_7, fun T8 X8 eh8 => ?_⟩
  refine own_callPP X8 hx hZ hown (hw _ (wm 43 rfl)) (hw _ (wm 45 rfl)) (hw _ (wm 6 rfl)) (hw _ (wm 44 rfl)) (hw _ (wm 7 rfl)) (hw _ (wm 46 rfl)) (by decide) eh8 EX_7 [.int 6] pd9 rfl (fr := 0) (lo := 0) (rm9_v l Z a0 hw [] a la va (6 : Int32) (4 : Int32) (3 : Int32) v2 hp7 n0 Z_7 F1_7 F2_7 F3_7 (Av_7.ln (3 : Int32) rfl) (by decide) (by decide) (Av_7.at ((6 : Int32) - (4 : Int32)) 2 rfl rfl)) (by rw [hml]; rfl) 2 rfl (Nat.le_of_eq rfl) (hb hby d8_53) (by decide) (by decide) (by decide) (by decide) (fun T9 rv9 X9 eh9 qc9 => ?_)
  obtain rfl := qc9
  show own_Go p.tables e below _ (T9.setTop (mkF m 56 (Array.mk [zA a, zI 0, zI 3, zI 2, zI 3, zI 3]) [.double v2, .int 3, .ref la]))
  refine own_blk dec8 seq8 hby hx hZ hown hK hF 6 [] [] X9 eh9 ?_
  show own_Aft X9 hp7 _ 63 [zA a, zI 0, zI 3, zI 2, zI 3, zI 3] [.int 7, .ref a, .double v2, .int 3, .ref la]
  refine fun T10 X10 eh10 => ?_
  refine own_callPP X10 hx hZ hown (hw _ (wm 43 rfl)) (hw _ (wm 45 rfl)) (hw _ (wm 6 rfl)) (hw _ (wm 44 rfl)) (hw _ (wm 7 rfl)) (hw _ (wm 46 rfl)) (by decide) eh10 EX_7 [.int 7] pd9 rfl (fr := 0) (lo := 0) (rm9_o l Z a0 hw [] a la va (7 : Int32) (4 : Int32) (3 : Int32) 9218868437227405312 hp7 n0 Z_7 F1_7 F2_7 F3_7 (Av_7.ln (3 : Int32) rfl) (by decide) (by decide) rfl) (by rw [hml]; rfl) 4 rfl (Nat.le_of_eq rfl) (hb hby d8_63) (by decide) (by decide) (by decide) (by decide) (fun T11 rv11 X11 eh11 qc11 => ?_)
  obtain rfl := qc11
  show own_Go p.tables e below _ (T11.setTop (mkF m 66 (Array.mk [zA a, zI 0, zI 3, zI 2, zI 3, zI 3]) [.double 9218868437227405312, .double v2, .int 3, .ref la]))
  refine own_minDD X11 hx hZ hown (by decide +kernel) (hw _ (wm 47 rfl)) (hw _ (wm 48 rfl)) (hw _ (wm 18 rfl)) (hw _ (wm 49 rfl)) eh11 (own_nn Nv2) (own_nn own_infn) (by rw [hml]; rfl) 2 (Nat.le_of_eq rfl) (hb hby d8_66) (by decide) (by decide) (by decide) (by decide) (fun T12 X12 eh12 => ?_)
  have Hr3 := own_pick Nv2 own_infn
  generalize Native.java_lang_Math.nans.pick64 false v2 9218868437227405312 = r3 at Hr3 ⊢
  show own_Go p.tables e below _ (T12.setTop (mkF m 69 (Array.mk [zA a, zI 0, zI 3, zI 2, zI 3, zI 3]) [.double r3, .int 3, .ref la]))
  refine own_sD X12 hx hZ eh12 Ar7' 3 rfl (by show 3 < 4; decide) (hb hby d8_69) (fun T13 hp13 X13 eh13 Wr13 Ar13 => ?_)
  have Ar13' : own_A Z hp13 la .double [.double 9218868437227405312, .double 9218868437227405312, .double r2, .double r3] := Ar13
  have Av_13 := Av_7.other Wr13 nav
  have EX_13 := Exa.wr Wr13 EX_7
  have F1_13 := Fld.other Wr13 F1_7 (Or.inl nal)
  have F2_13 := Fld.other Wr13 F2_7 (Or.inl nal)
  have F3_13 := Fld.other Wr13 F3_7 (Or.inl nal)
  have Nf13 := Fr.snoc X13 Nf7 nl
  have Z_13 : n0 ≤ hp13.size := by rw [Wr.size Wr13]; exact Z_7
  have K_13 := Keep.wr K_7 Wr13 (Or.inl (List.mem_of_getElem? (i := 0) rfl))
  refine own_blk dec8 seq8 hby hx hZ hown hK hF 24 [true, false, false] [.ref la] X13 eh13 ?_
  show (((3 : Int32)).toInt < ((4 : Int32)).toInt) ∧ ((2 : Int32) ≠ 0) ∧ ((2 : Int32) ≠ 0) ∧ (¬ (((1 : Int32)).toInt < ((1 : Int32)).toInt)) ∧ (¬ (((1 : Int32)).toInt < ((1 : Int32)).toInt)) ∧ (Fld Z hp13 a "com/example/binwright/binwright/binning/LeastTree" "least" "[D" (.ref la)) ∧ own_Aft X13 hp13 _ 46 [zA a, zI 0, zI 3, zI 1, zI 1, zI 1] [.ref la]
  refine ⟨by decide, by decide, by decide, by decide, by decide, F2_13, fun T14 X14 eh14 => ?_⟩
  refine own_blk dec8 seq8 hby hx hZ hown hK hF 5 [] [] X14 eh14 ?_
  show own_Aft X14 hp13 _ 53 [zA a, zI 0, zI 3, zI 1, zI 1, zI 1] [.int 2, .ref a, .int 1, .ref la]
  refine fun T15 X15 eh15 => ?_
  refine own_callPP X15 hx hZ hown (hw _ (wm 43 rfl)) (hw _ (wm 45 rfl)) (hw _ (wm 6 rfl)) (hw _ (wm 44 rfl)) (hw _ (wm 7 rfl)) (hw _ (wm 46 rfl)) (by decide) eh15 EX_13 [.int 2] pd9 rfl (fr := 0) (lo := 0) (rm9_l l Z a0 hw [] a la va (2 : Int32) (4 : Int32) (3 : Int32) r2 hp13 n0 Z_13 F1_13 F2_13 F3_13 (Av_13.ln (3 : Int32) rfl) (by decide) (Ar13'.at (2 : Int32) 2 rfl rfl)) (by rw [hml]; rfl) 2 rfl (Nat.le_of_eq rfl) (hb hby d8_53) (by decide) (by decide) (by decide) (by decide) (fun T16 rv16 X16 eh16 qc16 => ?_)
  obtain rfl := qc16
  show own_Go p.tables e below _ (T16.setTop (mkF m 56 (Array.mk [zA a, zI 0, zI 3, zI 1, zI 1, zI 1]) [.double r2, .int 1, .ref la]))
  refine own_blk dec8 seq8 hby hx hZ hown hK hF 6 [] [] X16 eh16 ?_
  show own_Aft X16 hp13 _ 63 [zA a, zI 0, zI 3, zI 1, zI 1, zI 1] [.int 3, .ref a, .double r2, .int 1, .ref la]
  refine fun T17 X17 eh17 => ?_
  refine own_callPP X17 hx hZ hown (hw _ (wm 43 rfl)) (hw _ (wm 45 rfl)) (hw _ (wm 6 rfl)) (hw _ (wm 44 rfl)) (hw _ (wm 7 rfl)) (hw _ (wm 46 rfl)) (by decide) eh17 EX_13 [.int 3] pd9 rfl (fr := 0) (lo := 0) (rm9_l l Z a0 hw [] a la va (3 : Int32) (4 : Int32) (3 : Int32) r3 hp13 n0 Z_13 F1_13 F2_13 F3_13 (Av_13.ln (3 : Int32) rfl) (by decide) (Ar13'.at (3 : Int32) 3 rfl rfl)) (by rw [hml]; rfl) 4 rfl (Nat.le_of_eq rfl) (hb hby d8_63) (by decide) (by decide) (by decide) (by decide) (fun T18 rv18 X18 eh18 qc18 => ?_)
  obtain rfl := qc18
  show own_Go p.tables e below _ (T18.setTop (mkF m 66 (Array.mk [zA a, zI 0, zI 3, zI 1, zI 1, zI 1]) [.double r3, .double r2, .int 1, .ref la]))
  refine own_minDD X18 hx hZ hown (by decide +kernel) (hw _ (wm 47 rfl)) (hw _ (wm 48 rfl)) (hw _ (wm 18 rfl)) (hw _ (wm 49 rfl)) eh18 (own_nn Hr2.1) (own_nn Hr3.1) (by rw [hml]; rfl) 2 (Nat.le_of_eq rfl) (hb hby d8_66) (by decide) (by decide) (by decide) (by decide) (fun T19 X19 eh19 => ?_)
  have Hr1 := own_pick Hr2.1 Hr3.1
  generalize Native.java_lang_Math.nans.pick64 false r2 r3 = r1 at Hr1 ⊢
  show own_Go p.tables e below _ (T19.setTop (mkF m 69 (Array.mk [zA a, zI 0, zI 3, zI 1, zI 1, zI 1]) [.double r1, .int 1, .ref la]))
  refine own_sD X19 hx hZ eh19 Ar13' 1 rfl (by show 1 < 4; decide) (hb hby d8_69) (fun T20 hp20 X20 eh20 Wr20 Ar20 => ?_)
  have Ar20' : own_A Z hp20 la .double [.double 9218868437227405312, .double r1, .double r2, .double r3] := Ar20
  have Av_20 := Av_13.other Wr20 nav
  have EX_20 := Exa.wr Wr20 EX_13
  have F1_20 := Fld.other Wr20 F1_13 (Or.inl nal)
  have F2_20 := Fld.other Wr20 F2_13 (Or.inl nal)
  have F3_20 := Fld.other Wr20 F3_13 (Or.inl nal)
  have Nf20 := Fr.snoc X20 Nf13 nl
  have Z_20 : n0 ≤ hp20.size := by rw [Wr.size Wr20]; exact Z_13
  have K_20 := Keep.wr K_13 Wr20 (Or.inl (List.mem_of_getElem? (i := 0) rfl))
  refine own_blk dec8 seq8 hby hx hZ hown hK hF 17 [true, true] [] X20 eh20 ?_
  show (((1 : Int32)).toInt < ((2 : Int32)).toInt) ∧ ((2 : Int32) ≠ 0) ∧ ((2 : Int32) ≠ 0) ∧ (((0 : Int32)).toInt < ((1 : Int32)).toInt) ∧ own_Aft X20 hp20 _ 89 [zA a, zI 0, zI 3, zI 0, zI 0, zI 2] []
  refine ⟨by decide, by decide, by decide, by decide, fun T21 X21 eh21 => ?_⟩
  exact own_retV X21 hx hlk eh21 hret (hb hby d8_89) (by decide) (by decide) (⟨rfl, Nf20, K_20, r2, r3, r1, Ar20', Hr2, Hr3, Hr1⟩)
set_option maxRecDepth 65536 in
set_option maxHeartbeats 40000000 in
theorem rm8_4 (l : Launch) (Z : State) (a0 : Array Value) (hw : ∀ d ∈ tables_1, d.before a0 Z = true) (ws : List Jvm.Cond) (a la va : Addr) (v0 v1 v2 v3 : UInt64) (h0 : Heap) (n0 : Nat) (Z0 : n0 ≤ h0.size) (EX : Exa Z h0 a "com/example/binwright/binwright/binning/LeastTree") (nl : n0 ≤ la) (nav : va ≠ la) (nal : a ≠ la) (F1 : Fld Z h0 a "com/example/binwright/binwright/binning/LeastTree" "leaves" "I" (.int (4 : Int32))) (F2 : Fld Z h0 a "com/example/binwright/binwright/binning/LeastTree" "least" "[D" (.ref la)) (F3 : Fld Z h0 a "com/example/binwright/binwright/binning/LeastTree" "values" "[D" (.ref va)) (Al : own_A Z h0 la .double [.double 9218868437227405312, .double 9218868437227405312, .double 9218868437227405312, .double 9218868437227405312]) (Av : own_A Z h0 va .double [.double v0, .double v1, .double v2, .double v3]) (Nv0 : own_num v0) (Nv1 : own_num v1) (Nv2 : own_num v2) (Nv3 : own_num v3) :
    own_MF l (⟨"com/example/binwright/binwright/binning/LeastTree", "changed", "(II)V"⟩ : MethodName) prog_15_method_2_code 6 none ws ({ frames := 1, cells := 0, slots := 0, locals := 24 } : Room) #[.ref a, .int 0, .int 4] Z h0 (fun v h L => v = none ∧ Fr n0 L ∧ Keep h0 h [la] ∧ ∃ (r2 r3 r1 : UInt64), own_A Z h la .double [.double 9218868437227405312, .double r1, .double r2, .double r3] ∧ own_mn r2 v0 v1 ∧ own_mn r3 v2 v3 ∧ own_mn r1 r2 r3) := by
  refine own_body pf8 (ls0 := [.val (.ref a), .val (.int 0), .val (.int 4), .unset, .unset, .unset]) (fun m => by first | (simp [entryFrame, mkF, argsToLocals, Value.category, maxLocals]; done) | rfl) ?_
  intro p e s m below meth c T0 hx hby hml hown hnm hlk hret hZ X0 e0
  have hK := hKt2 hw; have hF := hFt2 hw
  have N0 := Fr.nil n0
  have K0 := Keep.refl h0 [la]
  refine own_blk dec8 seq8 hby hx hZ hown hK hF 24 [true, false] [.int 4, .int 4] X0 e0 ?_
  show (((0 : Int32)).toInt < ((4 : Int32)).toInt) ∧ (Fld Z h0 a "com/example/binwright/binwright/binning/LeastTree" "leaves" "I" (.int 4)) ∧ ((2 : Int32) ≠ 0) ∧ (Fld Z h0 a "com/example/binwright/binwright/binning/LeastTree" "leaves" "I" (.int 4)) ∧ ((2 : Int32) ≠ 0) ∧ (¬ (((2 : Int32)).toInt < ((1 : Int32)).toInt)) ∧ own_Aft X0 h0 _ 35 [zA a, zI 0, zI 4, zI 2, zI 3, zI 2] []
  refine ⟨by decide, F1, by decide, F1, by decide, by decide, fun T1 X1 eh1 => ?_⟩
  refine own_blk dec8 seq8 hby hx hZ hown hK hF 10 [false] [.ref la] X1 eh1 ?_
  show (¬ (((3 : Int32)).toInt < ((2 : Int32)).toInt)) ∧ (Fld Z h0 a "com/example/binwright/binwright/binning/LeastTree" "least" "[D" (.ref la)) ∧ own_Aft X1 h0 _ 53 [zA a, zI 0, zI 4, zI 2, zI 3, zI 2] [.int 4, .ref a, .int 2, .ref la]
  refine ⟨by decide, F2, fun T2 X2 eh2 => ?_⟩
  refine own_callPP X2 hx hZ hown (hw _ (wm 43 rfl)) (hw _ (wm 45 rfl)) (hw _ (wm 6 rfl)) (hw _ (wm 44 rfl)) (hw _ (wm 7 rfl)) (hw _ (wm 46 rfl)) (by decide) eh2 EX [.int 4] pd9 rfl (fr := 0) (lo := 0) (rm9_v l Z a0 hw [] a la va (4 : Int32) (4 : Int32) (4 : Int32) v0 h0 n0 Z0 F1 F2 F3 (Av.ln (4 : Int32) rfl) (by decide) (by decide) (Av.at ((4 : Int32) - (4 : Int32)) 0 rfl rfl)) (by rw [hml]; rfl) 2 rfl (Nat.le_of_eq rfl) (hb hby d8_53) (by decide) (by decide) (by decide) (by decide) (fun T3 rv3 X3 eh3 qc3 => ?_)
  obtain rfl := qc3
  show own_Go p.tables e below _ (T3.setTop (mkF m 56 (Array.mk [zA a, zI 0, zI 4, zI 2, zI 3, zI 2]) [.double v0, .int 2, .ref la]))
  refine own_blk dec8 seq8 hby hx hZ hown hK hF 6 [] [] X3 eh3 ?_
  show own_Aft X3 h0 _ 63 [zA a, zI 0, zI 4, zI 2, zI 3, zI 2] [.int 5, .ref a, .double v0, .int 2, .ref la]
  refine fun T4 X4 eh4 => ?_
  refine own_callPP X4 hx hZ hown (hw _ (wm 43 rfl)) (hw _ (wm 45 rfl)) (hw _ (wm 6 rfl)) (hw _ (wm 44 rfl)) (hw _ (wm 7 rfl)) (hw _ (wm 46 rfl)) (by decide) eh4 EX [.int 5] pd9 rfl (fr := 0) (lo := 0) (rm9_v l Z a0 hw [] a la va (5 : Int32) (4 : Int32) (4 : Int32) v1 h0 n0 Z0 F1 F2 F3 (Av.ln (4 : Int32) rfl) (by decide) (by decide) (Av.at ((5 : Int32) - (4 : Int32)) 1 rfl rfl)) (by rw [hml]; rfl) 4 rfl (Nat.le_of_eq rfl) (hb hby d8_63) (by decide) (by decide) (by decide) (by decide) (fun T5 rv5 X5 eh5 qc5 => ?_)
  obtain rfl := qc5
  show own_Go p.tables e below _ (T5.setTop (mkF m 66 (Array.mk [zA a, zI 0, zI 4, zI 2, zI 3, zI 2]) [.double v1, .double v0, .int 2, .ref la]))
  refine own_minDD X5 hx hZ hown (by decide +kernel) (hw _ (wm 47 rfl)) (hw _ (wm 48 rfl)) (hw _ (wm 18 rfl)) (hw _ (wm 49 rfl)) eh5 (own_nn Nv0) (own_nn Nv1) (by rw [hml]; rfl) 2 (Nat.le_of_eq rfl) (hb hby d8_66) (by decide) (by decide) (by decide) (by decide) (fun T6 X6 eh6 => ?_)
  have Hr2 := own_pick Nv0 Nv1
  generalize Native.java_lang_Math.nans.pick64 false v0 v1 = r2 at Hr2 ⊢
  show own_Go p.tables e below _ (T6.setTop (mkF m 69 (Array.mk [zA a, zI 0, zI 4, zI 2, zI 3, zI 2]) [.double r2, .int 2, .ref la]))
  refine own_sD X6 hx hZ eh6 Al 2 rfl (by show 2 < 4; decide) (hb hby d8_69) (fun T7 hp7 X7 eh7 Wr7 Ar7 => ?_)
  have Ar7' : own_A Z hp7 la .double [.double 9218868437227405312, .double 9218868437227405312, .double r2, .double 9218868437227405312] := Ar7
  have Av_7 := Av.other Wr7 nav
  have EX_7 := Exa.wr Wr7 EX
  have F1_7 := Fld.other Wr7 F1 (Or.inl nal)
  have F2_7 := Fld.other Wr7 F2 (Or.inl nal)
  have F3_7 := Fld.other Wr7 F3 (Or.inl nal)
  have Nf7 := Fr.snoc X7 N0 nl
  have Z_7 : n0 ≤ hp7.size := by rw [Wr.size Wr7]; exact Z0
  have K_7 := Keep.wr K0 Wr7 (Or.inl (List.mem_of_getElem? (i := 0) rfl))
  refine own_blk dec8 seq8 hby hx hZ hown hK hF 12 [false] [.ref la] X7 eh7 ?_
  show (¬ (((3 : Int32)).toInt < ((3 : Int32)).toInt)) ∧ (Fld Z hp7 a "com/example/binwright/binwright/binning/LeastTree" "least" "[D" (.ref la)) ∧ own_Aft X7 hp7 _ 53 [zA a, zI 0, zI 4, zI 2, zI 3, zI 3] [.int 6, .ref a, .int 3, .ref la]
  refine ⟨by decide, F2_7, fun T8 X8 eh8 => ?_⟩
  refine own_callPP X8 hx hZ hown (hw _ (wm 43 rfl)) (hw _ (wm 45 rfl)) (hw _ (wm 6 rfl)) (hw _ (wm 44 rfl)) (hw _ (wm 7 rfl)) (hw _ (wm 46 rfl)) (by decide) eh8 EX_7 [.int 6] pd9 rfl (fr := 0) (lo := 0) (rm9_v l Z a0 hw [] a la va (6 : Int32) (4 : Int32) (4 : Int32) v2 hp7 n0 Z_7 F1_7 F2_7 F3_7 (Av_7.ln (4 : Int32) rfl) (by decide) (by decide) (Av_7.at ((6 : Int32) - (4 : Int32)) 2 rfl rfl)) (by rw [hml]; rfl) 2 rfl (Nat.le_of_eq rfl) (hb hby d8_53) (by decide) (by decide) (by decide) (by decide) (fun T9 rv9 X9 eh9 qc9 => ?_)
  obtain rfl := qc9
  show own_Go p.tables e below _ (T9.setTop (mkF m 56 (Array.mk [zA a, zI 0, zI 4, zI 2, zI 3, zI 3]) [.double v2, .int 3, .ref la]))
  refine own_blk dec8 seq8 hby hx hZ hown hK hF 6 [] [] X9 eh9 ?_
  show own_Aft X9 hp7 _ 63 [zA a, zI 0, zI 4, zI 2, zI 3, zI 3] [.int 7, .ref a, .double v2, .int 3, .ref la]
  refine fun T10 X10 eh10 => ?_
  refine own_callPP X10 hx hZ hown (hw _ (wm 43 rfl)) (hw _ (wm 45 rfl)) (hw _ (wm 6 rfl)) (hw _ (wm 44 rfl)) (hw _ (wm 7 rfl)) (hw _ (wm 46 rfl)) (by decide) eh10 EX_7 [.int 7] pd9 rfl (fr := 0) (lo := 0) (rm9_v l Z a0 hw [] a la va (7 : Int32) (4 : Int32) (4 : Int32) v3 hp7 n0 Z_7 F1_7 F2_7 F3_7 (Av_7.ln (4 : Int32) rfl) (by decide) (by decide) (Av_7.at ((7 : Int32) - (4 : Int32)) 3 rfl rfl)) (by rw [hml]; rfl) 4 rfl (Nat.le_of_eq rfl) (hb hby d8_63) (by decide) (by decide) (by decide) (by decide) (fun T11 rv11 X11 eh11 qc11 => ?_)
  obtain rfl := qc11
  show own_Go p.tables e below _ (T11.setTop (mkF m 66 (Array.mk [zA a, zI 0, zI 4, zI 2, zI 3, zI 3]) [.double v3, .double v2, .int 3, .ref la]))
  refine own_minDD X11 hx hZ hown (by decide +kernel) (hw _ (wm 47 rfl)) (hw _ (wm 48 rfl)) (hw _ (wm 18 rfl)) (hw _ (wm 49 rfl)) eh11 (own_nn Nv2) (own_nn Nv3) (by rw [hml]; rfl) 2 (Nat.le_of_eq rfl) (hb hby d8_66) (by decide) (by decide) (by decide) (by decide) (fun T12 X12 eh12 => ?_)
  have Hr3 := own_pick Nv2 Nv3
  generalize Native.java_lang_Math.nans.pick64 false v2 v3 = r3 at Hr3 ⊢
  show own_Go p.tables e below _ (T12.setTop (mkF m 69 (Array.mk [zA a, zI 0, zI 4, zI 2, zI 3, zI 3]) [.double r3, .int 3, .ref la]))
  refine own_sD X12 hx hZ eh12 Ar7' 3 rfl (by show 3 < 4; decide) (hb hby d8_69) (fun T13 hp13 X13 eh13 Wr13 Ar13 => ?_)
  have Ar13' : own_A Z hp13 la .double [.double 9218868437227405312, .double 9218868437227405312, .double r2, .double r3] := Ar13
  have Av_13 := Av_7.other Wr13 nav
  have EX_13 := Exa.wr Wr13 EX_7
  have F1_13 := Fld.other Wr13 F1_7 (Or.inl nal)
  have F2_13 := Fld.other Wr13 F2_7 (Or.inl nal)
  have F3_13 := Fld.other Wr13 F3_7 (Or.inl nal)
  have Nf13 := Fr.snoc X13 Nf7 nl
  have Z_13 : n0 ≤ hp13.size := by rw [Wr.size Wr13]; exact Z_7
  have K_13 := Keep.wr K_7 Wr13 (Or.inl (List.mem_of_getElem? (i := 0) rfl))
  refine own_blk dec8 seq8 hby hx hZ hown hK hF 24 [true, false, false] [.ref la] X13 eh13 ?_
  show (((3 : Int32)).toInt < ((4 : Int32)).toInt) ∧ ((2 : Int32) ≠ 0) ∧ ((2 : Int32) ≠ 0) ∧ (¬ (((1 : Int32)).toInt < ((1 : Int32)).toInt)) ∧ (¬ (((1 : Int32)).toInt < ((1 : Int32)).toInt)) ∧ (Fld Z hp13 a "com/example/binwright/binwright/binning/LeastTree" "least" "[D" (.ref la)) ∧ own_Aft X13 hp13 _ 46 [zA a, zI 0, zI 4, zI 1, zI 1, zI 1] [.ref la]
  refine ⟨by decide, by decide, by decide, by decide, by decide, F2_13, fun T14 X14 eh14 => ?_⟩
  refine own_blk dec8 seq8 hby hx hZ hown hK hF 5 [] [] X14 eh14 ?_
  show own_Aft X14 hp13 _ 53 [zA a, zI 0, zI 4, zI 1, zI 1, zI 1] [.int 2, .ref a, .int 1, .ref la]
  refine fun T15 X15 eh15 => ?_
  refine own_callPP X15 hx hZ hown (hw _ (wm 43 rfl)) (hw _ (wm 45 rfl)) (hw _ (wm 6 rfl)) (hw _ (wm 44 rfl)) (hw _ (wm 7 rfl)) (hw _ (wm 46 rfl)) (by decide) eh15 EX_13 [.int 2] pd9 rfl (fr := 0) (lo := 0) (rm9_l l Z a0 hw [] a la va (2 : Int32) (4 : Int32) (4 : Int32) r2 hp13 n0 Z_13 F1_13 F2_13 F3_13 (Av_13.ln (4 : Int32) rfl) (by decide) (Ar13'.at (2 : Int32) 2 rfl rfl)) (by rw [hml]; rfl) 2 rfl (Nat.le_of_eq rfl) (hb hby d8_53) (by decide) (by decide) (by decide) (by decide) (fun T16 rv16 X16 eh16 qc16 => ?_)
  obtain rfl := qc16
  show own_Go p.tables e below _ (T16.setTop (mkF m 56 (Array.mk [zA a, zI 0, zI 4, zI 1, zI 1, zI 1]) [.double r2, .int 1, .ref la]))
  refine own_blk dec8 seq8 hby hx hZ hown hK hF 6 [] [] X16 eh16 ?_
  show own_Aft X16 hp13 _ 63 [zA a, zI 0, zI 4, zI 1, zI 1, zI 1] [.int 3, .ref a, .double r2, .int 1, .ref la]
  refine fun T17 X17 eh17 => ?_
  refine own_callPP X17 hx hZ hown (hw _ (wm 43 rfl)) (hw _ (wm 45 rfl)) (hw _ (wm 6 rfl)) (hw _ (wm 44 rfl)) (hw _ (wm 7 rfl)) (hw _ (wm 46 rfl)) (by decide) eh17 EX_13 [.int 3] pd9 rfl (fr := 0) (lo := 0) (rm9_l l Z a0 hw [] a la va (3 : Int32) (4 : Int32) (4 : Int32) r3 hp13 n0 Z_13 F1_13 F2_13 F3_13 (Av_13.ln (4 : Int32) rfl) (by decide) (Ar13'.at (3 : Int32) 3 rfl rfl)) (by rw [hml]; rfl) 4 rfl (Nat.le_of_eq rfl) (hb hby d8_63) (by decide) (by decide) (by decide) (by decide) (fun T18 rv18 X18 eh18 qc18 => ?_)
  obtain rfl := qc18
  show own_Go p.tables e below _ (T18.setTop (mkF m 66 (Array.mk [zA a, zI 0, zI 4, zI 1, zI 1, zI 1]) [.double r3, .double r2, .int 1, .ref la]))
  refine own_minDD X18 hx hZ hown (by decide +kernel) (hw _ (wm 47 rfl)) (hw _ (wm 48 rfl)) (hw _ (wm 18 rfl)) (hw _ (wm 49 rfl)) eh18 (own_nn Hr2.1) (own_nn Hr3.1) (by rw [hml]; rfl) 2 (Nat.le_of_eq rfl) (hb hby d8_66) (by decide) (by decide) (by decide) (by decide) (fun T19 X19 eh19 => ?_)
  have Hr1 := own_pick Hr2.1 Hr3.1
  generalize Native.java_lang_Math.nans.pick64 false r2 r3 = r1 at Hr1 ⊢
  show own_Go p.tables e below _ (T19.setTop (mkF m 69 (Array.mk [zA a, zI 0, zI 4, zI 1, zI 1, zI 1]) [.double r1, .int 1, .ref la]))
  refine own_sD X19 hx hZ eh19 Ar13' 1 rfl (by show 1 < 4; decide) (hb hby d8_69) (fun T20 hp20 X20 eh20 Wr20 Ar20 => ?_)
  have Ar20' : own_A Z hp20 la .double [.double 9218868437227405312, .double r1, .double r2, .double r3] := Ar20
  have Av_20 := Av_13.other Wr20 nav
  have EX_20 := Exa.wr Wr20 EX_13
  have F1_20 := Fld.other Wr20 F1_13 (Or.inl nal)
  have F2_20 := Fld.other Wr20 F2_13 (Or.inl nal)
  have F3_20 := Fld.other Wr20 F3_13 (Or.inl nal)
  have Nf20 := Fr.snoc X20 Nf13 nl
  have Z_20 : n0 ≤ hp20.size := by rw [Wr.size Wr20]; exact Z_13
  have K_20 := Keep.wr K_13 Wr20 (Or.inl (List.mem_of_getElem? (i := 0) rfl))
  refine own_blk dec8 seq8 hby hx hZ hown hK hF 17 [true, true] [] X20 eh20 ?_
  show (((1 : Int32)).toInt < ((2 : Int32)).toInt) ∧ ((2 : Int32) ≠ 0) ∧ ((2 : Int32) ≠ 0) ∧ (((0 : Int32)).toInt < ((1 : Int32)).toInt) ∧ own_Aft X20 hp20 _ 89 [zA a, zI 0, zI 4, zI 0, zI 0, zI 2] []
  refine ⟨by decide, by decide, by decide, by decide, fun T21 X21 eh21 => ?_⟩
  exact own_retV X21 hx hlk eh21 hret (hb hby d8_89) (by decide) (by decide) (⟨rfl, Nf20, K_20, r2, r3, r1, Ar20', Hr2, Hr3, Hr1⟩)
set_option maxRecDepth 65536 in
set_option maxHeartbeats 40000000 in
theorem rm8_5 (l : Launch) (Z : State) (a0 : Array Value) (hw : ∀ d ∈ tables_1, d.before a0 Z = true) (ws : List Jvm.Cond) (a la va : Addr) (v0 v1 v2 v3 v4 : UInt64) (h0 : Heap) (n0 : Nat) (Z0 : n0 ≤ h0.size) (EX : Exa Z h0 a "com/example/binwright/binwright/binning/LeastTree") (nl : n0 ≤ la) (nav : va ≠ la) (nal : a ≠ la) (F1 : Fld Z h0 a "com/example/binwright/binwright/binning/LeastTree" "leaves" "I" (.int (8 : Int32))) (F2 : Fld Z h0 a "com/example/binwright/binwright/binning/LeastTree" "least" "[D" (.ref la)) (F3 : Fld Z h0 a "com/example/binwright/binwright/binning/LeastTree" "values" "[D" (.ref va)) (Al : own_A Z h0 la .double [.double 9218868437227405312, .double 9218868437227405312, .double 9218868437227405312, .double 9218868437227405312, .double 9218868437227405312, .double 9218868437227405312, .double 9218868437227405312, .double 9218868437227405312]) (Av : own_A Z h0 va .double [.double v0, .double v1, .double v2, .double v3, .double v4]) (Nv0 : own_num v0) (Nv1 : own_num v1) (Nv2 : own_num v2) (Nv3 : own_num v3) (Nv4 : own_num v4) :
    own_MF l (⟨"com/example/binwright/binwright/binning/LeastTree", "changed", "(II)V"⟩ : MethodName) prog_15_method_2_code 6 none ws ({ frames := 1, cells := 0, slots := 0, locals := 24 } : Room) #[.ref a, .int 0, .int 5] Z h0 (fun v h L => v = none ∧ Fr n0 L ∧ Keep h0 h [la] ∧ ∃ (r4 r5 r6 r2 r3 r1 : UInt64), own_A Z h la .double [.double 9218868437227405312, .double r1, .double r2, .double r3, .double r4, .double r5, .double r6, .double 9218868437227405312] ∧ own_mn r4 v0 v1 ∧ own_mn r5 v2 v3 ∧ own_mn r6 v4 9218868437227405312 ∧ own_mn r2 r4 r5 ∧ own_mn r3 r6 9218868437227405312 ∧ own_mn r1 r2 r3) := by
  refine own_body pf8 (ls0 := [.val (.ref a), .val (.int 0), .val (.int 5), .unset, .unset, .unset]) (fun m => by first | (simp [entryFrame, mkF, argsToLocals, Value.category, maxLocals]; done) | rfl) ?_
  intro p e s m below meth c T0 hx hby hml hown hnm hlk hret hZ X0 e0
  have hK := hKt2 hw; have hF := hFt2 hw
  have N0 := Fr.nil n0
  have K0 := Keep.refl h0 [la]
  refine own_blk dec8 seq8 hby hx hZ hown hK hF 24 [true, false] [.int 8, .int 8] X0 e0 ?_
  show (((0 : Int32)).toInt < ((5 : Int32)).toInt) ∧ (Fld Z h0 a "com/example/binwright/binwright/binning/LeastTree" "leaves" "I" (.int 8)) ∧ ((2 : Int32) ≠ 0) ∧ (Fld Z h0 a "com/example/binwright/binwright/binning/LeastTree" "leaves" "I" (.int 8)) ∧ ((2 : Int32) ≠ 0) ∧ (¬ (((4 : Int32)).toInt < ((1 : Int32)).toInt)) ∧ own_Aft X0 h0 _ 35 [zA a, zI 0, zI 5, zI 4, zI 6, zI 4] []
  refine ⟨by decide, F1, by decide, F1, by decide, by decide, fun T1 X1 eh1 => ?_⟩
  refine own_blk dec8 seq8 hby hx hZ hown hK hF 10 [false] [.ref la] X1 eh1 ?_
  show (¬ (((6 : Int32)).toInt < ((4 : Int32)).toInt)) ∧ (Fld Z h0 a "com/example/binwright/binwright/binning/LeastTree" "least" "[D" (.ref la)) ∧ own_Aft X1 h0 _ 53 [zA a, zI 0, zI 5, zI 4, zI 6, zI 4] [.int 8, .ref a, .int 4, .ref la]
  refine ⟨by decide, F2, fun T2 X2 eh2 => ?_⟩
  refine own_callPP X2 hx hZ hown (hw _ (wm 43 rfl)) (hw _ (wm 45 rfl)) (hw _ (wm 6 rfl)) (hw _ (wm 44 rfl)) (hw _ (wm 7 rfl)) (hw _ (wm 46 rfl)) (by decide) eh2 EX [.int 8] pd9 rfl (fr := 0) (lo := 0) (rm9_v l Z a0 hw [] a la va (8 : Int32) (8 : Int32) (5 : Int32) v0 h0 n0 Z0 F1 F2 F3 (Av.ln (5 : Int32) rfl) (by decide) (by decide) (Av.at ((8 : Int32) - (8 : Int32)) 0 rfl rfl)) (by rw [hml]; rfl) 2 rfl (Nat.le_of_eq rfl) (hb hby d8_53) (by decide) (by decide) (by decide) (by decide) (fun T3 rv3 X3 eh3 qc3 => ?_)
  obtain rfl := qc3
  show own_Go p.tables e below _ (T3.setTop (mkF m 56 (Array.mk [zA a, zI 0, zI 5, zI 4, zI 6, zI 4]) [.double v0, .int 4, .ref la]))
  refine own_blk dec8 seq8 hby hx hZ hown hK hF 6 [] [] X3 eh3 ?_
  show own_Aft X3 h0 _ 63 [zA a, zI 0, zI 5, zI 4, zI 6, zI 4] [.int 9, .ref a, .double v0, .int 4, .ref la]
  refine fun T4 X4 eh4 => ?_
  refine own_callPP X4 hx hZ hown (hw _ (wm 43 rfl)) (hw _ (wm 45 rfl)) (hw _ (wm 6 rfl)) (hw _ (wm 44 rfl)) (hw _ (wm 7 rfl)) (hw _ (wm 46 rfl)) (by decide) eh4 EX [.int 9] pd9 rfl (fr := 0) (lo := 0) (rm9_v l Z a0 hw [] a la va (9 : Int32) (8 : Int32) (5 : Int32) v1 h0 n0 Z0 F1 F2 F3 (Av.ln (5 : Int32) rfl) (by decide) (by decide) (Av.at ((9 : Int32) - (8 : Int32)) 1 rfl rfl)) (by rw [hml]; rfl) 4 rfl (Nat.le_of_eq rfl) (hb hby d8_63) (by decide) (by decide) (by decide) (by decide) (fun T5 rv5 X5 eh5 qc5 => ?_)
  obtain rfl := qc5
  show own_Go p.tables e below _ (T5.setTop (mkF m 66 (Array.mk [zA a, zI 0, zI 5, zI 4, zI 6, zI 4]) [.double v1, .double v0, .int 4, .ref la]))
  refine own_minDD X5 hx hZ hown (by decide +kernel) (hw _ (wm 47 rfl)) (hw _ (wm 48 rfl)) (hw _ (wm 18 rfl)) (hw _ (wm 49 rfl)) eh5 (own_nn Nv0) (own_nn Nv1) (by rw [hml]; rfl) 2 (Nat.le_of_eq rfl) (hb hby d8_66) (by decide) (by decide) (by decide) (by decide) (fun T6 X6 eh6 => ?_)
  have Hr4 := own_pick Nv0 Nv1
  generalize Native.java_lang_Math.nans.pick64 false v0 v1 = r4 at Hr4 ⊢
  show own_Go p.tables e below _ (T6.setTop (mkF m 69 (Array.mk [zA a, zI 0, zI 5, zI 4, zI 6, zI 4]) [.double r4, .int 4, .ref la]))
  refine own_sD X6 hx hZ eh6 Al 4 rfl (by show 4 < 8; decide) (hb hby d8_69) (fun T7 hp7 X7 eh7 Wr7 Ar7 => ?_)
  have Ar7' : own_A Z hp7 la .double [.double 9218868437227405312, .double 9218868437227405312, .double 9218868437227405312, .double 9218868437227405312, .double r4, .double 9218868437227405312, .double 9218868437227405312, .double 9218868437227405312] := Ar7
  have Av_7 := Av.other Wr7 nav
  have EX_7 := Exa.wr Wr7 EX
  have F1_7 := Fld.other Wr7 F1 (Or.inl nal)
  have F2_7 := Fld.other Wr7 F2 (Or.inl nal)
  have F3_7 := Fld.other Wr7 F3 (Or.inl nal)
  have Nf7 := Fr.snoc X7 N0 nl
  have Z_7 : n0 ≤ hp7.size := by rw [Wr.size Wr7]; exact Z0
  have K_7 := Keep.wr K0 Wr7 (Or.inl (List.mem_of_getElem? (i := 0) rfl))
  refine own_blk dec8 seq8 hby hx hZ hown hK hF 12 [false] [.ref la] X7 eh7 ?_
  show (¬ (((6 : Int32)).toInt < ((5 : Int32)).toInt)) ∧ (Fld Z hp7 a "com/example/binwright/binwright/binning/LeastTree" "least" "[D" (.ref la)) ∧ own_Aft X7 hp7 _ 53 [zA a, zI 0, zI 5, zI 4, zI 6, zI 5] [.int 10, .ref a, .int 5, .ref la]
  refine ⟨by decide, F2_7, fun T8 X8 eh8 => ?_⟩
  refine own_callPP X8 hx hZ hown (hw _ (wm 43 rfl)) (hw _ (wm 45 rfl)) (hw _ (wm 6 rfl)) (hw _ (wm 44 rfl)) (hw _ (wm 7 rfl)) (hw _ (wm 46 rfl)) (by decide) eh8 EX_7 [.int 10] pd9 rfl (fr := 0) (lo := 0) (rm9_v l Z a0 hw [] a la va (10 : Int32) (8 : Int32) (5 : Int32) v2 hp7 n0 Z_7 F1_7 F2_7 F3_7 (Av_7.ln (5 : Int32) rfl) (by decide) (by decide) (Av_7.at ((10 : Int32) - (8 : Int32)) 2 rfl rfl)) (by rw [hml]; rfl) 2 rfl (Nat.le_of_eq rfl) (hb hby d8_53) (by decide) (by decide) (by decide) (by decide) (fun T9 rv9 X9 eh9 qc9 => ?_)
  obtain rfl := qc9
  show own_Go p.tables e below _ (T9.setTop (mkF m 56 (Array.mk [zA a, zI 0, zI 5, zI 4, zI 6, zI 5]) [.double v2, .int 5, .ref la]))
  refine own_blk dec8 seq8 hby hx hZ hown hK hF 6 [] [] X9 eh9 ?_
  show own_Aft X9 hp7 _ 63 [zA a, zI 0, zI 5, zI 4, zI 6, zI 5] [.int 11, .ref a, .double v2, .int 5, .ref la]
  refine fun T10 X10 eh10 => ?_
  refine own_callPP X10 hx hZ hown (hw _ (wm 43 rfl)) (hw _ (wm 45 rfl)) (hw _ (wm 6 rfl)) (hw _ (wm 44 rfl)) (hw _ (wm 7 rfl)) (hw _ (wm 46 rfl)) (by decide) eh10 EX_7 [.int 11] pd9 rfl (fr := 0) (lo := 0) (rm9_v l Z a0 hw [] a la va (11 : Int32) (8 : Int32) (5 : Int32) v3 hp7 n0 Z_7 F1_7 F2_7 F3_7 (Av_7.ln (5 : Int32) rfl) (by decide) (by decide) (Av_7.at ((11 : Int32) - (8 : Int32)) 3 rfl rfl)) (by rw [hml]; rfl) 4 rfl (Nat.le_of_eq rfl) (hb hby d8_63) (by decide) (by decide) (by decide) (by decide) (fun T11 rv11 X11 eh11 qc11 => ?_)
  obtain rfl := qc11
  show own_Go p.tables e below _ (T11.setTop (mkF m 66 (Array.mk [zA a, zI 0, zI 5, zI 4, zI 6, zI 5]) [.double v3, .double v2, .int 5, .ref la]))
  refine own_minDD X11 hx hZ hown (by decide +kernel) (hw _ (wm 47 rfl)) (hw _ (wm 48 rfl)) (hw _ (wm 18 rfl)) (hw _ (wm 49 rfl)) eh11 (own_nn Nv2) (own_nn Nv3) (by rw [hml]; rfl) 2 (Nat.le_of_eq rfl) (hb hby d8_66) (by decide) (by decide) (by decide) (by decide) (fun T12 X12 eh12 => ?_)
  have Hr5 := own_pick Nv2 Nv3
  generalize Native.java_lang_Math.nans.pick64 false v2 v3 = r5 at Hr5 ⊢
  show own_Go p.tables e below _ (T12.setTop (mkF m 69 (Array.mk [zA a, zI 0, zI 5, zI 4, zI 6, zI 5]) [.double r5, .int 5, .ref la]))
  refine own_sD X12 hx hZ eh12 Ar7' 5 rfl (by show 5 < 8; decide) (hb hby d8_69) (fun T13 hp13 X13 eh13 Wr13 Ar13 => ?_)
  have Ar13' : own_A Z hp13 la .double [.double 9218868437227405312, .double 9218868437227405312, .double 9218868437227405312, .double 9218868437227405312, .double r4, .double r5, .double 9218868437227405312, .double 9218868437227405312] := Ar13
  have Av_13 := Av_7.other Wr13 nav
  have EX_13 := Exa.wr Wr13 EX_7
  have F1_13 := Fld.other Wr13 F1_7 (Or.inl nal)
  have F2_13 := Fld.other Wr13 F2_7 (Or.inl nal)
  have F3_13 := Fld.other Wr13 F3_7 (Or.inl nal)
  have Nf13 := Fr.snoc X13 Nf7 nl
  have Z_13 : n0 ≤ hp13.size := by rw [Wr.size Wr13]; exact Z_7
  have K_13 := Keep.wr K_7 Wr13 (Or.inl (List.mem_of_getElem? (i := 0) rfl))
  refine own_blk dec8 seq8 hby hx hZ hown hK hF 12 [false] [.ref la] X13 eh13 ?_
  show (¬ (((6 : Int32)).toInt < ((6 : Int32)).toInt)) ∧ (Fld Z hp13 a "com/example/binwright/binwright/binning/LeastTree" "least" "[D" (.ref la)) ∧ own_Aft X13 hp13 _ 53 [zA a, zI 0, zI 5, zI 4, zI 6, zI 6] [.int 12, .ref a, .int 6, .ref la]
  refine ⟨by decide, F2_13, fun T14 X14 eh14 => ?_⟩
  refine own_callPP X14 hx hZ hown (hw _ (wm 43 rfl)) (hw _ (wm 45 rfl)) (hw _ (wm 6 rfl)) (hw _ (wm 44 rfl)) (hw _ (wm 7 rfl)) (hw _ (wm 46 rfl)) (by decide) eh14 EX_13 [.int 12] pd9 rfl (fr := 0) (lo := 0) (rm9_v l Z a0 hw [] a la va (12 : Int32) (8 : Int32) (5 : Int32) v4 hp13 n0 Z_13 F1_13 F2_13 F3_13 (Av_13.ln (5 : Int32) rfl) (by decide) (by decide) (Av_13.at ((12 : Int32) - (8 : Int32)) 4 rfl rfl)) (by rw [hml]; rfl) 2 rfl (Nat.le_of_eq rfl) (hb hby d8_53) (by decide) (by decide) (by decide) (by decide) (fun T15 rv15 X15 eh15 qc15 => ?_)
  obtain rfl := qc15
  show own_Go p.tables e below _ (T15.setTop (mkF m 56 (Array.mk [zA a, zI 0, zI 5, zI 4, zI 6, zI 6]) [.double v4, .int 6, .ref la]))
  refine own_blk dec8 seq8 hby hx hZ hown hK hF 6 [] [] X15 eh15 ?_
  show own_Aft X15 hp13 _ 63 [zA a, zI 0, zI 5, zI 4, zI 6, zI 6] [.int 13, .ref a, .double v4, .int 6, .ref la]
  refine fun T16 X16 eh16 => ?_
  refine own_callPP X16 hx hZ hown (hw _ (wm 43 rfl)) (hw _ (wm 45 rfl)) (hw _ (wm 6 rfl)) (hw _ (wm 44 rfl)) (hw _ (wm 7 rfl)) (hw _ (wm 46 rfl)) (by decide) eh16 EX_13 [.int 13] pd9 rfl (fr := 0) (lo := 0) (rm9_o l Z a0 hw [] a la va (13 : Int32) (8 : Int32) (5 : Int32) 9218868437227405312 hp13 n0 Z_13 F1_13 F2_13 F3_13 (Av_13.ln (5 : Int32) rfl) (by decide) (by decide) rfl) (by rw [hml]; rfl) 4 rfl (Nat.le_of_eq rfl) (hb hby d8_63) (by decide) (by decide) (by decide) (by decide) (fun T17 rv17 X17 eh17 qc17 => ?_)
  obtain rfl := qc17
  show own_Go p.tables e below _ (T17.setTop (mkF m 66 (Array.mk [zA a, zI 0, zI 5, zI 4, zI 6, zI 6]) [.double 9218868437227405312, .double v4, .int 6, .ref la]))
  refine own_minDD X17 hx hZ hown (by decide +kernel) (hw _ (wm 47 rfl)) (hw _ (wm 48 rfl)) (hw _ (wm 18 rfl)) (hw _ (wm 49 rfl)) eh17 (own_nn Nv4) (own_nn own_infn) (by rw [hml]; rfl) 2 (Nat.le_of_eq rfl) (hb hby d8_66) (by decide) (by decide) (by decide) (by decide) (fun T18 X18 eh18 => ?_)
  have Hr6 := own_pick Nv4 own_infn
  generalize Native.java_lang_Math.nans.pick64 false v4 9218868437227405312 = r6 at Hr6 ⊢
  show own_Go p.tables e below _ (T18.setTop (mkF m 69 (Array.mk [zA a, zI 0, zI 5, zI 4, zI 6, zI 6]) [.double r6, .int 6, .ref la]))
  refine own_sD X18 hx hZ eh18 Ar13' 6 rfl (by show 6 < 8; decide) (hb hby d8_69) (fun T19 hp19 X19 eh19 Wr19 Ar19 => ?_)
  have Ar19' : own_A Z hp19 la .double [.double 9218868437227405312, .double 9218868437227405312, .double 9218868437227405312, .double 9218868437227405312, .double r4, .double r5, .double r6, .double 9218868437227405312] := Ar19
  have Av_19 := Av_13.other Wr19 nav
  have EX_19 := Exa.wr Wr19 EX_13
  have F1_19 := Fld.other Wr19 F1_13 (Or.inl nal)
  have F2_19 := Fld.other Wr19 F2_13 (Or.inl nal)
  have F3_19 := Fld.other Wr19 F3_13 (Or.inl nal)
  have Nf19 := Fr.snoc X19 Nf13 nl
  have Z_19 : n0 ≤ hp19.size := by rw [Wr.size Wr19]; exact Z_13
  have K_19 := Keep.wr K_13 Wr19 (Or.inl (List.mem_of_getElem? (i := 0) rfl))
  refine own_blk dec8 seq8 hby hx hZ hown hK hF 24 [true, false, false] [.ref la] X19 eh19 ?_
  show (((6 : Int32)).toInt < ((7 : Int32)).toInt) ∧ ((2 : Int32) ≠ 0) ∧ ((2 : Int32) ≠ 0) ∧ (¬ (((2 : Int32)).toInt < ((1 : Int32)).toInt)) ∧ (¬ (((3 : Int32)).toInt < ((2 : Int32)).toInt)) ∧ (Fld Z hp19 a "com/example/binwright/binwright/binning/LeastTree" "least" "[D" (.ref la)) ∧ own_Aft X19 hp19 _ 46 [zA a, zI 0, zI 5, zI 2, zI 3, zI 2] [.ref la]
  refine ⟨by decide, by decide, by decide, by decide, by decide, F2_19, fun T20 X20 eh20 => ?_⟩
  refine own_blk dec8 seq8 hby hx hZ hown hK hF 5 [] [] X20 eh20 ?_
  show own_Aft X20 hp19 _ 53 [zA a, zI 0, zI 5, zI 2, zI 3, zI 2] [.int 4, .ref a, .int 2, .ref la]
  refine fun T21 X21 eh21 => ?_
  refine own_callPP X21 hx hZ hown (hw _ (wm 43 rfl)) (hw _ (wm 45 rfl)) (hw _ (wm 6 rfl)) (hw _ (wm 44 rfl)) (hw _ (wm 7 rfl)) (hw _ (wm 46 rfl)) (by decide) eh21 EX_19 [.int 4] pd9 rfl (fr := 0) (lo := 0) (rm9_l l Z a0 hw [] a la va (4 : Int32) (8 : Int32) (5 : Int32) r4 hp19 n0 Z_19 F1_19 F2_19 F3_19 (Av_19.ln (5 : Int32) rfl) (by decide) (Ar19'.at (4 : Int32) 4 rfl rfl)) (by rw [hml]; rfl) 2 rfl (Nat.le_of_eq rfl) (hb hby d8_53) (by decide) (by decide) (by decide) (by decide) (fun T22 rv22 X22 eh22 qc22 => ?_)
  obtain rfl := qc22
  show own_Go p.tables e below _ (T22.setTop (mkF m 56 (Array.mk [zA a, zI 0, zI 5, zI 2, zI 3, zI 2]) [.double r4, .int 2, .ref la]))
  refine own_blk dec8 seq8 hby hx hZ hown hK hF 6 [] [] X22 eh22 ?_
  show own_Aft X22 hp19 _ 63 [zA a, zI 0, zI 5, zI 2, zI 3, zI 2] [.int 5, .ref a, .double r4, .int 2, .ref la]
  refine fun T23 X23 eh23 => ?_
  refine own_callPP X23 hx hZ hown (hw _ (wm 43 rfl)) (hw _ (wm 45 rfl)) (hw _ (wm 6 rfl)) (hw _ (wm 44 rfl)) (hw _ (wm 7 rfl)) (hw _ (wm 46 rfl)) (by decide) eh23 EX_19 [.int 5] pd9 rfl (fr := 0) (lo := 0) (rm9_l l Z a0 hw [] a la va (5 : Int32) (8 : Int32) (5 : Int32) r5 hp19 n0 Z_19 F1_19 F2_19 F3_19 (Av_19.ln (5 : Int32) rfl) (by decide) (Ar19'.at (5 : Int32) 5 rfl rfl)) (by rw [hml]; rfl) 4 rfl (Nat.le_of_eq rfl) (hb hby d8_63) (by decide) (by decide) (by decide) (by decide) (fun T24 rv24 X24 eh24 qc24 => ?_)
  obtain rfl := qc24
  show own_Go p.tables e below _ (T24.setTop (mkF m 66 (Array.mk [zA a, zI 0, zI 5, zI 2, zI 3, zI 2]) [.double r5, .double r4, .int 2, .ref la]))
  refine own_minDD X24 hx hZ hown (by decide +kernel) (hw _ (wm 47 rfl)) (hw _ (wm 48 rfl)) (hw _ (wm 18 rfl)) (hw _ (wm 49 rfl)) eh24 (own_nn Hr4.1) (own_nn Hr5.1) (by rw [hml]; rfl) 2 (Nat.le_of_eq rfl) (hb hby d8_66) (by decide) (by decide) (by decide) (by decide) (fun T25 X25 eh25 => ?_)
  have Hr2 := own_pick Hr4.1 Hr5.1
  generalize Native.java_lang_Math.nans.pick64 false r4 r5 = r2 at Hr2 ⊢
  show own_Go p.tables e below _ (T25.setTop (mkF m 69 (Array.mk [zA a, zI 0, zI 5, zI 2, zI 3, zI 2]) [.double r2, .int 2, .ref la]))
  refine own_sD X25 hx hZ eh25 Ar19' 2 rfl (by show 2 < 8; decide) (hb hby d8_69) (fun T26 hp26 X26 eh26 Wr26 Ar26 => ?_)
  have Ar26' : own_A Z hp26 la .double [.double 9218868437227405312, .double 9218868437227405312, .double r2, .double 9218868437227405312, .double r4, .double r5, .double r6, .double 9218868437227405312] := Ar26
  have Av_26 := Av_19.other Wr26 nav
  have EX_26 := Exa.wr Wr26 EX_19
  have F1_26 := Fld.other Wr26 F1_19 (Or.inl nal)
  have F2_26 := Fld.other Wr26 F2_19 (Or.inl nal)
  have F3_26 := Fld.other Wr26 F3_19 (Or.inl nal)
  have Nf26 := Fr.snoc X26 Nf19 nl
  have Z_26 : n0 ≤ hp26.size := by rw [Wr.size Wr26]; exact Z_19
  have K_26 := Keep.wr K_19 Wr26 (Or.inl (List.mem_of_getElem? (i := 0) rfl))
  refine own_blk dec8 seq8 hby hx hZ hown hK hF 12 [false] [.ref la] X26 eh26 ?_
  show (¬ (((3 : Int32)).toInt < ((3 : Int32)).toInt)) ∧ (Fld Z hp26 a "com/example/binwright/binwright/binning/LeastTree" "least" "[D" (.ref la)) ∧ own_Aft X26 hp26 _ 53 [zA a, zI 0, zI 5, zI 2, zI 3, zI 3] [.int 6, .ref a, .int 3, .ref la]
  refine ⟨by decide, F2_26, fun T27 X27 eh27 => ?_⟩
  refine own_callPP X27 hx hZ hown (hw _ (wm 43 rfl)) (hw _ (wm 45 rfl)) (hw _ (wm 6 rfl)) (hw _ (wm 44 rfl)) (hw _ (wm 7 rfl)) (hw _ (wm 46 rfl)) (by decide) eh27 EX_26 [.int 6] pd9 rfl (fr := 0) (lo := 0) (rm9_l l Z a0 hw [] a la va (6 : Int32) (8 : Int32) (5 : Int32) r6 hp26 n0 Z_26 F1_26 F2_26 F3_26 (Av_26.ln (5 : Int32) rfl) (by decide) (Ar26'.at (6 : Int32) 6 rfl rfl)) (by rw [hml]; rfl) 2 rfl (Nat.le_of_eq rfl) (hb hby d8_53) (by decide) (by decide) (by decide) (by decide) (fun T28 rv28 X28 eh28 qc28 => ?_)
  obtain rfl := qc28
  show own_Go p.tables e below _ (T28.setTop (mkF m 56 (Array.mk [zA a, zI 0, zI 5, zI 2, zI 3, zI 3]) [.double r6, .int 3, .ref la]))
  refine own_blk dec8 seq8 hby hx hZ hown hK hF 6 [] [] X28 eh28 ?_
  show own_Aft X28 hp26 _ 63 [zA a, zI 0, zI 5, zI 2, zI 3, zI 3] [.int 7, .ref a, .double r6, .int 3, .ref la]
  refine fun T29 X29 eh29 => ?_
  refine own_callPP X29 hx hZ hown (hw _ (wm 43 rfl)) (hw _ (wm 45 rfl)) (hw _ (wm 6 rfl)) (hw _ (wm 44 rfl)) (hw _ (wm 7 rfl)) (hw _ (wm 46 rfl)) (by decide) eh29 EX_26 [.int 7] pd9 rfl (fr := 0) (lo := 0) (rm9_l l Z a0 hw [] a la va (7 : Int32) (8 : Int32) (5 : Int32) 9218868437227405312 hp26 n0 Z_26 F1_26 F2_26 F3_26 (Av_26.ln (5 : Int32) rfl) (by decide) (Ar26'.at (7 : Int32) 7 rfl rfl)) (by rw [hml]; rfl) 4 rfl (Nat.le_of_eq rfl) (hb hby d8_63) (by decide) (by decide) (by decide) (by decide) (fun T30 rv30 X30 eh30 qc30 => ?_)
  obtain rfl := qc30
  show own_Go p.tables e below _ (T30.setTop (mkF m 66 (Array.mk [zA a, zI 0, zI 5, zI 2, zI 3, zI 3]) [.double 9218868437227405312, .double r6, .int 3, .ref la]))
  refine own_minDD X30 hx hZ hown (by decide +kernel) (hw _ (wm 47 rfl)) (hw _ (wm 48 rfl)) (hw _ (wm 18 rfl)) (hw _ (wm 49 rfl)) eh30 (own_nn Hr6.1) (own_nn own_infn) (by rw [hml]; rfl) 2 (Nat.le_of_eq rfl) (hb hby d8_66) (by decide) (by decide) (by decide) (by decide) (fun T31 X31 eh31 => ?_)
  have Hr3 := own_pick Hr6.1 own_infn
  generalize Native.java_lang_Math.nans.pick64 false r6 9218868437227405312 = r3 at Hr3 ⊢
  show own_Go p.tables e below _ (T31.setTop (mkF m 69 (Array.mk [zA a, zI 0, zI 5, zI 2, zI 3, zI 3]) [.double r3, .int 3, .ref la]))
  refine own_sD X31 hx hZ eh31 Ar26' 3 rfl (by show 3 < 8; decide) (hb hby d8_69) (fun T32 hp32 X32 eh32 Wr32 Ar32 => ?_)
  have Ar32' : own_A Z hp32 la .double [.double 9218868437227405312, .double 9218868437227405312, .double r2, .double r3, .double r4, .double r5, .double r6, .double 9218868437227405312] := Ar32
  have Av_32 := Av_26.other Wr32 nav
  have EX_32 := Exa.wr Wr32 EX_26
  have F1_32 := Fld.other Wr32 F1_26 (Or.inl nal)
  have F2_32 := Fld.other Wr32 F2_26 (Or.inl nal)
  have F3_32 := Fld.other Wr32 F3_26 (Or.inl nal)
  have Nf32 := Fr.snoc X32 Nf26 nl
  have Z_32 : n0 ≤ hp32.size := by rw [Wr.size Wr32]; exact Z_26
  have K_32 := Keep.wr K_26 Wr32 (Or.inl (List.mem_of_getElem? (i := 0) rfl))
  refine own_blk dec8 seq8 hby hx hZ hown hK hF 24 [true, false, false] [.ref la] X32 eh32 ?_
  show (((3 : Int32)).toInt < ((4 : Int32)).toInt) ∧ ((2 : Int32) ≠ 0) ∧ ((2 : Int32) ≠ 0) ∧ (¬ (((1 : Int32)).toInt < ((1 : Int32)).toInt)) ∧ (¬ (((1 : Int32)).toInt < ((1 : Int32)).toInt)) ∧ (Fld Z hp32 a "com/example/binwright/binwright/binning/LeastTree" "least" "[D" (.ref la)) ∧ own_Aft X32 hp32 _ 46 [zA a, zI 0, zI 5, zI 1, zI 1, zI 1] [.ref la]
  refine ⟨by decide, by decide, by decide, by decide, by decide, F2_32, fun T33 X33 eh33 => ?_⟩
  refine own_blk dec8 seq8 hby hx hZ hown hK hF 5 [] [] X33 eh33 ?_
  show own_Aft X33 hp32 _ 53 [zA a, zI 0, zI 5, zI 1, zI 1, zI 1] [.int 2, .ref a, .int 1, .ref la]
  refine fun T34 X34 eh34 => ?_
  refine own_callPP X34 hx hZ hown (hw _ (wm 43 rfl)) (hw _ (wm 45 rfl)) (hw _ (wm 6 rfl)) (hw _ (wm 44 rfl)) (hw _ (wm 7 rfl)) (hw _ (wm 46 rfl)) (by decide) eh34 EX_32 [.int 2] pd9 rfl (fr := 0) (lo := 0) (rm9_l l Z a0 hw [] a la va (2 : Int32) (8 : Int32) (5 : Int32) r2 hp32 n0 Z_32 F1_32 F2_32 F3_32 (Av_32.ln (5 : Int32) rfl) (by decide) (Ar32'.at (2 : Int32) 2 rfl rfl)) (by rw [hml]; rfl) 2 rfl (Nat.le_of_eq rfl) (hb hby d8_53) (by decide) (by decide) (by decide) (by decide) (fun T35 rv35 X35 eh35 qc35 => ?_)
  obtain rfl := qc35
  show own_Go p.tables e below _ (T35.setTop (mkF m 56 (Array.mk [zA a, zI 0, zI 5, zI 1, zI 1, zI 1]) [.double r2, .int 1, .ref la]))
  refine own_blk dec8 seq8 hby hx hZ hown hK hF 6 [] [] X35 eh35 ?_
  show own_Aft X35 hp32 _ 63 [zA a, zI 0, zI 5, zI 1, zI 1, zI 1] [.int 3, .ref a, .double r2, .int 1, .ref la]
  refine fun T36 X36 eh36 => ?_
  refine own_callPP X36 hx hZ hown (hw _ (wm 43 rfl)) (hw _ (wm 45 rfl)) (hw _ (wm 6 rfl)) (hw _ (wm 44 rfl)) (hw _ (wm 7 rfl)) (hw _ (wm 46 rfl)) (by decide) eh36 EX_32 [.int 3] pd9 rfl (fr := 0) (lo := 0) (rm9_l l Z a0 hw [] a la va (3 : Int32) (8 : Int32) (5 : Int32) r3 hp32 n0 Z_32 F1_32 F2_32 F3_32 (Av_32.ln (5 : Int32) rfl) (by decide) (Ar32'.at (3 : Int32) 3 rfl rfl)) (by rw [hml]; rfl) 4 rfl (Nat.le_of_eq rfl) (hb hby d8_63) (by decide) (by decide) (by decide) (by decide) (fun T37 rv37 X37 eh37 qc37 => ?_)
  obtain rfl := qc37
  show own_Go p.tables e below _ (T37.setTop (mkF m 66 (Array.mk [zA a, zI 0, zI 5, zI 1, zI 1, zI 1]) [.double r3, .double r2, .int 1, .ref la]))
  refine own_minDD X37 hx hZ hown (by decide +kernel) (hw _ (wm 47 rfl)) (hw _ (wm 48 rfl)) (hw _ (wm 18 rfl)) (hw _ (wm 49 rfl)) eh37 (own_nn Hr2.1) (own_nn Hr3.1) (by rw [hml]; rfl) 2 (Nat.le_of_eq rfl) (hb hby d8_66) (by decide) (by decide) (by decide) (by decide) (fun T38 X38 eh38 => ?_)
  have Hr1 := own_pick Hr2.1 Hr3.1
  generalize Native.java_lang_Math.nans.pick64 false r2 r3 = r1 at Hr1 ⊢
  show own_Go p.tables e below _ (T38.setTop (mkF m 69 (Array.mk [zA a, zI 0, zI 5, zI 1, zI 1, zI 1]) [.double r1, .int 1, .ref la]))
  refine own_sD X38 hx hZ eh38 Ar32' 1 rfl (by show 1 < 8; decide) (hb hby d8_69) (fun T39 hp39 X39 eh39 Wr39 Ar39 => ?_)
  have Ar39' : own_A Z hp39 la .double [.double 9218868437227405312, .double r1, .double r2, .double r3, .double r4, .double r5, .double r6, .double 9218868437227405312] := Ar39
  have Av_39 := Av_32.other Wr39 nav
  have EX_39 := Exa.wr Wr39 EX_32
  have F1_39 := Fld.other Wr39 F1_32 (Or.inl nal)
  have F2_39 := Fld.other Wr39 F2_32 (Or.inl nal)
  have F3_39 := Fld.other Wr39 F3_32 (Or.inl nal)
  have Nf39 := Fr.snoc X39 Nf32 nl
  have Z_39 : n0 ≤ hp39.size := by rw [Wr.size Wr39]; exact Z_32
  have K_39 := Keep.wr K_32 Wr39 (Or.inl (List.mem_of_getElem? (i := 0) rfl))
  refine own_blk dec8 seq8 hby hx hZ hown hK hF 17 [true, true] [] X39 eh39 ?_
  show (((1 : Int32)).toInt < ((2 : Int32)).toInt) ∧ ((2 : Int32) ≠ 0) ∧ ((2 : Int32) ≠ 0) ∧ (((0 : Int32)).toInt < ((1 : Int32)).toInt) ∧ own_Aft X39 hp39 _ 89 [zA a, zI 0, zI 5, zI 0, zI 0, zI 2] []
  refine ⟨by decide, by decide, by decide, by decide, fun T40 X40 eh40 => ?_⟩
  exact own_retV X40 hx hlk eh40 hret (hb hby d8_89) (by decide) (by decide) (⟨rfl, Nf39, K_39, r4, r5, r6, r2, r3, r1, Ar39', Hr4, Hr5, Hr6, Hr2, Hr3, Hr1⟩)
set_option maxRecDepth 65536 in
set_option maxHeartbeats 40000000 in
theorem rm8_6 (l : Launch) (Z : State) (a0 : Array Value) (hw : ∀ d ∈ tables_1, d.before a0 Z = true) (ws : List Jvm.Cond) (a la va : Addr) (v0 v1 v2 v3 v4 v5 : UInt64) (h0 : Heap) (n0 : Nat) (Z0 : n0 ≤ h0.size) (EX : Exa Z h0 a "com/example/binwright/binwright/binning/LeastTree") (nl : n0 ≤ la) (nav : va ≠ la) (nal : a ≠ la) (F1 : Fld Z h0 a "com/example/binwright/binwright/binning/LeastTree" "leaves" "I" (.int (8 : Int32))) (F2 : Fld Z h0 a "com/example/binwright/binwright/binning/LeastTree" "least" "[D" (.ref la)) (F3 : Fld Z h0 a "com/example/binwright/binwright/binning/LeastTree" "values" "[D" (.ref va)) (Al : own_A Z h0 la .double [.double 9218868437227405312, .double 9218868437227405312, .double 9218868437227405312, .double 9218868437227405312, .double 9218868437227405312, .double 9218868437227405312, .double 9218868437227405312, .double 9218868437227405312]) (Av : own_A Z h0 va .double [.double v0, .double v1, .double v2, .double v3, .double v4, .double v5]) (Nv0 : own_num v0) (Nv1 : own_num v1) (Nv2 : own_num v2) (Nv3 : own_num v3) (Nv4 : own_num v4) (Nv5 : own_num v5) :
    own_MF l (⟨"com/example/binwright/binwright/binning/LeastTree", "changed", "(II)V"⟩ : MethodName) prog_15_method_2_code 6 none ws ({ frames := 1, cells := 0, slots := 0, locals := 24 } : Room) #[.ref a, .int 0, .int 6] Z h0 (fun v h L => v = none ∧ Fr n0 L ∧ Keep h0 h [la] ∧ ∃ (r4 r5 r6 r2 r3 r1 : UInt64), own_A Z h la .double [.double 9218868437227405312, .double r1, .double r2, .double r3, .double r4, .double r5, .double r6, .double 9218868437227405312] ∧ own_mn r4 v0 v1 ∧ own_mn r5 v2 v3 ∧ own_mn r6 v4 v5 ∧ own_mn r2 r4 r5 ∧ own_mn r3 r6 9218868437227405312 ∧ own_mn r1 r2 r3) := by
  refine own_body pf8 (ls0 := [.val (.ref a), .val (.int 0), .val (.int 6), .unset, .unset, .unset]) (fun m => by first | (simp [entryFrame, mkF, argsToLocals, Value.category, maxLocals]; done) | rfl) ?_
  intro p e s m below meth c T0 hx hby hml hown hnm hlk hret hZ X0 e0
  have hK := hKt2 hw; have hF := hFt2 hw
  have N0 := Fr.nil n0
  have K0 := Keep.refl h0 [la]
  refine own_blk dec8 seq8 hby hx hZ hown hK hF 24 [true, false] [.int 8, .int 8] X0 e0 ?_
  show (((0 : Int32)).toInt < ((6 : Int32)).toInt) ∧ (Fld Z h0 a "com/example/binwright/binwright/binning/LeastTree" "leaves" "I" (.int 8)) ∧ ((2 : Int32) ≠ 0) ∧ (Fld Z h0 a "com/example/binwright/binwright/binning/LeastTree" "leaves" "I" (.int 8)) ∧ ((2 : Int32) ≠ 0) ∧ (¬ (((4 : Int32)).toInt < ((1 : Int32)).toInt)) ∧ own_Aft X0 h0 _ 35 [zA a, zI 0, zI 6, zI 4, zI 6, zI 4] []
  refine ⟨by decide, F1, by decide, F1, by decide, by decide, fun T1 X1 eh1 => ?_⟩
  refine own_blk dec8 seq8 hby hx hZ hown hK hF 10 [false] [.ref la] X1 eh1 ?_
  show (¬ (((6 : Int32)).toInt < ((4 : Int32)).toInt)) ∧ (Fld Z h0 a "com/example/binwright/binwright/binning/LeastTree" "least" "[D" (.ref la)) ∧ own_Aft X1 h0 _ 53 [zA a, zI 0, zI 6, zI 4, zI 6, zI 4] [.int 8, .ref a, .int 4, .ref la]
  refine ⟨by decide, F2, fun T2 X2 eh2 => ?_⟩
  refine own_callPP X2 hx hZ hown (hw _ (wm 43 rfl)) (hw _ (wm 45 rfl)) (hw _ (wm 6 rfl)) (hw _ (wm 44 rfl)) (hw _ (wm 7 rfl)) (hw _ (wm 46 rfl)) (by decide) eh2 EX [.int 8] pd9 rfl (fr := 0) (lo := 0) (rm9_v l Z a0 hw [] a la va (8 : Int32) (8 : Int32) (6 : Int32) v0 h0 n0 Z0 F1 F2 F3 (Av.ln (6 : Int32) rfl) (by decide) (by decide) (Av.at ((8 : Int32) - (8 : Int32)) 0 rfl rfl)) (by rw [hml]; rfl) 2 rfl (Nat.le_of_eq rfl) (hb hby d8_53) (by decide) (by decide) (by decide) (by decide) (fun T3 rv3 X3 eh3 qc3 => ?_)
  obtain rfl := qc3
  show own_Go p.tables e below _ (T3.setTop (mkF m 56 (Array.mk [zA a, zI 0, zI 6, zI 4, zI 6, zI 4]) [.double v0, .int 4, .ref la]))
  refine own_blk dec8 seq8 hby hx hZ hown hK hF 6 [] [] X3 eh3 ?_
  show own_Aft X3 h0 _ 63 [zA a, zI 0, zI 6, zI 4, zI 6, zI 4] [.int 9, .ref a, .double v0, .int 4, .ref la]
  refine fun T4 X4 eh4 => ?_
  refine own_callPP X4 hx hZ hown (hw _ (wm 43 rfl)) (hw _ (wm 45 rfl)) (hw _ (wm 6 rfl)) (hw _ (wm 44 rfl)) (hw _ (wm 7 rfl)) (hw _ (wm 46 rfl)) (by decide) eh4 EX [.int 9] pd9 rfl (fr := 0) (lo := 0) (rm9_v l Z a0 hw [] a la va (9 : Int32) (8 : Int32) (6 : Int32) v1 h0 n0 Z0 F1 F2 F3 (Av.ln (6 : Int32) rfl) (by decide) (by decide) (Av.at ((9 : Int32) - (8 : Int32)) 1 rfl rfl)) (by rw [hml]; rfl) 4 rfl (Nat.le_of_eq rfl) (hb hby d8_63) (by decide) (by decide) (by decide) (by decide) (fun T5 rv5 X5 eh5 qc5 => ?_)
  obtain rfl := qc5
  show own_Go p.tables e below _ (T5.setTop (mkF m 66 (Array.mk [zA a, zI 0, zI 6, zI 4, zI 6, zI 4]) [.double v1, .double v0, .int 4, .ref la]))
  refine own_minDD X5 hx hZ hown (by decide +kernel) (hw _ (wm 47 rfl)) (hw _ (wm 48 rfl)) (hw _ (wm 18 rfl)) (hw _ (wm 49 rfl)) eh5 (own_nn Nv0) (own_nn Nv1) (by rw [hml]; rfl) 2 (Nat.le_of_eq rfl) (hb hby d8_66) (by decide) (by decide) (by decide) (by decide) (fun T6 X6 eh6 => ?_)
  have Hr4 := own_pick Nv0 Nv1
  generalize Native.java_lang_Math.nans.pick64 false v0 v1 = r4 at Hr4 ⊢
  show own_Go p.tables e below _ (T6.setTop (mkF m 69 (Array.mk [zA a, zI 0, zI 6, zI 4, zI 6, zI 4]) [.double r4, .int 4, .ref la]))
  refine own_sD X6 hx hZ eh6 Al 4 rfl (by show 4 < 8; decide) (hb hby d8_69) (fun T7 hp7 X7 eh7 Wr7 Ar7 => ?_)
  have Ar7' : own_A Z hp7 la .double [.double 9218868437227405312, .double 9218868437227405312, .double 9218868437227405312, .double 9218868437227405312, .double r4, .double 9218868437227405312, .double 9218868437227405312, .double 9218868437227405312] := Ar7
  have Av_7 := Av.other Wr7 nav
  have EX_7 := Exa.wr Wr7 EX
  have F1_7 := Fld.other Wr7 F1 (Or.inl nal)
  have F2_7 := Fld.other Wr7 F2 (Or.inl nal)
  have F3_7 := Fld.other Wr7 F3 (Or.inl nal)
  have Nf7 := Fr.snoc X7 N0 nl
  have Z_7 : n0 ≤ hp7.size := by rw [Wr.size Wr7]; exact Z0
  have K_7 := Keep.wr K0 Wr7 (Or.inl (List.mem_of_getElem? (i := 0) rfl))
  refine own_blk dec8 seq8 hby hx hZ hown hK hF 12 [false] [.ref la] X7 eh7 ?_
  show (¬ (((6 : Int32)).toInt < ((5 : Int32)).toInt)) ∧ (Fld Z hp7 a "com/example/binwright/binwright/binning/LeastTree" "least" "[D" (.ref la)) ∧ own_Aft X7 hp7 _ 53 [zA a, zI 0, zI 6, zI 4, zI 6, zI 5] [.int 10, .ref a, .int 5, .ref la]
  refine ⟨by decide, F2_7, fun T8 X8 eh8 => ?_⟩
  refine own_callPP X8 hx hZ hown (hw _ (wm 43 rfl)) (hw _ (wm 45 rfl)) (hw _ (wm 6 rfl)) (hw _ (wm 44 rfl)) (hw _ (wm 7 rfl)) (hw _ (wm 46 rfl)) (by decide) eh8 EX_7 [.int 10] pd9 rfl (fr := 0) (lo := 0) (rm9_v l Z a0 hw [] a la va (10 : Int32) (8 : Int32) (6 : Int32) v2 hp7 n0 Z_7 F1_7 F2_7 F3_7 (Av_7.ln (6 : Int32) rfl) (by decide) (by decide) (Av_7.at ((10 : Int32) - (8 : Int32)) 2 rfl rfl)) (by rw [hml]; rfl) 2 rfl (Nat.le_of_eq rfl) (hb hby d8_53) (by decide) (by decide) (by decide) (by decide) (fun T9 rv9 X9 eh9 qc9 => ?_)
  obtain rfl := qc9
  show own_Go p.tables e below _ (T9.setTop (mkF m 56 (Array.mk [zA a, zI 0, zI 6, zI 4, zI 6, zI 5]) [.double v2, .int 5, .ref la]))
  refine own_blk dec8 seq8 hby hx hZ hown hK hF 6 [] [] X9 eh9 ?_
  show own_Aft X9 hp7 _ 63 [zA a, zI 0, zI 6, zI 4, zI 6, zI 5] [.int 11, .ref a, .double v2, .int 5, .ref la]
  refine fun T10 X10 eh10 => ?_
  refine own_callPP X10 hx hZ hown (hw _ (wm 43 rfl)) (hw _ (wm 45 rfl)) (hw _ (wm 6 rfl)) (hw _ (wm 44 rfl)) (hw _ (wm 7 rfl)) (hw _ (wm 46 rfl)) (by decide) eh10 EX_7 [.int 11] pd9 rfl (fr := 0) (lo := 0) (rm9_v l Z a0 hw [] a la va (11 : Int32) (8 : Int32) (6 : Int32) v3 hp7 n0 Z_7 F1_7 F2_7 F3_7 (Av_7.ln (6 : Int32) rfl) (by decide) (by decide) (Av_7.at ((11 : Int32) - (8 : Int32)) 3 rfl rfl)) (by rw [hml]; rfl) 4 rfl (Nat.le_of_eq rfl) (hb hby d8_63) (by decide) (by decide) (by decide) (by decide) (fun T11 rv11 X11 eh11 qc11 => ?_)
  obtain rfl := qc11
  show own_Go p.tables e below _ (T11.setTop (mkF m 66 (Array.mk [zA a, zI 0, zI 6, zI 4, zI 6, zI 5]) [.double v3, .double v2, .int 5, .ref la]))
  refine own_minDD X11 hx hZ hown (by decide +kernel) (hw _ (wm 47 rfl)) (hw _ (wm 48 rfl)) (hw _ (wm 18 rfl)) (hw _ (wm 49 rfl)) eh11 (own_nn Nv2) (own_nn Nv3) (by rw [hml]; rfl) 2 (Nat.le_of_eq rfl) (hb hby d8_66) (by decide) (by decide) (by decide) (by decide) (fun T12 X12 eh12 => ?_)
  have Hr5 := own_pick Nv2 Nv3
  generalize Native.java_lang_Math.nans.pick64 false v2 v3 = r5 at Hr5 ⊢
  show own_Go p.tables e below _ (T12.setTop (mkF m 69 (Array.mk [zA a, zI 0, zI 6, zI 4, zI 6, zI 5]) [.double r5, .int 5, .ref la]))
  refine own_sD X12 hx hZ eh12 Ar7' 5 rfl (by show 5 < 8; decide) (hb hby d8_69) (fun T13 hp13 X13 eh13 Wr13 Ar13 => ?_)
  have Ar13' : own_A Z hp13 la .double [.double 9218868437227405312, .double 9218868437227405312, .double 9218868437227405312, .double 9218868437227405312, .double r4, .double r5, .double 9218868437227405312, .double 9218868437227405312] := Ar13
  have Av_13 := Av_7.other Wr13 nav
  have EX_13 := Exa.wr Wr13 EX_7
  have F1_13 := Fld.other Wr13 F1_7 (Or.inl nal)
  have F2_13 := Fld.other Wr13 F2_7 (Or.inl nal)
  have F3_13 := Fld.other Wr13 F3_7 (Or.inl nal)
  have Nf13 := Fr.snoc X13 Nf7 nl
  have Z_13 : n0 ≤ hp13.size := by rw [Wr.size Wr13]; exact Z_7
  have K_13 := Keep.wr K_7 Wr13 (Or.inl (List.mem_of_getElem? (i := 0) rfl))
  refine own_blk dec8 seq8 hby hx hZ hown hK hF 12 [false] [.ref la] X13 eh13 ?_
  show (¬ (((6 : Int32)).toInt < ((6 : Int32)).toInt)) ∧ (Fld Z hp13 a "com/example/binwright/binwright/binning/LeastTree" "least" "[D" (.ref la)) ∧ own_Aft X13 hp13 _ 53 [zA a, zI 0, zI 6, zI 4, zI 6, zI 6] [.int 12, .ref a, .int 6, .ref la]
  refine ⟨by decide, F2_13, fun T14 X14 eh14 => ?_⟩
  refine own_callPP X14 hx hZ hown (hw _ (wm 43 rfl)) (hw _ (wm 45 rfl)) (hw _ (wm 6 rfl)) (hw _ (wm 44 rfl)) (hw _ (wm 7 rfl)) (hw _ (wm 46 rfl)) (by decide) eh14 EX_13 [.int 12] pd9 rfl (fr := 0) (lo := 0) (rm9_v l Z a0 hw [] a la va (12 : Int32) (8 : Int32) (6 : Int32) v4 hp13 n0 Z_13 F1_13 F2_13 F3_13 (Av_13.ln (6 : Int32) rfl) (by decide) (by decide) (Av_13.at ((12 : Int32) - (8 : Int32)) 4 rfl rfl)) (by rw [hml]; rfl) 2 rfl (Nat.le_of_eq rfl) (hb hby d8_53) (by decide) (by decide) (by decide) (by decide) (fun T15 rv15 X15 eh15 qc15 => ?_)
  obtain rfl := qc15
  show own_Go p.tables e below _ (T15.setTop (mkF m 56 (Array.mk [zA a, zI 0, zI 6, zI 4, zI 6, zI 6]) [.double v4, .int 6, .ref la]))
  refine own_blk dec8 seq8 hby hx hZ hown hK hF 6 [] [] X15 eh15 ?_
  show own_Aft X15 hp13 _ 63 [zA a, zI 0, zI 6, zI 4, zI 6, zI 6] [.int 13, .ref a, .double v4, .int 6, .ref la]
  refine fun T16 X16 eh16 => ?_
  refine own_callPP X16 hx hZ hown (hw _ (wm 43 rfl)) (hw _ (wm 45 rfl)) (hw _ (wm 6 rfl)) (hw _ (wm 44 rfl)) (hw _ (wm 7 rfl)) (hw _ (wm 46 rfl)) (by decide) eh16 EX_13 [.int 13] pd9 rfl (fr := 0) (lo := 0) (rm9_v l Z a0 hw [] a la va (13 : Int32) (8 : Int32) (6 : Int32) v5 hp13 n0 Z_13 F1_13 F2_13 F3_13 (Av_13.ln (6 : Int32) rfl) (by decide) (by decide) (Av_13.at ((13 : Int32) - (8 : Int32)) 5 rfl rfl)) (by rw [hml]; rfl) 4 rfl (Nat.le_of_eq rfl) (hb hby d8_63) (by decide) (by decide) (by decide) (by decide) (fun T17 rv17 X17 eh17 qc17 => ?_)
  obtain rfl := qc17
  show own_Go p.tables e below _ (T17.setTop (mkF m 66 (Array.mk [zA a, zI 0, zI 6, zI 4, zI 6, zI 6]) [.double v5, .double v4, .int 6, .ref la]))
  refine own_minDD X17 hx hZ hown (by decide +kernel) (hw _ (wm 47 rfl)) (hw _ (wm 48 rfl)) (hw _ (wm 18 rfl)) (hw _ (wm 49 rfl)) eh17 (own_nn Nv4) (own_nn Nv5) (by rw [hml]; rfl) 2 (Nat.le_of_eq rfl) (hb hby d8_66) (by decide) (by decide) (by decide) (by decide) (fun T18 X18 eh18 => ?_)
  have Hr6 := own_pick Nv4 Nv5
  generalize Native.java_lang_Math.nans.pick64 false v4 v5 = r6 at Hr6 ⊢
  show own_Go p.tables e below _ (T18.setTop (mkF m 69 (Array.mk [zA a, zI 0, zI 6, zI 4, zI 6, zI 6]) [.double r6, .int 6, .ref la]))
  refine own_sD X18 hx hZ eh18 Ar13' 6 rfl (by show 6 < 8; decide) (hb hby d8_69) (fun T19 hp19 X19 eh19 Wr19 Ar19 => ?_)
  have Ar19' : own_A Z hp19 la .double [.double 9218868437227405312, .double 9218868437227405312, .double 9218868437227405312, .double 9218868437227405312, .double r4, .double r5, .double r6, .double 9218868437227405312] := Ar19
  have Av_19 := Av_13.other Wr19 nav
  have EX_19 := Exa.wr Wr19 EX_13
  have F1_19 := Fld.other Wr19 F1_13 (Or.inl nal)
  have F2_19 := Fld.other Wr19 F2_13 (Or.inl nal)
  have F3_19 := Fld.other Wr19 F3_13 (Or.inl nal)
  have Nf19 := Fr.snoc X19 Nf13 nl
  have Z_19 : n0 ≤ hp19.size := by rw [Wr.size Wr19]; exact Z_13
  have K_19 := Keep.wr K_13 Wr19 (Or.inl (List.mem_of_getElem? (i := 0) rfl))
  refine own_blk dec8 seq8 hby hx hZ hown hK hF 24 [true, false, false] [.ref la] X19 eh19 ?_
  show (((6 : Int32)).toInt < ((7 : Int32)).toInt) ∧ ((2 : Int32) ≠ 0) ∧ ((2 : Int32) ≠ 0) ∧ (¬ (((2 : Int32)).toInt < ((1 : Int32)).toInt)) ∧ (¬ (((3 : Int32)).toInt < ((2 : Int32)).toInt)) ∧ (Fld Z hp19 a "com/example/binwright/binwright/binning/LeastTree" "least" "[D" (.ref la)) ∧ own_Aft X19 hp19 _ 46 [zA a, zI 0, zI 6, zI 2, zI 3, zI 2] [.ref la]
  refine ⟨by decide, by decide, by decide, by decide, by decide, F2_19, fun T20 X20 eh20 => ?_⟩
  refine own_blk dec8 seq8 hby hx hZ hown hK hF 5 [] [] X20 eh20 ?_
  show own_Aft X20 hp19 _ 53 [zA a, zI 0, zI 6, zI 2, zI 3, zI 2] [.int 4, .ref a, .int 2, .ref la]
  refine fun T21 X21 eh21 => ?_
  refine own_callPP X21 hx hZ hown (hw _ (wm 43 rfl)) (hw _ (wm 45 rfl)) (hw _ (wm 6 rfl)) (hw _ (wm 44 rfl)) (hw _ (wm 7 rfl)) (hw _ (wm 46 rfl)) (by decide) eh21 EX_19 [.int 4] pd9 rfl (fr := 0) (lo := 0) (rm9_l l Z a0 hw [] a la va (4 : Int32) (8 : Int32) (6 : Int32) r4 hp19 n0 Z_19 F1_19 F2_19 F3_19 (Av_19.ln (6 : Int32) rfl) (by decide) (Ar19'.at (4 : Int32) 4 rfl rfl)) (by rw [hml]; rfl) 2 rfl (Nat.le_of_eq rfl) (hb hby d8_53) (by decide) (by decide) (by decide) (by decide) (fun T22 rv22 X22 eh22 qc22 => ?_)
  obtain rfl := qc22
  show own_Go p.tables e below _ (T22.setTop (mkF m 56 (Array.mk [zA a, zI 0, zI 6, zI 2, zI 3, zI 2]) [.double r4, .int 2, .ref la]))
  refine own_blk dec8 seq8 hby hx hZ hown hK hF 6 [] [] X22 eh22 ?_
  show own_Aft X22 hp19 _ 63 [zA a, zI 0, zI 6, zI 2, zI 3, zI 2] [.int 5, .ref a, .double r4, .int 2, .ref la]
  refine fun T23 X23 eh23 => ?_
  refine own_callPP X23 hx hZ hown (hw _ (wm 43 rfl)) (hw _ (wm 45 rfl)) (hw _ (wm 6 rfl)) (hw _ (wm 44 rfl)) (hw _ (wm 7 rfl)) (hw _ (wm 46 rfl)) (by decide) eh23 EX_19 [.int 5] pd9 rfl (fr := 0) (lo := 0) (rm9_l l Z a0 hw [] a la va (5 : Int32) (8 : Int32) (6 : Int32) r5 hp19 n0 Z_19 F1_19 F2_19 F3_19 (Av_19.ln (6 : Int32) rfl) (by decide) (Ar19'.at (5 : Int32) 5 rfl rfl)) (by rw [hml]; rfl) 4 rfl (Nat.le_of_eq rfl) (hb hby d8_63) (by decide) (by decide) (by decide) (by decide) (fun T24 rv24 X24 eh24 qc24 => ?_)
  obtain rfl := qc24
  show own_Go p.tables e below _ (T24.setTop (mkF m 66 (Array.mk [zA a, zI 0, zI 6, zI 2, zI 3, zI 2]) [.double r5, .double r4, .int 2, .ref la]))
  refine own_minDD X24 hx hZ hown (by decide +kernel) (hw _ (wm 47 rfl)) (hw _ (wm 48 rfl)) (hw _ (wm 18 rfl)) (hw _ (wm 49 rfl)) eh24 (own_nn Hr4.1) (own_nn Hr5.1) (by rw [hml]; rfl) 2 (Nat.le_of_eq rfl) (hb hby d8_66) (by decide) (by decide) (by decide) (by decide) (fun T25 X25 eh25 => ?_)
  have Hr2 := own_pick Hr4.1 Hr5.1
  generalize Native.java_lang_Math.nans.pick64 false r4 r5 = r2 at Hr2 ⊢
  show own_Go p.tables e below _ (T25.setTop (mkF m 69 (Array.mk [zA a, zI 0, zI 6, zI 2, zI 3, zI 2]) [.double r2, .int 2, .ref la]))
  refine own_sD X25 hx hZ eh25 Ar19' 2 rfl (by show 2 < 8; decide) (hb hby d8_69) (fun T26 hp26 X26 eh26 Wr26 Ar26 => ?_)
  have Ar26' : own_A Z hp26 la .double [.double 9218868437227405312, .double 9218868437227405312, .double r2, .double 9218868437227405312, .double r4, .double r5, .double r6, .double 9218868437227405312] := Ar26
  have Av_26 := Av_19.other Wr26 nav
  have EX_26 := Exa.wr Wr26 EX_19
  have F1_26 := Fld.other Wr26 F1_19 (Or.inl nal)
  have F2_26 := Fld.other Wr26 F2_19 (Or.inl nal)
  have F3_26 := Fld.other Wr26 F3_19 (Or.inl nal)
  have Nf26 := Fr.snoc X26 Nf19 nl
  have Z_26 : n0 ≤ hp26.size := by rw [Wr.size Wr26]; exact Z_19
  have K_26 := Keep.wr K_19 Wr26 (Or.inl (List.mem_of_getElem? (i := 0) rfl))
  refine own_blk dec8 seq8 hby hx hZ hown hK hF 12 [false] [.ref la] X26 eh26 ?_
  show (¬ (((3 : Int32)).toInt < ((3 : Int32)).toInt)) ∧ (Fld Z hp26 a "com/example/binwright/binwright/binning/LeastTree" "least" "[D" (.ref la)) ∧ own_Aft X26 hp26 _ 53 [zA a, zI 0, zI 6, zI 2, zI 3, zI 3] [.int 6, .ref a, .int 3, .ref la]
  refine ⟨by decide, F2_26, fun T27 X27 eh27 => ?_⟩
  refine own_callPP X27 hx hZ hown (hw _ (wm 43 rfl)) (hw _ (wm 45 rfl)) (hw _ (wm 6 rfl)) (hw _ (wm 44 rfl)) (hw _ (wm 7 rfl)) (hw _ (wm 46 rfl)) (by decide) eh27 EX_26 [.int 6] pd9 rfl (fr := 0) (lo := 0) (rm9_l l Z a0 hw [] a la va (6 : Int32) (8 : Int32) (6 : Int32) r6 hp26 n0 Z_26 F1_26 F2_26 F3_26 (Av_26.ln (6 : Int32) rfl) (by decide) (Ar26'.at (6 : Int32) 6 rfl rfl)) (by rw [hml]; rfl) 2 rfl (Nat.le_of_eq rfl) (hb hby d8_53) (by decide) (by decide) (by decide) (by decide) (fun T28 rv28 X28 eh28 qc28 => ?_)
  obtain rfl := qc28
  show own_Go p.tables e below _ (T28.setTop (mkF m 56 (Array.mk [zA a, zI 0, zI 6, zI 2, zI 3, zI 3]) [.double r6, .int 3, .ref la]))
  refine own_blk dec8 seq8 hby hx hZ hown hK hF 6 [] [] X28 eh28 ?_
  show own_Aft X28 hp26 _ 63 [zA a, zI 0, zI 6, zI 2, zI 3, zI 3] [.int 7, .ref a, .double r6, .int 3, .ref la]
  refine fun T29 X29 eh29 => ?_
  refine own_callPP X29 hx hZ hown (hw _ (wm 43 rfl)) (hw _ (wm 45 rfl)) (hw _ (wm 6 rfl)) (hw _ (wm 44 rfl)) (hw _ (wm 7 rfl)) (hw _ (wm 46 rfl)) (by decide) eh29 EX_26 [.int 7] pd9 rfl (fr := 0) (lo := 0) (rm9_l l Z a0 hw [] a la va (7 : Int32) (8 : Int32) (6 : Int32) 9218868437227405312 hp26 n0 Z_26 F1_26 F2_26 F3_26 (Av_26.ln (6 : Int32) rfl) (by decide) (Ar26'.at (7 : Int32) 7 rfl rfl)) (by rw [hml]; rfl) 4 rfl (Nat.le_of_eq rfl) (hb hby d8_63) (by decide) (by decide) (by decide) (by decide) (fun T30 rv30 X30 eh30 qc30 => ?_)
  obtain rfl := qc30
  show own_Go p.tables e below _ (T30.setTop (mkF m 66 (Array.mk [zA a, zI 0, zI 6, zI 2, zI 3, zI 3]) [.double 9218868437227405312, .double r6, .int 3, .ref la]))
  refine own_minDD X30 hx hZ hown (by decide +kernel) (hw _ (wm 47 rfl)) (hw _ (wm 48 rfl)) (hw _ (wm 18 rfl)) (hw _ (wm 49 rfl)) eh30 (own_nn Hr6.1) (own_nn own_infn) (by rw [hml]; rfl) 2 (Nat.le_of_eq rfl) (hb hby d8_66) (by decide) (by decide) (by decide) (by decide) (fun T31 X31 eh31 => ?_)
  have Hr3 := own_pick Hr6.1 own_infn
  generalize Native.java_lang_Math.nans.pick64 false r6 9218868437227405312 = r3 at Hr3 ⊢
  show own_Go p.tables e below _ (T31.setTop (mkF m 69 (Array.mk [zA a, zI 0, zI 6, zI 2, zI 3, zI 3]) [.double r3, .int 3, .ref la]))
  refine own_sD X31 hx hZ eh31 Ar26' 3 rfl (by show 3 < 8; decide) (hb hby d8_69) (fun T32 hp32 X32 eh32 Wr32 Ar32 => ?_)
  have Ar32' : own_A Z hp32 la .double [.double 9218868437227405312, .double 9218868437227405312, .double r2, .double r3, .double r4, .double r5, .double r6, .double 9218868437227405312] := Ar32
  have Av_32 := Av_26.other Wr32 nav
  have EX_32 := Exa.wr Wr32 EX_26
  have F1_32 := Fld.other Wr32 F1_26 (Or.inl nal)
  have F2_32 := Fld.other Wr32 F2_26 (Or.inl nal)
  have F3_32 := Fld.other Wr32 F3_26 (Or.inl nal)
  have Nf32 := Fr.snoc X32 Nf26 nl
  have Z_32 : n0 ≤ hp32.size := by rw [Wr.size Wr32]; exact Z_26
  have K_32 := Keep.wr K_26 Wr32 (Or.inl (List.mem_of_getElem? (i := 0) rfl))
  refine own_blk dec8 seq8 hby hx hZ hown hK hF 24 [true, false, false] [.ref la] X32 eh32 ?_
  show (((3 : Int32)).toInt < ((4 : Int32)).toInt) ∧ ((2 : Int32) ≠ 0) ∧ ((2 : Int32) ≠ 0) ∧ (¬ (((1 : Int32)).toInt < ((1 : Int32)).toInt)) ∧ (¬ (((1 : Int32)).toInt < ((1 : Int32)).toInt)) ∧ (Fld Z hp32 a "com/example/binwright/binwright/binning/LeastTree" "least" "[D" (.ref la)) ∧ own_Aft X32 hp32 _ 46 [zA a, zI 0, zI 6, zI 1, zI 1, zI 1] [.ref la]
  refine ⟨by decide, by decide, by decide, by decide, by decide, F2_32, fun T33 X33 eh33 => ?_⟩
  refine own_blk dec8 seq8 hby hx hZ hown hK hF 5 [] [] X33 eh33 ?_
  show own_Aft X33 hp32 _ 53 [zA a, zI 0, zI 6, zI 1, zI 1, zI 1] [.int 2, .ref a, .int 1, .ref la]
  refine fun T34 X34 eh34 => ?_
  refine own_callPP X34 hx hZ hown (hw _ (wm 43 rfl)) (hw _ (wm 45 rfl)) (hw _ (wm 6 rfl)) (hw _ (wm 44 rfl)) (hw _ (wm 7 rfl)) (hw _ (wm 46 rfl)) (by decide) eh34 EX_32 [.int 2] pd9 rfl (fr := 0) (lo := 0) (rm9_l l Z a0 hw [] a la va (2 : Int32) (8 : Int32) (6 : Int32) r2 hp32 n0 Z_32 F1_32 F2_32 F3_32 (Av_32.ln (6 : Int32) rfl) (by decide) (Ar32'.at (2 : Int32) 2 rfl rfl)) (by rw [hml]; rfl) 2 rfl (Nat.le_of_eq rfl) (hb hby d8_53) (by decide) (by decide) (by decide) (by decide) (fun T35 rv35 X35 eh35 qc35 => ?_)
  obtain rfl := qc35
  show own_Go p.tables e below _ (T35.setTop (mkF m 56 (Array.mk [zA a, zI 0, zI 6, zI 1, zI 1, zI 1]) [.double r2, .int 1, .ref la]))
  refine own_blk dec8 seq8 hby hx hZ hown hK hF 6 [] [] X35 eh35 ?_
  show own_Aft X35 hp32 _ 63 [zA a, zI 0, zI 6, zI 1, zI 1, zI 1] [.int 3, .ref a, .double r2, .int 1, .ref la]
  refine fun T36 X36 eh36 => ?_
  refine own_callPP X36 hx hZ hown (hw _ (wm 43 rfl)) (hw _ (wm 45 rfl)) (hw _ (wm 6 rfl)) (hw _ (wm 44 rfl)) (hw _ (wm 7 rfl)) (hw _ (wm 46 rfl)) (by decide) eh36 EX_32 [.int 3] pd9 rfl (fr := 0) (lo := 0) (rm9_l l Z a0 hw [] a la va (3 : Int32) (8 : Int32) (6 : Int32) r3 hp32 n0 Z_32 F1_32 F2_32 F3_32 (Av_32.ln (6 : Int32) rfl) (by decide) (Ar32'.at (3 : Int32) 3 rfl rfl)) (by rw [hml]; rfl) 4 rfl (Nat.le_of_eq rfl) (hb hby d8_63) (by decide) (by decide) (by decide) (by decide) (fun T37 rv37 X37 eh37 qc37 => ?_)
  obtain rfl := qc37
  show own_Go p.tables e below _ (T37.setTop (mkF m 66 (Array.mk [zA a, zI 0, zI 6, zI 1, zI 1, zI 1]) [.double r3, .double r2, .int 1, .ref la]))
  refine own_minDD X37 hx hZ hown (by decide +kernel) (hw _ (wm 47 rfl)) (hw _ (wm 48 rfl)) (hw _ (wm 18 rfl)) (hw _ (wm 49 rfl)) eh37 (own_nn Hr2.1) (own_nn Hr3.1) (by rw [hml]; rfl) 2 (Nat.le_of_eq rfl) (hb hby d8_66) (by decide) (by decide) (by decide) (by decide) (fun T38 X38 eh38 => ?_)
  have Hr1 := own_pick Hr2.1 Hr3.1
  generalize Native.java_lang_Math.nans.pick64 false r2 r3 = r1 at Hr1 ⊢
  show own_Go p.tables e below _ (T38.setTop (mkF m 69 (Array.mk [zA a, zI 0, zI 6, zI 1, zI 1, zI 1]) [.double r1, .int 1, .ref la]))
  refine own_sD X38 hx hZ eh38 Ar32' 1 rfl (by show 1 < 8; decide) (hb hby d8_69) (fun T39 hp39 X39 eh39 Wr39 Ar39 => ?_)
  have Ar39' : own_A Z hp39 la .double [.double 9218868437227405312, .double r1, .double r2, .double r3, .double r4, .double r5, .double r6, .double 9218868437227405312] := Ar39
  have Av_39 := Av_32.other Wr39 nav
  have EX_39 := Exa.wr Wr39 EX_32
  have F1_39 := Fld.other Wr39 F1_32 (Or.inl nal)
  have F2_39 := Fld.other Wr39 F2_32 (Or.inl nal)
  have F3_39 := Fld.other Wr39 F3_32 (Or.inl nal)
  have Nf39 := Fr.snoc X39 Nf32 nl
  have Z_39 : n0 ≤ hp39.size := by rw [Wr.size Wr39]; exact Z_32
  have K_39 := Keep.wr K_32 Wr39 (Or.inl (List.mem_of_getElem? (i := 0) rfl))
  refine own_blk dec8 seq8 hby hx hZ hown hK hF 17 [true, true] [] X39 eh39 ?_
  show (((1 : Int32)).toInt < ((2 : Int32)).toInt) ∧ ((2 : Int32) ≠ 0) ∧ ((2 : Int32) ≠ 0) ∧ (((0 : Int32)).toInt < ((1 : Int32)).toInt) ∧ own_Aft X39 hp39 _ 89 [zA a, zI 0, zI 6, zI 0, zI 0, zI 2] []
  refine ⟨by decide, by decide, by decide, by decide, fun T40 X40 eh40 => ?_⟩
  exact own_retV X40 hx hlk eh40 hret (hb hby d8_89) (by decide) (by decide) (⟨rfl, Nf39, K_39, r4, r5, r6, r2, r3, r1, Ar39', Hr4, Hr5, Hr6, Hr2, Hr3, Hr1⟩)
set_option maxRecDepth 65536 in
set_option maxHeartbeats 40000000 in
theorem rm8_7 (l : Launch) (Z : State) (a0 : Array Value) (hw : ∀ d ∈ tables_1, d.before a0 Z = true) (ws : List Jvm.Cond) (a la va : Addr) (v0 v1 v2 v3 v4 v5 v6 : UInt64) (h0 : Heap) (n0 : Nat) (Z0 : n0 ≤ h0.size) (EX : Exa Z h0 a "com/example/binwright/binwright/binning/LeastTree") (nl : n0 ≤ la) (nav : va ≠ la) (nal : a ≠ la) (F1 : Fld Z h0 a "com/example/binwright/binwright/binning/LeastTree" "leaves" "I" (.int (8 : Int32))) (F2 : Fld Z h0 a "com/example/binwright/binwright/binning/LeastTree" "least" "[D" (.ref la)) (F3 : Fld Z h0 a "com/example/binwright/binwright/binning/LeastTree" "values" "[D" (.ref va)) (Al : own_A Z h0 la .double [.double 9218868437227405312, .double 9218868437227405312, .double 9218868437227405312, .double 9218868437227405312, .double 9218868437227405312, .double 9218868437227405312, .double 9218868437227405312, .double 9218868437227405312]) (Av : own_A Z h0 va .double [.double v0, .double v1, .double v2, .double v3, .double v4, .double v5, .double v6]) (Nv0 : own_num v0) (Nv1 : own_num v1) (Nv2 : own_num v2) (Nv3 : own_num v3) (Nv4 : own_num v4) (Nv5 : own_num v5) (Nv6 : own_num v6) :
    own_MF l (⟨"com/example/binwright/binwright/binning/LeastTree", "changed", "(II)V"⟩ : MethodName) prog_15_method_2_code 6 none ws ({ frames := 1, cells := 0, slots := 0, locals := 24 } : Room) #[.ref a, .int 0, .int 7] Z h0 (fun v h L => v = none ∧ Fr n0 L ∧ Keep h0 h [la] ∧ ∃ (r4 r5 r6 r7 r2 r3 r1 : UInt64), own_A Z h la .double [.double 9218868437227405312, .double r1, .double r2, .double r3, .double r4, .double r5, .double r6, .double r7] ∧ own_mn r4 v0 v1 ∧ own_mn r5 v2 v3 ∧ own_mn r6 v4 v5 ∧ own_mn r7 v6 9218868437227405312 ∧ own_mn r2 r4 r5 ∧ own_mn r3 r6 r7 ∧ own_mn r1 r2 r3) := by
  refine own_body pf8 (ls0 := [.val (.ref a), .val (.int 0), .val (.int 7), .unset, .unset, .unset]) (fun m => by first | (simp [entryFrame, mkF, argsToLocals, Value.category, maxLocals]; done) | rfl) ?_
  intro p e s m below meth c T0 hx hby hml hown hnm hlk hret hZ X0 e0
  have hK := hKt2 hw; have hF := hFt2 hw
  have N0 := Fr.nil n0
  have K0 := Keep.refl h0 [la]
  refine own_blk dec8 seq8 hby hx hZ hown hK hF 24 [true, false] [.int 8, .int 8] X0 e0 ?_
  show (((0 : Int32)).toInt < ((7 : Int32)).toInt) ∧ (Fld Z h0 a "com/example/binwright/binwright/binning/LeastTree" "leaves" "I" (.int 8)) ∧ ((2 : Int32) ≠ 0) ∧ (Fld Z h0 a "com/example/binwright/binwright/binning/LeastTree" "leaves" "I" (.int 8)) ∧ ((2 : Int32) ≠ 0) ∧ (¬ (((4 : Int32)).toInt < ((1 : Int32)).toInt)) ∧ own_Aft X0 h0 _ 35 [zA a, zI 0, zI 7, zI 4, zI 7, zI 4] []
  refine ⟨by decide, F1, by decide, F1, by decide, by decide, fun T1 X1 eh1 => ?_⟩
  refine own_blk dec8 seq8 hby hx hZ hown hK hF 10 [false] [.ref la] X1 eh1 ?_
  show (¬ (((7 : Int32)).toInt < ((4 : Int32)).toInt)) ∧ (Fld Z h0 a "com/example/binwright/binwright/binning/LeastTree" "least" "[D" (.ref la)) ∧ own_Aft X1 h0 _ 53 [zA a, zI 0, zI 7, zI 4, zI 7, zI 4] [.int 8, .ref a, .int 4, .ref la]
  refine ⟨by decide, F2, fun T2 X2 eh2 => ?_⟩
  refine own_callPP X2 hx hZ hown (hw _ (wm 43 rfl)) (hw _ (wm 45 rfl)) (hw _ (wm 6 rfl)) (hw _ (wm 44 rfl)) (hw _ (wm 7 rfl)) (hw _ (wm 46 rfl)) (by decide) eh2 EX [.int 8] pd9 rfl (fr := 0) (lo := 0) (rm9_v l Z a0 hw [] a la va (8 : Int32) (8 : Int32) (7 : Int32) v0 h0 n0 Z0 F1 F2 F3 (Av.ln (7 : Int32) rfl) (by decide) (by decide) (Av.at ((8 : Int32) - (8 : Int32)) 0 rfl rfl)) (by rw [hml]; rfl) 2 rfl (Nat.le_of_eq rfl) (hb hby d8_53) (by decide) (by decide) (by decide) (by decide) (fun T3 rv3 X3 eh3 qc3 => ?_)
  obtain rfl := qc3
  show own_Go p.tables e below _ (T3.setTop (mkF m 56 (Array.mk [zA a, zI 0, zI 7, zI 4, zI 7, zI 4]) [.double v0, .int 4, .ref la]))
  refine own_blk dec8 seq8 hby hx hZ hown hK hF 6 [] [] X3 eh3 ?_
  show own_Aft X3 h0 _ 63 [zA a, zI 0, zI 7, zI 4, zI 7, zI 4] [.int 9, .ref a, .double v0, .int 4, .ref la]
  refine fun T4 X4 eh4 => ?_
  refine own_callPP X4 hx hZ hown (hw _ (wm 43 rfl)) (hw _ (wm 45 rfl)) (hw _ (wm 6 rfl)) (hw _ (wm 44 rfl)) (hw _ (wm 7 rfl)) (hw _ (wm 46 rfl)) (by decide) eh4 EX [.int 9] pd9 rfl (fr := 0) (lo := 0) (rm9_v l Z a0 hw [] a la va (9 : Int32) (8 : Int32) (7 : Int32) v1 h0 n0 Z0 F1 F2 F3 (Av.ln (7 : Int32) rfl) (by decide) (by decide) (Av.at ((9 : Int32) - (8 : Int32)) 1 rfl rfl)) (by rw [hml]; rfl) 4 rfl (Nat.le_of_eq rfl) (hb hby d8_63) (by decide) (by decide) (by decide) (by decide) (fun T5 rv5 X5 eh5 qc5 => ?_)
  obtain rfl := qc5
  show own_Go p.tables e below _ (T5.setTop (mkF m 66 (Array.mk [zA a, zI 0, zI 7, zI 4, zI 7, zI 4]) [.double v1, .double v0, .int 4, .ref la]))
  refine own_minDD X5 hx hZ hown (by decide +kernel) (hw _ (wm 47 rfl)) (hw _ (wm 48 rfl)) (hw _ (wm 18 rfl)) (hw _ (wm 49 rfl)) eh5 (own_nn Nv0) (own_nn Nv1) (by rw [hml]; rfl) 2 (Nat.le_of_eq rfl) (hb hby d8_66) (by decide) (by decide) (by decide) (by decide) (fun T6 X6 eh6 => ?_)
  have Hr4 := own_pick Nv0 Nv1
  generalize Native.java_lang_Math.nans.pick64 false v0 v1 = r4 at Hr4 ⊢
  show own_Go p.tables e below _ (T6.setTop (mkF m 69 (Array.mk [zA a, zI 0, zI 7, zI 4, zI 7, zI 4]) [.double r4, .int 4, .ref la]))
  refine own_sD X6 hx hZ eh6 Al 4 rfl (by show 4 < 8; decide) (hb hby d8_69) (fun T7 hp7 X7 eh7 Wr7 Ar7 => ?_)
  have Ar7' : own_A Z hp7 la .double [.double 9218868437227405312, .double 9218868437227405312, .double 9218868437227405312, .double 9218868437227405312, .double r4, .double 9218868437227405312, .double 9218868437227405312, .double 9218868437227405312] := Ar7
  have Av_7 := Av.other Wr7 nav
  have EX_7 := Exa.wr Wr7 EX
  have F1_7 := Fld.other Wr7 F1 (Or.inl nal)
  have F2_7 := Fld.other Wr7 F2 (Or.inl nal)
  have F3_7 := Fld.other Wr7 F3 (Or.inl nal)
  have Nf7 := Fr.snoc X7 N0 nl
  have Z_7 : n0 ≤ hp7.size := by rw [Wr.size Wr7]; exact Z0
  have K_7 := Keep.wr K0 Wr7 (Or.inl (List.mem_of_getElem? (i := 0) rfl))
  refine own_blk dec8 seq8 hby hx hZ hown hK hF 12 [false] [.ref la] X7 eh7 ?_
  show (¬ (((7 : Int32)).toInt < ((5 : Int32)).toInt)) ∧ (Fld Z hp7 a "com/example/binwright/binwright/binning/LeastTree" "least" "[D" (.ref la)) ∧ own_Aft X7 hp7 _ 53 [zA a, zI 0, zI 7, zI 4, zI 7, zI 5] [.int 10, .ref a, .int 5, .ref la]
  refine ⟨by decide, F2_7, fun T8 X8 eh8 => ?_⟩
  refine own_callPP X8 hx hZ hown (hw _ (wm 43 rfl)) (hw _ (wm 45 rfl)) (hw _ (wm 6 rfl)) (hw _ (wm 44 rfl)) (hw _ (wm 7 rfl)) (hw _ (wm 46 rfl)) (by decide) eh8 EX_7 [.int 10] pd9 rfl (fr := 0) (lo := 0) (rm9_v l Z a0 hw [] a la va (10 : Int32) (8 : Int32) (7 : Int32) v2 hp7 n0 Z_7 F1_7 F2_7 F3_7 (Av_7.ln (7 : Int32) rfl) (by decide) (by decide) (Av_7.at ((10 : Int32) - (8 : Int32)) 2 rfl rfl)) (by rw [hml]; rfl) 2 rfl (Nat.le_of_eq rfl) (hb hby d8_53) (by decide) (by decide) (by decide) (by decide) (fun T9 rv9 X9 eh9 qc9 => ?_)
  obtain rfl := qc9
  show own_Go p.tables e below _ (T9.setTop (mkF m 56 (Array.mk [zA a, zI 0, zI 7, zI 4, zI 7, zI 5]) [.double v2, .int 5, .ref la]))
  refine own_blk dec8 seq8 hby hx hZ hown hK hF 6 [] [] X9 eh9 ?_
  show own_Aft X9 hp7 _ 63 [zA a, zI 0, zI 7, zI 4, zI 7, zI 5] [.int 11, .ref a, .double v2, .int 5, .ref la]
  refine fun T10 X10 eh10 => ?_
  refine own_callPP X10 hx hZ hown (hw _ (wm 43 rfl)) (hw _ (wm 45 rfl)) (hw _ (wm 6 rfl)) (hw _ (wm 44 rfl)) (hw _ (wm 7 rfl)) (hw _ (wm 46 rfl)) (by decide) eh10 EX_7 [.int 11] pd9 rfl (fr := 0) (lo := 0) (rm9_v l Z a0 hw [] a la va (11 : Int32) (8 : Int32) (7 : Int32) v3 hp7 n0 Z_7 F1_7 F2_7 F3_7 (Av_7.ln (7 : Int32) rfl) (by decide) (by decide) (Av_7.at ((11 : Int32) - (8 : Int32)) 3 rfl rfl)) (by rw [hml]; rfl) 4 rfl (Nat.le_of_eq rfl) (hb hby d8_63) (by decide) (by decide) (by decide) (by decide) (fun T11 rv11 X11 eh11 qc11 => ?_)
  obtain rfl := qc11
  show own_Go p.tables e below _ (T11.setTop (mkF m 66 (Array.mk [zA a, zI 0, zI 7, zI 4, zI 7, zI 5]) [.double v3, .double v2, .int 5, .ref la]))
  refine own_minDD X11 hx hZ hown (by decide +kernel) (hw _ (wm 47 rfl)) (hw _ (wm 48 rfl)) (hw _ (wm 18 rfl)) (hw _ (wm 49 rfl)) eh11 (own_nn Nv2) (own_nn Nv3) (by rw [hml]; rfl) 2 (Nat.le_of_eq rfl) (hb hby d8_66) (by decide) (by decide) (by decide) (by decide) (fun T12 X12 eh12 => ?_)
  have Hr5 := own_pick Nv2 Nv3
  generalize Native.java_lang_Math.nans.pick64 false v2 v3 = r5 at Hr5 ⊢
  show own_Go p.tables e below _ (T12.setTop (mkF m 69 (Array.mk [zA a, zI 0, zI 7, zI 4, zI 7, zI 5]) [.double r5, .int 5, .ref la]))
  refine own_sD X12 hx hZ eh12 Ar7' 5 rfl (by show 5 < 8; decide) (hb hby d8_69) (fun T13 hp13 X13 eh13 Wr13 Ar13 => ?_)
  have Ar13' : own_A Z hp13 la .double [.double 9218868437227405312, .double 9218868437227405312, .double 9218868437227405312, .double 9218868437227405312, .double r4, .double r5, .double 9218868437227405312, .double 9218868437227405312] := Ar13
  have Av_13 := Av_7.other Wr13 nav
  have EX_13 := Exa.wr Wr13 EX_7
  have F1_13 := Fld.other Wr13 F1_7 (Or.inl nal)
  have F2_13 := Fld.other Wr13 F2_7 (Or.inl nal)
  have F3_13 := Fld.other Wr13 F3_7 (Or.inl nal)
  have Nf13 := Fr.snoc X13 Nf7 nl
  have Z_13 : n0 ≤ hp13.size := by rw [Wr.size Wr13]; exact Z_7
  have K_13 := Keep.wr K_7 Wr13 (Or.inl (List.mem_of_getElem? (i := 0) rfl))
  refine own_blk dec8 seq8 hby hx hZ hown hK hF 12 [false] [.ref la] X13 eh13 ?_
  show (¬ (((7 : Int32)).toInt < ((6 : Int32)).toInt)) ∧ (Fld Z hp13 a "com/example/binwright/binwright/binning/LeastTree" "least" "[D" (.ref la)) ∧ own_Aft X13 hp13 _ 53 [zA a, zI 0, zI 7, zI 4, zI 7, zI 6] [.int 12, .ref a, .int 6, .ref la]
  refine ⟨by decide, F2_13, fun T14 X14 eh14 => ?_⟩
  refine own_callPP X14 hx hZ hown (hw _ (wm 43 rfl)) (hw _ (wm 45 rfl)) (hw _ (wm 6 rfl)) (hw _ (wm 44 rfl)) (hw _ (wm 7 rfl)) (hw _ (wm 46 rfl)) (by decide) eh14 EX_13 [.int 12] pd9 rfl (fr := 0) (lo := 0) (rm9_v l Z a0 hw [] a la va (12 : Int32) (8 : Int32) (7 : Int32) v4 hp13 n0 Z_13 F1_13 F2_13 F3_13 (Av_13.ln (7 : Int32) rfl) (by decide) (by decide) (Av_13.at ((12 : Int32) - (8 : Int32)) 4 rfl rfl)) (by rw [hml]; rfl) 2 rfl (Nat.le_of_eq rfl) (hb hby d8_53) (by decide) (by decide) (by decide) (by decide) (fun T15 rv15 X15 eh15 qc15 => ?_)
  obtain rfl := qc15
  show own_Go p.tables e below _ (T15.setTop (mkF m 56 (Array.mk [zA a, zI 0, zI 7, zI 4, zI 7, zI 6]) [.double v4, .int 6, .ref la]))
  refine own_blk dec8 seq8 hby hx hZ hown hK hF 6 [] [] X15 eh15 ?_
  show own_Aft X15 hp13 _ 63 [zA a, zI 0, zI 7, zI 4, zI 7, zI 6] [.int 13, .ref a, .double v4, .int 6, .ref la]
  refine fun T16 X16 eh16 => ?_
  refine own_callPP X16 hx hZ hown (hw _ (wm 43 rfl)) (hw _ (wm 45 rfl)) (hw _ (wm 6 rfl)) (hw _ (wm 44 rfl)) (hw _ (wm 7 rfl)) (hw _ (wm 46 rfl)) (by decide) eh16 EX_13 [.int 13] pd9 rfl (fr := 0) (lo := 0) (rm9_v l Z a0 hw [] a la va (13 : Int32) (8 : Int32) (7 : Int32) v5 hp13 n0 Z_13 F1_13 F2_13 F3_13 (Av_13.ln (7 : Int32) rfl) (by decide) (by decide) (Av_13.at ((13 : Int32) - (8 : Int32)) 5 rfl rfl)) (by rw [hml]; rfl) 4 rfl (Nat.le_of_eq rfl) (hb hby d8_63) (by decide) (by decide) (by decide) (by decide) (fun T17 rv17 X17 eh17 qc17 => ?_)
  obtain rfl := qc17
  show own_Go p.tables e below _ (T17.setTop (mkF m 66 (Array.mk [zA a, zI 0, zI 7, zI 4, zI 7, zI 6]) [.double v5, .double v4, .int 6, .ref la]))
  refine own_minDD X17 hx hZ hown (by decide +kernel) (hw _ (wm 47 rfl)) (hw _ (wm 48 rfl)) (hw _ (wm 18 rfl)) (hw _ (wm 49 rfl)) eh17 (own_nn Nv4) (own_nn Nv5) (by rw [hml]; rfl) 2 (Nat.le_of_eq rfl) (hb hby d8_66) (by decide) (by decide) (by decide) (by decide) (fun T18 X18 eh18 => ?_)
  have Hr6 := own_pick Nv4 Nv5
  generalize Native.java_lang_Math.nans.pick64 false v4 v5 = r6 at Hr6 ⊢
  show own_Go p.tables e below _ (T18.setTop (mkF m 69 (Array.mk [zA a, zI 0, zI 7, zI 4, zI 7, zI 6]) [.double r6, .int 6, .ref la]))
  refine own_sD X18 hx hZ eh18 Ar13' 6 rfl (by show 6 < 8; decide) (hb hby d8_69) (fun T19 hp19 X19 eh19 Wr19 Ar19 => ?_)
  have Ar19' : own_A Z hp19 la .double [.double 9218868437227405312, .double 9218868437227405312, .double 9218868437227405312, .double 9218868437227405312, .double r4, .double r5, .double r6, .double 9218868437227405312] := Ar19
  have Av_19 := Av_13.other Wr19 nav
  have EX_19 := Exa.wr Wr19 EX_13
  have F1_19 := Fld.other Wr19 F1_13 (Or.inl nal)
  have F2_19 := Fld.other Wr19 F2_13 (Or.inl nal)
  have F3_19 := Fld.other Wr19 F3_13 (Or.inl nal)
  have Nf19 := Fr.snoc X19 Nf13 nl
  have Z_19 : n0 ≤ hp19.size := by rw [Wr.size Wr19]; exact Z_13
  have K_19 := Keep.wr K_13 Wr19 (Or.inl (List.mem_of_getElem? (i := 0) rfl))
  refine own_blk dec8 seq8 hby hx hZ hown hK hF 12 [false] [.ref la] X19 eh19 ?_
  show (¬ (((7 : Int32)).toInt < ((7 : Int32)).toInt)) ∧ (Fld Z hp19 a "com/example/binwright/binwright/binning/LeastTree" "least" "[D" (.ref la)) ∧ own_Aft X19 hp19 _ 53 [zA a, zI 0, zI 7, zI 4, zI 7, zI 7] [.int 14, .ref a, .int 7, .ref la]
  refine ⟨by decide, F2_19, fun T20 X20 eh20 => ?_⟩
  refine own_callPP X20 hx hZ hown (hw _ (wm 43 rfl)) (hw _ (wm 45 rfl)) (hw _ (wm 6 rfl)) (hw _ (wm 44 rfl)) (hw _ (wm 7 rfl)) (hw _ (wm 46 rfl)) (by decide) eh20 EX_19 [.int 14] pd9 rfl (fr := 0) (lo := 0) (rm9_v l Z a0 hw [] a la va (14 : Int32) (8 : Int32) (7 : Int32) v6 hp19 n0 Z_19 F1_19 F2_19 F3_19 (Av_19.ln (7 : Int32) rfl) (by decide) (by decide) (Av_19.at ((14 : Int32) - (8 : Int32)) 6 rfl rfl)) (by rw [hml]; rfl) 2 rfl (Nat.le_of_eq rfl) (hb hby d8_53) (by decide) (by decide) (by decide) (by decide) (fun T21 rv21 X21 eh21 qc21 => ?_)
  obtain rfl := qc21
  show own_Go p.tables e below _ (T21.setTop (mkF m 56 (Array.mk [zA a, zI 0, zI 7, zI 4, zI 7, zI 7]) [.double v6, .int 7, .ref la]))
  refine own_blk dec8 seq8 hby hx hZ hown hK hF 6 [] [] X21 eh21 ?_
  show own_Aft X21 hp19 _ 63 [zA a, zI 0, zI 7, zI 4, zI 7, zI 7] [.int 15, .ref a, .double v6, .int 7, .ref la]
  refine fun T22 X22 eh22 => ?_
  refine own_callPP X22 hx hZ hown (hw _ (wm 43 rfl)) (hw _ (wm 45 rfl)) (hw _ (wm 6 rfl)) (hw _ (wm 44 rfl)) (hw _ (wm 7 rfl)) (hw _ (wm 46 rfl)) (by decide) eh22 EX_19 [.int 15] pd9 rfl (fr := 0) (lo := 0) (rm9_o l Z a0 hw [] a la va (15 : Int32) (8 : Int32) (7 : Int32) 9218868437227405312 hp19 n0 Z_19 F1_19 F2_19 F3_19 (Av_19.ln (7 : Int32) rfl) (by decide) (by decide) rfl) (by rw [hml]; rfl) 4 rfl (Nat.le_of_eq rfl) (hb hby d8_63) (by decide) (by decide) (by decide) (by decide) (fun T23 rv23 X23 eh23 qc23 => ?_)
  obtain rfl := qc23
  show own_Go p.tables e below _ (T23.setTop (mkF m 66 (Array.mk [zA a, zI 0, zI 7, zI 4, zI 7, zI 7]) [.double 9218868437227405312, .double v6, .int 7, .ref la]))
  refine own_minDD X23 hx hZ hown (by decide +kernel) (hw _ (wm 47 rfl)) (hw _ (wm 48 rfl)) (hw _ (wm 18 rfl)) (hw _ (wm 49 rfl)) eh23 (own_nn Nv6) (own_nn own_infn) (by rw [hml]; rfl) 2 (Nat.le_of_eq rfl) (hb hby d8_66) (by decide) (by decide) (by decide) (by decide) (fun T24 X24 eh24 => ?_)
  have Hr7 := own_pick Nv6 own_infn
  generalize Native.java_lang_Math.nans.pick64 false v6 9218868437227405312 = r7 at Hr7 ⊢
  show own_Go p.tables e below _ (T24.setTop (mkF m 69 (Array.mk [zA a, zI 0, zI 7, zI 4, zI 7, zI 7]) [.double r7, .int 7, .ref la]))
  refine own_sD X24 hx hZ eh24 Ar19' 7 rfl (by show 7 < 8; decide) (hb hby d8_69) (fun T25 hp25 X25 eh25 Wr25 Ar25 => ?_)
  have Ar25' : own_A Z hp25 la .double [.double 9218868437227405312, .double 9218868437227405312, .double 9218868437227405312, .double 9218868437227405312, .double r4, .double r5, .double r6, .double r7] := Ar25
  have Av_25 := Av_19.other Wr25 nav
  have EX_25 := Exa.wr Wr25 EX_19
  have F1_25 := Fld.other Wr25 F1_19 (Or.inl nal)
  have F2_25 := Fld.other Wr25 F2_19 (Or.inl nal)
  have F3_25 := Fld.other Wr25 F3_19 (Or.inl nal)
  have Nf25 := Fr.snoc X25 Nf19 nl
  have Z_25 : n0 ≤ hp25.size := by rw [Wr.size Wr25]; exact Z_19
  have K_25 := Keep.wr K_19 Wr25 (Or.inl (List.mem_of_getElem? (i := 0) rfl))
  refine own_blk dec8 seq8 hby hx hZ hown hK hF 24 [true, false, false] [.ref la] X25 eh25 ?_
  show (((7 : Int32)).toInt < ((8 : Int32)).toInt) ∧ ((2 : Int32) ≠ 0) ∧ ((2 : Int32) ≠ 0) ∧ (¬ (((2 : Int32)).toInt < ((1 : Int32)).toInt)) ∧ (¬ (((3 : Int32)).toInt < ((2 : Int32)).toInt)) ∧ (Fld Z hp25 a "com/example/binwright/binwright/binning/LeastTree" "least" "[D" (.ref la)) ∧ own_Aft X25 hp25 _ 46 [zA a, zI 0, zI 7, zI 2, zI 3, zI 2] [.ref la]
  refine ⟨by decide, by decide, by decide, by decide, by decide, F2_25, fun T26 X26 eh26 => ?_⟩
  refine own_blk dec8 seq8 hby hx hZ hown hK hF 5 [] [] X26 eh26 ?_
  show own_Aft X26 hp25 _ 53 [zA a, zI 0, zI 7, zI 2, zI 3, zI 2] [.int 4, .ref a, .int 2, .ref la]
  refine fun T27 X27 eh27 => ?_
  refine own_callPP X27 hx hZ hown (hw _ (wm 43 rfl)) (hw _ (wm 45 rfl)) (hw _ (wm 6 rfl)) (hw _ (wm 44 rfl)) (hw _ (wm 7 rfl)) (hw _ (wm 46 rfl)) (by decide) eh27 EX_25 [.int 4] pd9 rfl (fr := 0) (lo := 0) (rm9_l l Z a0 hw [] a la va (4 : Int32) (8 : Int32) (7 : Int32) r4 hp25 n0 Z_25 F1_25 F2_25 F3_25 (Av_25.ln (7 : Int32) rfl) (by decide) (Ar25'.at (4 : Int32) 4 rfl rfl)) (by rw [hml]; rfl) 2 rfl (Nat.le_of_eq rfl) (hb hby d8_53) (by decide) (by decide) (by decide) (by decide) (fun T28 rv28 X28 eh28 qc28 => ?_)
  obtain rfl := qc28
  show own_Go p.tables e below _ (T28.setTop (mkF m 56 (Array.mk [zA a, zI 0, zI 7, zI 2, zI 3, zI 2]) [.double r4, .int 2, .ref la]))
  refine own_blk dec8 seq8 hby hx hZ hown hK hF 6 [] [] X28 eh28 ?_
  show own_Aft X28 hp25 _ 63 [zA a, zI 0, zI 7, zI 2, zI 3, zI 2] [.int 5, .ref a, .double r4, .int 2, .ref la]
  refine fun T29 X29 eh29 => ?_
  refine own_callPP X29 hx hZ hown (hw _ (wm 43 rfl)) (hw _ (wm 45 rfl)) (hw _ (wm 6 rfl)) (hw _ (wm 44 rfl)) (hw _ (wm 7 rfl)) (hw _ (wm 46 rfl)) (by decide) eh29 EX_25 [.int 5] pd9 rfl (fr := 0) (lo := 0) (rm9_l l Z a0 hw [] a la va (5 : Int32) (8 : Int32) (7 : Int32) r5 hp25 n0 Z_25 F1_25 F2_25 F3_25 (Av_25.ln (7 : Int32) rfl) (by decide) (Ar25'.at (5 : Int32) 5 rfl rfl)) (by rw [hml]; rfl) 4 rfl (Nat.le_of_eq rfl) (hb hby d8_63) (by decide) (by decide) (by decide) (by decide) (fun T30 rv30 X30 eh30 qc30 => ?_)
  obtain rfl := qc30
  show own_Go p.tables e below _ (T30.setTop (mkF m 66 (Array.mk [zA a, zI 0, zI 7, zI 2, zI 3, zI 2]) [.double r5, .double r4, .int 2, .ref la]))
  refine own_minDD X30 hx hZ hown (by decide +kernel) (hw _ (wm 47 rfl)) (hw _ (wm 48 rfl)) (hw _ (wm 18 rfl)) (hw _ (wm 49 rfl)) eh30 (own_nn Hr4.1) (own_nn Hr5.1) (by rw [hml]; rfl) 2 (Nat.le_of_eq rfl) (hb hby d8_66) (by decide) (by decide) (by decide) (by decide) (fun T31 X31 eh31 => ?_)
  have Hr2 := own_pick Hr4.1 Hr5.1
  generalize Native.java_lang_Math.nans.pick64 false r4 r5 = r2 at Hr2 ⊢
  show own_Go p.tables e below _ (T31.setTop (mkF m 69 (Array.mk [zA a, zI 0, zI 7, zI 2, zI 3, zI 2]) [.double r2, .int 2, .ref la]))
  refine own_sD X31 hx hZ eh31 Ar25' 2 rfl (by show 2 < 8; decide) (hb hby d8_69) (fun T32 hp32 X32 eh32 Wr32 Ar32 => ?_)
  have Ar32' : own_A Z hp32 la .double [.double 9218868437227405312, .double 9218868437227405312, .double r2, .double 9218868437227405312, .double r4, .double r5, .double r6, .double r7] := Ar32
  have Av_32 := Av_25.other Wr32 nav
  have EX_32 := Exa.wr Wr32 EX_25
  have F1_32 := Fld.other Wr32 F1_25 (Or.inl nal)
  have F2_32 := Fld.other Wr32 F2_25 (Or.inl nal)
  have F3_32 := Fld.other Wr32 F3_25 (Or.inl nal)
  have Nf32 := Fr.snoc X32 Nf25 nl
  have Z_32 : n0 ≤ hp32.size := by rw [Wr.size Wr32]; exact Z_25
  have K_32 := Keep.wr K_25 Wr32 (Or.inl (List.mem_of_getElem? (i := 0) rfl))
  refine own_blk dec8 seq8 hby hx hZ hown hK hF 12 [false] [.ref la] X32 eh32 ?_
  show (¬ (((3 : Int32)).toInt < ((3 : Int32)).toInt)) ∧ (Fld Z hp32 a "com/example/binwright/binwright/binning/LeastTree" "least" "[D" (.ref la)) ∧ own_Aft X32 hp32 _ 53 [zA a, zI 0, zI 7, zI 2, zI 3, zI 3] [.int 6, .ref a, .int 3, .ref la]
  refine ⟨by decide, F2_32, fun T33 X33 eh33 => ?_⟩
  refine own_callPP X33 hx hZ hown (hw _ (wm 43 rfl)) (hw _ (wm 45 rfl)) (hw _ (wm 6 rfl)) (hw _ (wm 44 rfl)) (hw _ (wm 7 rfl)) (hw _ (wm 46 rfl)) (by decide) eh33 EX_32 [.int 6] pd9 rfl (fr := 0) (lo := 0) (rm9_l l Z a0 hw [] a la va (6 : Int32) (8 : Int32) (7 : Int32) r6 hp32 n0 Z_32 F1_32 F2_32 F3_32 (Av_32.ln (7 : Int32) rfl) (by decide) (Ar32'.at (6 : Int32) 6 rfl rfl)) (by rw [hml]; rfl) 2 rfl (Nat.le_of_eq rfl) (hb hby d8_53) (by decide) (by decide) (by decide) (by decide) (fun T34 rv34 X34 eh34 qc34 => ?_)
  obtain rfl := qc34
  show own_Go p.tables e below _ (T34.setTop (mkF m 56 (Array.mk [zA a, zI 0, zI 7, zI 2, zI 3, zI 3]) [.double r6, .int 3, .ref la]))
  refine own_blk dec8 seq8 hby hx hZ hown hK hF 6 [] [] X34 eh34 ?_
  show own_Aft X34 hp32 _ 63 [zA a, zI 0, zI 7, zI 2, zI 3, zI 3] [.int 7, .ref a, .double r6, .int 3, .ref la]
  refine fun T35 X35 eh35 => ?_
  refine own_callPP X35 hx hZ hown (hw _ (wm 43 rfl)) (hw _ (wm 45 rfl)) (hw _ (wm 6 rfl)) (hw _ (wm 44 rfl)) (hw _ (wm 7 rfl)) (hw _ (wm 46 rfl)) (by decide) eh35 EX_32 [.int 7] pd9 rfl (fr := 0) (lo := 0) (rm9_l l Z a0 hw [] a la va (7 : Int32) (8 : Int32) (7 : Int32) r7 hp32 n0 Z_32 F1_32 F2_32 F3_32 (Av_32.ln (7 : Int32) rfl) (by decide) (Ar32'.at (7 : Int32) 7 rfl rfl)) (by rw [hml]; rfl) 4 rfl (Nat.le_of_eq rfl) (hb hby d8_63) (by decide) (by decide) (by decide) (by decide) (fun T36 rv36 X36 eh36 qc36 => ?_)
  obtain rfl := qc36
  show own_Go p.tables e below _ (T36.setTop (mkF m 66 (Array.mk [zA a, zI 0, zI 7, zI 2, zI 3, zI 3]) [.double r7, .double r6, .int 3, .ref la]))
  refine own_minDD X36 hx hZ hown (by decide +kernel) (hw _ (wm 47 rfl)) (hw _ (wm 48 rfl)) (hw _ (wm 18 rfl)) (hw _ (wm 49 rfl)) eh36 (own_nn Hr6.1) (own_nn Hr7.1) (by rw [hml]; rfl) 2 (Nat.le_of_eq rfl) (hb hby d8_66) (by decide) (by decide) (by decide) (by decide) (fun T37 X37 eh37 => ?_)
  have Hr3 := own_pick Hr6.1 Hr7.1
  generalize Native.java_lang_Math.nans.pick64 false r6 r7 = r3 at Hr3 ⊢
  show own_Go p.tables e below _ (T37.setTop (mkF m 69 (Array.mk [zA a, zI 0, zI 7, zI 2, zI 3, zI 3]) [.double r3, .int 3, .ref la]))
  refine own_sD X37 hx hZ eh37 Ar32' 3 rfl (by show 3 < 8; decide) (hb hby d8_69) (fun T38 hp38 X38 eh38 Wr38 Ar38 => ?_)
  have Ar38' : own_A Z hp38 la .double [.double 9218868437227405312, .double 9218868437227405312, .double r2, .double r3, .double r4, .double r5, .double r6, .double r7] := Ar38
  have Av_38 := Av_32.other Wr38 nav
  have EX_38 := Exa.wr Wr38 EX_32
  have F1_38 := Fld.other Wr38 F1_32 (Or.inl nal)
  have F2_38 := Fld.other Wr38 F2_32 (Or.inl nal)
  have F3_38 := Fld.other Wr38 F3_32 (Or.inl nal)
  have Nf38 := Fr.snoc X38 Nf32 nl
  have Z_38 : n0 ≤ hp38.size := by rw [Wr.size Wr38]; exact Z_32
  have K_38 := Keep.wr K_32 Wr38 (Or.inl (List.mem_of_getElem? (i := 0) rfl))
  refine own_blk dec8 seq8 hby hx hZ hown hK hF 24 [true, false, false] [.ref la] X38 eh38 ?_
  show (((3 : Int32)).toInt < ((4 : Int32)).toInt) ∧ ((2 : Int32) ≠ 0) ∧ ((2 : Int32) ≠ 0) ∧ (¬ (((1 : Int32)).toInt < ((1 : Int32)).toInt)) ∧ (¬ (((1 : Int32)).toInt < ((1 : Int32)).toInt)) ∧ (Fld Z hp38 a "com/example/binwright/binwright/binning/LeastTree" "least" "[D" (.ref la)) ∧ own_Aft X38 hp38 _ 46 [zA a, zI 0, zI 7, zI 1, zI 1, zI 1] [.ref la]
  refine ⟨by decide, by decide, by decide, by decide, by decide, F2_38, fun T39 X39 eh39 => ?_⟩
  refine own_blk dec8 seq8 hby hx hZ hown hK hF 5 [] [] X39 eh39 ?_
  show own_Aft X39 hp38 _ 53 [zA a, zI 0, zI 7, zI 1, zI 1, zI 1] [.int 2, .ref a, .int 1, .ref la]
  refine fun T40 X40 eh40 => ?_
  refine own_callPP X40 hx hZ hown (hw _ (wm 43 rfl)) (hw _ (wm 45 rfl)) (hw _ (wm 6 rfl)) (hw _ (wm 44 rfl)) (hw _ (wm 7 rfl)) (hw _ (wm 46 rfl)) (by decide) eh40 EX_38 [.int 2] pd9 rfl (fr := 0) (lo := 0) (rm9_l l Z a0 hw [] a la va (2 : Int32) (8 : Int32) (7 : Int32) r2 hp38 n0 Z_38 F1_38 F2_38 F3_38 (Av_38.ln (7 : Int32) rfl) (by decide) (Ar38'.at (2 : Int32) 2 rfl rfl)) (by rw [hml]; rfl) 2 rfl (Nat.le_of_eq rfl) (hb hby d8_53) (by decide) (by decide) (by decide) (by decide) (fun T41 rv41 X41 eh41 qc41 => ?_)
  obtain rfl := qc41
  show own_Go p.tables e below _ (T41.setTop (mkF m 56 (Array.mk [zA a, zI 0, zI 7, zI 1, zI 1, zI 1]) [.double r2, .int 1, .ref la]))
  refine own_blk dec8 seq8 hby hx hZ hown hK hF 6 [] [] X41 eh41 ?_
  show own_Aft X41 hp38 _ 63 [zA a, zI 0, zI 7, zI 1, zI 1, zI 1] [.int 3, .ref a, .double r2, .int 1, .ref la]
  refine fun T42 X42 eh42 => ?_
  refine own_callPP X42 hx hZ hown (hw _ (wm 43 rfl)) (hw _ (wm 45 rfl)) (hw _ (wm 6 rfl)) (hw _ (wm 44 rfl)) (hw _ (wm 7 rfl)) (hw _ (wm 46 rfl)) (by decide) eh42 EX_38 [.int 3] pd9 rfl (fr := 0) (lo := 0) (rm9_l l Z a0 hw [] a la va (3 : Int32) (8 : Int32) (7 : Int32) r3 hp38 n0 Z_38 F1_38 F2_38 F3_38 (Av_38.ln (7 : Int32) rfl) (by decide) (Ar38'.at (3 : Int32) 3 rfl rfl)) (by rw [hml]; rfl) 4 rfl (Nat.le_of_eq rfl) (hb hby d8_63) (by decide) (by decide) (by decide) (by decide) (fun T43 rv43 X43 eh43 qc43 => ?_)
  obtain rfl := qc43
  show own_Go p.tables e below _ (T43.setTop (mkF m 66 (Array.mk [zA a, zI 0, zI 7, zI 1, zI 1, zI 1]) [.double r3, .double r2, .int 1, .ref la]))
  refine own_minDD X43 hx hZ hown (by decide +kernel) (hw _ (wm 47 rfl)) (hw _ (wm 48 rfl)) (hw _ (wm 18 rfl)) (hw _ (wm 49 rfl)) eh43 (own_nn Hr2.1) (own_nn Hr3.1) (by rw [hml]; rfl) 2 (Nat.le_of_eq rfl) (hb hby d8_66) (by decide) (by decide) (by decide) (by decide) (fun T44 X44 eh44 => ?_)
  have Hr1 := own_pick Hr2.1 Hr3.1
  generalize Native.java_lang_Math.nans.pick64 false r2 r3 = r1 at Hr1 ⊢
  show own_Go p.tables e below _ (T44.setTop (mkF m 69 (Array.mk [zA a, zI 0, zI 7, zI 1, zI 1, zI 1]) [.double r1, .int 1, .ref la]))
  refine own_sD X44 hx hZ eh44 Ar38' 1 rfl (by show 1 < 8; decide) (hb hby d8_69) (fun T45 hp45 X45 eh45 Wr45 Ar45 => ?_)
  have Ar45' : own_A Z hp45 la .double [.double 9218868437227405312, .double r1, .double r2, .double r3, .double r4, .double r5, .double r6, .double r7] := Ar45
  have Av_45 := Av_38.other Wr45 nav
  have EX_45 := Exa.wr Wr45 EX_38
  have F1_45 := Fld.other Wr45 F1_38 (Or.inl nal)
  have F2_45 := Fld.other Wr45 F2_38 (Or.inl nal)
  have F3_45 := Fld.other Wr45 F3_38 (Or.inl nal)
  have Nf45 := Fr.snoc X45 Nf38 nl
  have Z_45 : n0 ≤ hp45.size := by rw [Wr.size Wr45]; exact Z_38
  have K_45 := Keep.wr K_38 Wr45 (Or.inl (List.mem_of_getElem? (i := 0) rfl))
  refine own_blk dec8 seq8 hby hx hZ hown hK hF 17 [true, true] [] X45 eh45 ?_
  show (((1 : Int32)).toInt < ((2 : Int32)).toInt) ∧ ((2 : Int32) ≠ 0) ∧ ((2 : Int32) ≠ 0) ∧ (((0 : Int32)).toInt < ((1 : Int32)).toInt) ∧ own_Aft X45 hp45 _ 89 [zA a, zI 0, zI 7, zI 0, zI 0, zI 2] []
  refine ⟨by decide, by decide, by decide, by decide, fun T46 X46 eh46 => ?_⟩
  exact own_retV X46 hx hlk eh46 hret (hb hby d8_89) (by decide) (by decide) (⟨rfl, Nf45, K_45, r4, r5, r6, r7, r2, r3, r1, Ar45', Hr4, Hr5, Hr6, Hr7, Hr2, Hr3, Hr1⟩)
set_option maxRecDepth 65536 in
set_option maxHeartbeats 40000000 in
theorem rm8_8 (l : Launch) (Z : State) (a0 : Array Value) (hw : ∀ d ∈ tables_1, d.before a0 Z = true) (ws : List Jvm.Cond) (a la va : Addr) (v0 v1 v2 v3 v4 v5 v6 v7 : UInt64) (h0 : Heap) (n0 : Nat) (Z0 : n0 ≤ h0.size) (EX : Exa Z h0 a "com/example/binwright/binwright/binning/LeastTree") (nl : n0 ≤ la) (nav : va ≠ la) (nal : a ≠ la) (F1 : Fld Z h0 a "com/example/binwright/binwright/binning/LeastTree" "leaves" "I" (.int (8 : Int32))) (F2 : Fld Z h0 a "com/example/binwright/binwright/binning/LeastTree" "least" "[D" (.ref la)) (F3 : Fld Z h0 a "com/example/binwright/binwright/binning/LeastTree" "values" "[D" (.ref va)) (Al : own_A Z h0 la .double [.double 9218868437227405312, .double 9218868437227405312, .double 9218868437227405312, .double 9218868437227405312, .double 9218868437227405312, .double 9218868437227405312, .double 9218868437227405312, .double 9218868437227405312]) (Av : own_A Z h0 va .double [.double v0, .double v1, .double v2, .double v3, .double v4, .double v5, .double v6, .double v7]) (Nv0 : own_num v0) (Nv1 : own_num v1) (Nv2 : own_num v2) (Nv3 : own_num v3) (Nv4 : own_num v4) (Nv5 : own_num v5) (Nv6 : own_num v6) (Nv7 : own_num v7) :
    own_MF l (⟨"com/example/binwright/binwright/binning/LeastTree", "changed", "(II)V"⟩ : MethodName) prog_15_method_2_code 6 none ws ({ frames := 1, cells := 0, slots := 0, locals := 24 } : Room) #[.ref a, .int 0, .int 8] Z h0 (fun v h L => v = none ∧ Fr n0 L ∧ Keep h0 h [la] ∧ ∃ (r4 r5 r6 r7 r2 r3 r1 : UInt64), own_A Z h la .double [.double 9218868437227405312, .double r1, .double r2, .double r3, .double r4, .double r5, .double r6, .double r7] ∧ own_mn r4 v0 v1 ∧ own_mn r5 v2 v3 ∧ own_mn r6 v4 v5 ∧ own_mn r7 v6 v7 ∧ own_mn r2 r4 r5 ∧ own_mn r3 r6 r7 ∧ own_mn r1 r2 r3) := by
  refine own_body pf8 (ls0 := [.val (.ref a), .val (.int 0), .val (.int 8), .unset, .unset, .unset]) (fun m => by first | (simp [entryFrame, mkF, argsToLocals, Value.category, maxLocals]; done) | rfl) ?_
  intro p e s m below meth c T0 hx hby hml hown hnm hlk hret hZ X0 e0
  have hK := hKt2 hw; have hF := hFt2 hw
  have N0 := Fr.nil n0
  have K0 := Keep.refl h0 [la]
  refine own_blk dec8 seq8 hby hx hZ hown hK hF 24 [true, false] [.int 8, .int 8] X0 e0 ?_
  show (((0 : Int32)).toInt < ((8 : Int32)).toInt) ∧ (Fld Z h0 a "com/example/binwright/binwright/binning/LeastTree" "leaves" "I" (.int 8)) ∧ ((2 : Int32) ≠ 0) ∧ (Fld Z h0 a "com/example/binwright/binwright/binning/LeastTree" "leaves" "I" (.int 8)) ∧ ((2 : Int32) ≠ 0) ∧ (¬ (((4 : Int32)).toInt < ((1 : Int32)).toInt)) ∧ own_Aft X0 h0 _ 35 [zA a, zI 0, zI 8, zI 4, zI 7, zI 4] []
  refine ⟨by decide, F1, by decide, F1, by decide, by decide, fun T1 X1 eh1 => ?_⟩
  refine own_blk dec8 seq8 hby hx hZ hown hK hF 10 [false] [.ref la] X1 eh1 ?_
  show (¬ (((7 : Int32)).toInt < ((4 : Int32)).toInt)) ∧ (Fld Z h0 a "com/example/binwright/binwright/binning/LeastTree" "least" "[D" (.ref la)) ∧ own_Aft X1 h0 _ 53 [zA a, zI 0, zI 8, zI 4, zI 7, zI 4] [.int 8, .ref a, .int 4, .ref la]
  refine ⟨by decide, F2, fun T2 X2 eh2 => ?_⟩
  refine own_callPP X2 hx hZ hown (hw _ (wm 43 rfl)) (hw _ (wm 45 rfl)) (hw _ (wm 6 rfl)) (hw _ (wm 44 rfl)) (hw _ (wm 7 rfl)) (hw _ (wm 46 rfl)) (by decide) eh2 EX [.int 8] pd9 rfl (fr := 0) (lo := 0) (rm9_v l Z a0 hw [] a la va (8 : Int32) (8 : Int32) (8 : Int32) v0 h0 n0 Z0 F1 F2 F3 (Av.ln (8 : Int32) rfl) (by decide) (by decide) (Av.at ((8 : Int32) - (8 : Int32)) 0 rfl rfl)) (by rw [hml]; rfl) 2 rfl (Nat.le_of_eq rfl) (hb hby d8_53) (by decide) (by decide) (by decide) (by decide) (fun T3 rv3 X3 eh3 qc3 => ?_)
  obtain rfl := qc3
  show own_Go p.tables e below _ (T3.setTop (mkF m 56 (Array.mk [zA a, zI 0, zI 8, zI 4, zI 7, zI 4]) [.double v0, .int 4, .ref la]))
  refine own_blk dec8 seq8 hby hx hZ hown hK hF 6 [] [] X3 eh3 ?_
  show own_Aft X3 h0 _ 63 [zA a, zI 0, zI 8, zI 4, zI 7, zI 4] [.int 9, .ref a, .double v0, .int 4, .ref la]
  refine fun T4 X4 eh4 => ?_
  refine own_callPP X4 hx hZ hown (hw _ (wm 43 rfl)) (hw _ (wm 45 rfl)) (hw _ (wm 6 rfl)) (hw _ (wm 44 rfl)) (hw _ (wm 7 rfl)) (hw _ (wm 46 rfl)) (by decide) eh4 EX [.int 9] pd9 rfl (fr := 0) (lo := 0) (rm9_v l Z a0 hw [] a la va (9 : Int32) (8 : Int32) (8 : Int32) v1 h0 n0 Z0 F1 F2 F3 (Av.ln (8 : Int32) rfl) (by decide) (by decide) (Av.at ((9 : Int32) - (8 : Int32)) 1 rfl rfl)) (by rw [hml]; rfl) 4 rfl (Nat.le_of_eq rfl) (hb hby d8_63) (by decide) (by decide) (by decide) (by decide) (fun T5 rv5 X5 eh5 qc5 => ?_)
  obtain rfl := qc5
  show own_Go p.tables e below _ (T5.setTop (mkF m 66 (Array.mk [zA a, zI 0, zI 8, zI 4, zI 7, zI 4]) [.double v1, .double v0, .int 4, .ref la]))
  refine own_minDD X5 hx hZ hown (by decide +kernel) (hw _ (wm 47 rfl)) (hw _ (wm 48 rfl)) (hw _ (wm 18 rfl)) (hw _ (wm 49 rfl)) eh5 (own_nn Nv0) (own_nn Nv1) (by rw [hml]; rfl) 2 (Nat.le_of_eq rfl) (hb hby d8_66) (by decide) (by decide) (by decide) (by decide) (fun T6 X6 eh6 => ?_)
  have Hr4 := own_pick Nv0 Nv1
  generalize Native.java_lang_Math.nans.pick64 false v0 v1 = r4 at Hr4 ⊢
  show own_Go p.tables e below _ (T6.setTop (mkF m 69 (Array.mk [zA a, zI 0, zI 8, zI 4, zI 7, zI 4]) [.double r4, .int 4, .ref la]))
  refine own_sD X6 hx hZ eh6 Al 4 rfl (by show 4 < 8; decide) (hb hby d8_69) (fun T7 hp7 X7 eh7 Wr7 Ar7 => ?_)
  have Ar7' : own_A Z hp7 la .double [.double 9218868437227405312, .double 9218868437227405312, .double 9218868437227405312, .double 9218868437227405312, .double r4, .double 9218868437227405312, .double 9218868437227405312, .double 9218868437227405312] := Ar7
  have Av_7 := Av.other Wr7 nav
  have EX_7 := Exa.wr Wr7 EX
  have F1_7 := Fld.other Wr7 F1 (Or.inl nal)
  have F2_7 := Fld.other Wr7 F2 (Or.inl nal)
  have F3_7 := Fld.other Wr7 F3 (Or.inl nal)
  have Nf7 := Fr.snoc X7 N0 nl
  have Z_7 : n0 ≤ hp7.size := by rw [Wr.size Wr7]; exact Z0
  have K_7 := Keep.wr K0 Wr7 (Or.inl (List.mem_of_getElem? (i := 0) rfl))
  refine own_blk dec8 seq8 hby hx hZ hown hK hF 12 [false] [.ref la] X7 eh7 ?_
  show (¬ (((7 : Int32)).toInt < ((5 : Int32)).toInt)) ∧ (Fld Z hp7 a "com/example/binwright/binwright/binning/LeastTree" "least" "[D" (.ref la)) ∧ own_Aft X7 hp7 _ 53 [zA a, zI 0, zI 8, zI 4, zI 7, zI 5] [.int 10, .ref a, .int 5, .ref la]
  refine ⟨by decide, F2_7, fun T8 X8 eh8 => ?_⟩
  refine own_callPP X8 hx hZ hown (hw _ (wm 43 rfl)) (hw _ (wm 45 rfl)) (hw _ (wm 6 rfl)) (hw _ (wm 44 rfl)) (hw _ (wm 7 rfl)) (hw _ (wm 46 rfl)) (by decide) eh8 EX_7 [.int 10] pd9 rfl (fr := 0) (lo := 0) (rm9_v l Z a0 hw [] a la va (10 : Int32) (8 : Int32) (8 : Int32) v2 hp7 n0 Z_7 F1_7 F2_7 F3_7 (Av_7.ln (8 : Int32) rfl) (by decide) (by decide) (Av_7.at ((10 : Int32) - (8 : Int32)) 2 rfl rfl)) (by rw [hml]; rfl) 2 rfl (Nat.le_of_eq rfl) (hb hby d8_53) (by decide) (by decide) (by decide) (by decide) (fun T9 rv9 X9 eh9 qc9 => ?_)
  obtain rfl := qc9
  show own_Go p.tables e below _ (T9.setTop (mkF m 56 (Array.mk [zA a, zI 0, zI 8, zI 4, zI 7, zI 5]) [.double v2, .int 5, .ref la]))
  refine own_blk dec8 seq8 hby hx hZ hown hK hF 6 [] [] X9 eh9 ?_
  show own_Aft X9 hp7 _ 63 [zA a, zI 0, zI 8, zI 4, zI 7, zI 5] [.int 11, .ref a, .double v2, .int 5, .ref la]
  refine fun T10 X10 eh10 => ?_
  refine own_callPP X10 hx hZ hown (hw _ (wm 43 rfl)) (hw _ (wm 45 rfl)) (hw _ (wm 6 rfl)) (hw _ (wm 44 rfl)) (hw _ (wm 7 rfl)) (hw _ (wm 46 rfl)) (by decide) eh10 EX_7 [.int 11] pd9 rfl (fr := 0) (lo := 0) (rm9_v l Z a0 hw [] a la va (11 : Int32) (8 : Int32) (8 : Int32) v3 hp7 n0 Z_7 F1_7 F2_7 F3_7 (Av_7.ln (8 : Int32) rfl) (by decide) (by decide) (Av_7.at ((11 : Int32) - (8 : Int32)) 3 rfl rfl)) (by rw [hml]; rfl) 4 rfl (Nat.le_of_eq rfl) (hb hby d8_63) (by decide) (by decide) (by decide) (by decide) (fun T11 rv11 X11 eh11 qc11 => ?_)
  obtain rfl := qc11
  show own_Go p.tables e below _ (T11.setTop (mkF m 66 (Array.mk [zA a, zI 0, zI 8, zI 4, zI 7, zI 5]) [.double v3, .double v2, .int 5, .ref la]))
  refine own_minDD X11 hx hZ hown (by decide +kernel) (hw _ (wm 47 rfl)) (hw _ (wm 48 rfl)) (hw _ (wm 18 rfl)) (hw _ (wm 49 rfl)) eh11 (own_nn Nv2) (own_nn Nv3) (by rw [hml]; rfl) 2 (Nat.le_of_eq rfl) (hb hby d8_66) (by decide) (by decide) (by decide) (by decide) (fun T12 X12 eh12 => ?_)
  have Hr5 := own_pick Nv2 Nv3
  generalize Native.java_lang_Math.nans.pick64 false v2 v3 = r5 at Hr5 ⊢
  show own_Go p.tables e below _ (T12.setTop (mkF m 69 (Array.mk [zA a, zI 0, zI 8, zI 4, zI 7, zI 5]) [.double r5, .int 5, .ref la]))
  refine own_sD X12 hx hZ eh12 Ar7' 5 rfl (by show 5 < 8; decide) (hb hby d8_69) (fun T13 hp13 X13 eh13 Wr13 Ar13 => ?_)
  have Ar13' : own_A Z hp13 la .double [.double 9218868437227405312, .double 9218868437227405312, .double 9218868437227405312, .double 9218868437227405312, .double r4, .double r5, .double 9218868437227405312, .double 9218868437227405312] := Ar13
  have Av_13 := Av_7.other Wr13 nav
  have EX_13 := Exa.wr Wr13 EX_7
  have F1_13 := Fld.other Wr13 F1_7 (Or.inl nal)
  have F2_13 := Fld.other Wr13 F2_7 (Or.inl nal)
  have F3_13 := Fld.other Wr13 F3_7 (Or.inl nal)
  have Nf13 := Fr.snoc X13 Nf7 nl
  have Z_13 : n0 ≤ hp13.size := by rw [Wr.size Wr13]; exact Z_7
  have K_13 := Keep.wr K_7 Wr13 (Or.inl (List.mem_of_getElem? (i := 0) rfl))
  refine own_blk dec8 seq8 hby hx hZ hown hK hF 12 [false] [.ref la] X13 eh13 ?_
  show (¬ (((7 : Int32)).toInt < ((6 : Int32)).toInt)) ∧ (Fld Z hp13 a "com/example/binwright/binwright/binning/LeastTree" "least" "[D" (.ref la)) ∧ own_Aft X13 hp13 _ 53 [zA a, zI 0, zI 8, zI 4, zI 7, zI 6] [.int 12, .ref a, .int 6, .ref la]
  refine ⟨by decide, F2_13, fun T14 X14 eh14 => ?_⟩
  refine own_callPP X14 hx hZ hown (hw _ (wm 43 rfl)) (hw _ (wm 45 rfl)) (hw _ (wm 6 rfl)) (hw _ (wm 44 rfl)) (hw _ (wm 7 rfl)) (hw _ (wm 46 rfl)) (by decide) eh14 EX_13 [.int 12] pd9 rfl (fr := 0) (lo := 0) (rm9_v l Z a0 hw [] a la va (12 : Int32) (8 : Int32) (8 : Int32) v4 hp13 n0 Z_13 F1_13 F2_13 F3_13 (Av_13.ln (8 : Int32) rfl) (by decide) (by decide) (Av_13.at ((12 : Int32) - (8 : Int32)) 4 rfl rfl)) (by rw [hml]; rfl) 2 rfl (Nat.le_of_eq rfl) (hb hby d8_53) (by decide) (by decide) (by decide) (by decide) (fun T15 rv15 X15 eh15 qc15 => ?_)
  obtain rfl := qc15
  show own_Go p.tables e below _ (T15.setTop (mkF m 56 (Array.mk [zA a, zI 0, zI 8, zI 4, zI 7, zI 6]) [.double v4, .int 6, .ref la]))
  refine own_blk dec8 seq8 hby hx hZ hown hK hF 6 [] [] X15 eh15 ?_
  show own_Aft X15 hp13 _ 63 [zA a, zI 0, zI 8, zI 4, zI 7, zI 6] [.int 13, .ref a, .double v4, .int 6, .ref la]
  refine fun T16 X16 eh16 => ?_
  refine own_callPP X16 hx hZ hown (hw _ (wm 43 rfl)) (hw _ (wm 45 rfl)) (hw _ (wm 6 rfl)) (hw _ (wm 44 rfl)) (hw _ (wm 7 rfl)) (hw _ (wm 46 rfl)) (by decide) eh16 EX_13 [.int 13] pd9 rfl (fr := 0) (lo := 0) (rm9_v l Z a0 hw [] a la va (13 : Int32) (8 : Int32) (8 : Int32) v5 hp13 n0 Z_13 F1_13 F2_13 F3_13 (Av_13.ln (8 : Int32) rfl) (by decide) (by decide) (Av_13.at ((13 : Int32) - (8 : Int32)) 5 rfl rfl)) (by rw [hml]; rfl) 4 rfl (Nat.le_of_eq rfl) (hb hby d8_63) (by decide) (by decide) (by decide) (by decide) (fun T17 rv17 X17 eh17 qc17 => ?_)
  obtain rfl := qc17
  show own_Go p.tables e below _ (T17.setTop (mkF m 66 (Array.mk [zA a, zI 0, zI 8, zI 4, zI 7, zI 6]) [.double v5, .double v4, .int 6, .ref la]))
  refine own_minDD X17 hx hZ hown (by decide +kernel) (hw _ (wm 47 rfl)) (hw _ (wm 48 rfl)) (hw _ (wm 18 rfl)) (hw _ (wm 49 rfl)) eh17 (own_nn Nv4) (own_nn Nv5) (by rw [hml]; rfl) 2 (Nat.le_of_eq rfl) (hb hby d8_66) (by decide) (by decide) (by decide) (by decide) (fun T18 X18 eh18 => ?_)
  have Hr6 := own_pick Nv4 Nv5
  generalize Native.java_lang_Math.nans.pick64 false v4 v5 = r6 at Hr6 ⊢
  show own_Go p.tables e below _ (T18.setTop (mkF m 69 (Array.mk [zA a, zI 0, zI 8, zI 4, zI 7, zI 6]) [.double r6, .int 6, .ref la]))
  refine own_sD X18 hx hZ eh18 Ar13' 6 rfl (by show 6 < 8; decide) (hb hby d8_69) (fun T19 hp19 X19 eh19 Wr19 Ar19 => ?_)
  have Ar19' : own_A Z hp19 la .double [.double 9218868437227405312, .double 9218868437227405312, .double 9218868437227405312, .double 9218868437227405312, .double r4, .double r5, .double r6, .double 9218868437227405312] := Ar19
  have Av_19 := Av_13.other Wr19 nav
  have EX_19 := Exa.wr Wr19 EX_13
  have F1_19 := Fld.other Wr19 F1_13 (Or.inl nal)
  have F2_19 := Fld.other Wr19 F2_13 (Or.inl nal)
  have F3_19 := Fld.other Wr19 F3_13 (Or.inl nal)
  have Nf19 := Fr.snoc X19 Nf13 nl
  have Z_19 : n0 ≤ hp19.size := by rw [Wr.size Wr19]; exact Z_13
  have K_19 := Keep.wr K_13 Wr19 (Or.inl (List.mem_of_getElem? (i := 0) rfl))
  refine own_blk dec8 seq8 hby hx hZ hown hK hF 12 [false] [.ref la] X19 eh19 ?_
  show (¬ (((7 : Int32)).toInt < ((7 : Int32)).toInt)) ∧ (Fld Z hp19 a "com/example/binwright/binwright/binning/LeastTree" "least" "[D" (.ref la)) ∧ own_Aft X19 hp19 _ 53 [zA a, zI 0, zI 8, zI 4, zI 7, zI 7] [.int 14, .ref a, .int 7, .ref la]
  refine ⟨by decide, F2_19, fun T20 X20 eh20 => ?_⟩
  refine own_callPP X20 hx hZ hown (hw _ (wm 43 rfl)) (hw _ (wm 45 rfl)) (hw _ (wm 6 rfl)) (hw _ (wm 44 rfl)) (hw _ (wm 7 rfl)) (hw _ (wm 46 rfl)) (by decide) eh20 EX_19 [.int 14] pd9 rfl (fr := 0) (lo := 0) (rm9_v l Z a0 hw [] a la va (14 : Int32) (8 : Int32) (8 : Int32) v6 hp19 n0 Z_19 F1_19 F2_19 F3_19 (Av_19.ln (8 : Int32) rfl) (by decide) (by decide) (Av_19.at ((14 : Int32) - (8 : Int32)) 6 rfl rfl)) (by rw [hml]; rfl) 2 rfl (Nat.le_of_eq rfl) (hb hby d8_53) (by decide) (by decide) (by decide) (by decide) (fun T21 rv21 X21 eh21 qc21 => ?_)
  obtain rfl := qc21
  show own_Go p.tables e below _ (T21.setTop (mkF m 56 (Array.mk [zA a, zI 0, zI 8, zI 4, zI 7, zI 7]) [.double v6, .int 7, .ref la]))
  refine own_blk dec8 seq8 hby hx hZ hown hK hF 6 [] [] X21 eh21 ?_
  show own_Aft X21 hp19 _ 63 [zA a, zI 0, zI 8, zI 4, zI 7, zI 7] [.int 15, .ref a, .double v6, .int 7, .ref la]
  refine fun T22 X22 eh22 => ?_
  refine own_callPP X22 hx hZ hown (hw _ (wm 43 rfl)) (hw _ (wm 45 rfl)) (hw _ (wm 6 rfl)) (hw _ (wm 44 rfl)) (hw _ (wm 7 rfl)) (hw _ (wm 46 rfl)) (by decide) eh22 EX_19 [.int 15] pd9 rfl (fr := 0) (lo := 0) (rm9_v l Z a0 hw [] a la va (15 : Int32) (8 : Int32) (8 : Int32) v7 hp19 n0 Z_19 F1_19 F2_19 F3_19 (Av_19.ln (8 : Int32) rfl) (by decide) (by decide) (Av_19.at ((15 : Int32) - (8 : Int32)) 7 rfl rfl)) (by rw [hml]; rfl) 4 rfl (Nat.le_of_eq rfl) (hb hby d8_63) (by decide) (by decide) (by decide) (by decide) (fun T23 rv23 X23 eh23 qc23 => ?_)
  obtain rfl := qc23
  show own_Go p.tables e below _ (T23.setTop (mkF m 66 (Array.mk [zA a, zI 0, zI 8, zI 4, zI 7, zI 7]) [.double v7, .double v6, .int 7, .ref la]))
  refine own_minDD X23 hx hZ hown (by decide +kernel) (hw _ (wm 47 rfl)) (hw _ (wm 48 rfl)) (hw _ (wm 18 rfl)) (hw _ (wm 49 rfl)) eh23 (own_nn Nv6) (own_nn Nv7) (by rw [hml]; rfl) 2 (Nat.le_of_eq rfl) (hb hby d8_66) (by decide) (by decide) (by decide) (by decide) (fun T24 X24 eh24 => ?_)
  have Hr7 := own_pick Nv6 Nv7
  generalize Native.java_lang_Math.nans.pick64 false v6 v7 = r7 at Hr7 ⊢
  show own_Go p.tables e below _ (T24.setTop (mkF m 69 (Array.mk [zA a, zI 0, zI 8, zI 4, zI 7, zI 7]) [.double r7, .int 7, .ref la]))
  refine own_sD X24 hx hZ eh24 Ar19' 7 rfl (by show 7 < 8; decide) (hb hby d8_69) (fun T25 hp25 X25 eh25 Wr25 Ar25 => ?_)
  have Ar25' : own_A Z hp25 la .double [.double 9218868437227405312, .double 9218868437227405312, .double 9218868437227405312, .double 9218868437227405312, .double r4, .double r5, .double r6, .double r7] := Ar25
  have Av_25 := Av_19.other Wr25 nav
  have EX_25 := Exa.wr Wr25 EX_19
  have F1_25 := Fld.other Wr25 F1_19 (Or.inl nal)
  have F2_25 := Fld.other Wr25 F2_19 (Or.inl nal)
  have F3_25 := Fld.other Wr25 F3_19 (Or.inl nal)
  have Nf25 := Fr.snoc X25 Nf19 nl
  have Z_25 : n0 ≤ hp25.size := by rw [Wr.size Wr25]; exact Z_19
  have K_25 := Keep.wr K_19 Wr25 (Or.inl (List.mem_of_getElem? (i := 0) rfl))
  refine own_blk dec8 seq8 hby hx hZ hown hK hF 24 [true, false, false] [.ref la] X25 eh25 ?_
  show (((7 : Int32)).toInt < ((8 : Int32)).toInt) ∧ ((2 : Int32) ≠ 0) ∧ ((2 : Int32) ≠ 0) ∧ (¬ (((2 : Int32)).toInt < ((1 : Int32)).toInt)) ∧ (¬ (((3 : Int32)).toInt < ((2 : Int32)).toInt)) ∧ (Fld Z hp25 a "com/example/binwright/binwright/binning/LeastTree" "least" "[D" (.ref la)) ∧ own_Aft X25 hp25 _ 46 [zA a, zI 0, zI 8, zI 2, zI 3, zI 2] [.ref la]
  refine ⟨by decide, by decide, by decide, by decide, by decide, F2_25, fun T26 X26 eh26 => ?_⟩
  refine own_blk dec8 seq8 hby hx hZ hown hK hF 5 [] [] X26 eh26 ?_
  show own_Aft X26 hp25 _ 53 [zA a, zI 0, zI 8, zI 2, zI 3, zI 2] [.int 4, .ref a, .int 2, .ref la]
  refine fun T27 X27 eh27 => ?_
  refine own_callPP X27 hx hZ hown (hw _ (wm 43 rfl)) (hw _ (wm 45 rfl)) (hw _ (wm 6 rfl)) (hw _ (wm 44 rfl)) (hw _ (wm 7 rfl)) (hw _ (wm 46 rfl)) (by decide) eh27 EX_25 [.int 4] pd9 rfl (fr := 0) (lo := 0) (rm9_l l Z a0 hw [] a la va (4 : Int32) (8 : Int32) (8 : Int32) r4 hp25 n0 Z_25 F1_25 F2_25 F3_25 (Av_25.ln (8 : Int32) rfl) (by decide) (Ar25'.at (4 : Int32) 4 rfl rfl)) (by rw [hml]; rfl) 2 rfl (Nat.le_of_eq rfl) (hb hby d8_53) (by decide) (by decide) (by decide) (by decide) (fun T28 rv28 X28 eh28 qc28 => ?_)
  obtain rfl := qc28
  show own_Go p.tables e below _ (T28.setTop (mkF m 56 (Array.mk [zA a, zI 0, zI 8, zI 2, zI 3, zI 2]) [.double r4, .int 2, .ref la]))
  refine own_blk dec8 seq8 hby hx hZ hown hK hF 6 [] [] X28 eh28 ?_
  show own_Aft X28 hp25 _ 63 [zA a, zI 0, zI 8, zI 2, zI 3, zI 2] [.int 5, .ref a, .double r4, .int 2, .ref la]
  refine fun T29 X29 eh29 => ?_
  refine own_callPP X29 hx hZ hown (hw _ (wm 43 rfl)) (hw _ (wm 45 rfl)) (hw _ (wm 6 rfl)) (hw _ (wm 44 rfl)) (hw _ (wm 7 rfl)) (hw _ (wm 46 rfl)) (by decide) eh29 EX_25 [.int 5] pd9 rfl (fr := 0) (lo := 0) (rm9_l l Z a0 hw [] a la va (5 : Int32) (8 : Int32) (8 : Int32) r5 hp25 n0 Z_25 F1_25 F2_25 F3_25 (Av_25.ln (8 : Int32) rfl) (by decide) (Ar25'.at (5 : Int32) 5 rfl rfl)) (by rw [hml]; rfl) 4 rfl (Nat.le_of_eq rfl) (hb hby d8_63) (by decide) (by decide) (by decide) (by decide) (fun T30 rv30 X30 eh30 qc30 => ?_)
  obtain rfl := qc30
  show own_Go p.tables e below _ (T30.setTop (mkF m 66 (Array.mk [zA a, zI 0, zI 8, zI 2, zI 3, zI 2]) [.double r5, .double r4, .int 2, .ref la]))
  refine own_minDD X30 hx hZ hown (by decide +kernel) (hw _ (wm 47 rfl)) (hw _ (wm 48 rfl)) (hw _ (wm 18 rfl)) (hw _ (wm 49 rfl)) eh30 (own_nn Hr4.1) (own_nn Hr5.1) (by rw [hml]; rfl) 2 (Nat.le_of_eq rfl) (hb hby d8_66) (by decide) (by decide) (by decide) (by decide) (fun T31 X31 eh31 => ?_)
  have Hr2 := own_pick Hr4.1 Hr5.1
  generalize Native.java_lang_Math.nans.pick64 false r4 r5 = r2 at Hr2 ⊢
  show own_Go p.tables e below _ (T31.setTop (mkF m 69 (Array.mk [zA a, zI 0, zI 8, zI 2, zI 3, zI 2]) [.double r2, .int 2, .ref la]))
  refine own_sD X31 hx hZ eh31 Ar25' 2 rfl (by show 2 < 8; decide) (hb hby d8_69) (fun T32 hp32 X32 eh32 Wr32 Ar32 => ?_)
  have Ar32' : own_A Z hp32 la .double [.double 9218868437227405312, .double 9218868437227405312, .double r2, .double 9218868437227405312, .double r4, .double r5, .double r6, .double r7] := Ar32
  have Av_32 := Av_25.other Wr32 nav
  have EX_32 := Exa.wr Wr32 EX_25
  have F1_32 := Fld.other Wr32 F1_25 (Or.inl nal)
  have F2_32 := Fld.other Wr32 F2_25 (Or.inl nal)
  have F3_32 := Fld.other Wr32 F3_25 (Or.inl nal)
  have Nf32 := Fr.snoc X32 Nf25 nl
  have Z_32 : n0 ≤ hp32.size := by rw [Wr.size Wr32]; exact Z_25
  have K_32 := Keep.wr K_25 Wr32 (Or.inl (List.mem_of_getElem? (i := 0) rfl))
  refine own_blk dec8 seq8 hby hx hZ hown hK hF 12 [false] [.ref la] X32 eh32 ?_
  show (¬ (((3 : Int32)).toInt < ((3 : Int32)).toInt)) ∧ (Fld Z hp32 a "com/example/binwright/binwright/binning/LeastTree" "least" "[D" (.ref la)) ∧ own_Aft X32 hp32 _ 53 [zA a, zI 0, zI 8, zI 2, zI 3, zI 3] [.int 6, .ref a, .int 3, .ref la]
  refine ⟨by decide, F2_32, fun T33 X33 eh33 => ?_⟩
  refine own_callPP X33 hx hZ hown (hw _ (wm 43 rfl)) (hw _ (wm 45 rfl)) (hw _ (wm 6 rfl)) (hw _ (wm 44 rfl)) (hw _ (wm 7 rfl)) (hw _ (wm 46 rfl)) (by decide) eh33 EX_32 [.int 6] pd9 rfl (fr := 0) (lo := 0) (rm9_l l Z a0 hw [] a la va (6 : Int32) (8 : Int32) (8 : Int32) r6 hp32 n0 Z_32 F1_32 F2_32 F3_32 (Av_32.ln (8 : Int32) rfl) (by decide) (Ar32'.at (6 : Int32) 6 rfl rfl)) (by rw [hml]; rfl) 2 rfl (Nat.le_of_eq rfl) (hb hby d8_53) (by decide) (by decide) (by decide) (by decide) (fun T34 rv34 X34 eh34 qc34 => ?_)
  obtain rfl := qc34
  show own_Go p.tables e below _ (T34.setTop (mkF m 56 (Array.mk [zA a, zI 0, zI 8, zI 2, zI 3, zI 3]) [.double r6, .int 3, .ref la]))
  refine own_blk dec8 seq8 hby hx hZ hown hK hF 6 [] [] X34 eh34 ?_
  show own_Aft X34 hp32 _ 63 [zA a, zI 0, zI 8, zI 2, zI 3, zI 3] [.int 7, .ref a, .double r6, .int 3, .ref la]
  refine fun T35 X35 eh35 => ?_
  refine own_callPP X35 hx hZ hown (hw _ (wm 43 rfl)) (hw _ (wm 45 rfl)) (hw _ (wm 6 rfl)) (hw _ (wm 44 rfl)) (hw _ (wm 7 rfl)) (hw _ (wm 46 rfl)) (by decide) eh35 EX_32 [.int 7] pd9 rfl (fr := 0) (lo := 0) (rm9_l l Z a0 hw [] a la va (7 : Int32) (8 : Int32) (8 : Int32) r7 hp32 n0 Z_32 F1_32 F2_32 F3_32 (Av_32.ln (8 : Int32) rfl) (by decide) (Ar32'.at (7 : Int32) 7 rfl rfl)) (by rw [hml]; rfl) 4 rfl (Nat.le_of_eq rfl) (hb hby d8_63) (by decide) (by decide) (by decide) (by decide) (fun T36 rv36 X36 eh36 qc36 => ?_)
  obtain rfl := qc36
  show own_Go p.tables e below _ (T36.setTop (mkF m 66 (Array.mk [zA a, zI 0, zI 8, zI 2, zI 3, zI 3]) [.double r7, .double r6, .int 3, .ref la]))
  refine own_minDD X36 hx hZ hown (by decide +kernel) (hw _ (wm 47 rfl)) (hw _ (wm 48 rfl)) (hw _ (wm 18 rfl)) (hw _ (wm 49 rfl)) eh36 (own_nn Hr6.1) (own_nn Hr7.1) (by rw [hml]; rfl) 2 (Nat.le_of_eq rfl) (hb hby d8_66) (by decide) (by decide) (by decide) (by decide) (fun T37 X37 eh37 => ?_)
  have Hr3 := own_pick Hr6.1 Hr7.1
  generalize Native.java_lang_Math.nans.pick64 false r6 r7 = r3 at Hr3 ⊢
  show own_Go p.tables e below _ (T37.setTop (mkF m 69 (Array.mk [zA a, zI 0, zI 8, zI 2, zI 3, zI 3]) [.double r3, .int 3, .ref la]))
  refine own_sD X37 hx hZ eh37 Ar32' 3 rfl (by show 3 < 8; decide) (hb hby d8_69) (fun T38 hp38 X38 eh38 Wr38 Ar38 => ?_)
  have Ar38' : own_A Z hp38 la .double [.double 9218868437227405312, .double 9218868437227405312, .double r2, .double r3, .double r4, .double r5, .double r6, .double r7] := Ar38
  have Av_38 := Av_32.other Wr38 nav
  have EX_38 := Exa.wr Wr38 EX_32
  have F1_38 := Fld.other Wr38 F1_32 (Or.inl nal)
  have F2_38 := Fld.other Wr38 F2_32 (Or.inl nal)
  have F3_38 := Fld.other Wr38 F3_32 (Or.inl nal)
  have Nf38 := Fr.snoc X38 Nf32 nl
  have Z_38 : n0 ≤ hp38.size := by rw [Wr.size Wr38]; exact Z_32
  have K_38 := Keep.wr K_32 Wr38 (Or.inl (List.mem_of_getElem? (i := 0) rfl))
  refine own_blk dec8 seq8 hby hx hZ hown hK hF 24 [true, false, false] [.ref la] X38 eh38 ?_
  show (((3 : Int32)).toInt < ((4 : Int32)).toInt) ∧ ((2 : Int32) ≠ 0) ∧ ((2 : Int32) ≠ 0) ∧ (¬ (((1 : Int32)).toInt < ((1 : Int32)).toInt)) ∧ (¬ (((1 : Int32)).toInt < ((1 : Int32)).toInt)) ∧ (Fld Z hp38 a "com/example/binwright/binwright/binning/LeastTree" "least" "[D" (.ref la)) ∧ own_Aft X38 hp38 _ 46 [zA a, zI 0, zI 8, zI 1, zI 1, zI 1] [.ref la]
  refine ⟨by decide, by decide, by decide, by decide, by decide, F2_38, fun T39 X39 eh39 => ?_⟩
  refine own_blk dec8 seq8 hby hx hZ hown hK hF 5 [] [] X39 eh39 ?_
  show own_Aft X39 hp38 _ 53 [zA a, zI 0, zI 8, zI 1, zI 1, zI 1] [.int 2, .ref a, .int 1, .ref la]
  refine fun T40 X40 eh40 => ?_
  refine own_callPP X40 hx hZ hown (hw _ (wm 43 rfl)) (hw _ (wm 45 rfl)) (hw _ (wm 6 rfl)) (hw _ (wm 44 rfl)) (hw _ (wm 7 rfl)) (hw _ (wm 46 rfl)) (by decide) eh40 EX_38 [.int 2] pd9 rfl (fr := 0) (lo := 0) (rm9_l l Z a0 hw [] a la va (2 : Int32) (8 : Int32) (8 : Int32) r2 hp38 n0 Z_38 F1_38 F2_38 F3_38 (Av_38.ln (8 : Int32) rfl) (by decide) (Ar38'.at (2 : Int32) 2 rfl rfl)) (by rw [hml]; rfl) 2 rfl (Nat.le_of_eq rfl) (hb hby d8_53) (by decide) (by decide) (by decide) (by decide) (fun T41 rv41 X41 eh41 qc41 => ?_)
  obtain rfl := qc41
  show own_Go p.tables e below _ (T41.setTop (mkF m 56 (Array.mk [zA a, zI 0, zI 8, zI 1, zI 1, zI 1]) [.double r2, .int 1, .ref la]))
  refine own_blk dec8 seq8 hby hx hZ hown hK hF 6 [] [] X41 eh41 ?_
  show own_Aft X41 hp38 _ 63 [zA a, zI 0, zI 8, zI 1, zI 1, zI 1] [.int 3, .ref a, .double r2, .int 1, .ref la]
  refine fun T42 X42 eh42 => ?_
  refine own_callPP X42 hx hZ hown (hw _ (wm 43 rfl)) (hw _ (wm 45 rfl)) (hw _ (wm 6 rfl)) (hw _ (wm 44 rfl)) (hw _ (wm 7 rfl)) (hw _ (wm 46 rfl)) (by decide) eh42 EX_38 [.int 3] pd9 rfl (fr := 0) (lo := 0) (rm9_l l Z a0 hw [] a la va (3 : Int32) (8 : Int32) (8 : Int32) r3 hp38 n0 Z_38 F1_38 F2_38 F3_38 (Av_38.ln (8 : Int32) rfl) (by decide) (Ar38'.at (3 : Int32) 3 rfl rfl)) (by rw [hml]; rfl) 4 rfl (Nat.le_of_eq rfl) (hb hby d8_63) (by decide) (by decide) (by decide) (by decide) (fun T43 rv43 X43 eh43 qc43 => ?_)
  obtain rfl := qc43
  show own_Go p.tables e below _ (T43.setTop (mkF m 66 (Array.mk [zA a, zI 0, zI 8, zI 1, zI 1, zI 1]) [.double r3, .double r2, .int 1, .ref la]))
  refine own_minDD X43 hx hZ hown (by decide +kernel) (hw _ (wm 47 rfl)) (hw _ (wm 48 rfl)) (hw _ (wm 18 rfl)) (hw _ (wm 49 rfl)) eh43 (own_nn Hr2.1) (own_nn Hr3.1) (by rw [hml]; rfl) 2 (Nat.le_of_eq rfl) (hb hby d8_66) (by decide) (by decide) (by decide) (by decide) (fun T44 X44 eh44 => ?_)
  have Hr1 := own_pick Hr2.1 Hr3.1
  generalize Native.java_lang_Math.nans.pick64 false r2 r3 = r1 at Hr1 ⊢
  show own_Go p.tables e below _ (T44.setTop (mkF m 69 (Array.mk [zA a, zI 0, zI 8, zI 1, zI 1, zI 1]) [.double r1, .int 1, .ref la]))
  refine own_sD X44 hx hZ eh44 Ar38' 1 rfl (by show 1 < 8; decide) (hb hby d8_69) (fun T45 hp45 X45 eh45 Wr45 Ar45 => ?_)
  have Ar45' : own_A Z hp45 la .double [.double 9218868437227405312, .double r1, .double r2, .double r3, .double r4, .double r5, .double r6, .double r7] := Ar45
  have Av_45 := Av_38.other Wr45 nav
  have EX_45 := Exa.wr Wr45 EX_38
  have F1_45 := Fld.other Wr45 F1_38 (Or.inl nal)
  have F2_45 := Fld.other Wr45 F2_38 (Or.inl nal)
  have F3_45 := Fld.other Wr45 F3_38 (Or.inl nal)
  have Nf45 := Fr.snoc X45 Nf38 nl
  have Z_45 : n0 ≤ hp45.size := by rw [Wr.size Wr45]; exact Z_38
  have K_45 := Keep.wr K_38 Wr45 (Or.inl (List.mem_of_getElem? (i := 0) rfl))
  refine own_blk dec8 seq8 hby hx hZ hown hK hF 17 [true, true] [] X45 eh45 ?_
  show (((1 : Int32)).toInt < ((2 : Int32)).toInt) ∧ ((2 : Int32) ≠ 0) ∧ ((2 : Int32) ≠ 0) ∧ (((0 : Int32)).toInt < ((1 : Int32)).toInt) ∧ own_Aft X45 hp45 _ 89 [zA a, zI 0, zI 8, zI 0, zI 0, zI 2] []
  refine ⟨by decide, by decide, by decide, by decide, fun T46 X46 eh46 => ?_⟩
  exact own_retV X46 hx hlk eh46 hret (hb hby d8_89) (by decide) (by decide) (⟨rfl, Nf45, K_45, r4, r5, r6, r7, r2, r3, r1, Ar45', Hr4, Hr5, Hr6, Hr7, Hr2, Hr3, Hr1⟩)
set_option maxRecDepth 65536 in
set_option maxHeartbeats 40000000 in
theorem rm11_0 (l : Launch) (Z : State) (a0 : Array Value) (hw : ∀ d ∈ tables_1, d.before a0 Z = true) (ws : List Jvm.Cond) (a la va : Addr) (x : UInt64) (h0 : Heap) (n0 : Nat) (Z0 : n0 ≤ h0.size) (EX : Exa Z h0 a "com/example/binwright/binwright/binning/LeastTree") (F1 : Fld Z h0 a "com/example/binwright/binwright/binning/LeastTree" "leaves" "I" (.int (2 : Int32))) (F2 : Fld Z h0 a "com/example/binwright/binwright/binning/LeastTree" "least" "[D" (.ref la)) (F3 : Fld Z h0 a "com/example/binwright/binwright/binning/LeastTree" "values" "[D" (.ref va)) (Al : own_A Z h0 la .double [.double 9218868437227405312, .double 9218868437227405312]) (Av : own_A Z h0 va .double []) (Nx : own_num x) :
    own_MF l (⟨"com/example/binwright/binwright/binning/LeastTree", "firstAtMost", "(D)I"⟩ : MethodName) prog_15_method_4_code 4 (some .int) ws ({ frames := 1, cells := 0, slots := 0, locals := 24 } : Room) #[.ref a, .double x] Z h0 (fun v h L => (∃ r : Int32, v = some (.int r) ∧ ((r = -1 ∧ own_z x < own_z 9218868437227405312) ∨ (r = 0 ∧ own_z 9218868437227405312 ≤ own_z x ∧ own_z 9218868437227405312 ≤ own_z x) ∨ (r = 1 ∧ own_z 9218868437227405312 ≤ own_z x ∧ own_z x < own_z 9218868437227405312))) ∧ L = [] ∧ h = h0) := by
  refine own_body pf11 (ls0 := [.val (.ref a), .val (.double x), .second, .unset]) (fun m => by first | (simp [entryFrame, mkF, argsToLocals, Value.category, maxLocals]; done) | rfl) ?_
  intro p e s m below meth c T0 hx hby hml hown hnm hlk hret hZ X0 e0
  have hK := hKt2 hw; have hF := hFt2 hw
  have N0 := Fr.nil n0
  rcases Int.lt_or_le (own_z x) (own_z 9218868437227405312) with q0 | q0
  · skip
    refine own_blk dec11 seq11 hby hx hZ hown hK hF 8 [false] [.ref la, .double 9218868437227405312] X0 e0 ?_
    show (Fld Z h0 a "com/example/binwright/binwright/binning/LeastTree" "least" "[D" (.ref la)) ∧ (own_at Z h0 la .double (1 : Int32) (.double 9218868437227405312)) ∧ (¬ ((cmpValue (FP.dcmp 9218868437227405312 x) .g).toInt ≤ 0)) ∧ own_Aft X0 h0 _ 12 [zA a, zD x, zS, zU] [.int (-1)]
    refine ⟨F2, Al.at (1 : Int32) 1 rfl rfl, by have := own_ggt (k := .g) own_infn Nx q0; omega, fun T1 X1 eh1 => ?_⟩
    exact own_ret X1 hx hlk eh1 hret (by first | rfl | decide) (Or.inl ⟨rfl, by simp, _, rfl⟩) (hb hby d11_12) (by decide) (by decide) (⟨⟨_, rfl, Or.inl (⟨rfl, q0⟩)⟩, rfl, rfl⟩)
  · skip
    refine own_blk dec11 seq11 hby hx hZ hown hK hF 9 [true] [.ref la, .double 9218868437227405312] X0 e0 ?_
    show (Fld Z h0 a "com/example/binwright/binwright/binning/LeastTree" "least" "[D" (.ref la)) ∧ (own_at Z h0 la .double (1 : Int32) (.double 9218868437227405312)) ∧ ((cmpValue (FP.dcmp 9218868437227405312 x) .g).toInt ≤ 0) ∧ own_Aft X0 h0 _ 15 [zA a, zD x, zS, zI 1] []
    refine ⟨F2, Al.at (1 : Int32) 1 rfl rfl, own_gle own_infn Nx q0, fun T2 X2 eh2 => ?_⟩
    refine own_blk dec11 seq11 hby hx hZ hown hK hF 8 [false] [.int 2] X2 eh2 ?_
    show (Fld Z h0 a "com/example/binwright/binwright/binning/LeastTree" "leaves" "I" (.int 2)) ∧ (¬ (((2 : Int32)).toInt ≤ ((1 : Int32)).toInt)) ∧ own_Aft X2 h0 _ 27 [zA a, zD x, zS, zI 1] [.int 2, .ref a]
    refine ⟨F1, by decide, fun T3 X3 eh3 => ?_⟩
    refine own_callPP X3 hx hZ hown (hw _ (wm 43 rfl)) (hw _ (wm 45 rfl)) (hw _ (wm 6 rfl)) (hw _ (wm 44 rfl)) (hw _ (wm 7 rfl)) (hw _ (wm 46 rfl)) (by decide) eh3 EX [.int 2] pd9 rfl (fr := 0) (lo := 0) (rm9_o l Z a0 hw [] a la va (2 : Int32) (2 : Int32) (0 : Int32) 9218868437227405312 h0 n0 Z0 F1 F2 F3 (Av.ln (0 : Int32) rfl) (by decide) (by decide) rfl) (by rw [hml]; rfl) 0 rfl (Nat.le_of_eq rfl) (hb hby d11_27) (by decide) (by decide) (by decide) (by decide) (fun T4 rv4 X4 eh4 qc4 => ?_)
    obtain rfl := qc4
    show own_Go p.tables e below _ (T4.setTop (mkF m 30 (Array.mk [zA a, zD x, zS, zI 1]) [.double 9218868437227405312]))
    rcases Int.lt_or_le (own_z x) (own_z 9218868437227405312) with q1 | q1
    · skip
      refine own_blk dec11 seq11 hby hx hZ hown hK hF 10 [true] [] X4 eh4 ?_
      show (0 < (cmpValue (FP.dcmp 9218868437227405312 x) .g).toInt) ∧ own_Aft X4 h0 _ 15 [zA a, zD x, zS, zI 3] []
      refine ⟨own_ggt own_infn Nx q1, fun T5 X5 eh5 => ?_⟩
      refine own_blk dec11 seq11 hby hx hZ hown hK hF 8 [true] [.int 2, .int 2] X5 eh5 ?_
      show (Fld Z h0 a "com/example/binwright/binwright/binning/LeastTree" "leaves" "I" (.int 2)) ∧ (((2 : Int32)).toInt ≤ ((3 : Int32)).toInt) ∧ (Fld Z h0 a "com/example/binwright/binwright/binning/LeastTree" "leaves" "I" (.int 2)) ∧ own_Aft X5 h0 _ 56 [zA a, zD x, zS, zI 3] [.int 1]
      refine ⟨F1, by decide, F1, fun T6 X6 eh6 => ?_⟩
      exact own_ret X6 hx hlk eh6 hret (by first | rfl | decide) (Or.inl ⟨rfl, by simp, _, rfl⟩) (hb hby d11_56) (by decide) (by decide) (⟨⟨_, rfl, Or.inr (Or.inr (⟨rfl, q0, q1⟩))⟩, rfl, rfl⟩)
    · skip
      refine own_blk dec11 seq11 hby hx hZ hown hK hF 9 [false] [] X4 eh4 ?_
      show (¬ (0 < (cmpValue (FP.dcmp 9218868437227405312 x) .g).toInt)) ∧ own_Aft X4 h0 _ 15 [zA a, zD x, zS, zI 2] []
      refine ⟨by have := own_gle (k := .g) own_infn Nx q1; omega, fun T7 X7 eh7 => ?_⟩
      refine own_blk dec11 seq11 hby hx hZ hown hK hF 8 [true] [.int 2, .int 2] X7 eh7 ?_
      show (Fld Z h0 a "com/example/binwright/binwright/binning/LeastTree" "leaves" "I" (.int 2)) ∧ (((2 : Int32)).toInt ≤ ((2 : Int32)).toInt) ∧ (Fld Z h0 a "com/example/binwright/binwright/binning/LeastTree" "leaves" "I" (.int 2)) ∧ own_Aft X7 h0 _ 56 [zA a, zD x, zS, zI 2] [.int 0]
      refine ⟨F1, by decide, F1, fun T8 X8 eh8 => ?_⟩
      exact own_ret X8 hx hlk eh8 hret (by first | rfl | decide) (Or.inl ⟨rfl, by simp, _, rfl⟩) (hb hby d11_56) (by decide) (by decide) (⟨⟨_, rfl, Or.inr (Or.inl (⟨rfl, q0, q1⟩))⟩, rfl, rfl⟩)
set_option maxRecDepth 65536 in
set_option maxHeartbeats 40000000 in
theorem rm11_1 (l : Launch) (Z : State) (a0 : Array Value) (hw : ∀ d ∈ tables_1, d.before a0 Z = true) (ws : List Jvm.Cond) (a la va : Addr) (v0 r1 x : UInt64) (h0 : Heap) (n0 : Nat) (Z0 : n0 ≤ h0.size) (EX : Exa Z h0 a "com/example/binwright/binwright/binning/LeastTree") (F1 : Fld Z h0 a "com/example/binwright/binwright/binning/LeastTree" "leaves" "I" (.int (2 : Int32))) (F2 : Fld Z h0 a "com/example/binwright/binwright/binning/LeastTree" "least" "[D" (.ref la)) (F3 : Fld Z h0 a "com/example/binwright/binwright/binning/LeastTree" "values" "[D" (.ref va)) (Al : own_A Z h0 la .double [.double 9218868437227405312, .double r1]) (Av : own_A Z h0 va .double [.double v0]) (Nv0 : own_num v0) (Nr1 : own_num r1) (Nx : own_num x) :
    own_MF l (⟨"com/example/binwright/binwright/binning/LeastTree", "firstAtMost", "(D)I"⟩ : MethodName) prog_15_method_4_code 4 (some .int) ws ({ frames := 1, cells := 0, slots := 0, locals := 24 } : Room) #[.ref a, .double x] Z h0 (fun v h L => (∃ r : Int32, v = some (.int r) ∧ ((r = -1 ∧ own_z x < own_z r1) ∨ (r = 0 ∧ own_z r1 ≤ own_z x ∧ own_z v0 ≤ own_z x) ∨ (r = 1 ∧ own_z r1 ≤ own_z x ∧ own_z x < own_z v0))) ∧ L = [] ∧ h = h0) := by
  refine own_body pf11 (ls0 := [.val (.ref a), .val (.double x), .second, .unset]) (fun m => by first | (simp [entryFrame, mkF, argsToLocals, Value.category, maxLocals]; done) | rfl) ?_
  intro p e s m below meth c T0 hx hby hml hown hnm hlk hret hZ X0 e0
  have hK := hKt2 hw; have hF := hFt2 hw
  have N0 := Fr.nil n0
  rcases Int.lt_or_le (own_z x) (own_z r1) with q0 | q0
  · skip
    refine own_blk dec11 seq11 hby hx hZ hown hK hF 8 [false] [.ref la, .double r1] X0 e0 ?_
    show (Fld Z h0 a "com/example/binwright/binwright/binning/LeastTree" "least" "[D" (.ref la)) ∧ (own_at Z h0 la .double (1 : Int32) (.double r1)) ∧ (¬ ((cmpValue (FP.dcmp r1 x) .g).toInt ≤ 0)) ∧ own_Aft X0 h0 _ 12 [zA a, zD x, zS, zU] [.int (-1)]
    refine ⟨F2, Al.at (1 : Int32) 1 rfl rfl, by have := own_ggt (k := .g) Nr1 Nx q0; omega, fun T1 X1 eh1 => ?_⟩
    exact own_ret X1 hx hlk eh1 hret (by first | rfl | decide) (Or.inl ⟨rfl, by simp, _, rfl⟩) (hb hby d11_12) (by decide) (by decide) (⟨⟨_, rfl, Or.inl (⟨rfl, q0⟩)⟩, rfl, rfl⟩)
  · skip
    refine own_blk dec11 seq11 hby hx hZ hown hK hF 9 [true] [.ref la, .double r1] X0 e0 ?_
    show (Fld Z h0 a "com/example/binwright/binwright/binning/LeastTree" "least" "[D" (.ref la)) ∧ (own_at Z h0 la .double (1 : Int32) (.double r1)) ∧ ((cmpValue (FP.dcmp r1 x) .g).toInt ≤ 0) ∧ own_Aft X0 h0 _ 15 [zA a, zD x, zS, zI 1] []
    refine ⟨F2, Al.at (1 : Int32) 1 rfl rfl, own_gle Nr1 Nx q0, fun T2 X2 eh2 => ?_⟩
    refine own_blk dec11 seq11 hby hx hZ hown hK hF 8 [false] [.int 2] X2 eh2 ?_
    show (Fld Z h0 a "com/example/binwright/binwright/binning/LeastTree" "leaves" "I" (.int 2)) ∧ (¬ (((2 : Int32)).toInt ≤ ((1 : Int32)).toInt)) ∧ own_Aft X2 h0 _ 27 [zA a, zD x, zS, zI 1] [.int 2, .ref a]
    refine ⟨F1, by decide, fun T3 X3 eh3 => ?_⟩
    refine own_callPP X3 hx hZ hown (hw _ (wm 43 rfl)) (hw _ (wm 45 rfl)) (hw _ (wm 6 rfl)) (hw _ (wm 44 rfl)) (hw _ (wm 7 rfl)) (hw _ (wm 46 rfl)) (by decide) eh3 EX [.int 2] pd9 rfl (fr := 0) (lo := 0) (rm9_v l Z a0 hw [] a la va (2 : Int32) (2 : Int32) (1 : Int32) v0 h0 n0 Z0 F1 F2 F3 (Av.ln (1 : Int32) rfl) (by decide) (by decide) (Av.at ((2 : Int32) - (2 : Int32)) 0 rfl rfl)) (by rw [hml]; rfl) 0 rfl (Nat.le_of_eq rfl) (hb hby d11_27) (by decide) (by decide) (by decide) (by decide) (fun T4 rv4 X4 eh4 qc4 => ?_)
    obtain rfl := qc4
    show own_Go p.tables e below _ (T4.setTop (mkF m 30 (Array.mk [zA a, zD x, zS, zI 1]) [.double v0]))
    rcases Int.lt_or_le (own_z x) (own_z v0) with q1 | q1
    · skip
      refine own_blk dec11 seq11 hby hx hZ hown hK hF 10 [true] [] X4 eh4 ?_
      show (0 < (cmpValue (FP.dcmp v0 x) .g).toInt) ∧ own_Aft X4 h0 _ 15 [zA a, zD x, zS, zI 3] []
      refine ⟨own_ggt Nv0 Nx q1, fun T5 X5 eh5 => ?_⟩
      refine own_blk dec11 seq11 hby hx hZ hown hK hF 8 [true] [.int 2, .int 2] X5 eh5 ?_
      show (Fld Z h0 a "com/example/binwright/binwright/binning/LeastTree" "leaves" "I" (.int 2)) ∧ (((2 : Int32)).toInt ≤ ((3 : Int32)).toInt) ∧ (Fld Z h0 a "com/example/binwright/binwright/binning/LeastTree" "leaves" "I" (.int 2)) ∧ own_Aft X5 h0 _ 56 [zA a, zD x, zS, zI 3] [.int 1]
      refine ⟨F1, by decide, F1, fun T6 X6 eh6 => ?_⟩
      exact own_ret X6 hx hlk eh6 hret (by first | rfl | decide) (Or.inl ⟨rfl, by simp, _, rfl⟩) (hb hby d11_56) (by decide) (by decide) (⟨⟨_, rfl, Or.inr (Or.inr (⟨rfl, q0, q1⟩))⟩, rfl, rfl⟩)
    · skip
      refine own_blk dec11 seq11 hby hx hZ hown hK hF 9 [false] [] X4 eh4 ?_
      show (¬ (0 < (cmpValue (FP.dcmp v0 x) .g).toInt)) ∧ own_Aft X4 h0 _ 15 [zA a, zD x, zS, zI 2] []
      refine ⟨by have := own_gle (k := .g) Nv0 Nx q1; omega, fun T7 X7 eh7 => ?_⟩
      refine own_blk dec11 seq11 hby hx hZ hown hK hF 8 [true] [.int 2, .int 2] X7 eh7 ?_
      show (Fld Z h0 a "com/example/binwright/binwright/binning/LeastTree" "leaves" "I" (.int 2)) ∧ (((2 : Int32)).toInt ≤ ((2 : Int32)).toInt) ∧ (Fld Z h0 a "com/example/binwright/binwright/binning/LeastTree" "leaves" "I" (.int 2)) ∧ own_Aft X7 h0 _ 56 [zA a, zD x, zS, zI 2] [.int 0]
      refine ⟨F1, by decide, F1, fun T8 X8 eh8 => ?_⟩
      exact own_ret X8 hx hlk eh8 hret (by first | rfl | decide) (Or.inl ⟨rfl, by simp, _, rfl⟩) (hb hby d11_56) (by decide) (by decide) (⟨⟨_, rfl, Or.inr (Or.inl (⟨rfl, q0, q1⟩))⟩, rfl, rfl⟩)
set_option maxRecDepth 65536 in
set_option maxHeartbeats 40000000 in
theorem rm11_2 (l : Launch) (Z : State) (a0 : Array Value) (hw : ∀ d ∈ tables_1, d.before a0 Z = true) (ws : List Jvm.Cond) (a la va : Addr) (v0 v1 r1 x : UInt64) (h0 : Heap) (n0 : Nat) (Z0 : n0 ≤ h0.size) (EX : Exa Z h0 a "com/example/binwright/binwright/binning/LeastTree") (F1 : Fld Z h0 a "com/example/binwright/binwright/binning/LeastTree" "leaves" "I" (.int (2 : Int32))) (F2 : Fld Z h0 a "com/example/binwright/binwright/binning/LeastTree" "least" "[D" (.ref la)) (F3 : Fld Z h0 a "com/example/binwright/binwright/binning/LeastTree" "values" "[D" (.ref va)) (Al : own_A Z h0 la .double [.double 9218868437227405312, .double r1]) (Av : own_A Z h0 va .double [.double v0, .double v1]) (Nv0 : own_num v0) (Nv1 : own_num v1) (Nr1 : own_num r1) (Nx : own_num x) :
    own_MF l (⟨"com/example/binwright/binwright/binning/LeastTree", "firstAtMost", "(D)I"⟩ : MethodName) prog_15_method_4_code 4 (some .int) ws ({ frames := 1, cells := 0, slots := 0, locals := 24 } : Room) #[.ref a, .double x] Z h0 (fun v h L => (∃ r : Int32, v = some (.int r) ∧ ((r = -1 ∧ own_z x < own_z r1) ∨ (r = 0 ∧ own_z r1 ≤ own_z x ∧ own_z v0 ≤ own_z x) ∨ (r = 1 ∧ own_z r1 ≤ own_z x ∧ own_z x < own_z v0))) ∧ L = [] ∧ h = h0) := by
  refine own_body pf11 (ls0 := [.val (.ref a), .val (.double x), .second, .unset]) (fun m => by first | (simp [entryFrame, mkF, argsToLocals, Value.category, maxLocals]; done) | rfl) ?_
  intro p e s m below meth c T0 hx hby hml hown hnm hlk hret hZ X0 e0
  have hK := hKt2 hw; have hF := hFt2 hw
  have N0 := Fr.nil n0
  rcases Int.lt_or_le (own_z x) (own_z r1) with q0 | q0
  · skip
    refine own_blk dec11 seq11 hby hx hZ hown hK hF 8 [false] [.ref la, .double r1] X0 e0 ?_
    show (Fld Z h0 a "com/example/binwright/binwright/binning/LeastTree" "least" "[D" (.ref la)) ∧ (own_at Z h0 la .double (1 : Int32) (.double r1)) ∧ (¬ ((cmpValue (FP.dcmp r1 x) .g).toInt ≤ 0)) ∧ own_Aft X0 h0 _ 12 [zA a, zD x, zS, zU] [.int (-1)]
    refine ⟨F2, Al.at (1 : Int32) 1 rfl rfl, by have := own_ggt (k := .g) Nr1 Nx q0; omega, fun T1 X1 eh1 => ?_⟩
    exact own_ret X1 hx hlk eh1 hret (by first | rfl | decide) (Or.inl ⟨rfl, by simp, _, rfl⟩) (hb hby d11_12) (by decide) (by decide) (⟨⟨_, rfl, Or.inl (⟨rfl, q0⟩)⟩, rfl, rfl⟩)
  · skip
    refine own_blk dec11 seq11 hby hx hZ hown hK hF 9 [true] [.ref la, .double r1] X0 e0 ?_
    show (Fld Z h0 a "com/example/binwright/binwright/binning/LeastTree" "least" "[D" (.ref la)) ∧ (own_at Z h0 la .double (1 : Int32) (.double r1)) ∧ ((cmpValue (FP.dcmp r1 x) .g).toInt ≤ 0) ∧ own_Aft X0 h0 _ 15 [zA a, zD x, zS, zI 1] []
    refine ⟨F2, Al.at (1 : Int32) 1 rfl rfl, own_gle Nr1 Nx q0, fun T2 X2 eh2 => ?_⟩
    refine own_blk dec11 seq11 hby hx hZ hown hK hF 8 [false] [.int 2] X2 eh2 ?_
    show (Fld Z h0 a "com/example/binwright/binwright/binning/LeastTree" "leaves" "I" (.int 2)) ∧ (¬ (((2 : Int32)).toInt ≤ ((1 : Int32)).toInt)) ∧ own_Aft X2 h0 _ 27 [zA a, zD x, zS, zI 1] [.int 2, .ref a]
    refine ⟨F1, by decide, fun T3 X3 eh3 => ?_⟩
    refine own_callPP X3 hx hZ hown (hw _ (wm 43 rfl)) (hw _ (wm 45 rfl)) (hw _ (wm 6 rfl)) (hw _ (wm 44 rfl)) (hw _ (wm 7 rfl)) (hw _ (wm 46 rfl)) (by decide) eh3 EX [.int 2] pd9 rfl (fr := 0) (lo := 0) (rm9_v l Z a0 hw [] a la va (2 : Int32) (2 : Int32) (2 : Int32) v0 h0 n0 Z0 F1 F2 F3 (Av.ln (2 : Int32) rfl) (by decide) (by decide) (Av.at ((2 : Int32) - (2 : Int32)) 0 rfl rfl)) (by rw [hml]; rfl) 0 rfl (Nat.le_of_eq rfl) (hb hby d11_27) (by decide) (by decide) (by decide) (by decide) (fun T4 rv4 X4 eh4 qc4 => ?_)
    obtain rfl := qc4
    show own_Go p.tables e below _ (T4.setTop (mkF m 30 (Array.mk [zA a, zD x, zS, zI 1]) [.double v0]))
    rcases Int.lt_or_le (own_z x) (own_z v0) with q1 | q1
    · skip
      refine own_blk dec11 seq11 hby hx hZ hown hK hF 10 [true] [] X4 eh4 ?_
      show (0 < (cmpValue (FP.dcmp v0 x) .g).toInt) ∧ own_Aft X4 h0 _ 15 [zA a, zD x, zS, zI 3] []
      refine ⟨own_ggt Nv0 Nx q1, fun T5 X5 eh5 => ?_⟩
      refine own_blk dec11 seq11 hby hx hZ hown hK hF 8 [true] [.int 2, .int 2] X5 eh5 ?_
      show (Fld Z h0 a "com/example/binwright/binwright/binning/LeastTree" "leaves" "I" (.int 2)) ∧ (((2 : Int32)).toInt ≤ ((3 : Int32)).toInt) ∧ (Fld Z h0 a "com/example/binwright/binwright/binning/LeastTree" "leaves" "I" (.int 2)) ∧ own_Aft X5 h0 _ 56 [zA a, zD x, zS, zI 3] [.int 1]
      refine ⟨F1, by decide, F1, fun T6 X6 eh6 => ?_⟩
      exact own_ret X6 hx hlk eh6 hret (by first | rfl | decide) (Or.inl ⟨rfl, by simp, _, rfl⟩) (hb hby d11_56) (by decide) (by decide) (⟨⟨_, rfl, Or.inr (Or.inr (⟨rfl, q0, q1⟩))⟩, rfl, rfl⟩)
    · skip
      refine own_blk dec11 seq11 hby hx hZ hown hK hF 9 [false] [] X4 eh4 ?_
      show (¬ (0 < (cmpValue (FP.dcmp v0 x) .g).toInt)) ∧ own_Aft X4 h0 _ 15 [zA a, zD x, zS, zI 2] []
      refine ⟨by have := own_gle (k := .g) Nv0 Nx q1; omega, fun T7 X7 eh7 => ?_⟩
      refine own_blk dec11 seq11 hby hx hZ hown hK hF 8 [true] [.int 2, .int 2] X7 eh7 ?_
      show (Fld Z h0 a "com/example/binwright/binwright/binning/LeastTree" "leaves" "I" (.int 2)) ∧ (((2 : Int32)).toInt ≤ ((2 : Int32)).toInt) ∧ (Fld Z h0 a "com/example/binwright/binwright/binning/LeastTree" "leaves" "I" (.int 2)) ∧ own_Aft X7 h0 _ 56 [zA a, zD x, zS, zI 2] [.int 0]
      refine ⟨F1, by decide, F1, fun T8 X8 eh8 => ?_⟩
      exact own_ret X8 hx hlk eh8 hret (by first | rfl | decide) (Or.inl ⟨rfl, by simp, _, rfl⟩) (hb hby d11_56) (by decide) (by decide) (⟨⟨_, rfl, Or.inr (Or.inl (⟨rfl, q0, q1⟩))⟩, rfl, rfl⟩)
set_option maxRecDepth 65536 in
set_option maxHeartbeats 40000000 in
theorem rm11_3 (l : Launch) (Z : State) (a0 : Array Value) (hw : ∀ d ∈ tables_1, d.before a0 Z = true) (ws : List Jvm.Cond) (a la va : Addr) (v0 v1 v2 r1 r2 r3 x : UInt64) (h0 : Heap) (n0 : Nat) (Z0 : n0 ≤ h0.size) (EX : Exa Z h0 a "com/example/binwright/binwright/binning/LeastTree") (F1 : Fld Z h0 a "com/example/binwright/binwright/binning/LeastTree" "leaves" "I" (.int (4 : Int32))) (F2 : Fld Z h0 a "com/example/binwright/binwright/binning/LeastTree" "least" "[D" (.ref la)) (F3 : Fld Z h0 a "com/example/binwright/binwright/binning/LeastTree" "values" "[D" (.ref va)) (Al : own_A Z h0 la .double [.double 9218868437227405312, .double r1, .double r2, .double r3]) (Av : own_A Z h0 va .double [.double v0, .double v1, .double v2]) (Nv0 : own_num v0) (Nv1 : own_num v1) (Nv2 : own_num v2) (Nr1 : own_num r1) (Nr2 : own_num r2) (Nr3 : own_num r3) (Nx : own_num x) :
    own_MF l (⟨"com/example/binwright/binwright/binning/LeastTree", "firstAtMost", "(D)I"⟩ : MethodName) prog_15_method_4_code 4 (some .int) ws ({ frames := 1, cells := 0, slots := 0, locals := 24 } : Room) #[.ref a, .double x] Z h0 (fun v h L => (∃ r : Int32, v = some (.int r) ∧ ((r = -1 ∧ own_z x < own_z r1) ∨ (r = 0 ∧ own_z r1 ≤ own_z x ∧ own_z r2 ≤ own_z x ∧ own_z v0 ≤ own_z x) ∨ (r = 1 ∧ own_z r1 ≤ own_z x ∧ own_z r2 ≤ own_z x ∧ own_z x < own_z v0) ∨ (r = 2 ∧ own_z r1 ≤ own_z x ∧ own_z x < own_z r2 ∧ own_z v2 ≤ own_z x) ∨ (r = 3 ∧ own_z r1 ≤ own_z x ∧ own_z x < own_z r2 ∧ own_z x < own_z v2))) ∧ L = [] ∧ h = h0) := by
  refine own_body pf11 (ls0 := [.val (.ref a), .val (.double x), .second, .unset]) (fun m => by first | (simp [entryFrame, mkF, argsToLocals, Value.category, maxLocals]; done) | rfl) ?_
  intro p e s m below meth c T0 hx hby hml hown hnm hlk hret hZ X0 e0
  have hK := hKt2 hw; have hF := hFt2 hw
  have N0 := Fr.nil n0
  rcases Int.lt_or_le (own_z x) (own_z r1) with q0 | q0
  · skip
    refine own_blk dec11 seq11 hby hx hZ hown hK hF 8 [false] [.ref la, .double r1] X0 e0 ?_
    show (Fld Z h0 a "com/example/binwright/binwright/binning/LeastTree" "least" "[D" (.ref la)) ∧ (own_at Z h0 la .double (1 : Int32) (.double r1)) ∧ (¬ ((cmpValue (FP.dcmp r1 x) .g).toInt ≤ 0)) ∧ own_Aft X0 h0 _ 12 [zA a, zD x, zS, zU] [.int (-1)]
    refine ⟨F2, Al.at (1 : Int32) 1 rfl rfl, by have := own_ggt (k := .g) Nr1 Nx q0; omega, fun T1 X1 eh1 => ?_⟩
    exact own_ret X1 hx hlk eh1 hret (by first | rfl | decide) (Or.inl ⟨rfl, by simp, _, rfl⟩) (hb hby d11_12) (by decide) (by decide) (⟨⟨_, rfl, Or.inl (⟨rfl, q0⟩)⟩, rfl, rfl⟩)
  · skip
    refine own_blk dec11 seq11 hby hx hZ hown hK hF 9 [true] [.ref la, .double r1] X0 e0 ?_
    show (Fld Z h0 a "com/example/binwright/binwright/binning/LeastTree" "least" "[D" (.ref la)) ∧ (own_at Z h0 la .double (1 : Int32) (.double r1)) ∧ ((cmpValue (FP.dcmp r1 x) .g).toInt ≤ 0) ∧ own_Aft X0 h0 _ 15 [zA a, zD x, zS, zI 1] []
    refine ⟨F2, Al.at (1 : Int32) 1 rfl rfl, own_gle Nr1 Nx q0, fun T2 X2 eh2 => ?_⟩
    refine own_blk dec11 seq11 hby hx hZ hown hK hF 8 [false] [.int 4] X2 eh2 ?_
    show (Fld Z h0 a "com/example/binwright/binwright/binning/LeastTree" "leaves" "I" (.int 4)) ∧ (¬ (((4 : Int32)).toInt ≤ ((1 : Int32)).toInt)) ∧ own_Aft X2 h0 _ 27 [zA a, zD x, zS, zI 1] [.int 2, .ref a]
    refine ⟨F1, by decide, fun T3 X3 eh3 => ?_⟩
    refine own_callPP X3 hx hZ hown (hw _ (wm 43 rfl)) (hw _ (wm 45 rfl)) (hw _ (wm 6 rfl)) (hw _ (wm 44 rfl)) (hw _ (wm 7 rfl)) (hw _ (wm 46 rfl)) (by decide) eh3 EX [.int 2] pd9 rfl (fr := 0) (lo := 0) (rm9_l l Z a0 hw [] a la va (2 : Int32) (4 : Int32) (3 : Int32) r2 h0 n0 Z0 F1 F2 F3 (Av.ln (3 : Int32) rfl) (by decide) (Al.at (2 : Int32) 2 rfl rfl)) (by rw [hml]; rfl) 0 rfl (Nat.le_of_eq rfl) (hb hby d11_27) (by decide) (by decide) (by decide) (by decide) (fun T4 rv4 X4 eh4 qc4 => ?_)
    obtain rfl := qc4
    show own_Go p.tables e below _ (T4.setTop (mkF m 30 (Array.mk [zA a, zD x, zS, zI 1]) [.double r2]))
    rcases Int.lt_or_le (own_z x) (own_z r2) with q1 | q1
    · skip
      refine own_blk dec11 seq11 hby hx hZ hown hK hF 10 [true] [] X4 eh4 ?_
      show (0 < (cmpValue (FP.dcmp r2 x) .g).toInt) ∧ own_Aft X4 h0 _ 15 [zA a, zD x, zS, zI 3] []
      refine ⟨own_ggt Nr2 Nx q1, fun T5 X5 eh5 => ?_⟩
      refine own_blk dec11 seq11 hby hx hZ hown hK hF 8 [false] [.int 4] X5 eh5 ?_
      show (Fld Z h0 a "com/example/binwright/binwright/binning/LeastTree" "leaves" "I" (.int 4)) ∧ (¬ (((4 : Int32)).toInt ≤ ((3 : Int32)).toInt)) ∧ own_Aft X5 h0 _ 27 [zA a, zD x, zS, zI 3] [.int 6, .ref a]
      refine ⟨F1, by decide, fun T6 X6 eh6 => ?_⟩
      refine own_callPP X6 hx hZ hown (hw _ (wm 43 rfl)) (hw _ (wm 45 rfl)) (hw _ (wm 6 rfl)) (hw _ (wm 44 rfl)) (hw _ (wm 7 rfl)) (hw _ (wm 46 rfl)) (by decide) eh6 EX [.int 6] pd9 rfl (fr := 0) (lo := 0) (rm9_v l Z a0 hw [] a la va (6 : Int32) (4 : Int32) (3 : Int32) v2 h0 n0 Z0 F1 F2 F3 (Av.ln (3 : Int32) rfl) (by decide) (by decide) (Av.at ((6 : Int32) - (4 : Int32)) 2 rfl rfl)) (by rw [hml]; rfl) 0 rfl (Nat.le_of_eq rfl) (hb hby d11_27) (by decide) (by decide) (by decide) (by decide) (fun T7 rv7 X7 eh7 qc7 => ?_)
      obtain rfl := qc7
      show own_Go p.tables e below _ (T7.setTop (mkF m 30 (Array.mk [zA a, zD x, zS, zI 3]) [.double v2]))
      rcases Int.lt_or_le (own_z x) (own_z v2) with q3 | q3
      · skip
        refine own_blk dec11 seq11 hby hx hZ hown hK hF 10 [true] [] X7 eh7 ?_
        show (0 < (cmpValue (FP.dcmp v2 x) .g).toInt) ∧ own_Aft X7 h0 _ 15 [zA a, zD x, zS, zI 7] []
        refine ⟨own_ggt Nv2 Nx q3, fun T8 X8 eh8 => ?_⟩
        refine own_blk dec11 seq11 hby hx hZ hown hK hF 8 [true] [.int 4, .int 4] X8 eh8 ?_
        show (Fld Z h0 a "com/example/binwright/binwright/binning/LeastTree" "leaves" "I" (.int 4)) ∧ (((4 : Int32)).toInt ≤ ((7 : Int32)).toInt) ∧ (Fld Z h0 a "com/example/binwright/binwright/binning/LeastTree" "leaves" "I" (.int 4)) ∧ own_Aft X8 h0 _ 56 [zA a, zD x, zS, zI 7] [.int 3]
        refine ⟨F1, by decide, F1, fun T9 X9 eh9 => ?_⟩
        exact own_ret X9 hx hlk eh9 hret (by first | rfl | decide) (Or.inl ⟨rfl, by simp, _, rfl⟩) (hb hby d11_56) (by decide) (by decide) (⟨⟨_, rfl, Or.inr (Or.inr (Or.inr (Or.inr (⟨rfl, q0, q1, q3⟩))))⟩, rfl, rfl⟩)
      · skip
        refine own_blk dec11 seq11 hby hx hZ hown hK hF 9 [false] [] X7 eh7 ?_
        show (¬ (0 < (cmpValue (FP.dcmp v2 x) .g).toInt)) ∧ own_Aft X7 h0 _ 15 [zA a, zD x, zS, zI 6] []
        refine ⟨by have := own_gle (k := .g) Nv2 Nx q3; omega, fun T10 X10 eh10 => ?_⟩
        refine own_blk dec11 seq11 hby hx hZ hown hK hF 8 [true] [.int 4, .int 4] X10 eh10 ?_
        show (Fld Z h0 a "com/example/binwright/binwright/binning/LeastTree" "leaves" "I" (.int 4)) ∧ (((4 : Int32)).toInt ≤ ((6 : Int32)).toInt) ∧ (Fld Z h0 a "com/example/binwright/binwright/binning/LeastTree" "leaves" "I" (.int 4)) ∧ own_Aft X10 h0 _ 56 [zA a, zD x, zS, zI 6] [.int 2]
        refine ⟨F1, by decide, F1, fun T11 X11 eh11 => ?_⟩
        exact own_ret X11 hx hlk eh11 hret (by first | rfl | decide) (Or.inl ⟨rfl, by simp, _, rfl⟩) (hb hby d11_56) (by decide) (by decide) (⟨⟨_, rfl, Or.inr (Or.inr (Or.inr (Or.inl (⟨rfl, q0, q1, q3⟩))))⟩, rfl, rfl⟩)
    · skip
      refine own_blk dec11 seq11 hby hx hZ hown hK hF 9 [false] [] X4 eh4 ?_
      show (¬ (0 < (cmpValue (FP.dcmp r2 x) .g).toInt)) ∧ own_Aft X4 h0 _ 15 [zA a, zD x, zS, zI 2] []
      refine ⟨by have := own_gle (k := .g) Nr2 Nx q1; omega, fun T12 X12 eh12 => ?_⟩
      refine own_blk dec11 seq11 hby hx hZ hown hK hF 8 [false] [.int 4] X12 eh12 ?_
      show (Fld Z h0 a "com/example/binwright/binwright/binning/LeastTree" "leaves" "I" (.int 4)) ∧ (¬ (((4 : Int32)).toInt ≤ ((2 : Int32)).toInt)) ∧ own_Aft X12 h0 _ 27 [zA a, zD x, zS, zI 2] [.int 4, .ref a]
      refine ⟨F1, by decide, fun T13 X13 eh13 => ?_⟩
      refine own_callPP X13 hx hZ hown (hw _ (wm 43 rfl)) (hw _ (wm 45 rfl)) (hw _ (wm 6 rfl)) (hw _ (wm 44 rfl)) (hw _ (wm 7 rfl)) (hw _ (wm 46 rfl)) (by decide) eh13 EX [.int 4] pd9 rfl (fr := 0) (lo := 0) (rm9_v l Z a0 hw [] a la va (4 : Int32) (4 : Int32) (3 : Int32) v0 h0 n0 Z0 F1 F2 F3 (Av.ln (3 : Int32) rfl) (by decide) (by decide) (Av.at ((4 : Int32) - (4 : Int32)) 0 rfl rfl)) (by rw [hml]; rfl) 0 rfl (Nat.le_of_eq rfl) (hb hby d11_27) (by decide) (by decide) (by decide) (by decide) (fun T14 rv14 X14 eh14 qc14 => ?_)
      obtain rfl := qc14
      show own_Go p.tables e below _ (T14.setTop (mkF m 30 (Array.mk [zA a, zD x, zS, zI 2]) [.double v0]))
      rcases Int.lt_or_le (own_z x) (own_z v0) with q2 | q2
      · skip
        refine own_blk dec11 seq11 hby hx hZ hown hK hF 10 [true] [] X14 eh14 ?_
        show (0 < (cmpValue (FP.dcmp v0 x) .g).toInt) ∧ own_Aft X14 h0 _ 15 [zA a, zD x, zS, zI 5] []
        refine ⟨own_ggt Nv0 Nx q2, fun T15 X15 eh15 => ?_⟩
        refine own_blk dec11 seq11 hby hx hZ hown hK hF 8 [true] [.int 4, .int 4] X15 eh15 ?_
        show (Fld Z h0 a "com/example/binwright/binwright/binning/LeastTree" "leaves" "I" (.int 4)) ∧ (((4 : Int32)).toInt ≤ ((5 : Int32)).toInt) ∧ (Fld Z h0 a "com/example/binwright/binwright/binning/LeastTree" "leaves" "I" (.int 4)) ∧ own_Aft X15 h0 _ 56 [zA a, zD x, zS, zI 5] [.int 1]
        refine ⟨F1, by decide, F1, fun T16 X16 eh16 => ?_⟩
        exact own_ret X16 hx hlk eh16 hret (by first | rfl | decide) (Or.inl ⟨rfl, by simp, _, rfl⟩) (hb hby d11_56) (by decide) (by decide) (⟨⟨_, rfl, Or.inr (Or.inr (Or.inl (⟨rfl, q0, q1, q2⟩)))⟩, rfl, rfl⟩)
      · skip
        refine own_blk dec11 seq11 hby hx hZ hown hK hF 9 [false] [] X14 eh14 ?_
        show (¬ (0 < (cmpValue (FP.dcmp v0 x) .g).toInt)) ∧ own_Aft X14 h0 _ 15 [zA a, zD x, zS, zI 4] []
        refine ⟨by have := own_gle (k := .g) Nv0 Nx q2; omega, fun T17 X17 eh17 => ?_⟩
        refine own_blk dec11 seq11 hby hx hZ hown hK hF 8 [true] [.int 4, .int 4] X17 eh17 ?_
        show (Fld Z h0 a "com/example/binwright/binwright/binning/LeastTree" "leaves" "I" (.int 4)) ∧ (((4 : Int32)).toInt ≤ ((4 : Int32)).toInt) ∧ (Fld Z h0 a "com/example/binwright/binwright/binning/LeastTree" "leaves" "I" (.int 4)) ∧ own_Aft X17 h0 _ 56 [zA a, zD x, zS, zI 4] [.int 0]
        refine ⟨F1, by decide, F1, fun T18 X18 eh18 => ?_⟩
        exact own_ret X18 hx hlk eh18 hret (by first | rfl | decide) (Or.inl ⟨rfl, by simp, _, rfl⟩) (hb hby d11_56) (by decide) (by decide) (⟨⟨_, rfl, Or.inr (Or.inl (⟨rfl, q0, q1, q2⟩))⟩, rfl, rfl⟩)
set_option maxRecDepth 65536 in
set_option maxHeartbeats 40000000 in
theorem rm11_4 (l : Launch) (Z : State) (a0 : Array Value) (hw : ∀ d ∈ tables_1, d.before a0 Z = true) (ws : List Jvm.Cond) (a la va : Addr) (v0 v1 v2 v3 r1 r2 r3 x : UInt64) (h0 : Heap) (n0 : Nat) (Z0 : n0 ≤ h0.size) (EX : Exa Z h0 a "com/example/binwright/binwright/binning/LeastTree") (F1 : Fld Z h0 a "com/example/binwright/binwright/binning/LeastTree" "leaves" "I" (.int (4 : Int32))) (F2 : Fld Z h0 a "com/example/binwright/binwright/binning/LeastTree" "least" "[D" (.ref la)) (F3 : Fld Z h0 a "com/example/binwright/binwright/binning/LeastTree" "values" "[D" (.ref va)) (Al : own_A Z h0 la .double [.double 9218868437227405312, .double r1, .double r2, .double r3]) (Av : own_A Z h0 va .double [.double v0, .double v1, .double v2, .double v3]) (Nv0 : own_num v0) (Nv1 : own_num v1) (Nv2 : own_num v2) (Nv3 : own_num v3) (Nr1 : own_num r1) (Nr2 : own_num r2) (Nr3 : own_num r3) (Nx : own_num x) :
    own_MF l (⟨"com/example/binwright/binwright/binning/LeastTree", "firstAtMost", "(D)I"⟩ : MethodName) prog_15_method_4_code 4 (some .int) ws ({ frames := 1, cells := 0, slots := 0, locals := 24 } : Room) #[.ref a, .double x] Z h0 (fun v h L => (∃ r : Int32, v = some (.int r) ∧ ((r = -1 ∧ own_z x < own_z r1) ∨ (r = 0 ∧ own_z r1 ≤ own_z x ∧ own_z r2 ≤ own_z x ∧ own_z v0 ≤ own_z x) ∨ (r = 1 ∧ own_z r1 ≤ own_z x ∧ own_z r2 ≤ own_z x ∧ own_z x < own_z v0) ∨ (r = 2 ∧ own_z r1 ≤ own_z x ∧ own_z x < own_z r2 ∧ own_z v2 ≤ own_z x) ∨ (r = 3 ∧ own_z r1 ≤ own_z x ∧ own_z x < own_z r2 ∧ own_z x < own_z v2))) ∧ L = [] ∧ h = h0) := by
  refine own_body pf11 (ls0 := [.val (.ref a), .val (.double x), .second, .unset]) (fun m => by first | (simp [entryFrame, mkF, argsToLocals, Value.category, maxLocals]; done) | rfl) ?_
  intro p e s m below meth c T0 hx hby hml hown hnm hlk hret hZ X0 e0
  have hK := hKt2 hw; have hF := hFt2 hw
  have N0 := Fr.nil n0
  rcases Int.lt_or_le (own_z x) (own_z r1) with q0 | q0
  · skip
    refine own_blk dec11 seq11 hby hx hZ hown hK hF 8 [false] [.ref la, .double r1] X0 e0 ?_
    show (Fld Z h0 a "com/example/binwright/binwright/binning/LeastTree" "least" "[D" (.ref la)) ∧ (own_at Z h0 la .double (1 : Int32) (.double r1)) ∧ (¬ ((cmpValue (FP.dcmp r1 x) .g).toInt ≤ 0)) ∧ own_Aft X0 h0 _ 12 [zA a, zD x, zS, zU] [.int (-1)]
    refine ⟨F2, Al.at (1 : Int32) 1 rfl rfl, by have := own_ggt (k := .g) Nr1 Nx q0; omega, fun T1 X1 eh1 => ?_⟩
    exact own_ret X1 hx hlk eh1 hret (by first | rfl | decide) (Or.inl ⟨rfl, by simp, _, rfl⟩) (hb hby d11_12) (by decide) (by decide) (⟨⟨_, rfl, Or.inl (⟨rfl, q0⟩)⟩, rfl, rfl⟩)
  · skip
    refine own_blk dec11 seq11 hby hx hZ hown hK hF 9 [true] [.ref la, .double r1] X0 e0 ?_
    show (Fld Z h0 a "com/example/binwright/binwright/binning/LeastTree" "least" "[D" (.ref la)) ∧ (own_at Z h0 la .double (1 : Int32) (.double r1)) ∧ ((cmpValue (FP.dcmp r1 x) .g).toInt ≤ 0) ∧ own_Aft X0 h0 _ 15 [zA a, zD x, zS, zI 1] []
    refine ⟨F2, Al.at (1 : Int32) 1 rfl rfl, own_gle Nr1 Nx q0, fun T2 X2 eh2 => ?_⟩
    refine own_blk dec11 seq11 hby hx hZ hown hK hF 8 [false] [.int 4] X2 eh2 ?_
    show (Fld Z h0 a "com/example/binwright/binwright/binning/LeastTree" "leaves" "I" (.int 4)) ∧ (¬ (((4 : Int32)).toInt ≤ ((1 : Int32)).toInt)) ∧ own_Aft X2 h0 _ 27 [zA a, zD x, zS, zI 1] [.int 2, .ref a]
    refine ⟨F1, by decide, fun T3 X3 eh3 => ?_⟩
    refine own_callPP X3 hx hZ hown (hw _ (wm 43 rfl)) (hw _ (wm 45 rfl)) (hw _ (wm 6 rfl)) (hw _ (wm 44 rfl)) (hw _ (wm 7 rfl)) (hw _ (wm 46 rfl)) (by decide) eh3 EX [.int 2] pd9 rfl (fr := 0) (lo := 0) (rm9_l l Z a0 hw [] a la va (2 : Int32) (4 : Int32) (4 : Int32) r2 h0 n0 Z0 F1 F2 F3 (Av.ln (4 : Int32) rfl) (by decide) (Al.at (2 : Int32) 2 rfl rfl)) (by rw [hml]; rfl) 0 rfl (Nat.le_of_eq rfl) (hb hby d11_27) (by decide) (by decide) (by decide) (by decide) (fun T4 rv4 X4 eh4 qc4 => ?_)
    obtain rfl := qc4
    show own_Go p.tables e below _ (T4.setTop (mkF m 30 (Array.mk [zA a, zD x, zS, zI 1]) [.double r2]))
    rcases Int.lt_or_le (own_z x) (own_z r2) with q1 | q1
    · skip
      refine own_blk dec11 seq11 hby hx hZ hown hK hF 10 [true] [] X4 eh4 ?_
      show (0 < (cmpValue (FP.dcmp r2 x) .g).toInt) ∧ own_Aft X4 h0 _ 15 [zA a, zD x, zS, zI 3] []
      refine ⟨own_ggt Nr2 Nx q1, fun T5 X5 eh5 => ?_⟩
      refine own_blk dec11 seq11 hby hx hZ hown hK hF 8 [false] [.int 4] X5 eh5 ?_
      show (Fld Z h0 a "com/example/binwright/binwright/binning/LeastTree" "leaves" "I" (.int 4)) ∧ (¬ (((4 : Int32)).toInt ≤ ((3 : Int32)).toInt)) ∧ own_Aft X5 h0 _ 27 [zA a, zD x, zS, zI 3] [.int 6, .ref a]
      refine ⟨F1, by decide, fun T6 X6 eh6 => ?_⟩
      refine own_callPP X6 hx hZ hown (hw _ (wm 43 rfl)) (hw _ (wm 45 rfl)) (hw _ (wm 6 rfl)) (hw _ (wm 44 rfl)) (hw _ (wm 7 rfl)) (hw _ (wm 46 rfl)) (by decide) eh6 EX [.int 6] pd9 rfl (fr := 0) (lo := 0) (rm9_v l Z a0 hw [] a la va (6 : Int32) (4 : Int32) (4 : Int32) v2 h0 n0 Z0 F1 F2 F3 (Av.ln (4 : Int32) rfl) (by decide) (by decide) (Av.at ((6 : Int32) - (4 : Int32)) 2 rfl rfl)) (by rw [hml]; rfl) 0 rfl (Nat.le_of_eq rfl) (hb hby d11_27) (by decide) (by decide) (by decide) (by decide) (fun T7 rv7 X7 eh7 qc7 => ?_)
      obtain rfl := qc7
      show own_Go p.tables e below _ (T7.setTop (mkF m 30 (Array.mk [zA a, zD x, zS, zI 3]) [.double v2]))
      rcases Int.lt_or_le (own_z x) (own_z v2) with q3 | q3
      · skip
        refine own_blk dec11 seq11 hby hx hZ hown hK hF 10 [true] [] X7 eh7 ?_
        show (0 < (cmpValue (FP.dcmp v2 x) .g).toInt) ∧ own_Aft X7 h0 _ 15 [zA a, zD x, zS, zI 7] []
        refine ⟨own_ggt Nv2 Nx q3, fun T8 X8 eh8 => ?_⟩
        refine own_blk dec11 seq11 hby hx hZ hown hK hF 8 [true] [.int 4, .int 4] X8 eh8 ?_
        show (Fld Z h0 a "com/example/binwright/binwright/binning/LeastTree" "leaves" "I" (.int 4)) ∧ (((4 : Int32)).toInt ≤ ((7 : Int32)).toInt) ∧ (Fld Z h0 a "com/example/binwright/binwright/binning/LeastTree" "leaves" "I" (.int 4)) ∧ own_Aft X8 h0 _ 56 [zA a, zD x, zS, zI 7] [.int 3]
        refine ⟨F1, by decide, F1, fun T9 X9 eh9 => ?_⟩
        exact own_ret X9 hx hlk eh9 hret (by first | rfl | decide) (Or.inl ⟨rfl, by simp, _, rfl⟩) (hb hby d11_56) (by decide) (by decide) (⟨⟨_, rfl, Or.inr (Or.inr (Or.inr (Or.inr (⟨rfl, q0, q1, q3⟩))))⟩, rfl, rfl⟩)
      · skip
        refine own_blk dec11 seq11 hby hx hZ hown hK hF 9 [false] [] X7 eh7 ?_
        show (¬ (0 < (cmpValue (FP.dcmp v2 x) .g).toInt)) ∧ own_Aft X7 h0 _ 15 [zA a, zD x, zS, zI 6] []
        refine ⟨by have := own_gle (k := .g) Nv2 Nx q3; omega, fun T10 X10 eh10 => ?_⟩
        refine own_blk dec11 seq11 hby hx hZ hown hK hF 8 [true] [.int 4, .int 4] X10 eh10 ?_
        show (Fld Z h0 a "com/example/binwright/binwright/binning/LeastTree" "leaves" "I" (.int 4)) ∧ (((4 : Int32)).toInt ≤ ((6 : Int32)).toInt) ∧ (Fld Z h0 a "com/example/binwright/binwright/binning/LeastTree" "leaves" "I" (.int 4)) ∧ own_Aft X10 h0 _ 56 [zA a, zD x, zS, zI 6] [.int 2]
        refine ⟨F1, by decide, F1, fun T11 X11 eh11 => ?_⟩
        exact own_ret X11 hx hlk eh11 hret (by first | rfl | decide) (Or.inl ⟨rfl, by simp, _, rfl⟩) (hb hby d11_56) (by decide) (by decide) (⟨⟨_, rfl, Or.inr (Or.inr (Or.inr (Or.inl (⟨rfl, q0, q1, q3⟩))))⟩, rfl, rfl⟩)
    · skip
      refine own_blk dec11 seq11 hby hx hZ hown hK hF 9 [false] [] X4 eh4 ?_
      show (¬ (0 < (cmpValue (FP.dcmp r2 x) .g).toInt)) ∧ own_Aft X4 h0 _ 15 [zA a, zD x, zS, zI 2] []
      refine ⟨by have := own_gle (k := .g) Nr2 Nx q1; omega, fun T12 X12 eh12 => ?_⟩
      refine own_blk dec11 seq11 hby hx hZ hown hK hF 8 [false] [.int 4] X12 eh12 ?_
      show (Fld Z h0 a "com/example/binwright/binwright/binning/LeastTree" "leaves" "I" (.int 4)) ∧ (¬ (((4 : Int32)).toInt ≤ ((2 : Int32)).toInt)) ∧ own_Aft X12 h0 _ 27 [zA a, zD x, zS, zI 2] [.int 4, .ref a]
      refine ⟨F1, by decide, fun T13 X13 eh13 => ?_⟩
      refine own_callPP X13 hx hZ hown (hw _ (wm 43 rfl)) (hw _ (wm 45 rfl)) (hw _ (wm 6 rfl)) (hw _ (wm 44 rfl)) (hw _ (wm 7 rfl)) (hw _ (wm 46 rfl)) (by decide) eh13 EX [.int 4] pd9 rfl (fr := 0) (lo := 0) (rm9_v l Z a0 hw [] a la va (4 : Int32) (4 : Int32) (4 : Int32) v0 h0 n0 Z0 F1 F2 F3 (Av.ln (4 : Int32) rfl) (by decide) (by decide) (Av.at ((4 : Int32) - (4 : Int32)) 0 rfl rfl)) (by rw [hml]; rfl) 0 rfl (Nat.le_of_eq rfl) (hb hby d11_27) (by decide) (by decide) (by decide) (by decide) (fun T14 rv14 X14 eh14 qc14 => ?_)
      obtain rfl := qc14
      show own_Go p.tables e below _ (T14.setTop (mkF m 30 (Array.mk [zA a, zD x, zS, zI 2]) [.double v0]))
      rcases Int.lt_or_le (own_z x) (own_z v0) with q2 | q2
      · skip
        refine own_blk dec11 seq11 hby hx hZ hown hK hF 10 [true] [] X14 eh14 ?_
        show (0 < (cmpValue (FP.dcmp v0 x) .g).toInt) ∧ own_Aft X14 h0 _ 15 [zA a, zD x, zS, zI 5] []
        refine ⟨own_ggt Nv0 Nx q2, fun T15 X15 eh15 => ?_⟩
        refine own_blk dec11 seq11 hby hx hZ hown hK hF 8 [true] [.int 4, .int 4] X15 eh15 ?_
        show (Fld Z h0 a "com/example/binwright/binwright/binning/LeastTree" "leaves" "I" (.int 4)) ∧ (((4 : Int32)).toInt ≤ ((5 : Int32)).toInt) ∧ (Fld Z h0 a "com/example/binwright/binwright/binning/LeastTree" "leaves" "I" (.int 4)) ∧ own_Aft X15 h0 _ 56 [zA a, zD x, zS, zI 5] [.int 1]
        refine ⟨F1, by decide, F1, fun T16 X16 eh16 => ?_⟩
        exact own_ret X16 hx hlk eh16 hret (by first | rfl | decide) (Or.inl ⟨rfl, by simp, _, rfl⟩) (hb hby d11_56) (by decide) (by decide) (⟨⟨_, rfl, Or.inr (Or.inr (Or.inl (⟨rfl, q0, q1, q2⟩)))⟩, rfl, rfl⟩)
      · skip
        refine own_blk dec11 seq11 hby hx hZ hown hK hF 9 [false] [] X14 eh14 ?_
        show (¬ (0 < (cmpValue (FP.dcmp v0 x) .g).toInt)) ∧ own_Aft X14 h0 _ 15 [zA a, zD x, zS, zI 4] []
        refine ⟨by have := own_gle (k := .g) Nv0 Nx q2; omega, fun T17 X17 eh17 => ?_⟩
        refine own_blk dec11 seq11 hby hx hZ hown hK hF 8 [true] [.int 4, .int 4] X17 eh17 ?_
        show (Fld Z h0 a "com/example/binwright/binwright/binning/LeastTree" "leaves" "I" (.int 4)) ∧ (((4 : Int32)).toInt ≤ ((4 : Int32)).toInt) ∧ (Fld Z h0 a "com/example/binwright/binwright/binning/LeastTree" "leaves" "I" (.int 4)) ∧ own_Aft X17 h0 _ 56 [zA a, zD x, zS, zI 4] [.int 0]
        refine ⟨F1, by decide, F1, fun T18 X18 eh18 => ?_⟩
        exact own_ret X18 hx hlk eh18 hret (by first | rfl | decide) (Or.inl ⟨rfl, by simp, _, rfl⟩) (hb hby d11_56) (by decide) (by decide) (⟨⟨_, rfl, Or.inr (Or.inl (⟨rfl, q0, q1, q2⟩))⟩, rfl, rfl⟩)
set_option maxRecDepth 65536 in
set_option maxHeartbeats 40000000 in
theorem rm11_5 (l : Launch) (Z : State) (a0 : Array Value) (hw : ∀ d ∈ tables_1, d.before a0 Z = true) (ws : List Jvm.Cond) (a la va : Addr) (v0 v1 v2 v3 v4 r1 r2 r3 r4 r5 r6 x : UInt64) (h0 : Heap) (n0 : Nat) (Z0 : n0 ≤ h0.size) (EX : Exa Z h0 a "com/example/binwright/binwright/binning/LeastTree") (F1 : Fld Z h0 a "com/example/binwright/binwright/binning/LeastTree" "leaves" "I" (.int (8 : Int32))) (F2 : Fld Z h0 a "com/example/binwright/binwright/binning/LeastTree" "least" "[D" (.ref la)) (F3 : Fld Z h0 a "com/example/binwright/binwright/binning/LeastTree" "values" "[D" (.ref va)) (Al : own_A Z h0 la .double [.double 9218868437227405312, .double r1, .double r2, .double r3, .double r4, .double r5, .double r6, .double 9218868437227405312]) (Av : own_A Z h0 va .double [.double v0, .double v1, .double v2, .double v3, .double v4]) (Nv0 : own_num v0) (Nv1 : own_num v1) (Nv2 : own_num v2) (Nv3 : own_num v3) (Nv4 : own_num v4) (Nr1 : own_num r1) (Nr2 : own_num r2) (Nr3 : own_num r3) (Nr4 : own_num r4) (Nr5 : own_num r5) (Nr6 : own_num r6) (Nx : own_num x) :
    own_MF l (⟨"com/example/binwright/binwright/binning/LeastTree", "firstAtMost", "(D)I"⟩ : MethodName) prog_15_method_4_code 4 (some .int) ws ({ frames := 1, cells := 0, slots := 0, locals := 24 } : Room) #[.ref a, .double x] Z h0 (fun v h L => (∃ r : Int32, v = some (.int r) ∧ ((r = -1 ∧ own_z x < own_z r1) ∨ (r = 0 ∧ own_z r1 ≤ own_z x ∧ own_z r2 ≤ own_z x ∧ own_z r4 ≤ own_z x ∧ own_z v0 ≤ own_z x) ∨ (r = 1 ∧ own_z r1 ≤ own_z x ∧ own_z r2 ≤ own_z x ∧ own_z r4 ≤ own_z x ∧ own_z x < own_z v0) ∨ (r = 2 ∧ own_z r1 ≤ own_z x ∧ own_z r2 ≤ own_z x ∧ own_z x < own_z r4 ∧ own_z v2 ≤ own_z x) ∨ (r = 3 ∧ own_z r1 ≤ own_z x ∧ own_z r2 ≤ own_z x ∧ own_z x < own_z r4 ∧ own_z x < own_z v2) ∨ (r = 4 ∧ own_z r1 ≤ own_z x ∧ own_z x < own_z r2 ∧ own_z r6 ≤ own_z x ∧ own_z v4 ≤ own_z x) ∨ (r = 5 ∧ own_z r1 ≤ own_z x ∧ own_z x < own_z r2 ∧ own_z r6 ≤ own_z x ∧ own_z x < own_z v4) ∨ (r = 6 ∧ own_z r1 ≤ own_z x ∧ own_z x < own_z r2 ∧ own_z x < own_z r6 ∧ own_z 9218868437227405312 ≤ own_z x) ∨ (r = 7 ∧ own_z r1 ≤ own_z x ∧ own_z x < own_z r2 ∧ own_z x < own_z r6 ∧ own_z x < own_z 9218868437227405312))) ∧ L = [] ∧ h = h0) := by
  refine own_body pf11 (ls0 := [.val (.ref a), .val (.double x), .second, .unset]) (fun m => by first | (simp [entryFrame, mkF, argsToLocals, Value.category, maxLocals]; done) | rfl) ?_
  intro p e s m below meth c T0 hx hby hml hown hnm hlk hret hZ X0 e0
  have hK := hKt2 hw; have hF := hFt2 hw
  have N0 := Fr.nil n0
  rcases Int.lt_or_le (own_z x) (own_z r1) with q0 | q0
  · skip
    refine own_blk dec11 seq11 hby hx hZ hown hK hF 8 [false] [.ref la, .double r1] X0 e0 ?_
    show (Fld Z h0 a "com/example/binwright/binwright/binning/LeastTree" "least" "[D" (.ref la)) ∧ (own_at Z h0 la .double (1 : Int32) (.double r1)) ∧ (¬ ((cmpValue (FP.dcmp r1 x) .g).toInt ≤ 0)) ∧ own_Aft X0 h0 _ 12 [zA a, zD x, zS, zU] [.int (-1)]
    refine ⟨F2, Al.at (1 : Int32) 1 rfl rfl, by have := own_ggt (k := .g) Nr1 Nx q0; omega, fun T1 X1 eh1 => ?_⟩
    exact own_ret X1 hx hlk eh1 hret (by first | rfl | decide) (Or.inl ⟨rfl, by simp, _, rfl⟩) (hb hby d11_12) (by decide) (by decide) (⟨⟨_, rfl, Or.inl (⟨rfl, q0⟩)⟩, rfl, rfl⟩)
  · skip
    refine own_blk dec11 seq11 hby hx hZ hown hK hF 9 [true] [.ref la, .double r1] X0 e0 ?_
    show (Fld Z h0 a "com/example/binwright/binwright/binning/LeastTree" "least" "[D" (.ref la)) ∧ (own_at Z h0 la .double (1 : Int32) (.double r1)) ∧ ((cmpValue (FP.dcmp r1 x) .g).toInt ≤ 0) ∧ own_Aft X0 h0 _ 15 [zA a, zD x, zS, zI 1] []
    refine ⟨F2, Al.at (1 : Int32) 1 rfl rfl, own_gle Nr1 Nx q0, fun T2 X2 eh2 => ?_⟩
    refine own_blk dec11 seq11 hby hx hZ hown hK hF 8 [false] [.int 8] X2 eh2 ?_
    show (Fld Z h0 a "com/example/binwright/binwright/binning/LeastTree" "leaves" "I" (.int 8)) ∧ (¬ (((8 : Int32)).toInt ≤ ((1 : Int32)).toInt)) ∧ own_Aft X2 h0 _ 27 [zA a, zD x, zS, zI 1] [.int 2, .ref a]
    refine ⟨F1, by decide, fun T3 X3 eh3 => ?_⟩
    refine own_callPP X3 hx hZ hown (hw _ (wm 43 rfl)) (hw _ (wm 45 rfl)) (hw _ (wm 6 rfl)) (hw _ (wm 44 rfl)) (hw _ (wm 7 rfl)) (hw _ (wm 46 rfl)) (by decide) eh3 EX [.int 2] pd9 rfl (fr := 0) (lo := 0) (rm9_l l Z a0 hw [] a la va (2 : Int32) (8 : Int32) (5 : Int32) r2 h0 n0 Z0 F1 F2 F3 (Av.ln (5 : Int32) rfl) (by decide) (Al.at (2 : Int32) 2 rfl rfl)) (by rw [hml]; rfl) 0 rfl (Nat.le_of_eq rfl) (hb hby d11_27) (by decide) (by decide) (by decide) (by decide) (fun T4 rv4 X4 eh4 qc4 => ?_)
    obtain rfl := qc4
    show own_Go p.tables e below _ (T4.setTop (mkF m 30 (Array.mk [zA a, zD x, zS, zI 1]) [.double r2]))
    rcases Int.lt_or_le (own_z x) (own_z r2) with q1 | q1
    · skip
      refine own_blk dec11 seq11 hby hx hZ hown hK hF 10 [true] [] X4 eh4 ?_
      show (0 < (cmpValue (FP.dcmp r2 x) .g).toInt) ∧ own_Aft X4 h0 _ 15 [zA a, zD x, zS, zI 3] []
      refine ⟨own_ggt Nr2 Nx q1, fun T5 X5 eh5 => ?_⟩
      refine own_blk dec11 seq11 hby hx hZ hown hK hF 8 [false] [.int 8] X5 eh5 ?_
      show (Fld Z h0 a "com/example/binwright/binwright/binning/LeastTree" "leaves" "I" (.int 8)) ∧ (¬ (((8 : Int32)).toInt ≤ ((3 : Int32)).toInt)) ∧ own_Aft X5 h0 _ 27 [zA a, zD x, zS, zI 3] [.int 6, .ref a]
      refine ⟨F1, by decide, fun T6 X6 eh6 => ?_⟩
      refine own_callPP X6 hx hZ hown (hw _ (wm 43 rfl)) (hw _ (wm 45 rfl)) (hw _ (wm 6 rfl)) (hw _ (wm 44 rfl)) (hw _ (wm 7 rfl)) (hw _ (wm 46 rfl)) (by decide) eh6 EX [.int 6] pd9 rfl (fr := 0) (lo := 0) (rm9_l l Z a0 hw [] a la va (6 : Int32) (8 : Int32) (5 : Int32) r6 h0 n0 Z0 F1 F2 F3 (Av.ln (5 : Int32) rfl) (by decide) (Al.at (6 : Int32) 6 rfl rfl)) (by rw [hml]; rfl) 0 rfl (Nat.le_of_eq rfl) (hb hby d11_27) (by decide) (by decide) (by decide) (by decide) (fun T7 rv7 X7 eh7 qc7 => ?_)
      obtain rfl := qc7
      show own_Go p.tables e below _ (T7.setTop (mkF m 30 (Array.mk [zA a, zD x, zS, zI 3]) [.double r6]))
      rcases Int.lt_or_le (own_z x) (own_z r6) with q3 | q3
      · skip
        refine own_blk dec11 seq11 hby hx hZ hown hK hF 10 [true] [] X7 eh7 ?_
        show (0 < (cmpValue (FP.dcmp r6 x) .g).toInt) ∧ own_Aft X7 h0 _ 15 [zA a, zD x, zS, zI 7] []
        refine ⟨own_ggt Nr6 Nx q3, fun T8 X8 eh8 => ?_⟩
        refine own_blk dec11 seq11 hby hx hZ hown hK hF 8 [false] [.int 8] X8 eh8 ?_
        show (Fld Z h0 a "com/example/binwright/binwright/binning/LeastTree" "leaves" "I" (.int 8)) ∧ (¬ (((8 : Int32)).toInt ≤ ((7 : Int32)).toInt)) ∧ own_Aft X8 h0 _ 27 [zA a, zD x, zS, zI 7] [.int 14, .ref a]
        refine ⟨F1, by decide, fun T9 X9 eh9 => ?_⟩
        refine own_callPP X9 hx hZ hown (hw _ (wm 43 rfl)) (hw _ (wm 45 rfl)) (hw _ (wm 6 rfl)) (hw _ (wm 44 rfl)) (hw _ (wm 7 rfl)) (hw _ (wm 46 rfl)) (by decide) eh9 EX [.int 14] pd9 rfl (fr := 0) (lo := 0) (rm9_o l Z a0 hw [] a la va (14 : Int32) (8 : Int32) (5 : Int32) 9218868437227405312 h0 n0 Z0 F1 F2 F3 (Av.ln (5 : Int32) rfl) (by decide) (by decide) rfl) (by rw [hml]; rfl) 0 rfl (Nat.le_of_eq rfl) (hb hby d11_27) (by decide) (by decide) (by decide) (by decide) (fun T10 rv10 X10 eh10 qc10 => ?_)
        obtain rfl := qc10
        show own_Go p.tables e below _ (T10.setTop (mkF m 30 (Array.mk [zA a, zD x, zS, zI 7]) [.double 9218868437227405312]))
        rcases Int.lt_or_le (own_z x) (own_z 9218868437227405312) with q7 | q7
        · skip
          refine own_blk dec11 seq11 hby hx hZ hown hK hF 10 [true] [] X10 eh10 ?_
          show (0 < (cmpValue (FP.dcmp 9218868437227405312 x) .g).toInt) ∧ own_Aft X10 h0 _ 15 [zA a, zD x, zS, zI 15] []
          refine ⟨own_ggt own_infn Nx q7, fun T11 X11 eh11 => ?_⟩
          refine own_blk dec11 seq11 hby hx hZ hown hK hF 8 [true] [.int 8, .int 8] X11 eh11 ?_
          show (Fld Z h0 a "com/example/binwright/binwright/binning/LeastTree" "leaves" "I" (.int 8)) ∧ (((8 : Int32)).toInt ≤ ((15 : Int32)).toInt) ∧ (Fld Z h0 a "com/example/binwright/binwright/binning/LeastTree" "leaves" "I" (.int 8)) ∧ own_Aft X11 h0 _ 56 [zA a, zD x, zS, zI 15] [.int 7]
          refine ⟨F1, by decide, F1, fun T12 X12 eh12 => ?_⟩
          exact own_ret X12 hx hlk eh12 hret (by first | rfl | decide) (Or.inl ⟨rfl, by simp, _, rfl⟩) (hb hby d11_56) (by decide) (by decide) (⟨⟨_, rfl, Or.inr (Or.inr (Or.inr (Or.inr (Or.inr (Or.inr (Or.inr (Or.inr (⟨rfl, q0, q1, q3, q7⟩))))))))⟩, rfl, rfl⟩)
        · skip
          refine own_blk dec11 seq11 hby hx hZ hown hK hF 9 [false] [] X10 eh10 ?_
          show (¬ (0 < (cmpValue (FP.dcmp 9218868437227405312 x) .g).toInt)) ∧ own_Aft X10 h0 _ 15 [zA a, zD x, zS, zI 14] []
          refine ⟨by have := own_gle (k := .g) own_infn Nx q7; omega, fun T13 X13 eh13 => ?_⟩
          refine own_blk dec11 seq11 hby hx hZ hown hK hF 8 [true] [.int 8, .int 8] X13 eh13 ?_
          show (Fld Z h0 a "com/example/binwright/binwright/binning/LeastTree" "leaves" "I" (.int 8)) ∧ (((8 : Int32)).toInt ≤ ((14 : Int32)).toInt) ∧ (Fld Z h0 a "com/example/binwright/binwright/binning/LeastTree" "leaves" "I" (.int 8)) ∧ own_Aft X13 h0 _ 56 [zA a, zD x, zS, zI 14] [.int 6]
          refine ⟨F1, by decide, F1, fun T14 X14 eh14 => ?_⟩
          exact own_ret X14 hx hlk eh14 hret (by first | rfl | decide) (Or.inl ⟨rfl, by simp, _, rfl⟩) (hb hby d11_56) (by decide) (by decide) (⟨⟨_, rfl, Or.inr (Or.inr (Or.inr (Or.inr (Or.inr (Or.inr (Or.inr (Or.inl (⟨rfl, q0, q1, q3, q7⟩))))))))⟩, rfl, rfl⟩)
      · skip
        refine own_blk dec11 seq11 hby hx hZ hown hK hF 9 [false] [] X7 eh7 ?_
        show (¬ (0 < (cmpValue (FP.dcmp r6 x) .g).toInt)) ∧ own_Aft X7 h0 _ 15 [zA a, zD x, zS, zI 6] []
        refine ⟨by have := own_gle (k := .g) Nr6 Nx q3; omega, fun T15 X15 eh15 => ?_⟩
        refine own_blk dec11 seq11 hby hx hZ hown hK hF 8 [false] [.int 8] X15 eh15 ?_
        show (Fld Z h0 a "com/example/binwright/binwright/binning/LeastTree" "leaves" "I" (.int 8)) ∧ (¬ (((8 : Int32)).toInt ≤ ((6 : Int32)).toInt)) ∧ own_Aft X15 h0 _ 27 [zA a, zD x, zS, zI 6] [.int 12, .ref a]
        refine ⟨F1, by decide, fun T16 X16 eh16 => ?_⟩
        refine own_callPP X16 hx hZ hown (hw _ (wm 43 rfl)) (hw _ (wm 45 rfl)) (hw _ (wm 6 rfl)) (hw _ (wm 44 rfl)) (hw _ (wm 7 rfl)) (hw _ (wm 46 rfl)) (by decide) eh16 EX [.int 12] pd9 rfl (fr := 0) (lo := 0) (rm9_v l Z a0 hw [] a la va (12 : Int32) (8 : Int32) (5 : Int32) v4 h0 n0 Z0 F1 F2 F3 (Av.ln (5 : Int32) rfl) (by decide) (by decide) (Av.at ((12 : Int32) - (8 : Int32)) 4 rfl rfl)) (by rw [hml]; rfl) 0 rfl (Nat.le_of_eq rfl) (hb hby d11_27) (by decide) (by decide) (by decide) (by decide) (fun T17 rv17 X17 eh17 qc17 => ?_)
        obtain rfl := qc17
        show own_Go p.tables e below _ (T17.setTop (mkF m 30 (Array.mk [zA a, zD x, zS, zI 6]) [.double v4]))
        rcases Int.lt_or_le (own_z x) (own_z v4) with q6 | q6
        · skip
          refine own_blk dec11 seq11 hby hx hZ hown hK hF 10 [true] [] X17 eh17 ?_
          show (0 < (cmpValue (FP.dcmp v4 x) .g).toInt) ∧ own_Aft X17 h0 _ 15 [zA a, zD x, zS, zI 13] []
          refine ⟨own_ggt Nv4 Nx q6, fun T18 X18 eh18 => ?_⟩
          refine own_blk dec11 seq11 hby hx hZ hown hK hF 8 [true] [.int 8, .int 8] X18 eh18 ?_
          show (Fld Z h0 a "com/example/binwright/binwright/binning/LeastTree" "leaves" "I" (.int 8)) ∧ (((8 : Int32)).toInt ≤ ((13 : Int32)).toInt) ∧ (Fld Z h0 a "com/example/binwright/binwright/binning/LeastTree" "leaves" "I" (.int 8)) ∧ own_Aft X18 h0 _ 56 [zA a, zD x, zS, zI 13] [.int 5]
          refine ⟨F1, by decide, F1, fun T19 X19 eh19 => ?_⟩
          exact own_ret X19 hx hlk eh19 hret (by first | rfl | decide) (Or.inl ⟨rfl, by simp, _, rfl⟩) (hb hby d11_56) (by decide) (by decide) (⟨⟨_, rfl, Or.inr (Or.inr (Or.inr (Or.inr (Or.inr (Or.inr (Or.inl (⟨rfl, q0, q1, q3, q6⟩)))))))⟩, rfl, rfl⟩)
        · skip
          refine own_blk dec11 seq11 hby hx hZ hown hK hF 9 [false] [] X17 eh17 ?_
          show (¬ (0 < (cmpValue (FP.dcmp v4 x) .g).toInt)) ∧ own_Aft X17 h0 _ 15 [zA a, zD x, zS, zI 12] []
          refine ⟨by have := own_gle (k := .g) Nv4 Nx q6; omega, fun T20 X20 eh20 => ?_⟩
          refine own_blk dec11 seq11 hby hx hZ hown hK hF 8 [true] [.int 8, .int 8] X20 eh20 ?_
          show (Fld Z h0 a "com/example/binwright/binwright/binning/LeastTree" "leaves" "I" (.int 8)) ∧ (((8 : Int32)).toInt ≤ ((12 : Int32)).toInt) ∧ (Fld Z h0 a "com/example/binwright/binwright/binning/LeastTree" "leaves" "I" (.int 8)) ∧ own_Aft X20 h0 _ 56 [zA a, zD x, zS, zI 12] [.int 4]
          refine ⟨F1, by decide, F1, fun T21 X21 eh21 => ?_⟩
          exact own_ret X21 hx hlk eh21 hret (by first | rfl | decide) (Or.inl ⟨rfl, by simp, _, rfl⟩) (hb hby d11_56) (by decide) (by decide) (⟨⟨_, rfl, Or.inr (Or.inr (Or.inr (Or.inr (Or.inr (Or.inl (⟨rfl, q0, q1, q3, q6⟩))))))⟩, rfl, rfl⟩)
    · skip
      refine own_blk dec11 seq11 hby hx hZ hown hK hF 9 [false] [] X4 eh4 ?_
      show (¬ (0 < (cmpValue (FP.dcmp r2 x) .g).toInt)) ∧ own_Aft X4 h0 _ 15 [zA a, zD x, zS, zI 2] []
      refine ⟨by have := own_gle (k := .g) Nr2 Nx q1; omega, fun T22 X22 eh22 => ?_⟩
      refine own_blk dec11 seq11 hby hx hZ hown hK hF 8 [false] [.int 8] X22 eh22 ?_
      show (Fld Z h0 a "com/example/binwright/binwright/binning/LeastTree" "leaves" "I" (.int 8)) ∧ (¬ (((8 : Int32)).toInt ≤ ((2 : Int32)).toInt)) ∧ own_Aft X22 h0 _ 27 [zA a, zD x, zS, zI 2] [.int 4, .ref a]
      refine ⟨F1, by decide, fun T23 X23 eh23 => ?_⟩
      refine own_callPP X23 hx hZ hown (hw _ (wm 43 rfl)) (hw _ (wm 45 rfl)) (hw _ (wm 6 rfl)) (hw _ (wm 44 rfl)) (hw _ (wm 7 rfl)) (hw _ (wm 46 rfl)) (by decide) eh23 EX [.int 4] pd9 rfl (fr := 0) (lo := 0) (rm9_l l Z a0 hw [] a la va (4 : Int32) (8 : Int32) (5 : Int32) r4 h0 n0 Z0 F1 F2 F3 (Av.ln (5 : Int32) rfl) (by decide) (Al.at (4 : Int32) 4 rfl rfl)) (by rw [hml]; rfl) 0 rfl (Nat.le_of_eq rfl) (hb hby d11_27) (by decide) (by decide) (by decide) (by decide) (fun T24 rv24 X24 eh24 qc24 => ?_)
      obtain rfl := qc24
      show own_Go p.tables e below _ (T24.setTop (mkF m 30 (Array.mk [zA a, zD x, zS, zI 2]) [.double r4]))
      rcases Int.lt_or_le (own_z x) (own_z r4) with q2 | q2
      · skip
        refine own_blk dec11 seq11 hby hx hZ hown hK hF 10 [true] [] X24 eh24 ?_
        show (0 < (cmpValue (FP.dcmp r4 x) .g).toInt) ∧ own_Aft X24 h0 _ 15 [zA a, zD x, zS, zI 5] []
        refine ⟨own_ggt Nr4 Nx q2, fun T25 X25 eh25 => ?_⟩
        refine own_blk dec11 seq11 hby hx hZ hown hK hF 8 [false] [.int 8] X25 eh25 ?_
        show (Fld Z h0 a "com/example/binwright/binwright/binning/LeastTree" "leaves" "I" (.int 8)) ∧ (¬ (((8 : Int32)).toInt ≤ ((5 : Int32)).toInt)) ∧ own_Aft X25 h0 _ 27 [zA a, zD x, zS, zI 5] [.int 10, .ref a]
        refine ⟨F1, by decide, fun T26 X26 eh26 => ?_⟩
        refine own_callPP X26 hx hZ hown (hw _ (wm 43 rfl)) (hw _ (wm 45 rfl)) (hw _ (wm 6 rfl)) (hw _ (wm 44 rfl)) (hw _ (wm 7 rfl)) (hw _ (wm 46 rfl)) (by decide) eh26 EX [.int 10] pd9 rfl (fr := 0) (lo := 0) (rm9_v l Z a0 hw [] a la va (10 : Int32) (8 : Int32) (5 : Int32) v2 h0 n0 Z0 F1 F2 F3 (Av.ln (5 : Int32) rfl) (by decide) (by decide) (Av.at ((10 : Int32) - (8 : Int32)) 2 rfl rfl)) (by rw [hml]; rfl) 0 rfl (Nat.le_of_eq rfl) (hb hby d11_27) (by decide) (by decide) (by decide) (by decide) (fun T27 rv27 X27 eh27 qc27 => ?_)
        obtain rfl := qc27
        show own_Go p.tables e below _ (T27.setTop (mkF m 30 (Array.mk [zA a, zD x, zS, zI 5]) [.double v2]))
        rcases Int.lt_or_le (own_z x) (own_z v2) with q5 | q5
        · skip
          refine own_blk dec11 seq11 hby hx hZ hown hK hF 10 [true] [] X27 eh27 ?_
          show (0 < (cmpValue (FP.dcmp v2 x) .g).toInt) ∧ own_Aft X27 h0 _ 15 [zA a, zD x, zS, zI 11] []
          refine ⟨own_ggt Nv2 Nx q5, fun T28 X28 eh28 => ?_⟩
          refine own_blk dec11 seq11 hby hx hZ hown hK hF 8 [true] [.int 8, .int 8] X28 eh28 ?_
          show (Fld Z h0 a "com/example/binwright/binwright/binning/LeastTree" "leaves" "I" (.int 8)) ∧ (((8 : Int32)).toInt ≤ ((11 : Int32)).toInt) ∧ (Fld Z h0 a "com/example/binwright/binwright/binning/LeastTree" "leaves" "I" (.int 8)) ∧ own_Aft X28 h0 _ 56 [zA a, zD x, zS, zI 11] [.int 3]
          refine ⟨F1, by decide, F1, fun T29 X29 eh29 => ?_⟩
          exact own_ret X29 hx hlk eh29 hret (by first | rfl | decide) (Or.inl ⟨rfl, by simp, _, rfl⟩) (hb hby d11_56) (by decide) (by decide) (⟨⟨_, rfl, Or.inr (Or.inr (Or.inr (Or.inr (Or.inl (⟨rfl, q0, q1, q2, q5⟩)))))⟩, rfl, rfl⟩)
        · skip
          refine own_blk dec11 seq11 hby hx hZ hown hK hF 9 [false] [] X27 eh27 ?_
          show (¬ (0 < (cmpValue (FP.dcmp v2 x) .g).toInt)) ∧ own_Aft X27 h0 _ 15 [zA a, zD x, zS, zI 10] []
          refine ⟨by have := own_gle (k := .g) Nv2 Nx q5; omega, fun T30 X30 eh30 => ?_⟩
          refine own_blk dec11 seq11 hby hx hZ hown hK hF 8 [true] [.int 8, .int 8] X30 eh30 ?_
          show (Fld Z h0 a "com/example/binwright/binwright/binning/LeastTree" "leaves" "I" (.int 8)) ∧ (((8 : Int32)).toInt ≤ ((10 : Int32)).toInt) ∧ (Fld Z h0 a "com/example/binwright/binwright/binning/LeastTree" "leaves" "I" (.int 8)) ∧ own_Aft X30 h0 _ 56 [zA a, zD x, zS, zI 10] [.int 2]
          refine ⟨F1, by decide, F1, fun T31 X31 eh31 => ?_⟩
          exact own_ret X31 hx hlk eh31 hret (by first | rfl | decide) (Or.inl ⟨rfl, by simp, _, rfl⟩) (hb hby d11_56) (by decide) (by decide) (⟨⟨_, rfl, Or.inr (Or.inr (Or.inr (Or.inl (⟨rfl, q0, q1, q2, q5⟩))))⟩, rfl, rfl⟩)
      · skip
        refine own_blk dec11 seq11 hby hx hZ hown hK hF 9 [false] [] X24 eh24 ?_
        show (¬ (0 < (cmpValue (FP.dcmp r4 x) .g).toInt)) ∧ own_Aft X24 h0 _ 15 [zA a, zD x, zS, zI 4] []
        refine ⟨by have := own_gle (k := .g) Nr4 Nx q2; omega, fun T32 X32 eh32 => ?_⟩
        refine own_blk dec11 seq11 hby hx hZ hown hK hF 8 [false] [.int 8] X32 eh32 ?_
        show (Fld Z h0 a "com/example/binwright/binwright/binning/LeastTree" "leaves" "I" (.int 8)) ∧ (¬ (((8 : Int32)).toInt ≤ ((4 : Int32)).toInt)) ∧ own_Aft X32 h0 _ 27 [zA a, zD x, zS, zI 4] [.int 8, .ref a]
        refine ⟨F1, by decide, fun T33 X33 eh33 => ?_⟩
        refine own_callPP X33 hx hZ hown (hw _ (wm 43 rfl)) (hw _ (wm 45 rfl)) (hw _ (wm 6 rfl)) (hw _ (wm 44 rfl)) (hw _ (wm 7 rfl)) (hw _ (wm 46 rfl)) (by decide) eh33 EX [.int 8] pd9 rfl (fr := 0) (lo := 0) (rm9_v l Z a0 hw [] a la va (8 : Int32) (8 : Int32) (5 : Int32) v0 h0 n0 Z0 F1 F2 F3 (Av.ln (5 : Int32) rfl) (by decide) (by decide) (Av.at ((8 : Int32) - (8 : Int32)) 0 rfl rfl)) (by rw [hml]; rfl) 0 rfl (Nat.le_of_eq rfl) (hb hby d11_27) (by decide) (by decide) (by decide) (by decide) (fun T34 rv34 X34 eh34 qc34 => ?_)
        obtain rfl := qc34
        show own_Go p.tables e below _ (T34.setTop (mkF m 30 (Array.mk [zA a, zD x, zS, zI 4]) [.double v0]))
        rcases Int.lt_or_le (own_z x) (own_z v0) with q4 | q4
        · skip
          refine own_blk dec11 seq11 hby hx hZ hown hK hF 10 [true] [] X34 eh34 ?_
          show (0 < (cmpValue (FP.dcmp v0 x) .g).toInt) ∧ own_Aft X34 h0 _ 15 [zA a, zD x, zS, zI 9] []
          refine ⟨own_ggt Nv0 Nx q4, fun T35 X35 eh35 => ?_⟩
          refine own_blk dec11 seq11 hby hx hZ hown hK hF 8 [true] [.int 8, .int 8] X35 eh35 ?_
          show (Fld Z h0 a "com/example/binwright/binwright/binning/LeastTree" "leaves" "I" (.int 8)) ∧ (((8 : Int32)).toInt ≤ ((9 : Int32)).toInt) ∧ (Fld Z h0 a "com/example/binwright/binwright/binning/LeastTree" "leaves" "I" (.int 8)) ∧ own_Aft X35 h0 _ 56 [zA a, zD x, zS, zI 9] [.int 1]
          refine ⟨F1, by decide, F1, fun T36 X36 eh36 => ?_⟩
          exact own_ret X36 hx hlk eh36 hret (by first | rfl | decide) (Or.inl ⟨rfl, by simp, _, rfl⟩) (hb hby d11_56) (by decide) (by decide) (⟨⟨_, rfl, Or.inr (Or.inr (Or.inl (⟨rfl, q0, q1, q2, q4⟩)))⟩, rfl, rfl⟩)
        · skip
          refine own_blk dec11 seq11 hby hx hZ hown hK hF 9 [false] [] X34 eh34 ?_
          show (¬ (0 < (cmpValue (FP.dcmp v0 x) .g).toInt)) ∧ own_Aft X34 h0 _ 15 [zA a, zD x, zS, zI 8] []
          refine ⟨by have := own_gle (k := .g) Nv0 Nx q4; omega, fun T37 X37 eh37 => ?_⟩
          refine own_blk dec11 seq11 hby hx hZ hown hK hF 8 [true] [.int 8, .int 8] X37 eh37 ?_
          show (Fld Z h0 a "com/example/binwright/binwright/binning/LeastTree" "leaves" "I" (.int 8)) ∧ (((8 : Int32)).toInt ≤ ((8 : Int32)).toInt) ∧ (Fld Z h0 a "com/example/binwright/binwright/binning/LeastTree" "leaves" "I" (.int 8)) ∧ own_Aft X37 h0 _ 56 [zA a, zD x, zS, zI 8] [.int 0]
          refine ⟨F1, by decide, F1, fun T38 X38 eh38 => ?_⟩
          exact own_ret X38 hx hlk eh38 hret (by first | rfl | decide) (Or.inl ⟨rfl, by simp, _, rfl⟩) (hb hby d11_56) (by decide) (by decide) (⟨⟨_, rfl, Or.inr (Or.inl (⟨rfl, q0, q1, q2, q4⟩))⟩, rfl, rfl⟩)
set_option maxRecDepth 65536 in
set_option maxHeartbeats 40000000 in
theorem rm11_6 (l : Launch) (Z : State) (a0 : Array Value) (hw : ∀ d ∈ tables_1, d.before a0 Z = true) (ws : List Jvm.Cond) (a la va : Addr) (v0 v1 v2 v3 v4 v5 r1 r2 r3 r4 r5 r6 x : UInt64) (h0 : Heap) (n0 : Nat) (Z0 : n0 ≤ h0.size) (EX : Exa Z h0 a "com/example/binwright/binwright/binning/LeastTree") (F1 : Fld Z h0 a "com/example/binwright/binwright/binning/LeastTree" "leaves" "I" (.int (8 : Int32))) (F2 : Fld Z h0 a "com/example/binwright/binwright/binning/LeastTree" "least" "[D" (.ref la)) (F3 : Fld Z h0 a "com/example/binwright/binwright/binning/LeastTree" "values" "[D" (.ref va)) (Al : own_A Z h0 la .double [.double 9218868437227405312, .double r1, .double r2, .double r3, .double r4, .double r5, .double r6, .double 9218868437227405312]) (Av : own_A Z h0 va .double [.double v0, .double v1, .double v2, .double v3, .double v4, .double v5]) (Nv0 : own_num v0) (Nv1 : own_num v1) (Nv2 : own_num v2) (Nv3 : own_num v3) (Nv4 : own_num v4) (Nv5 : own_num v5) (Nr1 : own_num r1) (Nr2 : own_num r2) (Nr3 : own_num r3) (Nr4 : own_num r4) (Nr5 : own_num r5) (Nr6 : own_num r6) (Nx : own_num x) :
    own_MF l (⟨"com/example/binwright/binwright/binning/LeastTree", "firstAtMost", "(D)I"⟩ : MethodName) prog_15_method_4_code 4 (some .int) ws ({ frames := 1, cells := 0, slots := 0, locals := 24 } : Room) #[.ref a, .double x] Z h0 (fun v h L => (∃ r : Int32, v = some (.int r) ∧ ((r = -1 ∧ own_z x < own_z r1) ∨ (r = 0 ∧ own_z r1 ≤ own_z x ∧ own_z r2 ≤ own_z x ∧ own_z r4 ≤ own_z x ∧ own_z v0 ≤ own_z x) ∨ (r = 1 ∧ own_z r1 ≤ own_z x ∧ own_z r2 ≤ own_z x ∧ own_z r4 ≤ own_z x ∧ own_z x < own_z v0) ∨ (r = 2 ∧ own_z r1 ≤ own_z x ∧ own_z r2 ≤ own_z x ∧ own_z x < own_z r4 ∧ own_z v2 ≤ own_z x) ∨ (r = 3 ∧ own_z r1 ≤ own_z x ∧ own_z r2 ≤ own_z x ∧ own_z x < own_z r4 ∧ own_z x < own_z v2) ∨ (r = 4 ∧ own_z r1 ≤ own_z x ∧ own_z x < own_z r2 ∧ own_z r6 ≤ own_z x ∧ own_z v4 ≤ own_z x) ∨ (r = 5 ∧ own_z r1 ≤ own_z x ∧ own_z x < own_z r2 ∧ own_z r6 ≤ own_z x ∧ own_z x < own_z v4) ∨ (r = 6 ∧ own_z r1 ≤ own_z x ∧ own_z x < own_z r2 ∧ own_z x < own_z r6 ∧ own_z 9218868437227405312 ≤ own_z x) ∨ (r = 7 ∧ own_z r1 ≤ own_z x ∧ own_z x < own_z r2 ∧ own_z x < own_z r6 ∧ own_z x < own_z 9218868437227405312))) ∧ L = [] ∧ h = h0) := by
  refine own_body pf11 (ls0 := [.val (.ref a), .val (.double x), .second, .unset]) (fun m => by first | (simp [entryFrame, mkF, argsToLocals, Value.category, maxLocals]; done) | rfl) ?_
  intro p e s m below meth c T0 hx hby hml hown hnm hlk hret hZ X0 e0
  have hK := hKt2 hw; have hF := hFt2 hw
  have N0 := Fr.nil n0
  rcases Int.lt_or_le (own_z x) (own_z r1) with q0 | q0
  · skip
    refine own_blk dec11 seq11 hby hx hZ hown hK hF 8 [false] [.ref la, .double r1] X0 e0 ?_
    show (Fld Z h0 a "com/example/binwright/binwright/binning/LeastTree" "least" "[D" (.ref la)) ∧ (own_at Z h0 la .double (1 : Int32) (.double r1)) ∧ (¬ ((cmpValue (FP.dcmp r1 x) .g).toInt ≤ 0)) ∧ own_Aft X0 h0 _ 12 [zA a, zD x, zS, zU] [.int (-1)]
    refine ⟨F2, Al.at (1 : Int32) 1 rfl rfl, by have := own_ggt (k := .g) Nr1 Nx q0; omega, fun T1 X1 eh1 => ?_⟩
    exact own_ret X1 hx hlk eh1 hret (by first | rfl | decide) (Or.inl ⟨rfl, by simp, _, rfl⟩) (hb hby d11_12) (by decide) (by decide) (⟨⟨_, rfl, Or.inl (⟨rfl, q0⟩)⟩, rfl, rfl⟩)
  · skip
    refine own_blk dec11 seq11 hby hx hZ hown hK hF 9 [true] [.ref la, .double r1] X0 e0 ?_
    show (Fld Z h0 a "com/example/binwright/binwright/binning/LeastTree" "least" "[D" (.ref la)) ∧ (own_at Z h0 la .double (1 : Int32) (.double r1)) ∧ ((cmpValue (FP.dcmp r1 x) .g).toInt ≤ 0) ∧ own_Aft X0 h0 _ 15 [zA a, zD x, zS, zI 1] []
    refine ⟨F2, Al.at (1 : Int32) 1 rfl rfl, own_gle Nr1 Nx q0, fun T2 X2 eh2 => ?_⟩
    refine own_blk dec11 seq11 hby hx hZ hown hK hF 8 [false] [.int 8] X2 eh2 ?_
    show (Fld Z h0 a "com/example/binwright/binwright/binning/LeastTree" "leaves" "I" (.int 8)) ∧ (¬ (((8 : Int32)).toInt ≤ ((1 : Int32)).toInt)) ∧ own_Aft X2 h0 _ 27 [zA a, zD x, zS, zI 1] [.int 2, .ref a]
    refine ⟨F1, by decide, fun T3 X3 eh3 => ?_⟩
    refine own_callPP X3 hx hZ hown (hw _ (wm 43 rfl)) (hw _ (wm 45 rfl)) (hw _ (wm 6 rfl)) (hw _ (wm 44 rfl)) (hw _ (wm 7 rfl)) (hw _ (wm 46 rfl)) (by decide) eh3 EX [.int 2] pd9 rfl (fr := 0) (lo := 0) (rm9_l l Z a0 hw [] a la va (2 : Int32) (8 : Int32) (6 : Int32) r2 h0 n0 Z0 F1 F2 F3 (Av.ln (6 : Int32) rfl) (by decide) (Al.at (2 : Int32) 2 rfl rfl)) (by rw [hml]; rfl) 0 rfl (Nat.le_of_eq rfl) (hb hby d11_27) (by decide) (by decide) (by decide) (by decide) (fun T4 rv4 X4 eh4 qc4 => ?_)
    obtain rfl := qc4
    show own_Go p.tables e below _ (T4.setTop (mkF m 30 (Array.mk [zA a, zD x, zS, zI 1]) [.double r2]))
    rcases Int.lt_or_le (own_z x) (own_z r2) with q1 | q1
    · skip
      refine own_blk dec11 seq11 hby hx hZ hown hK hF 10 [true] [] X4 eh4 ?_
      show (0 < (cmpValue (FP.dcmp r2 x) .g).toInt) ∧ own_Aft X4 h0 _ 15 [zA a, zD x, zS, zI 3] []
      refine ⟨own_ggt Nr2 Nx q1, fun T5 X5 eh5 => ?_⟩
      refine own_blk dec11 seq11 hby hx hZ hown hK hF 8 [false] [.int 8] X5 eh5 ?_
      show (Fld Z h0 a "com/example/binwright/binwright/binning/LeastTree" "leaves" "I" (.int 8)) ∧ (¬ (((8 : Int32)).toInt ≤ ((3 : Int32)).toInt)) ∧ own_Aft X5 h0 _ 27 [zA a, zD x, zS, zI 3] [.int 6, .ref a]
      refine ⟨F1, by decide, fun T6 X6 eh6 => ?_⟩
      refine own_callPP X6 hx hZ hown (hw _ (wm 43 rfl)) (hw _ (wm 45 rfl)) (hw _ (wm 6 rfl)) (hw _ (wm 44 rfl)) (hw _ (wm 7 rfl)) (hw _ (wm 46 rfl)) (by decide) eh6 EX [.int 6] pd9 rfl (fr := 0) (lo := 0) (rm9_l l Z a0 hw [] a la va (6 : Int32) (8 : Int32) (6 : Int32) r6 h0 n0 Z0 F1 F2 F3 (Av.ln (6 : Int32) rfl) (by decide) (Al.at (6 : Int32) 6 rfl rfl)) (by rw [hml]; rfl) 0 rfl (Nat.le_of_eq rfl) (hb hby d11_27) (by decide) (by decide) (by decide) (by decide) (fun T7 rv7 X7 eh7 qc7 => ?_)
      obtain rfl := qc7
      show own_Go p.tables e below _ (T7.setTop (mkF m 30 (Array.mk [zA a, zD x, zS, zI 3]) [.double r6]))
      rcases Int.lt_or_le (own_z x) (own_z r6) with q3 | q3
      · skip
        refine own_blk dec11 seq11 hby hx hZ hown hK hF 10 [true] [] X7 eh7 ?_
        show (0 < (cmpValue (FP.dcmp r6 x) .g).toInt) ∧ own_Aft X7 h0 _ 15 [zA a, zD x, zS, zI 7] []
        refine ⟨own_ggt Nr6 Nx q3, fun T8 X8 eh8 => ?_⟩
        refine own_blk dec11 seq11 hby hx hZ hown hK hF 8 [false] [.int 8] X8 eh8 ?_
        show (Fld Z h0 a "com/example/binwright/binwright/binning/LeastTree" "leaves" "I" (.int 8)) ∧ (¬ (((8 : Int32)).toInt ≤ ((7 : Int32)).toInt)) ∧ own_Aft X8 h0 _ 27 [zA a, zD x, zS, zI 7] [.int 14, .ref a]
        refine ⟨F1, by decide, fun T9 X9 eh9 => ?_⟩
        refine own_callPP X9 hx hZ hown (hw _ (wm 43 rfl)) (hw _ (wm 45 rfl)) (hw _ (wm 6 rfl)) (hw _ (wm 44 rfl)) (hw _ (wm 7 rfl)) (hw _ (wm 46 rfl)) (by decide) eh9 EX [.int 14] pd9 rfl (fr := 0) (lo := 0) (rm9_o l Z a0 hw [] a la va (14 : Int32) (8 : Int32) (6 : Int32) 9218868437227405312 h0 n0 Z0 F1 F2 F3 (Av.ln (6 : Int32) rfl) (by decide) (by decide) rfl) (by rw [hml]; rfl) 0 rfl (Nat.le_of_eq rfl) (hb hby d11_27) (by decide) (by decide) (by decide) (by decide) (fun T10 rv10 X10 eh10 qc10 => ?_)
        obtain rfl := qc10
        show own_Go p.tables e below _ (T10.setTop (mkF m 30 (Array.mk [zA a, zD x, zS, zI 7]) [.double 9218868437227405312]))
        rcases Int.lt_or_le (own_z x) (own_z 9218868437227405312) with q7 | q7
        · skip
          refine own_blk dec11 seq11 hby hx hZ hown hK hF 10 [true] [] X10 eh10 ?_
          show (0 < (cmpValue (FP.dcmp 9218868437227405312 x) .g).toInt) ∧ own_Aft X10 h0 _ 15 [zA a, zD x, zS, zI 15] []
          refine ⟨own_ggt own_infn Nx q7, fun T11 X11 eh11 => ?_⟩
          refine own_blk dec11 seq11 hby hx hZ hown hK hF 8 [true] [.int 8, .int 8] X11 eh11 ?_
          show (Fld Z h0 a "com/example/binwright/binwright/binning/LeastTree" "leaves" "I" (.int 8)) ∧ (((8 : Int32)).toInt ≤ ((15 : Int32)).toInt) ∧ (Fld Z h0 a "com/example/binwright/binwright/binning/LeastTree" "leaves" "I" (.int 8)) ∧ own_Aft X11 h0 _ 56 [zA a, zD x, zS, zI 15] [.int 7]
          refine ⟨F1, by decide, F1, fun T12 X12 eh12 => ?_⟩
          exact own_ret X12 hx hlk eh12 hret (by first | rfl | decide) (Or.inl ⟨rfl, by simp, _, rfl⟩) (hb hby d11_56) (by decide) (by decide) (⟨⟨_, rfl, Or.inr (Or.inr (Or.inr (Or.inr (Or.inr (Or.inr (Or.inr (Or.inr (⟨rfl, q0, q1, q3, q7⟩))))))))⟩, rfl, rfl⟩)
        · skip
          refine own_blk dec11 seq11 hby hx hZ hown hK hF 9 [false] [] X10 eh10 ?_
          show (¬ (0 < (cmpValue (FP.dcmp 9218868437227405312 x) .g).toInt)) ∧ own_Aft X10 h0 _ 15 [zA a, zD x, zS, zI 14] []
          refine ⟨by have := own_gle (k := .g) own_infn Nx q7; omega, fun T13 X13 eh13 => ?_⟩
          refine own_blk dec11 seq11 hby hx hZ hown hK hF 8 [true] [.int 8, .int 8] X13 eh13 ?_
          show (Fld Z h0 a "com/example/binwright/binwright/binning/LeastTree" "leaves" "I" (.int 8)) ∧ (((8 : Int32)).toInt ≤ ((14 : Int32)).toInt) ∧ (Fld Z h0 a "com/example/binwright/binwright/binning/LeastTree" "leaves" "I" (.int 8)) ∧ own_Aft X13 h0 _ 56 [zA a, zD x, zS, zI 14] [.int 6]
          refine ⟨F1, by decide, F1, fun T14 X14 eh14 => ?_⟩
          exact own_ret X14 hx hlk eh14 hret (by first | rfl | decide) (Or.inl ⟨rfl, by simp, _, rfl⟩) (hb hby d11_56) (by decide) (by decide) (⟨⟨_, rfl, Or.inr (Or.inr (Or.inr (Or.inr (Or.inr (Or.inr (Or.inr (Or.inl (⟨rfl, q0, q1, q3, q7⟩))))))))⟩, rfl, rfl⟩)
      · skip
        refine own_blk dec11 seq11 hby hx hZ hown hK hF 9 [false] [] X7 eh7 ?_
        show (¬ (0 < (cmpValue (FP.dcmp r6 x) .g).toInt)) ∧ own_Aft X7 h0 _ 15 [zA a, zD x, zS, zI 6] []
        refine ⟨by have := own_gle (k := .g) Nr6 Nx q3; omega, fun T15 X15 eh15 => ?_⟩
        refine own_blk dec11 seq11 hby hx hZ hown hK hF 8 [false] [.int 8] X15 eh15 ?_
        show (Fld Z h0 a "com/example/binwright/binwright/binning/LeastTree" "leaves" "I" (.int 8)) ∧ (¬ (((8 : Int32)).toInt ≤ ((6 : Int32)).toInt)) ∧ own_Aft X15 h0 _ 27 [zA a, zD x, zS, zI 6] [.int 12, .ref a]
        refine ⟨F1, by decide, fun T16 X16 eh16 => ?_⟩
        refine own_callPP X16 hx hZ hown (hw _ (wm 43 rfl)) (hw _ (wm 45 rfl)) (hw _ (wm 6 rfl)) (hw _ (wm 44 rfl)) (hw _ (wm 7 rfl)) (hw _ (wm 46 rfl)) (by decide) eh16 EX [.int 12] pd9 rfl (fr := 0) (lo := 0) (rm9_v l Z a0 hw [] a la va (12 : Int32) (8 : Int32) (6 : Int32) v4 h0 n0 Z0 F1 F2 F3 (Av.ln (6 : Int32) rfl) (by decide) (by decide) (Av.at ((12 : Int32) - (8 : Int32)) 4 rfl rfl)) (by rw [hml]; rfl) 0 rfl (Nat.le_of_eq rfl) (hb hby d11_27) (by decide) (by decide) (by decide) (by decide) (fun T17 rv17 X17 eh17 qc17 => ?_)
        obtain rfl := qc17
        show own_Go p.tables e below _ (T17.setTop (mkF m 30 (Array.mk [zA a, zD x, zS, zI 6]) [.double v4]))
        rcases Int.lt_or_le (own_z x) (own_z v4) with q6 | q6
        · skip
          refine own_blk dec11 seq11 hby hx hZ hown hK hF 10 [true] [] X17 eh17 ?_
          show (0 < (cmpValue (FP.dcmp v4 x) .g).toInt) ∧ own_Aft X17 h0 _ 15 [zA a, zD x, zS, zI 13] []
          refine ⟨own_ggt Nv4 Nx q6, fun T18 X18 eh18 => ?_⟩
          refine own_blk dec11 seq11 hby hx hZ hown hK hF 8 [true] [.int 8, .int 8] X18 eh18 ?_
          show (Fld Z h0 a "com/example/binwright/binwright/binning/LeastTree" "leaves" "I" (.int 8)) ∧ (((8 : Int32)).toInt ≤ ((13 : Int32)).toInt) ∧ (Fld Z h0 a "com/example/binwright/binwright/binning/LeastTree" "leaves" "I" (.int 8)) ∧ own_Aft X18 h0 _ 56 [zA a, zD x, zS, zI 13] [.int 5]
          refine ⟨F1, by decide, F1, fun T19 X19 eh19 => ?_⟩
          exact own_ret X19 hx hlk eh19 hret (by first | rfl | decide) (Or.inl ⟨rfl, by simp, _, rfl⟩) (hb hby d11_56) (by decide) (by decide) (⟨⟨_, rfl, Or.inr (Or.inr (Or.inr (Or.inr (Or.inr (Or.inr (Or.inl (⟨rfl, q0, q1, q3, q6⟩)))))))⟩, rfl, rfl⟩)
        · skip
          refine own_blk dec11 seq11 hby hx hZ hown hK hF 9 [false] [] X17 eh17 ?_
          show (¬ (0 < (cmpValue (FP.dcmp v4 x) .g).toInt)) ∧ own_Aft X17 h0 _ 15 [zA a, zD x, zS, zI 12] []
          refine ⟨by have := own_gle (k := .g) Nv4 Nx q6; omega, fun T20 X20 eh20 => ?_⟩
          refine own_blk dec11 seq11 hby hx hZ hown hK hF 8 [true] [.int 8, .int 8] X20 eh20 ?_
          show (Fld Z h0 a "com/example/binwright/binwright/binning/LeastTree" "leaves" "I" (.int 8)) ∧ (((8 : Int32)).toInt ≤ ((12 : Int32)).toInt) ∧ (Fld Z h0 a "com/example/binwright/binwright/binning/LeastTree" "leaves" "I" (.int 8)) ∧ own_Aft X20 h0 _ 56 [zA a, zD x, zS, zI 12] [.int 4]
          refine ⟨F1, by decide, F1, fun T21 X21 eh21 => ?_⟩
          exact own_ret X21 hx hlk eh21 hret (by first | rfl | decide) (Or.inl ⟨rfl, by simp, _, rfl⟩) (hb hby d11_56) (by decide) (by decide) (⟨⟨_, rfl, Or.inr (Or.inr (Or.inr (Or.inr (Or.inr (Or.inl (⟨rfl, q0, q1, q3, q6⟩))))))⟩, rfl, rfl⟩)
    · skip
      refine own_blk dec11 seq11 hby hx hZ hown hK hF 9 [false] [] X4 eh4 ?_
      show (¬ (0 < (cmpValue (FP.dcmp r2 x) .g).toInt)) ∧ own_Aft X4 h0 _ 15 [zA a, zD x, zS, zI 2] []
      refine ⟨by have := own_gle (k := .g) Nr2 Nx q1; omega, fun T22 X22 eh22 => ?_⟩
      refine own_blk dec11 seq11 hby hx hZ hown hK hF 8 [false] [.int 8] X22 eh22 ?_
      show (Fld Z h0 a "com/example/binwright/binwright/binning/LeastTree" "leaves" "I" (.int 8)) ∧ (¬ (((8 : Int32)).toInt ≤ ((2 : Int32)).toInt)) ∧ own_Aft X22 h0 _ 27 [zA a, zD x, zS, zI 2] [.int 4, .ref a]
      refine ⟨F1, by decide, fun T23 X23 eh23 => ?_⟩
      refine own_callPP X23 hx hZ hown (hw _ (wm 43 rfl)) (hw _ (wm 45 rfl)) (hw _ (wm 6 rfl)) (hw _ (wm 44 rfl)) (hw _ (wm 7 rfl)) (hw _ (wm 46 rfl)) (by decide) eh23 EX [.int 4] pd9 rfl (fr := 0) (lo := 0) (rm9_l l Z a0 hw [] a la va (4 : Int32) (8 : Int32) (6 : Int32) r4 h0 n0 Z0 F1 F2 F3 (Av.ln (6 : Int32) rfl) (by decide) (Al.at (4 : Int32) 4 rfl rfl)) (by rw [hml]; rfl) 0 rfl (Nat.le_of_eq rfl) (hb hby d11_27) (by decide) (by decide) (by decide) (by decide) (fun T24 rv24 X24 eh24 qc24 => ?_)
      obtain rfl := qc24
      show own_Go p.tables e below _ (T24.setTop (mkF m 30 (Array.mk [zA a, zD x, zS, zI 2]) [.double r4]))
      rcases Int.lt_or_le (own_z x) (own_z r4) with q2 | q2
      · skip
        refine own_blk dec11 seq11 hby hx hZ hown hK hF 10 [true] [] X24 eh24 ?_
        show (0 < (cmpValue (FP.dcmp r4 x) .g).toInt) ∧ own_Aft X24 h0 _ 15 [zA a, zD x, zS, zI 5] []
        refine ⟨own_ggt Nr4 Nx q2, fun T25 X25 eh25 => ?_⟩
        refine own_blk dec11 seq11 hby hx hZ hown hK hF 8 [false] [.int 8] X25 eh25 ?_
        show (Fld Z h0 a "com/example/binwright/binwright/binning/LeastTree" "leaves" "I" (.int 8)) ∧ (¬ (((8 : Int32)).toInt ≤ ((5 : Int32)).toInt)) ∧ own_Aft X25 h0 _ 27 [zA a, zD x, zS, zI 5] [.int 10, .ref a]
        refine ⟨F1, by decide, fun T26 X26 eh26 => ?_⟩
        refine own_callPP X26 hx hZ hown (hw _ (wm 43 rfl)) (hw _ (wm 45 rfl)) (hw _ (wm 6 rfl)) (hw _ (wm 44 rfl)) (hw _ (wm 7 rfl)) (hw _ (wm 46 rfl)) (by decide) eh26 EX [.int 10] pd9 rfl (fr := 0) (lo := 0) (rm9_v l Z a0 hw [] a la va (10 : Int32) (8 : Int32) (6 : Int32) v2 h0 n0 Z0 F1 F2 F3 (Av.ln (6 : Int32) rfl) (by decide) (by decide) (Av.at ((10 : Int32) - (8 : Int32)) 2 rfl rfl)) (by rw [hml]; rfl) 0 rfl (Nat.le_of_eq rfl) (hb hby d11_27) (by decide) (by decide) (by decide) (by decide) (fun T27 rv27 X27 eh27 qc27 => ?_)
        obtain rfl := qc27
        show own_Go p.tables e below _ (T27.setTop (mkF m 30 (Array.mk [zA a, zD x, zS, zI 5]) [.double v2]))
        rcases Int.lt_or_le (own_z x) (own_z v2) with q5 | q5
        · skip
          refine own_blk dec11 seq11 hby hx hZ hown hK hF 10 [true] [] X27 eh27 ?_
          show (0 < (cmpValue (FP.dcmp v2 x) .g).toInt) ∧ own_Aft X27 h0 _ 15 [zA a, zD x, zS, zI 11] []
          refine ⟨own_ggt Nv2 Nx q5, fun T28 X28 eh28 => ?_⟩
          refine own_blk dec11 seq11 hby hx hZ hown hK hF 8 [true] [.int 8, .int 8] X28 eh28 ?_
          show (Fld Z h0 a "com/example/binwright/binwright/binning/LeastTree" "leaves" "I" (.int 8)) ∧ (((8 : Int32)).toInt ≤ ((11 : Int32)).toInt) ∧ (Fld Z h0 a "com/example/binwright/binwright/binning/LeastTree" "leaves" "I" (.int 8)) ∧ own_Aft X28 h0 _ 56 [zA a, zD x, zS, zI 11] [.int 3]
          refine ⟨F1, by decide, F1, fun T29 X29 eh29 => ?_⟩
          exact own_ret X29 hx hlk eh29 hret (by first | rfl | decide) (Or.inl ⟨rfl, by simp, _, rfl⟩) (hb hby d11_56) (by decide) (by decide) (⟨⟨_, rfl, Or.inr (Or.inr (Or.inr (Or.inr (Or.inl (⟨rfl, q0, q1, q2, q5⟩)))))⟩, rfl, rfl⟩)
        · skip
          refine own_blk dec11 seq11 hby hx hZ hown hK hF 9 [false] [] X27 eh27 ?_
          show (¬ (0 < (cmpValue (FP.dcmp v2 x) .g).toInt)) ∧ own_Aft X27 h0 _ 15 [zA a, zD x, zS, zI 10] []
          refine ⟨by have := own_gle (k := .g) Nv2 Nx q5; omega, fun T30 X30 eh30 => ?_⟩
          refine own_blk dec11 seq11 hby hx hZ hown hK hF 8 [true] [.int 8, .int 8] X30 eh30 ?_
          show (Fld Z h0 a "com/example/binwright/binwright/binning/LeastTree" "leaves" "I" (.int 8)) ∧ (((8 : Int32)).toInt ≤ ((10 : Int32)).toInt) ∧ (Fld Z h0 a "com/example/binwright/binwright/binning/LeastTree" "leaves" "I" (.int 8)) ∧ own_Aft X30 h0 _ 56 [zA a, zD x, zS, zI 10] [.int 2]
          refine ⟨F1, by decide, F1, fun T31 X31 eh31 => ?_⟩
          exact own_ret X31 hx hlk eh31 hret (by first | rfl | decide) (Or.inl ⟨rfl, by simp, _, rfl⟩) (hb hby d11_56) (by decide) (by decide) (⟨⟨_, rfl, Or.inr (Or.inr (Or.inr (Or.inl (⟨rfl, q0, q1, q2, q5⟩))))⟩, rfl, rfl⟩)
      · skip
        refine own_blk dec11 seq11 hby hx hZ hown hK hF 9 [false] [] X24 eh24 ?_
        show (¬ (0 < (cmpValue (FP.dcmp r4 x) .g).toInt)) ∧ own_Aft X24 h0 _ 15 [zA a, zD x, zS, zI 4] []
        refine ⟨by have := own_gle (k := .g) Nr4 Nx q2; omega, fun T32 X32 eh32 => ?_⟩
        refine own_blk dec11 seq11 hby hx hZ hown hK hF 8 [false] [.int 8] X32 eh32 ?_
        show (Fld Z h0 a "com/example/binwright/binwright/binning/LeastTree" "leaves" "I" (.int 8)) ∧ (¬ (((8 : Int32)).toInt ≤ ((4 : Int32)).toInt)) ∧ own_Aft X32 h0 _ 27 [zA a, zD x, zS, zI 4] [.int 8, .ref a]
        refine ⟨F1, by decide, fun T33 X33 eh33 => ?_⟩
        refine own_callPP X33 hx hZ hown (hw _ (wm 43 rfl)) (hw _ (wm 45 rfl)) (hw _ (wm 6 rfl)) (hw _ (wm 44 rfl)) (hw _ (wm 7 rfl)) (hw _ (wm 46 rfl)) (by decide) eh33 EX [.int 8] pd9 rfl (fr := 0) (lo := 0) (rm9_v l Z a0 hw [] a la va (8 : Int32) (8 : Int32) (6 : Int32) v0 h0 n0 Z0 F1 F2 F3 (Av.ln (6 : Int32) rfl) (by decide) (by decide) (Av.at ((8 : Int32) - (8 : Int32)) 0 rfl rfl)) (by rw [hml]; rfl) 0 rfl (Nat.le_of_eq rfl) (hb hby d11_27) (by decide) (by decide) (by decide) (by decide) (fun T34 rv34 X34 eh34 qc34 => ?_)
        obtain rfl := qc34
        show own_Go p.tables e below _ (T34.setTop (mkF m 30 (Array.mk [zA a, zD x, zS, zI 4]) [.double v0]))
        rcases Int.lt_or_le (own_z x) (own_z v0) with q4 | q4
        · skip
          refine own_blk dec11 seq11 hby hx hZ hown hK hF 10 [true] [] X34 eh34 ?_
          show (0 < (cmpValue (FP.dcmp v0 x) .g).toInt) ∧ own_Aft X34 h0 _ 15 [zA a, zD x, zS, zI 9] []
          refine ⟨own_ggt Nv0 Nx q4, fun T35 X35 eh35 => ?_⟩
          refine own_blk dec11 seq11 hby hx hZ hown hK hF 8 [true] [.int 8, .int 8] X35 eh35 ?_
          show (Fld Z h0 a "com/example/binwright/binwright/binning/LeastTree" "leaves" "I" (.int 8)) ∧ (((8 : Int32)).toInt ≤ ((9 : Int32)).toInt) ∧ (Fld Z h0 a "com/example/binwright/binwright/binning/LeastTree" "leaves" "I" (.int 8)) ∧ own_Aft X35 h0 _ 56 [zA a, zD x, zS, zI 9] [.int 1]
          refine ⟨F1, by decide, F1, fun T36 X36 eh36 => ?_⟩
          exact own_ret X36 hx hlk eh36 hret (by first | rfl | decide) (Or.inl ⟨rfl, by simp, _, rfl⟩) (hb hby d11_56) (by decide) (by decide) (⟨⟨_, rfl, Or.inr (Or.inr (Or.inl (⟨rfl, q0, q1, q2, q4⟩)))⟩, rfl, rfl⟩)
        · skip
          refine own_blk dec11 seq11 hby hx hZ hown hK hF 9 [false] [] X34 eh34 ?_
          show (¬ (0 < (cmpValue (FP.dcmp v0 x) .g).toInt)) ∧ own_Aft X34 h0 _ 15 [zA a, zD x, zS, zI 8] []
          refine ⟨by have := own_gle (k := .g) Nv0 Nx q4; omega, fun T37 X37 eh37 => ?_⟩
          refine own_blk dec11 seq11 hby hx hZ hown hK hF 8 [true] [.int 8, .int 8] X37 eh37 ?_
          show (Fld Z h0 a "com/example/binwright/binwright/binning/LeastTree" "leaves" "I" (.int 8)) ∧ (((8 : Int32)).toInt ≤ ((8 : Int32)).toInt) ∧ (Fld Z h0 a "com/example/binwright/binwright/binning/LeastTree" "leaves" "I" (.int 8)) ∧ own_Aft X37 h0 _ 56 [zA a, zD x, zS, zI 8] [.int 0]
          refine ⟨F1, by decide, F1, fun T38 X38 eh38 => ?_⟩
          exact own_ret X38 hx hlk eh38 hret (by first | rfl | decide) (Or.inl ⟨rfl, by simp, _, rfl⟩) (hb hby d11_56) (by decide) (by decide) (⟨⟨_, rfl, Or.inr (Or.inl (⟨rfl, q0, q1, q2, q4⟩))⟩, rfl, rfl⟩)
set_option maxRecDepth 65536 in
set_option maxHeartbeats 40000000 in
theorem rm11_7 (l : Launch) (Z : State) (a0 : Array Value) (hw : ∀ d ∈ tables_1, d.before a0 Z = true) (ws : List Jvm.Cond) (a la va : Addr) (v0 v1 v2 v3 v4 v5 v6 r1 r2 r3 r4 r5 r6 r7 x : UInt64) (h0 : Heap) (n0 : Nat) (Z0 : n0 ≤ h0.size) (EX : Exa Z h0 a "com/example/binwright/binwright/binning/LeastTree") (F1 : Fld Z h0 a "com/example/binwright/binwright/binning/LeastTree" "leaves" "I" (.int (8 : Int32))) (F2 : Fld Z h0 a "com/example/binwright/binwright/binning/LeastTree" "least" "[D" (.ref la)) (F3 : Fld Z h0 a "com/example/binwright/binwright/binning/LeastTree" "values" "[D" (.ref va)) (Al : own_A Z h0 la .double [.double 9218868437227405312, .double r1, .double r2, .double r3, .double r4, .double r5, .double r6, .double r7]) (Av : own_A Z h0 va .double [.double v0, .double v1, .double v2, .double v3, .double v4, .double v5, .double v6]) (Nv0 : own_num v0) (Nv1 : own_num v1) (Nv2 : own_num v2) (Nv3 : own_num v3) (Nv4 : own_num v4) (Nv5 : own_num v5) (Nv6 : own_num v6) (Nr1 : own_num r1) (Nr2 : own_num r2) (Nr3 : own_num r3) (Nr4 : own_num r4) (Nr5 : own_num r5) (Nr6 : own_num r6) (Nr7 : own_num r7) (Nx : own_num x) :
    own_MF l (⟨"com/example/binwright/binwright/binning/LeastTree", "firstAtMost", "(D)I"⟩ : MethodName) prog_15_method_4_code 4 (some .int) ws ({ frames := 1, cells := 0, slots := 0, locals := 24 } : Room) #[.ref a, .double x] Z h0 (fun v h L => (∃ r : Int32, v = some (.int r) ∧ ((r = -1 ∧ own_z x < own_z r1) ∨ (r = 0 ∧ own_z r1 ≤ own_z x ∧ own_z r2 ≤ own_z x ∧ own_z r4 ≤ own_z x ∧ own_z v0 ≤ own_z x) ∨ (r = 1 ∧ own_z r1 ≤ own_z x ∧ own_z r2 ≤ own_z x ∧ own_z r4 ≤ own_z x ∧ own_z x < own_z v0) ∨ (r = 2 ∧ own_z r1 ≤ own_z x ∧ own_z r2 ≤ own_z x ∧ own_z x < own_z r4 ∧ own_z v2 ≤ own_z x) ∨ (r = 3 ∧ own_z r1 ≤ own_z x ∧ own_z r2 ≤ own_z x ∧ own_z x < own_z r4 ∧ own_z x < own_z v2) ∨ (r = 4 ∧ own_z r1 ≤ own_z x ∧ own_z x < own_z r2 ∧ own_z r6 ≤ own_z x ∧ own_z v4 ≤ own_z x) ∨ (r = 5 ∧ own_z r1 ≤ own_z x ∧ own_z x < own_z r2 ∧ own_z r6 ≤ own_z x ∧ own_z x < own_z v4) ∨ (r = 6 ∧ own_z r1 ≤ own_z x ∧ own_z x < own_z r2 ∧ own_z x < own_z r6 ∧ own_z v6 ≤ own_z x) ∨ (r = 7 ∧ own_z r1 ≤ own_z x ∧ own_z x < own_z r2 ∧ own_z x < own_z r6 ∧ own_z x < own_z v6))) ∧ L = [] ∧ h = h0) := by
  refine own_body pf11 (ls0 := [.val (.ref a), .val (.double x), .second, .unset]) (fun m => by first | (simp [entryFrame, mkF, argsToLocals, Value.category, maxLocals]; done) | rfl) ?_
  intro p e s m below meth c T0 hx hby hml hown hnm hlk hret hZ X0 e0
  have hK := hKt2 hw; have hF := hFt2 hw
  have N0 := Fr.nil n0
  rcases Int.lt_or_le (own_z x) (own_z r1) with q0 | q0
  · skip
    refine own_blk dec11 seq11 hby hx hZ hown hK hF 8 [false] [.ref la, .double r1] X0 e0 ?_
    show (Fld Z h0 a "com/example/binwright/binwright/binning/LeastTree" "least" "[D" (.ref la)) ∧ (own_at Z h0 la .double (1 : Int32) (.double r1)) ∧ (¬ ((cmpValue (FP.dcmp r1 x) .g).toInt ≤ 0)) ∧ own_Aft X0 h0 _ 12 [zA a, zD x, zS, zU] [.int (-1)]
    refine ⟨F2, Al.at (1 : Int32) 1 rfl rfl, by have := own_ggt (k := .g) Nr1 Nx q0; omega, fun T1 X1 eh1 => ?_⟩
    exact own_ret X1 hx hlk eh1 hret (by first | rfl | decide) (Or.inl ⟨rfl, by simp, _, rfl⟩) (hb hby d11_12) (by decide) (by decide) (⟨⟨_, rfl, Or.inl (⟨rfl, q0⟩)⟩, rfl, rfl⟩)
  · skip
    refine own_blk dec11 seq11 hby hx hZ hown hK hF 9 [true] [.ref la, .double r1] X0 e0 ?_
    show (Fld Z h0 a "com/example/binwright/binwright/binning/LeastTree" "least" "[D" (.ref la)) ∧ (own_at Z h0 la .double (1 : Int32) (.double r1)) ∧ ((cmpValue (FP.dcmp r1 x) .g).toInt ≤ 0) ∧ own_Aft X0 h0 _ 15 [zA a, zD x, zS, zI 1] []
    refine ⟨F2, Al.at (1 : Int32) 1 rfl rfl, own_gle Nr1 Nx q0, fun T2 X2 eh2 => ?_⟩
    refine own_blk dec11 seq11 hby hx hZ hown hK hF 8 [false] [.int 8] X2 eh2 ?_
    show (Fld Z h0 a "com/example/binwright/binwright/binning/LeastTree" "leaves" "I" (.int 8)) ∧ (¬ (((8 : Int32)).toInt ≤ ((1 : Int32)).toInt)) ∧ own_Aft X2 h0 _ 27 [zA a, zD x, zS, zI 1] [.int 2, .ref a]
    refine ⟨F1, by decide, fun T3 X3 eh3 => ?_⟩
    refine own_callPP X3 hx hZ hown (hw _ (wm 43 rfl)) (hw _ (wm 45 rfl)) (hw _ (wm 6 rfl)) (hw _ (wm 44 rfl)) (hw _ (wm 7 rfl)) (hw _ (wm 46 rfl)) (by decide) eh3 EX [.int 2] pd9 rfl (fr := 0) (lo := 0) (rm9_l l Z a0 hw [] a la va (2 : Int32) (8 : Int32) (7 : Int32) r2 h0 n0 Z0 F1 F2 F3 (Av.ln (7 : Int32) rfl) (by decide) (Al.at (2 : Int32) 2 rfl rfl)) (by rw [hml]; rfl) 0 rfl (Nat.le_of_eq rfl) (hb hby d11_27) (by decide) (by decide) (by decide) (by decide) (fun T4 rv4 X4 eh4 qc4 => ?_)
    obtain rfl := qc4
    show own_Go p.tables e below _ (T4.setTop (mkF m 30 (Array.mk [zA a, zD x, zS, zI 1]) [.double r2]))
    rcases Int.lt_or_le (own_z x) (own_z r2) with q1 | q1
    · skip
      refine own_blk dec11 seq11 hby hx hZ hown hK hF 10 [true] [] X4 eh4 ?_
      show (0 < (cmpValue (FP.dcmp r2 x) .g).toInt) ∧ own_Aft X4 h0 _ 15 [zA a, zD x, zS, zI 3] []
      refine ⟨own_ggt Nr2 Nx q1, fun T5 X5 eh5 => ?_⟩
      refine own_blk dec11 seq11 hby hx hZ hown hK hF 8 [false] [.int 8] X5 eh5 ?_
      show (Fld Z h0 a "com/example/binwright/binwright/binning/LeastTree" "leaves" "I" (.int 8)) ∧ (¬ (((8 : Int32)).toInt ≤ ((3 : Int32)).toInt)) ∧ own_Aft X5 h0 _ 27 [zA a, zD x, zS, zI 3] [.int 6, .ref a]
      refine ⟨F1, by decide, fun T6 X6 eh6 => ?_⟩
      refine own_callPP X6 hx hZ hown (hw _ (wm 43 rfl)) (hw _ (wm 45 rfl)) (hw _ (wm 6 rfl)) (hw _ (wm 44 rfl)) (hw _ (wm 7 rfl)) (hw _ (wm 46 rfl)) (by decide) eh6 EX [.int 6] pd9 rfl (fr := 0) (lo := 0) (rm9_l l Z a0 hw [] a la va (6 : Int32) (8 : Int32) (7 : Int32) r6 h0 n0 Z0 F1 F2 F3 (Av.ln (7 : Int32) rfl) (by decide) (Al.at (6 : Int32) 6 rfl rfl)) (by rw [hml]; rfl) 0 rfl (Nat.le_of_eq rfl) (hb hby d11_27) (by decide) (by decide) (by decide) (by decide) (fun T7 rv7 X7 eh7 qc7 => ?_)
      obtain rfl := qc7
      show own_Go p.tables e below _ (T7.setTop (mkF m 30 (Array.mk [zA a, zD x, zS, zI 3]) [.double r6]))
      rcases Int.lt_or_le (own_z x) (own_z r6) with q3 | q3
      · skip
        refine own_blk dec11 seq11 hby hx hZ hown hK hF 10 [true] [] X7 eh7 ?_
        show (0 < (cmpValue (FP.dcmp r6 x) .g).toInt) ∧ own_Aft X7 h0 _ 15 [zA a, zD x, zS, zI 7] []
        refine ⟨own_ggt Nr6 Nx q3, fun T8 X8 eh8 => ?_⟩
        refine own_blk dec11 seq11 hby hx hZ hown hK hF 8 [false] [.int 8] X8 eh8 ?_
        show (Fld Z h0 a "com/example/binwright/binwright/binning/LeastTree" "leaves" "I" (.int 8)) ∧ (¬ (((8 : Int32)).toInt ≤ ((7 : Int32)).toInt)) ∧ own_Aft X8 h0 _ 27 [zA a, zD x, zS, zI 7] [.int 14, .ref a]
        refine ⟨F1, by decide, fun T9 X9 eh9 => ?_⟩
        refine own_callPP X9 hx hZ hown (hw _ (wm 43 rfl)) (hw _ (wm 45 rfl)) (hw _ (wm 6 rfl)) (hw _ (wm 44 rfl)) (hw _ (wm 7 rfl)) (hw _ (wm 46 rfl)) (by decide) eh9 EX [.int 14] pd9 rfl (fr := 0) (lo := 0) (rm9_v l Z a0 hw [] a la va (14 : Int32) (8 : Int32) (7 : Int32) v6 h0 n0 Z0 F1 F2 F3 (Av.ln (7 : Int32) rfl) (by decide) (by decide) (Av.at ((14 : Int32) - (8 : Int32)) 6 rfl rfl)) (by rw [hml]; rfl) 0 rfl (Nat.le_of_eq rfl) (hb hby d11_27) (by decide) (by decide) (by decide) (by decide) (fun T10 rv10 X10 eh10 qc10 => ?_)
        obtain rfl := qc10
        show own_Go p.tables e below _ (T10.setTop (mkF m 30 (Array.mk [zA a, zD x, zS, zI 7]) [.double v6]))
        rcases Int.lt_or_le (own_z x) (own_z v6) with q7 | q7
        · skip
          refine own_blk dec11 seq11 hby hx hZ hown hK hF 10 [true] [] X10 eh10 ?_
          show (0 < (cmpValue (FP.dcmp v6 x) .g).toInt) ∧ own_Aft X10 h0 _ 15 [zA a, zD x, zS, zI 15] []
          refine ⟨own_ggt Nv6 Nx q7, fun T11 X11 eh11 => ?_⟩
          refine own_blk dec11 seq11 hby hx hZ hown hK hF 8 [true] [.int 8, .int 8] X11 eh11 ?_
          show (Fld Z h0 a "com/example/binwright/binwright/binning/LeastTree" "leaves" "I" (.int 8)) ∧ (((8 : Int32)).toInt ≤ ((15 : Int32)).toInt) ∧ (Fld Z h0 a "com/example/binwright/binwright/binning/LeastTree" "leaves" "I" (.int 8)) ∧ own_Aft X11 h0 _ 56 [zA a, zD x, zS, zI 15] [.int 7]
          refine ⟨F1, by decide, F1, fun T12 X12 eh12 => ?_⟩
          exact own_ret X12 hx hlk eh12 hret (by first | rfl | decide) (Or.inl ⟨rfl, by simp, _, rfl⟩) (hb hby d11_56) (by decide) (by decide) (⟨⟨_, rfl, Or.inr (Or.inr (Or.inr (Or.inr (Or.inr (Or.inr (Or.inr (Or.inr (⟨rfl, q0, q1, q3, q7⟩))))))))⟩, rfl, rfl⟩)
        · skip
          refine own_blk dec11 seq11 hby hx hZ hown hK hF 9 [false] [] X10 eh10 ?_
          show (¬ (0 < (cmpValue (FP.dcmp v6 x) .g).toInt)) ∧ own_Aft X10 h0 _ 15 [zA a, zD x, zS, zI 14] []
          refine ⟨by have := own_gle (k := .g) Nv6 Nx q7; omega, fun T13 X13 eh13 => ?_⟩
          refine own_blk dec11 seq11 hby hx hZ hown hK hF 8 [true] [.int 8, .int 8] X13 eh13 ?_
          show (Fld Z h0 a "com/example/binwright/binwright/binning/LeastTree" "leaves" "I" (.int 8)) ∧ (((8 : Int32)).toInt ≤ ((14 : Int32)).toInt) ∧ (Fld Z h0 a "com/example/binwright/binwright/binning/LeastTree" "leaves" "I" (.int 8)) ∧ own_Aft X13 h0 _ 56 [zA a, zD x, zS, zI 14] [.int 6]
          refine ⟨F1, by decide, F1, fun T14 X14 eh14 => ?_⟩
          exact own_ret X14 hx hlk eh14 hret (by first | rfl | decide) (Or.inl ⟨rfl, by simp, _, rfl⟩) (hb hby d11_56) (by decide) (by decide) (⟨⟨_, rfl, Or.inr (Or.inr (Or.inr (Or.inr (Or.inr (Or.inr (Or.inr (Or.inl (⟨rfl, q0, q1, q3, q7⟩))))))))⟩, rfl, rfl⟩)
      · skip
        refine own_blk dec11 seq11 hby hx hZ hown hK hF 9 [false] [] X7 eh7 ?_
        show (¬ (0 < (cmpValue (FP.dcmp r6 x) .g).toInt)) ∧ own_Aft X7 h0 _ 15 [zA a, zD x, zS, zI 6] []
        refine ⟨by have := own_gle (k := .g) Nr6 Nx q3; omega, fun T15 X15 eh15 => ?_⟩
        refine own_blk dec11 seq11 hby hx hZ hown hK hF 8 [false] [.int 8] X15 eh15 ?_
        show (Fld Z h0 a "com/example/binwright/binwright/binning/LeastTree" "leaves" "I" (.int 8)) ∧ (¬ (((8 : Int32)).toInt ≤ ((6 : Int32)).toInt)) ∧ own_Aft X15 h0 _ 27 [zA a, zD x, zS, zI 6] [.int 12, .ref a]
        refine ⟨F1, by decide, fun T16 X16 eh16 => ?_⟩
        refine own_callPP X16 hx hZ hown (hw _ (wm 43 rfl)) (hw _ (wm 45 rfl)) (hw _ (wm 6 rfl)) (hw _ (wm 44 rfl)) (hw _ (wm 7 rfl)) (hw _ (wm 46 rfl)) (by decide) eh16 EX [.int 12] pd9 rfl (fr := 0) (lo := 0) (rm9_v l Z a0 hw [] a la va (12 : Int32) (8 : Int32) (7 : Int32) v4 h0 n0 Z0 F1 F2 F3 (Av.ln (7 : Int32) rfl) (by decide) (by decide) (Av.at ((12 : Int32) - (8 : Int32)) 4 rfl rfl)) (by rw [hml]; rfl) 0 rfl (Nat.le_of_eq rfl) (hb hby d11_27) (by decide) (by decide) (by decide) (by decide) (fun T17 rv17 X17 eh17 qc17 => ?_)
        obtain rfl := qc17
        show own_Go p.tables e below _ (T17.setTop (mkF m 30 (Array.mk [zA a, zD x, zS, zI 6]) [.double v4]))
        rcases Int.lt_or_le (own_z x) (own_z v4) with q6 | q6
        · skip
          refine own_blk dec11 seq11 hby hx hZ hown hK hF 10 [true] [] X17 eh17 ?_
          show (0 < (cmpValue (FP.dcmp v4 x) .g).toInt) ∧ own_Aft X17 h0 _ 15 [zA a, zD x, zS, zI 13] []
          refine ⟨own_ggt Nv4 Nx q6, fun T18 X18 eh18 => ?_⟩
          refine own_blk dec11 seq11 hby hx hZ hown hK hF 8 [true] [.int 8, .int 8] X18 eh18 ?_
          show (Fld Z h0 a "com/example/binwright/binwright/binning/LeastTree" "leaves" "I" (.int 8)) ∧ (((8 : Int32)).toInt ≤ ((13 : Int32)).toInt) ∧ (Fld Z h0 a "com/example/binwright/binwright/binning/LeastTree" "leaves" "I" (.int 8)) ∧ own_Aft X18 h0 _ 56 [zA a, zD x, zS, zI 13] [.int 5]
          refine ⟨F1, by decide, F1, fun T19 X19 eh19 => ?_⟩
          exact own_ret X19 hx hlk eh19 hret (by first | rfl | decide) (Or.inl ⟨rfl, by simp, _, rfl⟩) (hb hby d11_56) (by decide) (by decide) (⟨⟨_, rfl, Or.inr (Or.inr (Or.inr (Or.inr (Or.inr (Or.inr (Or.inl (⟨rfl, q0, q1, q3, q6⟩)))))))⟩, rfl, rfl⟩)
        · skip
          refine own_blk dec11 seq11 hby hx hZ hown hK hF 9 [false] [] X17 eh17 ?_
          show (¬ (0 < (cmpValue (FP.dcmp v4 x) .g).toInt)) ∧ own_Aft X17 h0 _ 15 [zA a, zD x, zS, zI 12] []
          refine ⟨by have := own_gle (k := .g) Nv4 Nx q6; omega, fun T20 X20 eh20 => ?_⟩
          refine own_blk dec11 seq11 hby hx hZ hown hK hF 8 [true] [.int 8, .int 8] X20 eh20 ?_
          show (Fld Z h0 a "com/example/binwright/binwright/binning/LeastTree" "leaves" "I" (.int 8)) ∧ (((8 : Int32)).toInt ≤ ((12 : Int32)).toInt) ∧ (Fld Z h0 a "com/example/binwright/binwright/binning/LeastTree" "leaves" "I" (.int 8)) ∧ own_Aft X20 h0 _ 56 [zA a, zD x, zS, zI 12] [.int 4]
          refine ⟨F1, by decide, F1, fun T21 X21 eh21 => ?_⟩
          exact own_ret X21 hx hlk eh21 hret (by first | rfl | decide) (Or.inl ⟨rfl, by simp, _, rfl⟩) (hb hby d11_56) (by decide) (by decide) (⟨⟨_, rfl, Or.inr (Or.inr (Or.inr (Or.inr (Or.inr (Or.inl (⟨rfl, q0, q1, q3, q6⟩))))))⟩, rfl, rfl⟩)
    · skip
      refine own_blk dec11 seq11 hby hx hZ hown hK hF 9 [false] [] X4 eh4 ?_
      show (¬ (0 < (cmpValue (FP.dcmp r2 x) .g).toInt)) ∧ own_Aft X4 h0 _ 15 [zA a, zD x, zS, zI 2] []
      refine ⟨by have := own_gle (k := .g) Nr2 Nx q1; omega, fun T22 X22 eh22 => ?_⟩
      refine own_blk dec11 seq11 hby hx hZ hown hK hF 8 [false] [.int 8] X22 eh22 ?_
      show (Fld Z h0 a "com/example/binwright/binwright/binning/LeastTree" "leaves" "I" (.int 8)) ∧ (¬ (((8 : Int32)).toInt ≤ ((2 : Int32)).toInt)) ∧ own_Aft X22 h0 _ 27 [zA a, zD x, zS, zI 2] [.int 4, .ref a]
      refine ⟨F1, by decide, fun T23 X23 eh23 => ?_⟩
      refine own_callPP X23 hx hZ hown (hw _ (wm 43 rfl)) (hw _ (wm 45 rfl)) (hw _ (wm 6 rfl)) (hw _ (wm 44 rfl)) (hw _ (wm 7 rfl)) (hw _ (wm 46 rfl)) (by decide) eh23 EX [.int 4] pd9 rfl (fr := 0) (lo := 0) (rm9_l l Z a0 hw [] a la va (4 : Int32) (8 : Int32) (7 : Int32) r4 h0 n0 Z0 F1 F2 F3 (Av.ln (7 : Int32) rfl) (by decide) (Al.at (4 : Int32) 4 rfl rfl)) (by rw [hml]; rfl) 0 rfl (Nat.le_of_eq rfl) (hb hby d11_27) (by decide) (by decide) (by decide) (by decide) (fun T24 rv24 X24 eh24 qc24 => ?_)
      obtain rfl := qc24
      show own_Go p.tables e below _ (T24.setTop (mkF m 30 (Array.mk [zA a, zD x, zS, zI 2]) [.double r4]))
      rcases Int.lt_or_le (own_z x) (own_z r4) with q2 | q2
      · skip
        refine own_blk dec11 seq11 hby hx hZ hown hK hF 10 [true] [] X24 eh24 ?_
        show (0 < (cmpValue (FP.dcmp r4 x) .g).toInt) ∧ own_Aft X24 h0 _ 15 [zA a, zD x, zS, zI 5] []
        refine ⟨own_ggt Nr4 Nx q2, fun T25 X25 eh25 => ?_⟩
        refine own_blk dec11 seq11 hby hx hZ hown hK hF 8 [false] [.int 8] X25 eh25 ?_
        show (Fld Z h0 a "com/example/binwright/binwright/binning/LeastTree" "leaves" "I" (.int 8)) ∧ (¬ (((8 : Int32)).toInt ≤ ((5 : Int32)).toInt)) ∧ own_Aft X25 h0 _ 27 [zA a, zD x, zS, zI 5] [.int 10, .ref a]
        refine ⟨F1, by decide, fun T26 X26 eh26 => ?_⟩
        refine own_callPP X26 hx hZ hown (hw _ (wm 43 rfl)) (hw _ (wm 45 rfl)) (hw _ (wm 6 rfl)) (hw _ (wm 44 rfl)) (hw _ (wm 7 rfl)) (hw _ (wm 46 rfl)) (by decide) eh26 EX [.int 10] pd9 rfl (fr := 0) (lo := 0) (rm9_v l Z a0 hw [] a la va (10 : Int32) (8 : Int32) (7 : Int32) v2 h0 n0 Z0 F1 F2 F3 (Av.ln (7 : Int32) rfl) (by decide) (by decide) (Av.at ((10 : Int32) - (8 : Int32)) 2 rfl rfl)) (by rw [hml]; rfl) 0 rfl (Nat.le_of_eq rfl) (hb hby d11_27) (by decide) (by decide) (by decide) (by decide) (fun T27 rv27 X27 eh27 qc27 => ?_)
        obtain rfl := qc27
        show own_Go p.tables e below _ (T27.setTop (mkF m 30 (Array.mk [zA a, zD x, zS, zI 5]) [.double v2]))
        rcases Int.lt_or_le (own_z x) (own_z v2) with q5 | q5
        · skip
          refine own_blk dec11 seq11 hby hx hZ hown hK hF 10 [true] [] X27 eh27 ?_
          show (0 < (cmpValue (FP.dcmp v2 x) .g).toInt) ∧ own_Aft X27 h0 _ 15 [zA a, zD x, zS, zI 11] []
          refine ⟨own_ggt Nv2 Nx q5, fun T28 X28 eh28 => ?_⟩
          refine own_blk dec11 seq11 hby hx hZ hown hK hF 8 [true] [.int 8, .int 8] X28 eh28 ?_
          show (Fld Z h0 a "com/example/binwright/binwright/binning/LeastTree" "leaves" "I" (.int 8)) ∧ (((8 : Int32)).toInt ≤ ((11 : Int32)).toInt) ∧ (Fld Z h0 a "com/example/binwright/binwright/binning/LeastTree" "leaves" "I" (.int 8)) ∧ own_Aft X28 h0 _ 56 [zA a, zD x, zS, zI 11] [.int 3]
          refine ⟨F1, by decide, F1, fun T29 X29 eh29 => ?_⟩
          exact own_ret X29 hx hlk eh29 hret (by first | rfl | decide) (Or.inl ⟨rfl, by simp, _, rfl⟩) (hb hby d11_56) (by decide) (by decide) (⟨⟨_, rfl, Or.inr (Or.inr (Or.inr (Or.inr (Or.inl (⟨rfl, q0, q1, q2, q5⟩)))))⟩, rfl, rfl⟩)
        · skip
          refine own_blk dec11 seq11 hby hx hZ hown hK hF 9 [false] [] X27 eh27 ?_
          show (¬ (0 < (cmpValue (FP.dcmp v2 x) .g).toInt)) ∧ own_Aft X27 h0 _ 15 [zA a, zD x, zS, zI 10] []
          refine ⟨by have := own_gle (k := .g) Nv2 Nx q5; omega, fun T30 X30 eh30 => ?_⟩
          refine own_blk dec11 seq11 hby hx hZ hown hK hF 8 [true] [.int 8, .int 8] X30 eh30 ?_
          show (Fld Z h0 a "com/example/binwright/binwright/binning/LeastTree" "leaves" "I" (.int 8)) ∧ (((8 : Int32)).toInt ≤ ((10 : Int32)).toInt) ∧ (Fld Z h0 a "com/example/binwright/binwright/binning/LeastTree" "leaves" "I" (.int 8)) ∧ own_Aft X30 h0 _ 56 [zA a, zD x, zS, zI 10] [.int 2]
          refine ⟨F1, by decide, F1, fun T31 X31 eh31 => ?_⟩
          exact own_ret X31 hx hlk eh31 hret (by first | rfl | decide) (Or.inl ⟨rfl, by simp, _, rfl⟩) (hb hby d11_56) (by decide) (by decide) (⟨⟨_, rfl, Or.inr (Or.inr (Or.inr (Or.inl (⟨rfl, q0, q1, q2, q5⟩))))⟩, rfl, rfl⟩)
      · skip
        refine own_blk dec11 seq11 hby hx hZ hown hK hF 9 [false] [] X24 eh24 ?_
        show (¬ (0 < (cmpValue (FP.dcmp r4 x) .g).toInt)) ∧ own_Aft X24 h0 _ 15 [zA a, zD x, zS, zI 4] []
        refine ⟨by have := own_gle (k := .g) Nr4 Nx q2; omega, fun T32 X32 eh32 => ?_⟩
        refine own_blk dec11 seq11 hby hx hZ hown hK hF 8 [false] [.int 8] X32 eh32 ?_
        show (Fld Z h0 a "com/example/binwright/binwright/binning/LeastTree" "leaves" "I" (.int 8)) ∧ (¬ (((8 : Int32)).toInt ≤ ((4 : Int32)).toInt)) ∧ own_Aft X32 h0 _ 27 [zA a, zD x, zS, zI 4] [.int 8, .ref a]
        refine ⟨F1, by decide, fun T33 X33 eh33 => ?_⟩
        refine own_callPP X33 hx hZ hown (hw _ (wm 43 rfl)) (hw _ (wm 45 rfl)) (hw _ (wm 6 rfl)) (hw _ (wm 44 rfl)) (hw _ (wm 7 rfl)) (hw _ (wm 46 rfl)) (by decide) eh33 EX [.int 8] pd9 rfl (fr := 0) (lo := 0) (rm9_v l Z a0 hw [] a la va (8 : Int32) (8 : Int32) (7 : Int32) v0 h0 n0 Z0 F1 F2 F3 (Av.ln (7 : Int32) rfl) (by decide) (by decide) (Av.at ((8 : Int32) - (8 : Int32)) 0 rfl rfl)) (by rw [hml]; rfl) 0 rfl (Nat.le_of_eq rfl) (hb hby d11_27) (by decide) (by decide) (by decide) (by decide) (fun T34 rv34 X34 eh34 qc34 => ?_)
        obtain rfl := qc34
        show own_Go p.tables e below _ (T34.setTop (mkF m 30 (Array.mk [zA a, zD x, zS, zI 4]) [.double v0]))
        rcases Int.lt_or_le (own_z x) (own_z v0) with q4 | q4
        · skip
          refine own_blk dec11 seq11 hby hx hZ hown hK hF 10 [true] [] X34 eh34 ?_
          show (0 < (cmpValue (FP.dcmp v0 x) .g).toInt) ∧ own_Aft X34 h0 _ 15 [zA a, zD x, zS, zI 9] []
          refine ⟨own_ggt Nv0 Nx q4, fun T35 X35 eh35 => ?_⟩
          refine own_blk dec11 seq11 hby hx hZ hown hK hF 8 [true] [.int 8, .int 8] X35 eh35 ?_
          show (Fld Z h0 a "com/example/binwright/binwright/binning/LeastTree" "leaves" "I" (.int 8)) ∧ (((8 : Int32)).toInt ≤ ((9 : Int32)).toInt) ∧ (Fld Z h0 a "com/example/binwright/binwright/binning/LeastTree" "leaves" "I" (.int 8)) ∧ own_Aft X35 h0 _ 56 [zA a, zD x, zS, zI 9] [.int 1]
          refine ⟨F1, by decide, F1, fun T36 X36 eh36 => ?_⟩
          exact own_ret X36 hx hlk eh36 hret (by first | rfl | decide) (Or.inl ⟨rfl, by simp, _, rfl⟩) (hb hby d11_56) (by decide) (by decide) (⟨⟨_, rfl, Or.inr (Or.inr (Or.inl (⟨rfl, q0, q1, q2, q4⟩)))⟩, rfl, rfl⟩)
        · skip
          refine own_blk dec11 seq11 hby hx hZ hown hK hF 9 [false] [] X34 eh34 ?_
          show (¬ (0 < (cmpValue (FP.dcmp v0 x) .g).toInt)) ∧ own_Aft X34 h0 _ 15 [zA a, zD x, zS, zI 8] []
          refine ⟨by have := own_gle (k := .g) Nv0 Nx q4; omega, fun T37 X37 eh37 => ?_⟩
          refine own_blk dec11 seq11 hby hx hZ hown hK hF 8 [true] [.int 8, .int 8] X37 eh37 ?_
          show (Fld Z h0 a "com/example/binwright/binwright/binning/LeastTree" "leaves" "I" (.int 8)) ∧ (((8 : Int32)).toInt ≤ ((8 : Int32)).toInt) ∧ (Fld Z h0 a "com/example/binwright/binwright/binning/LeastTree" "leaves" "I" (.int 8)) ∧ own_Aft X37 h0 _ 56 [zA a, zD x, zS, zI 8] [.int 0]
          refine ⟨F1, by decide, F1, fun T38 X38 eh38 => ?_⟩
          exact own_ret X38 hx hlk eh38 hret (by first | rfl | decide) (Or.inl ⟨rfl, by simp, _, rfl⟩) (hb hby d11_56) (by decide) (by decide) (⟨⟨_, rfl, Or.inr (Or.inl (⟨rfl, q0, q1, q2, q4⟩))⟩, rfl, rfl⟩)
set_option maxRecDepth 65536 in
set_option maxHeartbeats 40000000 in
theorem rm11_8 (l : Launch) (Z : State) (a0 : Array Value) (hw : ∀ d ∈ tables_1, d.before a0 Z = true) (ws : List Jvm.Cond) (a la va : Addr) (v0 v1 v2 v3 v4 v5 v6 v7 r1 r2 r3 r4 r5 r6 r7 x : UInt64) (h0 : Heap) (n0 : Nat) (Z0 : n0 ≤ h0.size) (EX : Exa Z h0 a "com/example/binwright/binwright/binning/LeastTree") (F1 : Fld Z h0 a "com/example/binwright/binwright/binning/LeastTree" "leaves" "I" (.int (8 : Int32))) (F2 : Fld Z h0 a "com/example/binwright/binwright/binning/LeastTree" "least" "[D" (.ref la)) (F3 : Fld Z h0 a "com/example/binwright/binwright/binning/LeastTree" "values" "[D" (.ref va)) (Al : own_A Z h0 la .double [.double 9218868437227405312, .double r1, .double r2, .double r3, .double r4, .double r5, .double r6, .double r7]) (Av : own_A Z h0 va .double [.double v0, .double v1, .double v2, .double v3, .double v4, .double v5, .double v6, .double v7]) (Nv0 : own_num v0) (Nv1 : own_num v1) (Nv2 : own_num v2) (Nv3 : own_num v3) (Nv4 : own_num v4) (Nv5 : own_num v5) (Nv6 : own_num v6) (Nv7 : own_num v7) (Nr1 : own_num r1) (Nr2 : own_num r2) (Nr3 : own_num r3) (Nr4 : own_num r4) (Nr5 : own_num r5) (Nr6 : own_num r6) (Nr7 : own_num r7) (Nx : own_num x) :
    own_MF l (⟨"com/example/binwright/binwright/binning/LeastTree", "firstAtMost", "(D)I"⟩ : MethodName) prog_15_method_4_code 4 (some .int) ws ({ frames := 1, cells := 0, slots := 0, locals := 24 } : Room) #[.ref a, .double x] Z h0 (fun v h L => (∃ r : Int32, v = some (.int r) ∧ ((r = -1 ∧ own_z x < own_z r1) ∨ (r = 0 ∧ own_z r1 ≤ own_z x ∧ own_z r2 ≤ own_z x ∧ own_z r4 ≤ own_z x ∧ own_z v0 ≤ own_z x) ∨ (r = 1 ∧ own_z r1 ≤ own_z x ∧ own_z r2 ≤ own_z x ∧ own_z r4 ≤ own_z x ∧ own_z x < own_z v0) ∨ (r = 2 ∧ own_z r1 ≤ own_z x ∧ own_z r2 ≤ own_z x ∧ own_z x < own_z r4 ∧ own_z v2 ≤ own_z x) ∨ (r = 3 ∧ own_z r1 ≤ own_z x ∧ own_z r2 ≤ own_z x ∧ own_z x < own_z r4 ∧ own_z x < own_z v2) ∨ (r = 4 ∧ own_z r1 ≤ own_z x ∧ own_z x < own_z r2 ∧ own_z r6 ≤ own_z x ∧ own_z v4 ≤ own_z x) ∨ (r = 5 ∧ own_z r1 ≤ own_z x ∧ own_z x < own_z r2 ∧ own_z r6 ≤ own_z x ∧ own_z x < own_z v4) ∨ (r = 6 ∧ own_z r1 ≤ own_z x ∧ own_z x < own_z r2 ∧ own_z x < own_z r6 ∧ own_z v6 ≤ own_z x) ∨ (r = 7 ∧ own_z r1 ≤ own_z x ∧ own_z x < own_z r2 ∧ own_z x < own_z r6 ∧ own_z x < own_z v6))) ∧ L = [] ∧ h = h0) := by
  refine own_body pf11 (ls0 := [.val (.ref a), .val (.double x), .second, .unset]) (fun m => by first | (simp [entryFrame, mkF, argsToLocals, Value.category, maxLocals]; done) | rfl) ?_
  intro p e s m below meth c T0 hx hby hml hown hnm hlk hret hZ X0 e0
  have hK := hKt2 hw; have hF := hFt2 hw
  have N0 := Fr.nil n0
  rcases Int.lt_or_le (own_z x) (own_z r1) with q0 | q0
  · skip
    refine own_blk dec11 seq11 hby hx hZ hown hK hF 8 [false] [.ref la, .double r1] X0 e0 ?_
    show (Fld Z h0 a "com/example/binwright/binwright/binning/LeastTree" "least" "[D" (.ref la)) ∧ (own_at Z h0 la .double (1 : Int32) (.double r1)) ∧ (¬ ((cmpValue (FP.dcmp r1 x) .g).toInt ≤ 0)) ∧ own_Aft X0 h0 _ 12 [zA a, zD x, zS, zU] [.int (-1)]
    refine ⟨F2, Al.at (1 : Int32) 1 rfl rfl, by have := own_ggt (k := .g) Nr1 Nx q0; omega, fun T1 X1 eh1 => ?_⟩
    exact own_ret X1 hx hlk eh1 hret (by first | rfl | decide) (Or.inl ⟨rfl, by simp, _, rfl⟩) (hb hby d11_12) (by decide) (by decide) (⟨⟨_, rfl, Or.inl (⟨rfl, q0⟩)⟩, rfl, rfl⟩)
  · skip
    refine own_blk dec11 seq11 hby hx hZ hown hK hF 9 [true] [.ref la, .double r1] X0 e0 ?_
    show (Fld Z h0 a "com/example/binwright/binwright/binning/LeastTree" "least" "[D" (.ref la)) ∧ (own_at Z h0 la .double (1 : Int32) (.double r1)) ∧ ((cmpValue (FP.dcmp r1 x) .g).toInt ≤ 0) ∧ own_Aft X0 h0 _ 15 [zA a, zD x, zS, zI 1] []
    refine ⟨F2, Al.at (1 : Int32) 1 rfl rfl, own_gle Nr1 Nx q0, fun T2 X2 eh2 => ?_⟩
    refine own_blk dec11 seq11 hby hx hZ hown hK hF 8 [false] [.int 8] X2 eh2 ?_
    show (Fld Z h0 a "com/example/binwright/binwright/binning/LeastTree" "leaves" "I" (.int 8)) ∧ (¬ (((8 : Int32)).toInt ≤ ((1 : Int32)).toInt)) ∧ own_Aft X2 h0 _ 27 [zA a, zD x, zS, zI 1] [.int 2, .ref a]
    refine ⟨F1, by decide, fun T3 X3 eh3 => ?_⟩
    refine own_callPP X3 hx hZ hown (hw _ (wm 43 rfl)) (hw _ (wm 45 rfl)) (hw _ (wm 6 rfl)) (hw _ (wm 44 rfl)) (hw _ (wm 7 rfl)) (hw _ (wm 46 rfl)) (by decide) eh3 EX [.int 2] pd9 rfl (fr := 0) (lo := 0) (rm9_l l Z a0 hw [] a la va (2 : Int32) (8 : Int32) (8 : Int32) r2 h0 n0 Z0 F1 F2 F3 (Av.ln (8 : Int32) rfl) (by decide) (Al.at (2 : Int32) 2 rfl rfl)) (by rw [hml]; rfl) 0 rfl (Nat.le_of_eq rfl) (hb hby d11_27) (by decide) (by decide) (by decide) (by decide) (fun T4 rv4 X4 eh4 qc4 => ?_)
    obtain rfl := qc4
    show own_Go p.tables e below _ (T4.setTop (mkF m 30 (Array.mk [zA a, zD x, zS, zI 1]) [.double r2]))
    rcases Int.lt_or_le (own_z x) (own_z r2) with q1 | q1
    · skip
      refine own_blk dec11 seq11 hby hx hZ hown hK hF 10 [true] [] X4 eh4 ?_
      show (0 < (cmpValue (FP.dcmp r2 x) .g).toInt) ∧ own_Aft X4 h0 _ 15 [zA a, zD x, zS, zI 3] []
      refine ⟨own_ggt Nr2 Nx q1, fun T5 X5 eh5 => ?_⟩
      refine own_blk dec11 seq11 hby hx hZ hown hK hF 8 [false] [.int 8] X5 eh5 ?_
      show (Fld Z h0 a "com/example/binwright/binwright/binning/LeastTree" "leaves" "I" (.int 8)) ∧ (¬ (((8 : Int32)).toInt ≤ ((3 : Int32)).toInt)) ∧ own_Aft X5 h0 _ 27 [zA a, zD x, zS, zI 3] [.int 6, .ref a]
      refine ⟨F1, by decide, fun T6 X6 eh6 => ?_⟩
      refine own_callPP X6 hx hZ hown (hw _ (wm 43 rfl)) (hw _ (wm 45 rfl)) (hw _ (wm 6 rfl)) (hw _ (wm 44 rfl)) (hw _ (wm 7 rfl)) (hw _ (wm 46 rfl)) (by decide) eh6 EX [.int 6] pd9 rfl (fr := 0) (lo := 0) (rm9_l l Z a0 hw [] a la va (6 : Int32) (8 : Int32) (8 : Int32) r6 h0 n0 Z0 F1 F2 F3 (Av.ln (8 : Int32) rfl) (by decide) (Al.at (6 : Int32) 6 rfl rfl)) (by rw [hml]; rfl) 0 rfl (Nat.le_of_eq rfl) (hb hby d11_27) (by decide) (by decide) (by decide) (by decide) (fun T7 rv7 X7 eh7 qc7 => ?_)
      obtain rfl := qc7
      show own_Go p.tables e below _ (T7.setTop (mkF m 30 (Array.mk [zA a, zD x, zS, zI 3]) [.double r6]))
      rcases Int.lt_or_le (own_z x) (own_z r6) with q3 | q3
      · skip
        refine own_blk dec11 seq11 hby hx hZ hown hK hF 10 [true] [] X7 eh7 ?_
        show (0 < (cmpValue (FP.dcmp r6 x) .g).toInt) ∧ own_Aft X7 h0 _ 15 [zA a, zD x, zS, zI 7] []
        refine ⟨own_ggt Nr6 Nx q3, fun T8 X8 eh8 => ?_⟩
        refine own_blk dec11 seq11 hby hx hZ hown hK hF 8 [false] [.int 8] X8 eh8 ?_
        show (Fld Z h0 a "com/example/binwright/binwright/binning/LeastTree" "leaves" "I" (.int 8)) ∧ (¬ (((8 : Int32)).toInt ≤ ((7 : Int32)).toInt)) ∧ own_Aft X8 h0 _ 27 [zA a, zD x, zS, zI 7] [.int 14, .ref a]
        refine ⟨F1, by decide, fun T9 X9 eh9 => ?_⟩
        refine own_callPP X9 hx hZ hown (hw _ (wm 43 rfl)) (hw _ (wm 45 rfl)) (hw _ (wm 6 rfl)) (hw _ (wm 44 rfl)) (hw _ (wm 7 rfl)) (hw _ (wm 46 rfl)) (by decide) eh9 EX [.int 14] pd9 rfl (fr := 0) (lo := 0) (rm9_v l Z a0 hw [] a la va (14 : Int32) (8 : Int32) (8 : Int32) v6 h0 n0 Z0 F1 F2 F3 (Av.ln (8 : Int32) rfl) (by decide) (by decide) (Av.at ((14 : Int32) - (8 : Int32)) 6 rfl rfl)) (by rw [hml]; rfl) 0 rfl (Nat.le_of_eq rfl) (hb hby d11_27) (by decide) (by decide) (by decide) (by decide) (fun T10 rv10 X10 eh10 qc10 => ?_)
        obtain rfl := qc10
        show own_Go p.tables e below _ (T10.setTop (mkF m 30 (Array.mk [zA a, zD x, zS, zI 7]) [.double v6]))
        rcases Int.lt_or_le (own_z x) (own_z v6) with q7 | q7
        · skip
          refine own_blk dec11 seq11 hby hx hZ hown hK hF 10 [true] [] X10 eh10 ?_
          show (0 < (cmpValue (FP.dcmp v6 x) .g).toInt) ∧ own_Aft X10 h0 _ 15 [zA a, zD x, zS, zI 15] []
          refine ⟨own_ggt Nv6 Nx q7, fun T11 X11 eh11 => ?_⟩
          refine own_blk dec11 seq11 hby hx hZ hown hK hF 8 [true] [.int 8, .int 8] X11 eh11 ?_
          show (Fld Z h0 a "com/example/binwright/binwright/binning/LeastTree" "leaves" "I" (.int 8)) ∧ (((8 : Int32)).toInt ≤ ((15 : Int32)).toInt) ∧ (Fld Z h0 a "com/example/binwright/binwright/binning/LeastTree" "leaves" "I" (.int 8)) ∧ own_Aft X11 h0 _ 56 [zA a, zD x, zS, zI 15] [.int 7]
          refine ⟨F1, by decide, F1, fun T12 X12 eh12 => ?_⟩
          exact own_ret X12 hx hlk eh12 hret (by first | rfl | decide) (Or.inl ⟨rfl, by simp, _, rfl⟩) (hb hby d11_56) (by decide) (by decide) (⟨⟨_, rfl, Or.inr (Or.inr (Or.inr (Or.inr (Or.inr (Or.inr (Or.inr (Or.inr (⟨rfl, q0, q1, q3, q7⟩))))))))⟩, rfl, rfl⟩)
        · skip
          refine own_blk dec11 seq11 hby hx hZ hown hK hF 9 [false] [] X10 eh10 ?_
          show (¬ (0 < (cmpValue (FP.dcmp v6 x) .g).toInt)) ∧ own_Aft X10 h0 _ 15 [zA a, zD x, zS, zI 14] []
          refine ⟨by have := own_gle (k := .g) Nv6 Nx q7; omega, fun T13 X13 eh13 => ?_⟩
          refine own_blk dec11 seq11 hby hx hZ hown hK hF 8 [true] [.int 8, .int 8] X13 eh13 ?_
          show (Fld Z h0 a "com/example/binwright/binwright/binning/LeastTree" "leaves" "I" (.int 8)) ∧ (((8 : Int32)).toInt ≤ ((14 : Int32)).toInt) ∧ (Fld Z h0 a "com/example/binwright/binwright/binning/LeastTree" "leaves" "I" (.int 8)) ∧ own_Aft X13 h0 _ 56 [zA a, zD x, zS, zI 14] [.int 6]
          refine ⟨F1, by decide, F1, fun T14 X14 eh14 => ?_⟩
          exact own_ret X14 hx hlk eh14 hret (by first | rfl | decide) (Or.inl ⟨rfl, by simp, _, rfl⟩) (hb hby d11_56) (by decide) (by decide) (⟨⟨_, rfl, Or.inr (Or.inr (Or.inr (Or.inr (Or.inr (Or.inr (Or.inr (Or.inl (⟨rfl, q0, q1, q3, q7⟩))))))))⟩, rfl, rfl⟩)
      · skip
        refine own_blk dec11 seq11 hby hx hZ hown hK hF 9 [false] [] X7 eh7 ?_
        show (¬ (0 < (cmpValue (FP.dcmp r6 x) .g).toInt)) ∧ own_Aft X7 h0 _ 15 [zA a, zD x, zS, zI 6] []
        refine ⟨by have := own_gle (k := .g) Nr6 Nx q3; omega, fun T15 X15 eh15 => ?_⟩
        refine own_blk dec11 seq11 hby hx hZ hown hK hF 8 [false] [.int 8] X15 eh15 ?_
        show (Fld Z h0 a "com/example/binwright/binwright/binning/LeastTree" "leaves" "I" (.int 8)) ∧ (¬ (((8 : Int32)).toInt ≤ ((6 : Int32)).toInt)) ∧ own_Aft X15 h0 _ 27 [zA a, zD x, zS, zI 6] [.int 12, .ref a]
        refine ⟨F1, by decide, fun T16 X16 eh16 => ?_⟩
        refine own_callPP X16 hx hZ hown (hw _ (wm 43 rfl)) (hw _ (wm 45 rfl)) (hw _ (wm 6 rfl)) (hw _ (wm 44 rfl)) (hw _ (wm 7 rfl)) (hw _ (wm 46 rfl)) (by decide) eh16 EX [.int 12] pd9 rfl (fr := 0) (lo := 0) (rm9_v l Z a0 hw [] a la va (12 : Int32) (8 : Int32) (8 : Int32) v4 h0 n0 Z0 F1 F2 F3 (Av.ln (8 : Int32) rfl) (by decide) (by decide) (Av.at ((12 : Int32) - (8 : Int32)) 4 rfl rfl)) (by rw [hml]; rfl) 0 rfl (Nat.le_of_eq rfl) (hb hby d11_27) (by decide) (by decide) (by decide) (by decide) (fun T17 rv17 X17 eh17 qc17 => ?_)
        obtain rfl := qc17
        show own_Go p.tables e below _ (T17.setTop (mkF m 30 (Array.mk [zA a, zD x, zS, zI 6]) [.double v4]))
        rcases Int.lt_or_le (own_z x) (own_z v4) with q6 | q6
        · skip
          refine own_blk dec11 seq11 hby hx hZ hown hK hF 10 [true] [] X17 eh17 ?_
          show (0 < (cmpValue (FP.dcmp v4 x) .g).toInt) ∧ own_Aft X17 h0 _ 15 [zA a, zD x, zS, zI 13] []
          refine ⟨own_ggt Nv4 Nx q6, fun T18 X18 eh18 => ?_⟩
          refine own_blk dec11 seq11 hby hx hZ hown hK hF 8 [true] [.int 8, .int 8] X18 eh18 ?_
          show (Fld Z h0 a "com/example/binwright/binwright/binning/LeastTree" "leaves" "I" (.int 8)) ∧ (((8 : Int32)).toInt ≤ ((13 : Int32)).toInt) ∧ (Fld Z h0 a "com/example/binwright/binwright/binning/LeastTree" "leaves" "I" (.int 8)) ∧ own_Aft X18 h0 _ 56 [zA a, zD x, zS, zI 13] [.int 5]
          refine ⟨F1, by decide, F1, fun T19 X19 eh19 => ?_⟩
          exact own_ret X19 hx hlk eh19 hret (by first | rfl | decide) (Or.inl ⟨rfl, by simp, _, rfl⟩) (hb hby d11_56) (by decide) (by decide) (⟨⟨_, rfl, Or.inr (Or.inr (Or.inr (Or.inr (Or.inr (Or.inr (Or.inl (⟨rfl, q0, q1, q3, q6⟩)))))))⟩, rfl, rfl⟩)
        · skip
          refine own_blk dec11 seq11 hby hx hZ hown hK hF 9 [false] [] X17 eh17 ?_
          show (¬ (0 < (cmpValue (FP.dcmp v4 x) .g).toInt)) ∧ own_Aft X17 h0 _ 15 [zA a, zD x, zS, zI 12] []
          refine ⟨by have := own_gle (k := .g) Nv4 Nx q6; omega, fun T20 X20 eh20 => ?_⟩
          refine own_blk dec11 seq11 hby hx hZ hown hK hF 8 [true] [.int 8, .int 8] X20 eh20 ?_
          show (Fld Z h0 a "com/example/binwright/binwright/binning/LeastTree" "leaves" "I" (.int 8)) ∧ (((8 : Int32)).toInt ≤ ((12 : Int32)).toInt) ∧ (Fld Z h0 a "com/example/binwright/binwright/binning/LeastTree" "leaves" "I" (.int 8)) ∧ own_Aft X20 h0 _ 56 [zA a, zD x, zS, zI 12] [.int 4]
          refine ⟨F1, by decide, F1, fun T21 X21 eh21 => ?_⟩
          exact own_ret X21 hx hlk eh21 hret (by first | rfl | decide) (Or.inl ⟨rfl, by simp, _, rfl⟩) (hb hby d11_56) (by decide) (by decide) (⟨⟨_, rfl, Or.inr (Or.inr (Or.inr (Or.inr (Or.inr (Or.inl (⟨rfl, q0, q1, q3, q6⟩))))))⟩, rfl, rfl⟩)
    · skip
      refine own_blk dec11 seq11 hby hx hZ hown hK hF 9 [false] [] X4 eh4 ?_
      show (¬ (0 < (cmpValue (FP.dcmp r2 x) .g).toInt)) ∧ own_Aft X4 h0 _ 15 [zA a, zD x, zS, zI 2] []
      refine ⟨by have := own_gle (k := .g) Nr2 Nx q1; omega, fun T22 X22 eh22 => ?_⟩
      refine own_blk dec11 seq11 hby hx hZ hown hK hF 8 [false] [.int 8] X22 eh22 ?_
      show (Fld Z h0 a "com/example/binwright/binwright/binning/LeastTree" "leaves" "I" (.int 8)) ∧ (¬ (((8 : Int32)).toInt ≤ ((2 : Int32)).toInt)) ∧ own_Aft X22 h0 _ 27 [zA a, zD x, zS, zI 2] [.int 4, .ref a]
      refine ⟨F1, by decide, fun T23 X23 eh23 => ?_⟩
      refine own_callPP X23 hx hZ hown (hw _ (wm 43 rfl)) (hw _ (wm 45 rfl)) (hw _ (wm 6 rfl)) (hw _ (wm 44 rfl)) (hw _ (wm 7 rfl)) (hw _ (wm 46 rfl)) (by decide) eh23 EX [.int 4] pd9 rfl (fr := 0) (lo := 0) (rm9_l l Z a0 hw [] a la va (4 : Int32) (8 : Int32) (8 : Int32) r4 h0 n0 Z0 F1 F2 F3 (Av.ln (8 : Int32) rfl) (by decide) (Al.at (4 : Int32) 4 rfl rfl)) (by rw [hml]; rfl) 0 rfl (Nat.le_of_eq rfl) (hb hby d11_27) (by decide) (by decide) (by decide) (by decide) (fun T24 rv24 X24 eh24 qc24 => ?_)
      obtain rfl := qc24
      show own_Go p.tables e below _ (T24.setTop (mkF m 30 (Array.mk [zA a, zD x, zS, zI 2]) [.double r4]))
      rcases Int.lt_or_le (own_z x) (own_z r4) with q2 | q2
      · skip
        refine own_blk dec11 seq11 hby hx hZ hown hK hF 10 [true] [] X24 eh24 ?_
        show (0 < (cmpValue (FP.dcmp r4 x) .g).toInt) ∧ own_Aft X24 h0 _ 15 [zA a, zD x, zS, zI 5] []
        refine ⟨own_ggt Nr4 Nx q2, fun T25 X25 eh25 => ?_⟩
        refine own_blk dec11 seq11 hby hx hZ hown hK hF 8 [false] [.int 8] X25 eh25 ?_
        show (Fld Z h0 a "com/example/binwright/binwright/binning/LeastTree" "leaves" "I" (.int 8)) ∧ (¬ (((8 : Int32)).toInt ≤ ((5 : Int32)).toInt)) ∧ own_Aft X25 h0 _ 27 [zA a, zD x, zS, zI 5] [.int 10, .ref a]
        refine ⟨F1, by decide, fun T26 X26 eh26 => ?_⟩
        refine own_callPP X26 hx hZ hown (hw _ (wm 43 rfl)) (hw _ (wm 45 rfl)) (hw _ (wm 6 rfl)) (hw _ (wm 44 rfl)) (hw _ (wm 7 rfl)) (hw _ (wm 46 rfl)) (by decide) eh26 EX [.int 10] pd9 rfl (fr := 0) (lo := 0) (rm9_v l Z a0 hw [] a la va (10 : Int32) (8 : Int32) (8 : Int32) v2 h0 n0 Z0 F1 F2 F3 (Av.ln (8 : Int32) rfl) (by decide) (by decide) (Av.at ((10 : Int32) - (8 : Int32)) 2 rfl rfl)) (by rw [hml]; rfl) 0 rfl (Nat.le_of_eq rfl) (hb hby d11_27) (by decide) (by decide) (by decide) (by decide) (fun T27 rv27 X27 eh27 qc27 => ?_)
        obtain rfl := qc27
        show own_Go p.tables e below _ (T27.setTop (mkF m 30 (Array.mk [zA a, zD x, zS, zI 5]) [.double v2]))
        rcases Int.lt_or_le (own_z x) (own_z v2) with q5 | q5
        · skip
          refine own_blk dec11 seq11 hby hx hZ hown hK hF 10 [true] [] X27 eh27 ?_
          show (0 < (cmpValue (FP.dcmp v2 x) .g).toInt) ∧ own_Aft X27 h0 _ 15 [zA a, zD x, zS, zI 11] []
          refine ⟨own_ggt Nv2 Nx q5, fun T28 X28 eh28 => ?_⟩
          refine own_blk dec11 seq11 hby hx hZ hown hK hF 8 [true] [.int 8, .int 8] X28 eh28 ?_
          show (Fld Z h0 a "com/example/binwright/binwright/binning/LeastTree" "leaves" "I" (.int 8)) ∧ (((8 : Int32)).toInt ≤ ((11 : Int32)).toInt) ∧ (Fld Z h0 a "com/example/binwright/binwright/binning/LeastTree" "leaves" "I" (.int 8)) ∧ own_Aft X28 h0 _ 56 [zA a, zD x, zS, zI 11] [.int 3]
          refine ⟨F1, by decide, F1, fun T29 X29 eh29 => ?_⟩
          exact own_ret X29 hx hlk eh29 hret (by first | rfl | decide) (Or.inl ⟨rfl, by simp, _, rfl⟩) (hb hby d11_56) (by decide) (by decide) (⟨⟨_, rfl, Or.inr (Or.inr (Or.inr (Or.inr (Or.inl (⟨rfl, q0, q1, q2, q5⟩)))))⟩, rfl, rfl⟩)
        · skip
          refine own_blk dec11 seq11 hby hx hZ hown hK hF 9 [false] [] X27 eh27 ?_
          show (¬ (0 < (cmpValue (FP.dcmp v2 x) .g).toInt)) ∧ own_Aft X27 h0 _ 15 [zA a, zD x, zS, zI 10] []
          refine ⟨by have := own_gle (k := .g) Nv2 Nx q5; omega, fun T30 X30 eh30 => ?_⟩
          refine own_blk dec11 seq11 hby hx hZ hown hK hF 8 [true] [.int 8, .int 8] X30 eh30 ?_
          show (Fld Z h0 a "com/example/binwright/binwright/binning/LeastTree" "leaves" "I" (.int 8)) ∧ (((8 : Int32)).toInt ≤ ((10 : Int32)).toInt) ∧ (Fld Z h0 a "com/example/binwright/binwright/binning/LeastTree" "leaves" "I" (.int 8)) ∧ own_Aft X30 h0 _ 56 [zA a, zD x, zS, zI 10] [.int 2]
          refine ⟨F1, by decide, F1, fun T31 X31 eh31 => ?_⟩
          exact own_ret X31 hx hlk eh31 hret (by first | rfl | decide) (Or.inl ⟨rfl, by simp, _, rfl⟩) (hb hby d11_56) (by decide) (by decide) (⟨⟨_, rfl, Or.inr (Or.inr (Or.inr (Or.inl (⟨rfl, q0, q1, q2, q5⟩))))⟩, rfl, rfl⟩)
      · skip
        refine own_blk dec11 seq11 hby hx hZ hown hK hF 9 [false] [] X24 eh24 ?_
        show (¬ (0 < (cmpValue (FP.dcmp r4 x) .g).toInt)) ∧ own_Aft X24 h0 _ 15 [zA a, zD x, zS, zI 4] []
        refine ⟨by have := own_gle (k := .g) Nr4 Nx q2; omega, fun T32 X32 eh32 => ?_⟩
        refine own_blk dec11 seq11 hby hx hZ hown hK hF 8 [false] [.int 8] X32 eh32 ?_
        show (Fld Z h0 a "com/example/binwright/binwright/binning/LeastTree" "leaves" "I" (.int 8)) ∧ (¬ (((8 : Int32)).toInt ≤ ((4 : Int32)).toInt)) ∧ own_Aft X32 h0 _ 27 [zA a, zD x, zS, zI 4] [.int 8, .ref a]
        refine ⟨F1, by decide, fun T33 X33 eh33 => ?_⟩
        refine own_callPP X33 hx hZ hown (hw _ (wm 43 rfl)) (hw _ (wm 45 rfl)) (hw _ (wm 6 rfl)) (hw _ (wm 44 rfl)) (hw _ (wm 7 rfl)) (hw _ (wm 46 rfl)) (by decide) eh33 EX [.int 8] pd9 rfl (fr := 0) (lo := 0) (rm9_v l Z a0 hw [] a la va (8 : Int32) (8 : Int32) (8 : Int32) v0 h0 n0 Z0 F1 F2 F3 (Av.ln (8 : Int32) rfl) (by decide) (by decide) (Av.at ((8 : Int32) - (8 : Int32)) 0 rfl rfl)) (by rw [hml]; rfl) 0 rfl (Nat.le_of_eq rfl) (hb hby d11_27) (by decide) (by decide) (by decide) (by decide) (fun T34 rv34 X34 eh34 qc34 => ?_)
        obtain rfl := qc34
        show own_Go p.tables e below _ (T34.setTop (mkF m 30 (Array.mk [zA a, zD x, zS, zI 4]) [.double v0]))
        rcases Int.lt_or_le (own_z x) (own_z v0) with q4 | q4
        · skip
          refine own_blk dec11 seq11 hby hx hZ hown hK hF 10 [true] [] X34 eh34 ?_
          show (0 < (cmpValue (FP.dcmp v0 x) .g).toInt) ∧ own_Aft X34 h0 _ 15 [zA a, zD x, zS, zI 9] []
          refine ⟨own_ggt Nv0 Nx q4, fun T35 X35 eh35 => ?_⟩
          refine own_blk dec11 seq11 hby hx hZ hown hK hF 8 [true] [.int 8, .int 8] X35 eh35 ?_
          show (Fld Z h0 a "com/example/binwright/binwright/binning/LeastTree" "leaves" "I" (.int 8)) ∧ (((8 : Int32)).toInt ≤ ((9 : Int32)).toInt) ∧ (Fld Z h0 a "com/example/binwright/binwright/binning/LeastTree" "leaves" "I" (.int 8)) ∧ own_Aft X35 h0 _ 56 [zA a, zD x, zS, zI 9] [.int 1]
          refine ⟨F1, by decide, F1, fun T36 X36 eh36 => ?_⟩
          exact own_ret X36 hx hlk eh36 hret (by first | rfl | decide) (Or.inl ⟨rfl, by simp, _, rfl⟩) (hb hby d11_56) (by decide) (by decide) (⟨⟨_, rfl, Or.inr (Or.inr (Or.inl (⟨rfl, q0, q1, q2, q4⟩)))⟩, rfl, rfl⟩)
        · skip
          refine own_blk dec11 seq11 hby hx hZ hown hK hF 9 [false] [] X34 eh34 ?_
          show (¬ (0 < (cmpValue (FP.dcmp v0 x) .g).toInt)) ∧ own_Aft X34 h0 _ 15 [zA a, zD x, zS, zI 8] []
          refine ⟨by have := own_gle (k := .g) Nv0 Nx q4; omega, fun T37 X37 eh37 => ?_⟩
          refine own_blk dec11 seq11 hby hx hZ hown hK hF 8 [true] [.int 8, .int 8] X37 eh37 ?_
          show (Fld Z h0 a "com/example/binwright/binwright/binning/LeastTree" "leaves" "I" (.int 8)) ∧ (((8 : Int32)).toInt ≤ ((8 : Int32)).toInt) ∧ (Fld Z h0 a "com/example/binwright/binwright/binning/LeastTree" "leaves" "I" (.int 8)) ∧ own_Aft X37 h0 _ 56 [zA a, zD x, zS, zI 8] [.int 0]
          refine ⟨F1, by decide, F1, fun T38 X38 eh38 => ?_⟩
          exact own_ret X38 hx hlk eh38 hret (by first | rfl | decide) (Or.inl ⟨rfl, by simp, _, rfl⟩) (hb hby d11_56) (by decide) (by decide) (⟨⟨_, rfl, Or.inr (Or.inl (⟨rfl, q0, q1, q2, q4⟩))⟩, rfl, rfl⟩)
set_option maxRecDepth 65536 in
set_option maxHeartbeats 40000000 in
theorem rm8_0 (l : Launch) (Z : State) (a0 : Array Value) (hw : ∀ d ∈ tables_1, d.before a0 Z = true) (ws : List Jvm.Cond) (a la va : Addr) (h0 : Heap) (n0 : Nat) (Z0 : n0 ≤ h0.size) (EX : Exa Z h0 a "com/example/binwright/binwright/binning/LeastTree") (nl : n0 ≤ la) (nav : va ≠ la) (nal : a ≠ la) (F1 : Fld Z h0 a "com/example/binwright/binwright/binning/LeastTree" "leaves" "I" (.int (2 : Int32))) (F2 : Fld Z h0 a "com/example/binwright/binwright/binning/LeastTree" "least" "[D" (.ref la)) (F3 : Fld Z h0 a "com/example/binwright/binwright/binning/LeastTree" "values" "[D" (.ref va)) (Al : own_A Z h0 la .double [.double 9218868437227405312, .double 9218868437227405312]) (Av : own_A Z h0 va .double [])  :
    own_MF l (⟨"com/example/binwright/binwright/binning/LeastTree", "changed", "(II)V"⟩ : MethodName) prog_15_method_2_code 6 none ws ({ frames := 0, cells := 0, slots := 0, locals := 0 } : Room) #[.ref a, .int 0, .int 0] Z h0 (fun v h L => v = none ∧ Fr n0 L ∧ Keep h0 h [la] ∧ own_A Z h la .double [.double 9218868437227405312, .double 9218868437227405312]) := by
  refine own_body pf8 (ls0 := [.val (.ref a), .val (.int 0), .val (.int 0), .unset, .unset, .unset]) (fun m => by first | (simp [entryFrame, mkF, argsToLocals, Value.category, maxLocals]; done) | rfl) ?_
  intro p e s m below meth c T0 hx hby hml hown hnm hlk hret hZ X0 e0
  have hK := hKt2 hw; have hF := hFt2 hw
  have N0 := Fr.nil n0
  refine own_blk dec8 seq8 hby hx hZ hown hK hF 3 [false] [] X0 e0 ?_
  show (¬ (((0 : Int32)).toInt < ((0 : Int32)).toInt)) ∧ own_Aft X0 h0 _ 5 [zA a, zI 0, zI 0, zU, zU, zU] []
  refine ⟨by decide, fun T1 X1 eh1 => ?_⟩
  exact own_retV X1 hx hlk eh1 hret (hb hby d8_5) (by decide) (by decide) (⟨rfl, N0, Keep.refl h0 [la], Al⟩)
set_option maxRecDepth 65536 in
set_option maxHeartbeats 40000000 in
theorem rm2_0 (l : Launch) (Z : State) (a0 : Array Value) (hw : ∀ d ∈ tables_1, d.before a0 Z = true) (ws : List Jvm.Cond) (a va : Addr) (h0 : Heap) (n0 : Nat) (Z0 : n0 ≤ h0.size) (E0 : Exa Z h0 a "com/example/binwright/binwright/binning/LeastTree") (na : n0 ≤ a) (nva : va ≠ a) (F0_values : Fld Z h0 a "com/example/binwright/binwright/binning/LeastTree" "values" "[D" (.null)) (F0_leaves : Fld Z h0 a "com/example/binwright/binwright/binning/LeastTree" "leaves" "I" (.int 0)) (F0_least : Fld Z h0 a "com/example/binwright/binwright/binning/LeastTree" "least" "[D" (.null)) (Av : own_A Z h0 va .double [])  :
    own_MF l (⟨"com/example/binwright/binwright/binning/LeastTree", "<init>", "([D)V"⟩ : MethodName) prog_15_method_1_code 2 none ws ({ frames := 3, cells := 1, slots := 2, locals := 64 } : Room) #[.ref a, .ref va] Z h0 (fun v h L => v = none ∧ Fr n0 L ∧ Exa Z h a "com/example/binwright/binwright/binning/LeastTree" ∧ ∃ la : Addr, Fld Z h a "com/example/binwright/binwright/binning/LeastTree" "leaves" "I" (.int (2 : Int32)) ∧ Fld Z h a "com/example/binwright/binwright/binning/LeastTree" "least" "[D" (.ref la) ∧ Fld Z h a "com/example/binwright/binwright/binning/LeastTree" "values" "[D" (.ref va) ∧ own_A Z h va .double [] ∧ own_A Z h la .double [.double 9218868437227405312, .double 9218868437227405312]) := by
  refine own_body pf2 (ls0 := [.val (.ref a), .val (.ref va)]) (fun m => by first | (simp [entryFrame, mkF, argsToLocals, Value.category, maxLocals]; done) | rfl) ?_
  intro p e s m below meth c T0 hx hby hml hown hnm hlk hret hZ X0 e0
  have hK := hKt2 hw; have hF := hFt2 hw
  have N0 := Fr.nil n0
  refine own_blk dec2 seq2 hby hx hZ hown hK hF 1 [] [] X0 e0 ?_
  show own_Aft X0 h0 _ 1 [zA a, zA va] [.ref a]
  refine fun T1 X1 eh1 => ?_
  refine own_initO X1 hx hZ hown (hw _ (wm 11 rfl)) (hw _ (wm 12 rfl)) (hw _ (wm 13 rfl)) eh1 (by rw [hml]; rfl) (hb hby d2_1) (by decide) 0 (Nat.le_of_eq rfl) (by decide) (fun T2 X2 eh2 => ?_)
  refine own_blk dec2 seq2 hby hx hZ hown hK hF 2 [] [] X2 eh2 ?_
  show own_Aft X2 h0 _ 6 [zA a, zA va] [.ref va, .ref a]
  refine fun T3 X3 eh3 => ?_
  refine own_putF X3 hx hZ hown (hw _ (wm 14 rfl)) eh3 F0_values E0 (Or.inr ⟨(hw _ (wm 15 rfl)), rfl, hnm⟩) (hw _ (wm 6 rfl)) (ty := (.array .double)) (by decide) rfl rfl (hb hby d2_6) (fun T4 hp4 X4 eh4 Wr4 Fd4 Ea4 => ?_)
  have Av_4 := Av.other Wr4 nva
  have F0_leaves_4 := own_so Wr4 F0_leaves (Or.inr (hw _ (wm 30 rfl))) (Or.inr (hw _ (wm 15 rfl)))
  have F0_least_4 := own_so Wr4 F0_least (Or.inr (hw _ (wm 32 rfl))) (Or.inr (hw _ (wm 15 rfl)))
  have Nf4 := Fr.snoc X4 N0 na
  have Z_4 : n0 ≤ hp4.size := by rw [Wr.size Wr4]; exact Z0
  refine own_blk dec2 seq2 hby hx hZ hown hK hF 6 [] [.int 0] X4 eh4 ?_
  show (own_ln Z hp4 va (0 : Int32)) ∧ own_Aft X4 hp4 _ 15 [zA a, zA va] [.int (-1), .int 1, .ref a]
  refine ⟨Av_4.ln (0 : Int32) rfl, fun T5 X5 eh5 => ?_⟩
  refine own_callSP X5 hx hZ hown (hw _ (wm 16 rfl)) (hw _ (wm 17 rfl)) (hw _ (wm 18 rfl)) (hw _ (wm 19 rfl)) (by decide) eh5 [.int 1, .int (-1)] pd4 rfl (fr := 0) (lo := 0) (rm4_0 l Z a0 hw [] hp4 n0 Z_4) (by rw [hml]; rfl) 1 rfl (Nat.le_of_eq rfl) (hb hby d2_15) (by decide) (by decide) (by decide) (by decide) (fun T6 rv6 X6 eh6 qc6 => ?_)
  obtain rfl := qc6
  show own_Go p.tables e below _ (T6.setTop (mkF m 18 (Array.mk [zA a, zA va]) [.int 1, .ref a]))
  refine own_callSP X6 hx hZ hown (hw _ (wm 20 rfl)) (hw _ (wm 21 rfl)) (hw _ (wm 22 rfl)) (hw _ (wm 23 rfl)) (by decide) eh6 [.int 1] pd5 rfl (fr := 1) (lo := 16) (rm5_1 l Z a0 hw [] hp4 n0 Z_4) (by rw [hml]; rfl) 1 rfl (Nat.le_of_eq rfl) (hb hby d2_18) (by decide) (by decide) (by decide) (by decide) (fun T7 rv7 X7 eh7 qc7 => ?_)
  obtain rfl := qc7
  show own_Go p.tables e below _ (T7.setTop (mkF m 21 (Array.mk [zA a, zA va]) [.int 1, .ref a]))
  refine own_blk dec2 seq2 hby hx hZ hown hK hF 2 [] [] X7 eh7 ?_
  show own_Aft X7 hp4 _ 23 [zA a, zA va] [.int 2, .ref a]
  refine fun T8 X8 eh8 => ?_
  refine own_putF X8 hx hZ hown (hw _ (wm 29 rfl)) eh8 F0_leaves_4 Ea4 (Or.inr ⟨(hw _ (wm 30 rfl)), rfl, hnm⟩) (hw _ (wm 6 rfl)) (ty := .int) (by decide) rfl rfl (hb hby d2_23) (fun T9 hp9 X9 eh9 Wr9 Fd9 Ea9 => ?_)
  have Av_9 := Av_4.other Wr9 nva
  have Fd4_9 := own_so Wr9 Fd4 (Or.inr (hw _ (wm 15 rfl))) (Or.inr (hw _ (wm 30 rfl)))
  have F0_least_9 := own_so Wr9 F0_least_4 (Or.inr (hw _ (wm 32 rfl))) (Or.inr (hw _ (wm 30 rfl)))
  have Nf9 := Fr.snoc X9 Nf4 na
  have Z_9 : n0 ≤ hp9.size := by rw [Wr.size Wr9]; exact Z_4
  refine own_blk dec2 seq2 hby hx hZ hown hK hF 3 [] [.int 2] X9 eh9 ?_
  show (Fld Z hp9 a "com/example/binwright/binwright/binning/LeastTree" "leaves" "I" (.int 2)) ∧ own_Aft X9 hp9 _ 31 [zA a, zA va] [.int 2, .ref a]
  refine ⟨Fd9, fun T10 X10 eh10 => ?_⟩
  refine own_newP X10 hx hZ (hw _ (wm 4 rfl)) eh10 2 rfl (cap := 2) (by decide) (by decide) (hb hby d2_31) (by decide) (by decide) (fun T11 hp11 la ga11 X11 eh11 Ex11 Ar11 => ?_)
  have ne_va_la : va ≠ la := fun q => absurd Av_9.lt (by rw [q, ga11]; exact Nat.lt_irrefl _)
  have ne_a_la : a ≠ la := fun q => absurd Ea9.lt (by rw [q, ga11]; exact Nat.lt_irrefl _)
  have nw_la : n0 ≤ la := by rw [ga11]; exact Z_9
  have Av_11 := Av_9.ext Ex11
  have Ea9_11 := Exa.ext Ex11 Ea9
  have Fd4_11 := Fld.ext Ex11 Fd4_9
  have Fd9_11 := Fld.ext Ex11 Fd9
  have F0_least_11 := Fld.ext Ex11 F0_least_9
  have Z_11 : n0 ≤ hp11.size := Nat.le_trans Z_9 Ex11.1
  have Ar11' : own_A Z hp11 la .double [.double 0, .double 0] := Ar11
  show own_Go p.tables e below _ (T11.setTop (mkF m 33 (Array.mk [zA a, zA va]) [.ref la, .ref a]))
  refine own_putF X11 hx hZ hown (hw _ (wm 31 rfl)) eh11 F0_least_11 Ea9_11 (Or.inr ⟨(hw _ (wm 32 rfl)), rfl, hnm⟩) (hw _ (wm 6 rfl)) (ty := (.array .double)) (by decide) rfl rfl (hb hby d2_33) (fun T12 hp12 X12 eh12 Wr12 Fd12 Ea12 => ?_)
  have Av_12 := Av_11.other Wr12 nva
  have Ar11'_12 := Ar11'.other Wr12 (Ne.symm ne_a_la)
  have Fd4_12 := own_so Wr12 Fd4_11 (Or.inr (hw _ (wm 15 rfl))) (Or.inr (hw _ (wm 32 rfl)))
  have Fd9_12 := own_so Wr12 Fd9_11 (Or.inr (hw _ (wm 30 rfl))) (Or.inr (hw _ (wm 32 rfl)))
  have Nf12 := Fr.snoc X12 Nf9 na
  have Z_12 : n0 ≤ hp12.size := by rw [Wr.size Wr12]; exact Z_11
  refine own_blk dec2 seq2 hby hx hZ hown hK hF 3 [] [.ref la] X12 eh12 ?_
  show (Fld Z hp12 a "com/example/binwright/binwright/binning/LeastTree" "least" "[D" (.ref la)) ∧ own_Aft X12 hp12 _ 43 [zA a, zA va] [.double 9218868437227405312, .ref la]
  refine ⟨Fd12, fun T13 X13 eh13 => ?_⟩
  refine own_callS X13 hx hZ hown (hw _ (wm 34 rfl)) (hw _ (wm 35 rfl)) (hw _ (wm 36 rfl)) (hw _ (wm 37 rfl)) (by decide) eh13 [.ref la, .double 9218868437227405312] pd7 rfl (rm := ({ frames := 0, cells := 0, slots := 0, locals := 0 } : Room)) (rm7_2 l Z a0 hw [] la hp12 n0 Z_12 nw_la Ar11'_12) (by rw [hml]; rfl) 0 rfl (Nat.le_of_eq rfl) (hb hby d2_43) (by decide) (by decide) (by decide) (by decide) (fun T14 rv14 Lc14 X14 qc14 => ?_)
  obtain ⟨rfl, M1, K1, Al⟩ := qc14
  have nin1_a : a ∉ [la] := fun q => ne_a_la (List.mem_singleton.mp q)
  have nin1_va : va ∉ [la] := fun q => ne_va_la (List.mem_singleton.mp q)
  have Fd4_1 := Fld.keep Fd4_12 K1 nin1_a
  have Fd9_1 := Fld.keep Fd9_12 K1 nin1_a
  have Fd12_1 := Fld.keep Fd12 K1 nin1_a
  have EX1 := Exa.keep Ea12 K1
  have Av1 := Av_12.keep K1 nin1_va
  have N1_ := Fr.app Nf12 M1
  have Zz1 : n0 ≤ T14.heap.size := Nat.le_trans na (Nat.le_of_lt EX1.lt)
  show own_Go p.tables e below _ (T14.setTop (mkF m 46 (Array.mk [zA a, zA va]) []))
  refine own_blk dec2 seq2 hby hx hZ hown hK hF 4 [] [.int 0] X14 rfl ?_
  show (own_ln Z T14.heap va (0 : Int32)) ∧ own_Aft X14 T14.heap _ 50 [zA a, zA va] [.int 0, .int 0, .ref a]
  refine ⟨Av1.ln (0 : Int32) rfl, fun T15 X15 eh15 => ?_⟩
  refine own_callV X15 hx hZ hown (hw _ (wm 38 rfl)) (hw _ (wm 39 rfl)) (hw _ (wm 41 rfl)) (hw _ (wm 40 rfl)) (hw _ (wm 7 rfl)) (hw _ (wm 42 rfl)) (by decide) eh15 EX1 [.int 0, .int 0] pd8 rfl (rm := ({ frames := 0, cells := 0, slots := 0, locals := 0 } : Room)) (rm8_0 l Z a0 hw [] a la va  T14.heap n0 Zz1 EX1 nw_la ne_va_la ne_a_la Fd9_1 Fd12_1 Fd4_1 Al Av1 ) (by rw [hml]; rfl) 0 rfl (Nat.le_of_eq rfl) (hb hby d2_50) (by decide) (by decide) (by decide) (by decide) (fun T16 rv16 Lc16 X16 qc16 => ?_)
  obtain ⟨rfl, M2, K2, PP⟩ := qc16
  have nin2_a : a ∉ [la] := fun q => ne_a_la (List.mem_singleton.mp q)
  have nin2_va : va ∉ [la] := fun q => ne_va_la (List.mem_singleton.mp q)
  have Fd4_2 := Fld.keep Fd4_1 K2 nin2_a
  have Fd9_2 := Fld.keep Fd9_1 K2 nin2_a
  have Fd12_2 := Fld.keep Fd12_1 K2 nin2_a
  have EX2 := Exa.keep EX1 K2
  have Av2 := Av1.keep K2 nin2_va
  have N2_ := Fr.app N1_ M2
  have Zz2 : n0 ≤ T16.heap.size := Nat.le_trans na (Nat.le_of_lt EX2.lt)
  show own_Go p.tables e below _ (T16.setTop (mkF m 53 (Array.mk [zA a, zA va]) []))
  exact own_retV X16 hx hlk rfl hret (hb hby d2_53) (by decide) (by decide) (⟨rfl, N2_, EX2, la, Fd9_2, Fd12_2, Fd4_2, Av2, PP⟩)
set_option maxRecDepth 65536 in
set_option maxHeartbeats 40000000 in
theorem rm2_1 (l : Launch) (Z : State) (a0 : Array Value) (hw : ∀ d ∈ tables_1, d.before a0 Z = true) (ws : List Jvm.Cond) (a va : Addr) (v0 : UInt64) (h0 : Heap) (n0 : Nat) (Z0 : n0 ≤ h0.size) (E0 : Exa Z h0 a "com/example/binwright/binwright/binning/LeastTree") (na : n0 ≤ a) (nva : va ≠ a) (F0_values : Fld Z h0 a "com/example/binwright/binwright/binning/LeastTree" "values" "[D" (.null)) (F0_leaves : Fld Z h0 a "com/example/binwright/binwright/binning/LeastTree" "leaves" "I" (.int 0)) (F0_least : Fld Z h0 a "com/example/binwright/binwright/binning/LeastTree" "least" "[D" (.null)) (Av : own_A Z h0 va .double [.double v0]) (Nv0 : own_num v0) :
    own_MF l (⟨"com/example/binwright/binwright/binning/LeastTree", "<init>", "([D)V"⟩ : MethodName) prog_15_method_1_code 2 none ws ({ frames := 3, cells := 1, slots := 2, locals := 64 } : Room) #[.ref a, .ref va] Z h0 (fun v h L => v = none ∧ Fr n0 L ∧ Exa Z h a "com/example/binwright/binwright/binning/LeastTree" ∧ ∃ la : Addr, Fld Z h a "com/example/binwright/binwright/binning/LeastTree" "leaves" "I" (.int (2 : Int32)) ∧ Fld Z h a "com/example/binwright/binwright/binning/LeastTree" "least" "[D" (.ref la) ∧ Fld Z h a "com/example/binwright/binwright/binning/LeastTree" "values" "[D" (.ref va) ∧ own_A Z h va .double [.double v0] ∧ ∃ (r1 : UInt64), own_A Z h la .double [.double 9218868437227405312, .double r1] ∧ own_mn r1 v0 9218868437227405312) := by
  refine own_body pf2 (ls0 := [.val (.ref a), .val (.ref va)]) (fun m => by first | (simp [entryFrame, mkF, argsToLocals, Value.category, maxLocals]; done) | rfl) ?_
  intro p e s m below meth c T0 hx hby hml hown hnm hlk hret hZ X0 e0
  have hK := hKt2 hw; have hF := hFt2 hw
  have N0 := Fr.nil n0
  refine own_blk dec2 seq2 hby hx hZ hown hK hF 1 [] [] X0 e0 ?_
  show own_Aft X0 h0 _ 1 [zA a, zA va] [.ref a]
  refine fun T1 X1 eh1 => ?_
  refine own_initO X1 hx hZ hown (hw _ (wm 11 rfl)) (hw _ (wm 12 rfl)) (hw _ (wm 13 rfl)) eh1 (by rw [hml]; rfl) (hb hby d2_1) (by decide) 0 (Nat.le_of_eq rfl) (by decide) (fun T2 X2 eh2 => ?_)
  refine own_blk dec2 seq2 hby hx hZ hown hK hF 2 [] [] X2 eh2 ?_
  show own_Aft X2 h0 _ 6 [zA a, zA va] [.ref va, .ref a]
  refine fun T3 X3 eh3 => ?_
  refine own_putF X3 hx hZ hown (hw _ (wm 14 rfl)) eh3 F0_values E0 (Or.inr ⟨(hw _ (wm 15 rfl)), rfl, hnm⟩) (hw _ (wm 6 rfl)) (ty := (.array .double)) (by decide) rfl rfl (hb hby d2_6) (fun T4 hp4 X4 eh4 Wr4 Fd4 Ea4 => ?_)
  have Av_4 := Av.other Wr4 nva
  have F0_leaves_4 := own_so Wr4 F0_leaves (Or.inr (hw _ (wm 30 rfl))) (Or.inr (hw _ (wm 15 rfl)))
  have F0_least_4 := own_so Wr4 F0_least (Or.inr (hw _ (wm 32 rfl))) (Or.inr (hw _ (wm 15 rfl)))
  have Nf4 := Fr.snoc X4 N0 na
  have Z_4 : n0 ≤ hp4.size := by rw [Wr.size Wr4]; exact Z0
  refine own_blk dec2 seq2 hby hx hZ hown hK hF 6 [] [.int 1] X4 eh4 ?_
  show (own_ln Z hp4 va (1 : Int32)) ∧ own_Aft X4 hp4 _ 15 [zA a, zA va] [.int 0, .int 1, .ref a]
  refine ⟨Av_4.ln (1 : Int32) rfl, fun T5 X5 eh5 => ?_⟩
  refine own_callSP X5 hx hZ hown (hw _ (wm 16 rfl)) (hw _ (wm 17 rfl)) (hw _ (wm 18 rfl)) (hw _ (wm 19 rfl)) (by decide) eh5 [.int 1, .int 0] pd4 rfl (fr := 0) (lo := 0) (rm4_1 l Z a0 hw [] hp4 n0 Z_4) (by rw [hml]; rfl) 1 rfl (Nat.le_of_eq rfl) (hb hby d2_15) (by decide) (by decide) (by decide) (by decide) (fun T6 rv6 X6 eh6 qc6 => ?_)
  obtain rfl := qc6
  show own_Go p.tables e below _ (T6.setTop (mkF m 18 (Array.mk [zA a, zA va]) [.int 1, .ref a]))
  refine own_callSP X6 hx hZ hown (hw _ (wm 20 rfl)) (hw _ (wm 21 rfl)) (hw _ (wm 22 rfl)) (hw _ (wm 23 rfl)) (by decide) eh6 [.int 1] pd5 rfl (fr := 1) (lo := 16) (rm5_1 l Z a0 hw [] hp4 n0 Z_4) (by rw [hml]; rfl) 1 rfl (Nat.le_of_eq rfl) (hb hby d2_18) (by decide) (by decide) (by decide) (by decide) (fun T7 rv7 X7 eh7 qc7 => ?_)
  obtain rfl := qc7
  show own_Go p.tables e below _ (T7.setTop (mkF m 21 (Array.mk [zA a, zA va]) [.int 1, .ref a]))
  refine own_blk dec2 seq2 hby hx hZ hown hK hF 2 [] [] X7 eh7 ?_
  show own_Aft X7 hp4 _ 23 [zA a, zA va] [.int 2, .ref a]
  refine fun T8 X8 eh8 => ?_
  refine own_putF X8 hx hZ hown (hw _ (wm 29 rfl)) eh8 F0_leaves_4 Ea4 (Or.inr ⟨(hw _ (wm 30 rfl)), rfl, hnm⟩) (hw _ (wm 6 rfl)) (ty := .int) (by decide) rfl rfl (hb hby d2_23) (fun T9 hp9 X9 eh9 Wr9 Fd9 Ea9 => ?_)
  have Av_9 := Av_4.other Wr9 nva
  have Fd4_9 := own_so Wr9 Fd4 (Or.inr (hw _ (wm 15 rfl))) (Or.inr (hw _ (wm 30 rfl)))
  have F0_least_9 := own_so Wr9 F0_least_4 (Or.inr (hw _ (wm 32 rfl))) (Or.inr (hw _ (wm 30 rfl)))
  have Nf9 := Fr.snoc X9 Nf4 na
  have Z_9 : n0 ≤ hp9.size := by rw [Wr.size Wr9]; exact Z_4
  refine own_blk dec2 seq2 hby hx hZ hown hK hF 3 [] [.int 2] X9 eh9 ?_
  show (Fld Z hp9 a "com/example/binwright/binwright/binning/LeastTree" "leaves" "I" (.int 2)) ∧ own_Aft X9 hp9 _ 31 [zA a, zA va] [.int 2, .ref a]
  refine ⟨Fd9, fun T10 X10 eh10 => ?_⟩
  refine own_newP X10 hx hZ (hw _ (wm 4 rfl)) eh10 2 rfl (cap := 2) (by decide) (by decide) (hb hby d2_31) (by decide) (by decide) (fun T11 hp11 la ga11 X11 eh11 Ex11 Ar11 => ?_)
  have ne_va_la : va ≠ la := fun q => absurd Av_9.lt (by rw [q, ga11]; exact Nat.lt_irrefl _)
  have ne_a_la : a ≠ la := fun q => absurd Ea9.lt (by rw [q, ga11]; exact Nat.lt_irrefl _)
  have nw_la : n0 ≤ la := by rw [ga11]; exact Z_9
  have Av_11 := Av_9.ext Ex11
  have Ea9_11 := Exa.ext Ex11 Ea9
  have Fd4_11 := Fld.ext Ex11 Fd4_9
  have Fd9_11 := Fld.ext Ex11 Fd9
  have F0_least_11 := Fld.ext Ex11 F0_least_9
  have Z_11 : n0 ≤ hp11.size := Nat.le_trans Z_9 Ex11.1
  have Ar11' : own_A Z hp11 la .double [.double 0, .double 0] := Ar11
  show own_Go p.tables e below _ (T11.setTop (mkF m 33 (Array.mk [zA a, zA va]) [.ref la, .ref a]))
  refine own_putF X11 hx hZ hown (hw _ (wm 31 rfl)) eh11 F0_least_11 Ea9_11 (Or.inr ⟨(hw _ (wm 32 rfl)), rfl, hnm⟩) (hw _ (wm 6 rfl)) (ty := (.array .double)) (by decide) rfl rfl (hb hby d2_33) (fun T12 hp12 X12 eh12 Wr12 Fd12 Ea12 => ?_)
  have Av_12 := Av_11.other Wr12 nva
  have Ar11'_12 := Ar11'.other Wr12 (Ne.symm ne_a_la)
  have Fd4_12 := own_so Wr12 Fd4_11 (Or.inr (hw _ (wm 15 rfl))) (Or.inr (hw _ (wm 32 rfl)))
  have Fd9_12 := own_so Wr12 Fd9_11 (Or.inr (hw _ (wm 30 rfl))) (Or.inr (hw _ (wm 32 rfl)))
  have Nf12 := Fr.snoc X12 Nf9 na
  have Z_12 : n0 ≤ hp12.size := by rw [Wr.size Wr12]; exact Z_11
  refine own_blk dec2 seq2 hby hx hZ hown hK hF 3 [] [.ref la] X12 eh12 ?_
  show (Fld Z hp12 a "com/example/binwright/binwright/binning/LeastTree" "least" "[D" (.ref la)) ∧ own_Aft X12 hp12 _ 43 [zA a, zA va] [.double 9218868437227405312, .ref la]
  refine ⟨Fd12, fun T13 X13 eh13 => ?_⟩
  refine own_callS X13 hx hZ hown (hw _ (wm 34 rfl)) (hw _ (wm 35 rfl)) (hw _ (wm 36 rfl)) (hw _ (wm 37 rfl)) (by decide) eh13 [.ref la, .double 9218868437227405312] pd7 rfl (rm := ({ frames := 0, cells := 0, slots := 0, locals := 0 } : Room)) (rm7_2 l Z a0 hw [] la hp12 n0 Z_12 nw_la Ar11'_12) (by rw [hml]; rfl) 0 rfl (Nat.le_of_eq rfl) (hb hby d2_43) (by decide) (by decide) (by decide) (by decide) (fun T14 rv14 Lc14 X14 qc14 => ?_)
  obtain ⟨rfl, M1, K1, Al⟩ := qc14
  have nin1_a : a ∉ [la] := fun q => ne_a_la (List.mem_singleton.mp q)
  have nin1_va : va ∉ [la] := fun q => ne_va_la (List.mem_singleton.mp q)
  have Fd4_1 := Fld.keep Fd4_12 K1 nin1_a
  have Fd9_1 := Fld.keep Fd9_12 K1 nin1_a
  have Fd12_1 := Fld.keep Fd12 K1 nin1_a
  have EX1 := Exa.keep Ea12 K1
  have Av1 := Av_12.keep K1 nin1_va
  have N1_ := Fr.app Nf12 M1
  have Zz1 : n0 ≤ T14.heap.size := Nat.le_trans na (Nat.le_of_lt EX1.lt)
  show own_Go p.tables e below _ (T14.setTop (mkF m 46 (Array.mk [zA a, zA va]) []))
  refine own_blk dec2 seq2 hby hx hZ hown hK hF 4 [] [.int 1] X14 rfl ?_
  show (own_ln Z T14.heap va (1 : Int32)) ∧ own_Aft X14 T14.heap _ 50 [zA a, zA va] [.int 1, .int 0, .ref a]
  refine ⟨Av1.ln (1 : Int32) rfl, fun T15 X15 eh15 => ?_⟩
  refine own_callV X15 hx hZ hown (hw _ (wm 38 rfl)) (hw _ (wm 39 rfl)) (hw _ (wm 41 rfl)) (hw _ (wm 40 rfl)) (hw _ (wm 7 rfl)) (hw _ (wm 42 rfl)) (by decide) eh15 EX1 [.int 0, .int 1] pd8 rfl (rm := ({ frames := 1, cells := 0, slots := 0, locals := 24 } : Room)) (rm8_1 l Z a0 hw [] a la va v0 T14.heap n0 Zz1 EX1 nw_la ne_va_la ne_a_la Fd9_1 Fd12_1 Fd4_1 Al Av1 Nv0) (by rw [hml]; rfl) 0 rfl (Nat.le_of_eq rfl) (hb hby d2_50) (by decide) (by decide) (by decide) (by decide) (fun T16 rv16 Lc16 X16 qc16 => ?_)
  obtain ⟨rfl, M2, K2, PP⟩ := qc16
  have nin2_a : a ∉ [la] := fun q => ne_a_la (List.mem_singleton.mp q)
  have nin2_va : va ∉ [la] := fun q => ne_va_la (List.mem_singleton.mp q)
  have Fd4_2 := Fld.keep Fd4_1 K2 nin2_a
  have Fd9_2 := Fld.keep Fd9_1 K2 nin2_a
  have Fd12_2 := Fld.keep Fd12_1 K2 nin2_a
  have EX2 := Exa.keep EX1 K2
  have Av2 := Av1.keep K2 nin2_va
  have N2_ := Fr.app N1_ M2
  have Zz2 : n0 ≤ T16.heap.size := Nat.le_trans na (Nat.le_of_lt EX2.lt)
  show own_Go p.tables e below _ (T16.setTop (mkF m 53 (Array.mk [zA a, zA va]) []))
  exact own_retV X16 hx hlk rfl hret (hb hby d2_53) (by decide) (by decide) (⟨rfl, N2_, EX2, la, Fd9_2, Fd12_2, Fd4_2, Av2, PP⟩)
set_option maxRecDepth 65536 in
set_option maxHeartbeats 40000000 in
theorem rm2_2 (l : Launch) (Z : State) (a0 : Array Value) (hw : ∀ d ∈ tables_1, d.before a0 Z = true) (ws : List Jvm.Cond) (a va : Addr) (v0 v1 : UInt64) (h0 : Heap) (n0 : Nat) (Z0 : n0 ≤ h0.size) (E0 : Exa Z h0 a "com/example/binwright/binwright/binning/LeastTree") (na : n0 ≤ a) (nva : va ≠ a) (F0_values : Fld Z h0 a "com/example/binwright/binwright/binning/LeastTree" "values" "[D" (.null)) (F0_leaves : Fld Z h0 a "com/example/binwright/binwright/binning/LeastTree" "leaves" "I" (.int 0)) (F0_least : Fld Z h0 a "com/example/binwright/binwright/binning/LeastTree" "least" "[D" (.null)) (Av : own_A Z h0 va .double [.double v0, .double v1]) (Nv0 : own_num v0) (Nv1 : own_num v1) :
    own_MF l (⟨"com/example/binwright/binwright/binning/LeastTree", "<init>", "([D)V"⟩ : MethodName) prog_15_method_1_code 2 none ws ({ frames := 3, cells := 1, slots := 2, locals := 64 } : Room) #[.ref a, .ref va] Z h0 (fun v h L => v = none ∧ Fr n0 L ∧ Exa Z h a "com/example/binwright/binwright/binning/LeastTree" ∧ ∃ la : Addr, Fld Z h a "com/example/binwright/binwright/binning/LeastTree" "leaves" "I" (.int (2 : Int32)) ∧ Fld Z h a "com/example/binwright/binwright/binning/LeastTree" "least" "[D" (.ref la) ∧ Fld Z h a "com/example/binwright/binwright/binning/LeastTree" "values" "[D" (.ref va) ∧ own_A Z h va .double [.double v0, .double v1] ∧ ∃ (r1 : UInt64), own_A Z h la .double [.double 9218868437227405312, .double r1] ∧ own_mn r1 v0 v1) := by
  refine own_body pf2 (ls0 := [.val (.ref a), .val (.ref va)]) (fun m => by first | (simp [entryFrame, mkF, argsToLocals, Value.category, maxLocals]; done) | rfl) ?_
  intro p e s m below meth c T0 hx hby hml hown hnm hlk hret hZ X0 e0
  have hK := hKt2 hw; have hF := hFt2 hw
  have N0 := Fr.nil n0
  refine own_blk dec2 seq2 hby hx hZ hown hK hF 1 [] [] X0 e0 ?_
  show own_Aft X0 h0 _ 1 [zA a, zA va] [.ref a]
  refine fun T1 X1 eh1 => ?_
  refine own_initO X1 hx hZ hown (hw _ (wm 11 rfl)) (hw _ (wm 12 rfl)) (hw _ (wm 13 rfl)) eh1 (by rw [hml]; rfl) (hb hby d2_1) (by decide) 0 (Nat.le_of_eq rfl) (by decide) (fun T2 X2 eh2 => ?_)
  refine own_blk dec2 seq2 hby hx hZ hown hK hF 2 [] [] X2 eh2 ?_
  show own_Aft X2 h0 _ 6 [zA a, zA va] [.ref va, .ref a]
  refine fun T3 X3 eh3 => ?_
  refine own_putF X3 hx hZ hown (hw _ (wm 14 rfl)) eh3 F0_values E0 (Or.inr ⟨(hw _ (wm 15 rfl)), rfl, hnm⟩) (hw _ (wm 6 rfl)) (ty := (.array .double)) (by decide) rfl rfl (hb hby d2_6) (fun T4 hp4 X4 eh4 Wr4 Fd4 Ea4 => ?_)
  have Av_4 := Av.other Wr4 nva
  have F0_leaves_4 := own_so Wr4 F0_leaves (Or.inr (hw _ (wm 30 rfl))) (Or.inr (hw _ (wm 15 rfl)))
  have F0_least_4 := own_so Wr4 F0_least (Or.inr (hw _ (wm 32 rfl))) (Or.inr (hw _ (wm 15 rfl)))
  have Nf4 := Fr.snoc X4 N0 na
  have Z_4 : n0 ≤ hp4.size := by rw [Wr.size Wr4]; exact Z0
  refine own_blk dec2 seq2 hby hx hZ hown hK hF 6 [] [.int 2] X4 eh4 ?_
  show (own_ln Z hp4 va (2 : Int32)) ∧ own_Aft X4 hp4 _ 15 [zA a, zA va] [.int 1, .int 1, .ref a]
  refine ⟨Av_4.ln (2 : Int32) rfl, fun T5 X5 eh5 => ?_⟩
  refine own_callSP X5 hx hZ hown (hw _ (wm 16 rfl)) (hw _ (wm 17 rfl)) (hw _ (wm 18 rfl)) (hw _ (wm 19 rfl)) (by decide) eh5 [.int 1, .int 1] pd4 rfl (fr := 0) (lo := 0) (rm4_2 l Z a0 hw [] hp4 n0 Z_4) (by rw [hml]; rfl) 1 rfl (Nat.le_of_eq rfl) (hb hby d2_15) (by decide) (by decide) (by decide) (by decide) (fun T6 rv6 X6 eh6 qc6 => ?_)
  obtain rfl := qc6
  show own_Go p.tables e below _ (T6.setTop (mkF m 18 (Array.mk [zA a, zA va]) [.int 1, .ref a]))
  refine own_callSP X6 hx hZ hown (hw _ (wm 20 rfl)) (hw _ (wm 21 rfl)) (hw _ (wm 22 rfl)) (hw _ (wm 23 rfl)) (by decide) eh6 [.int 1] pd5 rfl (fr := 1) (lo := 16) (rm5_1 l Z a0 hw [] hp4 n0 Z_4) (by rw [hml]; rfl) 1 rfl (Nat.le_of_eq rfl) (hb hby d2_18) (by decide) (by decide) (by decide) (by decide) (fun T7 rv7 X7 eh7 qc7 => ?_)
  obtain rfl := qc7
  show own_Go p.tables e below _ (T7.setTop (mkF m 21 (Array.mk [zA a, zA va]) [.int 1, .ref a]))
  refine own_blk dec2 seq2 hby hx hZ hown hK hF 2 [] [] X7 eh7 ?_
  show own_Aft X7 hp4 _ 23 [zA a, zA va] [.int 2, .ref a]
  refine fun T8 X8 eh8 => ?_
  refine own_putF X8 hx hZ hown (hw _ (wm 29 rfl)) eh8 F0_leaves_4 Ea4 (Or.inr ⟨(hw _ (wm 30 rfl)), rfl, hnm⟩) (hw _ (wm 6 rfl)) (ty := .int) (by decide) rfl rfl (hb hby d2_23) (fun T9 hp9 X9 eh9 Wr9 Fd9 Ea9 => ?_)
  have Av_9 := Av_4.other Wr9 nva
  have Fd4_9 := own_so Wr9 Fd4 (Or.inr (hw _ (wm 15 rfl))) (Or.inr (hw _ (wm 30 rfl)))
  have F0_least_9 := own_so Wr9 F0_least_4 (Or.inr (hw _ (wm 32 rfl))) (Or.inr (hw _ (wm 30 rfl)))
  have Nf9 := Fr.snoc X9 Nf4 na
  have Z_9 : n0 ≤ hp9.size := by rw [Wr.size Wr9]; exact Z_4
  refine own_blk dec2 seq2 hby hx hZ hown hK hF 3 [] [.int 2] X9 eh9 ?_
  show (Fld Z hp9 a "com/example/binwright/binwright/binning/LeastTree" "leaves" "I" (.int 2)) ∧ own_Aft X9 hp9 _ 31 [zA a, zA va] [.int 2, .ref a]
  refine ⟨Fd9, fun T10 X10 eh10 => ?_⟩
  refine own_newP X10 hx hZ (hw _ (wm 4 rfl)) eh10 2 rfl (cap := 2) (by decide) (by decide) (hb hby d2_31) (by decide) (by decide) (fun T11 hp11 la ga11 X11 eh11 Ex11 Ar11 => ?_)
  have ne_va_la : va ≠ la := fun q => absurd Av_9.lt (by rw [q, ga11]; exact Nat.lt_irrefl _)
  have ne_a_la : a ≠ la := fun q => absurd Ea9.lt (by rw [q, ga11]; exact Nat.lt_irrefl _)
  have nw_la : n0 ≤ la := by rw [ga11]; exact Z_9
  have Av_11 := Av_9.ext Ex11
  have Ea9_11 := Exa.ext Ex11 Ea9
  have Fd4_11 := Fld.ext Ex11 Fd4_9
  have Fd9_11 := Fld.ext Ex11 Fd9
  have F0_least_11 := Fld.ext Ex11 F0_least_9
  have Z_11 : n0 ≤ hp11.size := Nat.le_trans Z_9 Ex11.1
  have Ar11' : own_A Z hp11 la .double [.double 0, .double 0] := Ar11
  show own_Go p.tables e below _ (T11.setTop (mkF m 33 (Array.mk [zA a, zA va]) [.ref la, .ref a]))
  refine own_putF X11 hx hZ hown (hw _ (wm 31 rfl)) eh11 F0_least_11 Ea9_11 (Or.inr ⟨(hw _ (wm 32 rfl)), rfl, hnm⟩) (hw _ (wm 6 rfl)) (ty := (.array .double)) (by decide) rfl rfl (hb hby d2_33) (fun T12 hp12 X12 eh12 Wr12 Fd12 Ea12 => ?_)
  have Av_12 := Av_11.other Wr12 nva
  have Ar11'_12 := Ar11'.other Wr12 (Ne.symm ne_a_la)
  have Fd4_12 := own_so Wr12 Fd4_11 (Or.inr (hw _ (wm 15 rfl))) (Or.inr (hw _ (wm 32 rfl)))
  have Fd9_12 := own_so Wr12 Fd9_11 (Or.inr (hw _ (wm 30 rfl))) (Or.inr (hw _ (wm 32 rfl)))
  have Nf12 := Fr.snoc X12 Nf9 na
  have Z_12 : n0 ≤ hp12.size := by rw [Wr.size Wr12]; exact Z_11
  refine own_blk dec2 seq2 hby hx hZ hown hK hF 3 [] [.ref la] X12 eh12 ?_
  show (Fld Z hp12 a "com/example/binwright/binwright/binning/LeastTree" "least" "[D" (.ref la)) ∧ own_Aft X12 hp12 _ 43 [zA a, zA va] [.double 9218868437227405312, .ref la]
  refine ⟨Fd12, fun T13 X13 eh13 => ?_⟩
  refine own_callS X13 hx hZ hown (hw _ (wm 34 rfl)) (hw _ (wm 35 rfl)) (hw _ (wm 36 rfl)) (hw _ (wm 37 rfl)) (by decide) eh13 [.ref la, .double 9218868437227405312] pd7 rfl (rm := ({ frames := 0, cells := 0, slots := 0, locals := 0 } : Room)) (rm7_2 l Z a0 hw [] la hp12 n0 Z_12 nw_la Ar11'_12) (by rw [hml]; rfl) 0 rfl (Nat.le_of_eq rfl) (hb hby d2_43) (by decide) (by decide) (by decide) (by decide) (fun T14 rv14 Lc14 X14 qc14 => ?_)
  obtain ⟨rfl, M1, K1, Al⟩ := qc14
  have nin1_a : a ∉ [la] := fun q => ne_a_la (List.mem_singleton.mp q)
  have nin1_va : va ∉ [la] := fun q => ne_va_la (List.mem_singleton.mp q)
  have Fd4_1 := Fld.keep Fd4_12 K1 nin1_a
  have Fd9_1 := Fld.keep Fd9_12 K1 nin1_a
  have Fd12_1 := Fld.keep Fd12 K1 nin1_a
  have EX1 := Exa.keep Ea12 K1
  have Av1 := Av_12.keep K1 nin1_va
  have N1_ := Fr.app Nf12 M1
  have Zz1 : n0 ≤ T14.heap.size := Nat.le_trans na (Nat.le_of_lt EX1.lt)
  show own_Go p.tables e below _ (T14.setTop (mkF m 46 (Array.mk [zA a, zA va]) []))
  refine own_blk dec2 seq2 hby hx hZ hown hK hF 4 [] [.int 2] X14 rfl ?_
  show (own_ln Z T14.heap va (2 : Int32)) ∧ own_Aft X14 T14.heap _ 50 [zA a, zA va] [.int 2, .int 0, .ref a]
  refine ⟨Av1.ln (2 : Int32) rfl, fun T15 X15 eh15 => ?_⟩
  refine own_callV X15 hx hZ hown (hw _ (wm 38 rfl)) (hw _ (wm 39 rfl)) (hw _ (wm 41 rfl)) (hw _ (wm 40 rfl)) (hw _ (wm 7 rfl)) (hw _ (wm 42 rfl)) (by decide) eh15 EX1 [.int 0, .int 2] pd8 rfl (rm := ({ frames := 1, cells := 0, slots := 0, locals := 24 } : Room)) (rm8_2 l Z a0 hw [] a la va v0 v1 T14.heap n0 Zz1 EX1 nw_la ne_va_la ne_a_la Fd9_1 Fd12_1 Fd4_1 Al Av1 Nv0 Nv1) (by rw [hml]; rfl) 0 rfl (Nat.le_of_eq rfl) (hb hby d2_50) (by decide) (by decide) (by decide) (by decide) (fun T16 rv16 Lc16 X16 qc16 => ?_)
  obtain ⟨rfl, M2, K2, PP⟩ := qc16
  have nin2_a : a ∉ [la] := fun q => ne_a_la (List.mem_singleton.mp q)
  have nin2_va : va ∉ [la] := fun q => ne_va_la (List.mem_singleton.mp q)
  have Fd4_2 := Fld.keep Fd4_1 K2 nin2_a
  have Fd9_2 := Fld.keep Fd9_1 K2 nin2_a
  have Fd12_2 := Fld.keep Fd12_1 K2 nin2_a
  have EX2 := Exa.keep EX1 K2
  have Av2 := Av1.keep K2 nin2_va
  have N2_ := Fr.app N1_ M2
  have Zz2 : n0 ≤ T16.heap.size := Nat.le_trans na (Nat.le_of_lt EX2.lt)
  show own_Go p.tables e below _ (T16.setTop (mkF m 53 (Array.mk [zA a, zA va]) []))
  exact own_retV X16 hx hlk rfl hret (hb hby d2_53) (by decide) (by decide) (⟨rfl, N2_, EX2, la, Fd9_2, Fd12_2, Fd4_2, Av2, PP⟩)
set_option maxRecDepth 65536 in
set_option maxHeartbeats 40000000 in
theorem rm2_3 (l : Launch) (Z : State) (a0 : Array Value) (hw : ∀ d ∈ tables_1, d.before a0 Z = true) (ws : List Jvm.Cond) (a va : Addr) (v0 v1 v2 : UInt64) (h0 : Heap) (n0 : Nat) (Z0 : n0 ≤ h0.size) (E0 : Exa Z h0 a "com/example/binwright/binwright/binning/LeastTree") (na : n0 ≤ a) (nva : va ≠ a) (F0_values : Fld Z h0 a "com/example/binwright/binwright/binning/LeastTree" "values" "[D" (.null)) (F0_leaves : Fld Z h0 a "com/example/binwright/binwright/binning/LeastTree" "leaves" "I" (.int 0)) (F0_least : Fld Z h0 a "com/example/binwright/binwright/binning/LeastTree" "least" "[D" (.null)) (Av : own_A Z h0 va .double [.double v0, .double v1, .double v2]) (Nv0 : own_num v0) (Nv1 : own_num v1) (Nv2 : own_num v2) :
    own_MF l (⟨"com/example/binwright/binwright/binning/LeastTree", "<init>", "([D)V"⟩ : MethodName) prog_15_method_1_code 2 none ws ({ frames := 3, cells := 1, slots := 4, locals := 64 } : Room) #[.ref a, .ref va] Z h0 (fun v h L => v = none ∧ Fr n0 L ∧ Exa Z h a "com/example/binwright/binwright/binning/LeastTree" ∧ ∃ la : Addr, Fld Z h a "com/example/binwright/binwright/binning/LeastTree" "leaves" "I" (.int (4 : Int32)) ∧ Fld Z h a "com/example/binwright/binwright/binning/LeastTree" "least" "[D" (.ref la) ∧ Fld Z h a "com/example/binwright/binwright/binning/LeastTree" "values" "[D" (.ref va) ∧ own_A Z h va .double [.double v0, .double v1, .double v2] ∧ ∃ (r2 r3 r1 : UInt64), own_A Z h la .double [.double 9218868437227405312, .double r1, .double r2, .double r3] ∧ own_mn r2 v0 v1 ∧ own_mn r3 v2 9218868437227405312 ∧ own_mn r1 r2 r3) := by
  refine own_body pf2 (ls0 := [.val (.ref a), .val (.ref va)]) (fun m => by first | (simp [entryFrame, mkF, argsToLocals, Value.category, maxLocals]; done) | rfl) ?_
  intro p e s m below meth c T0 hx hby hml hown hnm hlk hret hZ X0 e0
  have hK := hKt2 hw; have hF := hFt2 hw
  have N0 := Fr.nil n0
  refine own_blk dec2 seq2 hby hx hZ hown hK hF 1 [] [] X0 e0 ?_
  show own_Aft X0 h0 _ 1 [zA a, zA va] [.ref a]
  refine fun T1 X1 eh1 => ?_
  refine own_initO X1 hx hZ hown (hw _ (wm 11 rfl)) (hw _ (wm 12 rfl)) (hw _ (wm 13 rfl)) eh1 (by rw [hml]; rfl) (hb hby d2_1) (by decide) 0 (Nat.le_of_eq rfl) (by decide) (fun T2 X2 eh2 => ?_)
  refine own_blk dec2 seq2 hby hx hZ hown hK hF 2 [] [] X2 eh2 ?_
  show own_Aft X2 h0 _ 6 [zA a, zA va] [.ref va, .ref a]
  refine fun T3 X3 eh3 => ?_
  refine own_putF X3 hx hZ hown (hw _ (wm 14 rfl)) eh3 F0_values E0 (Or.inr ⟨(hw _ (wm 15 rfl)), rfl, hnm⟩) (hw _ (wm 6 rfl)) (ty := (.array .double)) (by decide) rfl rfl (hb hby d2_6) (fun T4 hp4 X4 eh4 Wr4 Fd4 Ea4 => ?_)
  have Av_4 := Av.other Wr4 nva
  have F0_leaves_4 := own_so Wr4 F0_leaves (Or.inr (hw _ (wm 30 rfl))) (Or.inr (hw _ (wm 15 rfl)))
  have F0_least_4 := own_so Wr4 F0_least (Or.inr (hw _ (wm 32 rfl))) (Or.inr (hw _ (wm 15 rfl)))
  have Nf4 := Fr.snoc X4 N0 na
  have Z_4 : n0 ≤ hp4.size := by rw [Wr.size Wr4]; exact Z0
  refine own_blk dec2 seq2 hby hx hZ hown hK hF 6 [] [.int 3] X4 eh4 ?_
  show (own_ln Z hp4 va (3 : Int32)) ∧ own_Aft X4 hp4 _ 15 [zA a, zA va] [.int 2, .int 1, .ref a]
  refine ⟨Av_4.ln (3 : Int32) rfl, fun T5 X5 eh5 => ?_⟩
  refine own_callSP X5 hx hZ hown (hw _ (wm 16 rfl)) (hw _ (wm 17 rfl)) (hw _ (wm 18 rfl)) (hw _ (wm 19 rfl)) (by decide) eh5 [.int 1, .int 2] pd4 rfl (fr := 0) (lo := 0) (rm4_3 l Z a0 hw [] hp4 n0 Z_4) (by rw [hml]; rfl) 1 rfl (Nat.le_of_eq rfl) (hb hby d2_15) (by decide) (by decide) (by decide) (by decide) (fun T6 rv6 X6 eh6 qc6 => ?_)
  obtain rfl := qc6
  show own_Go p.tables e below _ (T6.setTop (mkF m 18 (Array.mk [zA a, zA va]) [.int 2, .ref a]))
  refine own_callSP X6 hx hZ hown (hw _ (wm 20 rfl)) (hw _ (wm 21 rfl)) (hw _ (wm 22 rfl)) (hw _ (wm 23 rfl)) (by decide) eh6 [.int 2] pd5 rfl (fr := 1) (lo := 16) (rm5_2 l Z a0 hw [] hp4 n0 Z_4) (by rw [hml]; rfl) 1 rfl (Nat.le_of_eq rfl) (hb hby d2_18) (by decide) (by decide) (by decide) (by decide) (fun T7 rv7 X7 eh7 qc7 => ?_)
  obtain rfl := qc7
  show own_Go p.tables e below _ (T7.setTop (mkF m 21 (Array.mk [zA a, zA va]) [.int 2, .ref a]))
  refine own_blk dec2 seq2 hby hx hZ hown hK hF 2 [] [] X7 eh7 ?_
  show own_Aft X7 hp4 _ 23 [zA a, zA va] [.int 4, .ref a]
  refine fun T8 X8 eh8 => ?_
  refine own_putF X8 hx hZ hown (hw _ (wm 29 rfl)) eh8 F0_leaves_4 Ea4 (Or.inr ⟨(hw _ (wm 30 rfl)), rfl, hnm⟩) (hw _ (wm 6 rfl)) (ty := .int) (by decide) rfl rfl (hb hby d2_23) (fun T9 hp9 X9 eh9 Wr9 Fd9 Ea9 => ?_)
  have Av_9 := Av_4.other Wr9 nva
  have Fd4_9 := own_so Wr9 Fd4 (Or.inr (hw _ (wm 15 rfl))) (Or.inr (hw _ (wm 30 rfl)))
  have F0_least_9 := own_so Wr9 F0_least_4 (Or.inr (hw _ (wm 32 rfl))) (Or.inr (hw _ (wm 30 rfl)))
  have Nf9 := Fr.snoc X9 Nf4 na
  have Z_9 : n0 ≤ hp9.size := by rw [Wr.size Wr9]; exact Z_4
  refine own_blk dec2 seq2 hby hx hZ hown hK hF 3 [] [.int 4] X9 eh9 ?_
  show (Fld Z hp9 a "com/example/binwright/binwright/binning/LeastTree" "leaves" "I" (.int 4)) ∧ own_Aft X9 hp9 _ 31 [zA a, zA va] [.int 4, .ref a]
  refine ⟨Fd9, fun T10 X10 eh10 => ?_⟩
  refine own_newP X10 hx hZ (hw _ (wm 4 rfl)) eh10 4 rfl (cap := 4) (by decide) (by decide) (hb hby d2_31) (by decide) (by decide) (fun T11 hp11 la ga11 X11 eh11 Ex11 Ar11 => ?_)
  have ne_va_la : va ≠ la := fun q => absurd Av_9.lt (by rw [q, ga11]; exact Nat.lt_irrefl _)
  have ne_a_la : a ≠ la := fun q => absurd Ea9.lt (by rw [q, ga11]; exact Nat.lt_irrefl _)
  have nw_la : n0 ≤ la := by rw [ga11]; exact Z_9
  have Av_11 := Av_9.ext Ex11
  have Ea9_11 := Exa.ext Ex11 Ea9
  have Fd4_11 := Fld.ext Ex11 Fd4_9
  have Fd9_11 := Fld.ext Ex11 Fd9
  have F0_least_11 := Fld.ext Ex11 F0_least_9
  have Z_11 : n0 ≤ hp11.size := Nat.le_trans Z_9 Ex11.1
  have Ar11' : own_A Z hp11 la .double [.double 0, .double 0, .double 0, .double 0] := Ar11
  show own_Go p.tables e below _ (T11.setTop (mkF m 33 (Array.mk [zA a, zA va]) [.ref la, .ref a]))
  refine own_putF X11 hx hZ hown (hw _ (wm 31 rfl)) eh11 F0_least_11 Ea9_11 (Or.inr ⟨(hw _ (wm 32 rfl)), rfl, hnm⟩) (hw _ (wm 6 rfl)) (ty := (.array .double)) (by decide) rfl rfl (hb hby d2_33) (fun T12 hp12 X12 eh12 Wr12 Fd12 Ea12 => ?_)
  have Av_12 := Av_11.other Wr12 nva
  have Ar11'_12 := Ar11'.other Wr12 (Ne.symm ne_a_la)
  have Fd4_12 := own_so Wr12 Fd4_11 (Or.inr (hw _ (wm 15 rfl))) (Or.inr (hw _ (wm 32 rfl)))
  have Fd9_12 := own_so Wr12 Fd9_11 (Or.inr (hw _ (wm 30 rfl))) (Or.inr (hw _ (wm 32 rfl)))
  have Nf12 := Fr.snoc X12 Nf9 na
  have Z_12 : n0 ≤ hp12.size := by rw [Wr.size Wr12]; exact Z_11
  refine own_blk dec2 seq2 hby hx hZ hown hK hF 3 [] [.ref la] X12 eh12 ?_
  show (Fld Z hp12 a "com/example/binwright/binwright/binning/LeastTree" "least" "[D" (.ref la)) ∧ own_Aft X12 hp12 _ 43 [zA a, zA va] [.double 9218868437227405312, .ref la]
  refine ⟨Fd12, fun T13 X13 eh13 => ?_⟩
  refine own_callS X13 hx hZ hown (hw _ (wm 34 rfl)) (hw _ (wm 35 rfl)) (hw _ (wm 36 rfl)) (hw _ (wm 37 rfl)) (by decide) eh13 [.ref la, .double 9218868437227405312] pd7 rfl (rm := ({ frames := 0, cells := 0, slots := 0, locals := 0 } : Room)) (rm7_4 l Z a0 hw [] la hp12 n0 Z_12 nw_la Ar11'_12) (by rw [hml]; rfl) 0 rfl (Nat.le_of_eq rfl) (hb hby d2_43) (by decide) (by decide) (by decide) (by decide) (fun T14 rv14 Lc14 X14 qc14 => ?_)
  obtain ⟨rfl, M1, K1, Al⟩ := qc14
  have nin1_a : a ∉ [la] := fun q => ne_a_la (List.mem_singleton.mp q)
  have nin1_va : va ∉ [la] := fun q => ne_va_la (List.mem_singleton.mp q)
  have Fd4_1 := Fld.keep Fd4_12 K1 nin1_a
  have Fd9_1 := Fld.keep Fd9_12 K1 nin1_a
  have Fd12_1 := Fld.keep Fd12 K1 nin1_a
  have EX1 := Exa.keep Ea12 K1
  have Av1 := Av_12.keep K1 nin1_va
  have N1_ := Fr.app Nf12 M1
  have Zz1 : n0 ≤ T14.heap.size := Nat.le_trans na (Nat.le_of_lt EX1.lt)
  show own_Go p.tables e below _ (T14.setTop (mkF m 46 (Array.mk [zA a, zA va]) []))
  refine own_blk dec2 seq2 hby hx hZ hown hK hF 4 [] [.int 3] X14 rfl ?_
  show (own_ln Z T14.heap va (3 : Int32)) ∧ own_Aft X14 T14.heap _ 50 [zA a, zA va] [.int 3, .int 0, .ref a]
  refine ⟨Av1.ln (3 : Int32) rfl, fun T15 X15 eh15 => ?_⟩
  refine own_callV X15 hx hZ hown (hw _ (wm 38 rfl)) (hw _ (wm 39 rfl)) (hw _ (wm 41 rfl)) (hw _ (wm 40 rfl)) (hw _ (wm 7 rfl)) (hw _ (wm 42 rfl)) (by decide) eh15 EX1 [.int 0, .int 3] pd8 rfl (rm := ({ frames := 1, cells := 0, slots := 0, locals := 24 } : Room)) (rm8_3 l Z a0 hw [] a la va v0 v1 v2 T14.heap n0 Zz1 EX1 nw_la ne_va_la ne_a_la Fd9_1 Fd12_1 Fd4_1 Al Av1 Nv0 Nv1 Nv2) (by rw [hml]; rfl) 0 rfl (Nat.le_of_eq rfl) (hb hby d2_50) (by decide) (by decide) (by decide) (by decide) (fun T16 rv16 Lc16 X16 qc16 => ?_)
  obtain ⟨rfl, M2, K2, PP⟩ := qc16
  have nin2_a : a ∉ [la] := fun q => ne_a_la (List.mem_singleton.mp q)
  have nin2_va : va ∉ [la] := fun q => ne_va_la (List.mem_singleton.mp q)
  have Fd4_2 := Fld.keep Fd4_1 K2 nin2_a
  have Fd9_2 := Fld.keep Fd9_1 K2 nin2_a
  have Fd12_2 := Fld.keep Fd12_1 K2 nin2_a
  have EX2 := Exa.keep EX1 K2
  have Av2 := Av1.keep K2 nin2_va
  have N2_ := Fr.app N1_ M2
  have Zz2 : n0 ≤ T16.heap.size := Nat.le_trans na (Nat.le_of_lt EX2.lt)
  show own_Go p.tables e below _ (T16.setTop (mkF m 53 (Array.mk [zA a, zA va]) []))
  exact own_retV X16 hx hlk rfl hret (hb hby d2_53) (by decide) (by decide) (⟨rfl, N2_, EX2, la, Fd9_2, Fd12_2, Fd4_2, Av2, PP⟩)
set_option maxRecDepth 65536 in
set_option maxHeartbeats 40000000 in
theorem rm2_4 (l : Launch) (Z : State) (a0 : Array Value) (hw : ∀ d ∈ tables_1, d.before a0 Z = true) (ws : List Jvm.Cond) (a va : Addr) (v0 v1 v2 v3 : UInt64) (h0 : Heap) (n0 : Nat) (Z0 : n0 ≤ h0.size) (E0 : Exa Z h0 a "com/example/binwright/binwright/binning/LeastTree") (na : n0 ≤ a) (nva : va ≠ a) (F0_values : Fld Z h0 a "com/example/binwright/binwright/binning/LeastTree" "values" "[D" (.null)) (F0_leaves : Fld Z h0 a "com/example/binwright/binwright/binning/LeastTree" "leaves" "I" (.int 0)) (F0_least : Fld Z h0 a "com/example/binwright/binwright/binning/LeastTree" "least" "[D" (.null)) (Av : own_A Z h0 va .double [.double v0, .double v1, .double v2, .double v3]) (Nv0 : own_num v0) (Nv1 : own_num v1) (Nv2 : own_num v2) (Nv3 : own_num v3) :
    own_MF l (⟨"com/example/binwright/binwright/binning/LeastTree", "<init>", "([D)V"⟩ : MethodName) prog_15_method_1_code 2 none ws ({ frames := 3, cells := 1, slots := 4, locals := 64 } : Room) #[.ref a, .ref va] Z h0 (fun v h L => v = none ∧ Fr n0 L ∧ Exa Z h a "com/example/binwright/binwright/binning/LeastTree" ∧ ∃ la : Addr, Fld Z h a "com/example/binwright/binwright/binning/LeastTree" "leaves" "I" (.int (4 : Int32)) ∧ Fld Z h a "com/example/binwright/binwright/binning/LeastTree" "least" "[D" (.ref la) ∧ Fld Z h a "com/example/binwright/binwright/binning/LeastTree" "values" "[D" (.ref va) ∧ own_A Z h va .double [.double v0, .double v1, .double v2, .double v3] ∧ ∃ (r2 r3 r1 : UInt64), own_A Z h la .double [.double 9218868437227405312, .double r1, .double r2, .double r3] ∧ own_mn r2 v0 v1 ∧ own_mn r3 v2 v3 ∧ own_mn r1 r2 r3) := by
  refine own_body pf2 (ls0 := [.val (.ref a), .val (.ref va)]) (fun m => by first | (simp [entryFrame, mkF, argsToLocals, Value.category, maxLocals]; done) | rfl) ?_
  intro p e s m below meth c T0 hx hby hml hown hnm hlk hret hZ X0 e0
  have hK := hKt2 hw; have hF := hFt2 hw
  have N0 := Fr.nil n0
  refine own_blk dec2 seq2 hby hx hZ hown hK hF 1 [] [] X0 e0 ?_
  show own_Aft X0 h0 _ 1 [zA a, zA va] [.ref a]
  refine fun T1 X1 eh1 => ?_
  refine own_initO X1 hx hZ hown (hw _ (wm 11 rfl)) (hw _ (wm 12 rfl)) (hw _ (wm 13 rfl)) eh1 (by rw [hml]; rfl) (hb hby d2_1) (by decide) 0 (Nat.le_of_eq rfl) (by decide) (fun T2 X2 eh2 => ?_)
  refine own_blk dec2 seq2 hby hx hZ hown hK hF 2 [] [] X2 eh2 ?_
  show own_Aft X2 h0 _ 6 [zA a, zA va] [.ref va, .ref a]
  refine fun T3 X3 eh3 => ?_
  refine own_putF X3 hx hZ hown (hw _ (wm 14 rfl)) eh3 F0_values E0 (Or.inr ⟨(hw _ (wm 15 rfl)), rfl, hnm⟩) (hw _ (wm 6 rfl)) (ty := (.array .double)) (by decide) rfl rfl (hb hby d2_6) (fun T4 hp4 X4 eh4 Wr4 Fd4 Ea4 => ?_)
  have Av_4 := Av.other Wr4 nva
  have F0_leaves_4 := own_so Wr4 F0_leaves (Or.inr (hw _ (wm 30 rfl))) (Or.inr (hw _ (wm 15 rfl)))
  have F0_least_4 := own_so Wr4 F0_least (Or.inr (hw _ (wm 32 rfl))) (Or.inr (hw _ (wm 15 rfl)))
  have Nf4 := Fr.snoc X4 N0 na
  have Z_4 : n0 ≤ hp4.size := by rw [Wr.size Wr4]; exact Z0
  refine own_blk dec2 seq2 hby hx hZ hown hK hF 6 [] [.int 4] X4 eh4 ?_
  show (own_ln Z hp4 va (4 : Int32)) ∧ own_Aft X4 hp4 _ 15 [zA a, zA va] [.int 3, .int 1, .ref a]
  refine ⟨Av_4.ln (4 : Int32) rfl, fun T5 X5 eh5 => ?_⟩
  refine own_callSP X5 hx hZ hown (hw _ (wm 16 rfl)) (hw _ (wm 17 rfl)) (hw _ (wm 18 rfl)) (hw _ (wm 19 rfl)) (by decide) eh5 [.int 1, .int 3] pd4 rfl (fr := 0) (lo := 0) (rm4_4 l Z a0 hw [] hp4 n0 Z_4) (by rw [hml]; rfl) 1 rfl (Nat.le_of_eq rfl) (hb hby d2_15) (by decide) (by decide) (by decide) (by decide) (fun T6 rv6 X6 eh6 qc6 => ?_)
  obtain rfl := qc6
  show own_Go p.tables e below _ (T6.setTop (mkF m 18 (Array.mk [zA a, zA va]) [.int 3, .ref a]))
  refine own_callSP X6 hx hZ hown (hw _ (wm 20 rfl)) (hw _ (wm 21 rfl)) (hw _ (wm 22 rfl)) (hw _ (wm 23 rfl)) (by decide) eh6 [.int 3] pd5 rfl (fr := 1) (lo := 16) (rm5_3 l Z a0 hw [] hp4 n0 Z_4) (by rw [hml]; rfl) 1 rfl (Nat.le_of_eq rfl) (hb hby d2_18) (by decide) (by decide) (by decide) (by decide) (fun T7 rv7 X7 eh7 qc7 => ?_)
  obtain rfl := qc7
  show own_Go p.tables e below _ (T7.setTop (mkF m 21 (Array.mk [zA a, zA va]) [.int 2, .ref a]))
  refine own_blk dec2 seq2 hby hx hZ hown hK hF 2 [] [] X7 eh7 ?_
  show own_Aft X7 hp4 _ 23 [zA a, zA va] [.int 4, .ref a]
  refine fun T8 X8 eh8 => ?_
  refine own_putF X8 hx hZ hown (hw _ (wm 29 rfl)) eh8 F0_leaves_4 Ea4 (Or.inr ⟨(hw _ (wm 30 rfl)), rfl, hnm⟩) (hw _ (wm 6 rfl)) (ty := .int) (by decide) rfl rfl (hb hby d2_23) (fun T9 hp9 X9 eh9 Wr9 Fd9 Ea9 => ?_)
  have Av_9 := Av_4.other Wr9 nva
  have Fd4_9 := own_so Wr9 Fd4 (Or.inr (hw _ (wm 15 rfl))) (Or.inr (hw _ (wm 30 rfl)))
  have F0_least_9 := own_so Wr9 F0_least_4 (Or.inr (hw _ (wm 32 rfl))) (Or.inr (hw _ (wm 30 rfl)))
  have Nf9 := Fr.snoc X9 Nf4 na
  have Z_9 : n0 ≤ hp9.size := by rw [Wr.size Wr9]; exact Z_4
  refine own_blk dec2 seq2 hby hx hZ hown hK hF 3 [] [.int 4] X9 eh9 ?_
  show (Fld Z hp9 a "com/example/binwright/binwright/binning/LeastTree" "leaves" "I" (.int 4)) ∧ own_Aft X9 hp9 _ 31 [zA a, zA va] [.int 4, .ref a]
  refine ⟨Fd9, fun T10 X10 eh10 => ?_⟩
  refine own_newP X10 hx hZ (hw _ (wm 4 rfl)) eh10 4 rfl (cap := 4) (by decide) (by decide) (hb hby d2_31) (by decide) (by decide) (fun T11 hp11 la ga11 X11 eh11 Ex11 Ar11 => ?_)
  have ne_va_la : va ≠ la := fun q => absurd Av_9.lt (by rw [q, ga11]; exact Nat.lt_irrefl _)
  have ne_a_la : a ≠ la := fun q => absurd Ea9.lt (by rw [q, ga11]; exact Nat.lt_irrefl _)
  have nw_la : n0 ≤ la := by rw [ga11]; exact Z_9
  have Av_11 := Av_9.ext Ex11
  have Ea9_11 := Exa.ext Ex11 Ea9
  have Fd4_11 := Fld.ext Ex11 Fd4_9
  have Fd9_11 := Fld.ext Ex11 Fd9
  have F0_least_11 := Fld.ext Ex11 F0_least_9
  have Z_11 : n0 ≤ hp11.size := Nat.le_trans Z_9 Ex11.1
  have Ar11' : own_A Z hp11 la .double [.double 0, .double 0, .double 0, .double 0] := Ar11
  show own_Go p.tables e below _ (T11.setTop (mkF m 33 (Array.mk [zA a, zA va]) [.ref la, .ref a]))
  refine own_putF X11 hx hZ hown (hw _ (wm 31 rfl)) eh11 F0_least_11 Ea9_11 (Or.inr ⟨(hw _ (wm 32 rfl)), rfl, hnm⟩) (hw _ (wm 6 rfl)) (ty := (.array .double)) (by decide) rfl rfl (hb hby d2_33) (fun T12 hp12 X12 eh12 Wr12 Fd12 Ea12 => ?_)
  have Av_12 := Av_11.other Wr12 nva
  have Ar11'_12 := Ar11'.other Wr12 (Ne.symm ne_a_la)
  have Fd4_12 := own_so Wr12 Fd4_11 (Or.inr (hw _ (wm 15 rfl))) (Or.inr (hw _ (wm 32 rfl)))
  have Fd9_12 := own_so Wr12 Fd9_11 (Or.inr (hw _ (wm 30 rfl))) (Or.inr (hw _ (wm 32 rfl)))
  have Nf12 := Fr.snoc X12 Nf9 na
  have Z_12 : n0 ≤ hp12.size := by rw [Wr.size Wr12]; exact Z_11
  refine own_blk dec2 seq2 hby hx hZ hown hK hF 3 [] [.ref la] X12 eh12 ?_
  show (Fld Z hp12 a "com/example/binwright/binwright/binning/LeastTree" "least" "[D" (.ref la)) ∧ own_Aft X12 hp12 _ 43 [zA a, zA va] [.double 9218868437227405312, .ref la]
  refine ⟨Fd12, fun T13 X13 eh13 => ?_⟩
  refine own_callS X13 hx hZ hown (hw _ (wm 34 rfl)) (hw _ (wm 35 rfl)) (hw _ (wm 36 rfl)) (hw _ (wm 37 rfl)) (by decide) eh13 [.ref la, .double 9218868437227405312] pd7 rfl (rm := ({ frames := 0, cells := 0, slots := 0, locals := 0 } : Room)) (rm7_4 l Z a0 hw [] la hp12 n0 Z_12 nw_la Ar11'_12) (by rw [hml]; rfl) 0 rfl (Nat.le_of_eq rfl) (hb hby d2_43) (by decide) (by decide) (by decide) (by decide) (fun T14 rv14 Lc14 X14 qc14 => ?_)
  obtain ⟨rfl, M1, K1, Al⟩ := qc14
  have nin1_a : a ∉ [la] := fun q => ne_a_la (List.mem_singleton.mp q)
  have nin1_va : va ∉ [la] := fun q => ne_va_la (List.mem_singleton.mp q)
  have Fd4_1 := Fld.keep Fd4_12 K1 nin1_a
  have Fd9_1 := Fld.keep Fd9_12 K1 nin1_a
  have Fd12_1 := Fld.keep Fd12 K1 nin1_a
  have EX1 := Exa.keep Ea12 K1
  have Av1 := Av_12.keep K1 nin1_va
  have N1_ := Fr.app Nf12 M1
  have Zz1 : n0 ≤ T14.heap.size := Nat.le_trans na (Nat.le_of_lt EX1.lt)
  show own_Go p.tables e below _ (T14.setTop (mkF m 46 (Array.mk [zA a, zA va]) []))
  refine own_blk dec2 seq2 hby hx hZ hown hK hF 4 [] [.int 4] X14 rfl ?_
  show (own_ln Z T14.heap va (4 : Int32)) ∧ own_Aft X14 T14.heap _ 50 [zA a, zA va] [.int 4, .int 0, .ref a]
  refine ⟨Av1.ln (4 : Int32) rfl, fun T15 X15 eh15 => ?_⟩
  refine own_callV X15 hx hZ hown (hw _ (wm 38 rfl)) (hw _ (wm 39 rfl)) (hw _ (wm 41 rfl)) (hw _ (wm 40 rfl)) (hw _ (wm 7 rfl)) (hw _ (wm 42 rfl)) (by decide) eh15 EX1 [.int 0, .int 4] pd8 rfl (rm := ({ frames := 1, cells := 0, slots := 0, locals := 24 } : Room)) (rm8_4 l Z a0 hw [] a la va v0 v1 v2 v3 T14.heap n0 Zz1 EX1 nw_la ne_va_la ne_a_la Fd9_1 Fd12_1 Fd4_1 Al Av1 Nv0 Nv1 Nv2 Nv3) (by rw [hml]; rfl) 0 rfl (Nat.le_of_eq rfl) (hb hby d2_50) (by decide) (by decide) (by decide) (by decide) (fun T16 rv16 Lc16 X16 qc16 => ?_)
  obtain ⟨rfl, M2, K2, PP⟩ := qc16
  have nin2_a : a ∉ [la] := fun q => ne_a_la (List.mem_singleton.mp q)
  have nin2_va : va ∉ [la] := fun q => ne_va_la (List.mem_singleton.mp q)
  have Fd4_2 := Fld.keep Fd4_1 K2 nin2_a
  have Fd9_2 := Fld.keep Fd9_1 K2 nin2_a
  have Fd12_2 := Fld.keep Fd12_1 K2 nin2_a
  have EX2 := Exa.keep EX1 K2
  have Av2 := Av1.keep K2 nin2_va
  have N2_ := Fr.app N1_ M2
  have Zz2 : n0 ≤ T16.heap.size := Nat.le_trans na (Nat.le_of_lt EX2.lt)
  show own_Go p.tables e below _ (T16.setTop (mkF m 53 (Array.mk [zA a, zA va]) []))
  exact own_retV X16 hx hlk rfl hret (hb hby d2_53) (by decide) (by decide) (⟨rfl, N2_, EX2, la, Fd9_2, Fd12_2, Fd4_2, Av2, PP⟩)
set_option maxRecDepth 65536 in
set_option maxHeartbeats 40000000 in
theorem rm2_5 (l : Launch) (Z : State) (a0 : Array Value) (hw : ∀ d ∈ tables_1, d.before a0 Z = true) (ws : List Jvm.Cond) (a va : Addr) (v0 v1 v2 v3 v4 : UInt64) (h0 : Heap) (n0 : Nat) (Z0 : n0 ≤ h0.size) (E0 : Exa Z h0 a "com/example/binwright/binwright/binning/LeastTree") (na : n0 ≤ a) (nva : va ≠ a) (F0_values : Fld Z h0 a "com/example/binwright/binwright/binning/LeastTree" "values" "[D" (.null)) (F0_leaves : Fld Z h0 a "com/example/binwright/binwright/binning/LeastTree" "leaves" "I" (.int 0)) (F0_least : Fld Z h0 a "com/example/binwright/binwright/binning/LeastTree" "least" "[D" (.null)) (Av : own_A Z h0 va .double [.double v0, .double v1, .double v2, .double v3, .double v4]) (Nv0 : own_num v0) (Nv1 : own_num v1) (Nv2 : own_num v2) (Nv3 : own_num v3) (Nv4 : own_num v4) :
    own_MF l (⟨"com/example/binwright/binwright/binning/LeastTree", "<init>", "([D)V"⟩ : MethodName) prog_15_method_1_code 2 none ws ({ frames := 3, cells := 1, slots := 8, locals := 64 } : Room) #[.ref a, .ref va] Z h0 (fun v h L => v = none ∧ Fr n0 L ∧ Exa Z h a "com/example/binwright/binwright/binning/LeastTree" ∧ ∃ la : Addr, Fld Z h a "com/example/binwright/binwright/binning/LeastTree" "leaves" "I" (.int (8 : Int32)) ∧ Fld Z h a "com/example/binwright/binwright/binning/LeastTree" "least" "[D" (.ref la) ∧ Fld Z h a "com/example/binwright/binwright/binning/LeastTree" "values" "[D" (.ref va) ∧ own_A Z h va .double [.double v0, .double v1, .double v2, .double v3, .double v4] ∧ ∃ (r4 r5 r6 r2 r3 r1 : UInt64), own_A Z h la .double [.double 9218868437227405312, .double r1, .double r2, .double r3, .double r4, .double r5, .double r6, .double 9218868437227405312] ∧ own_mn r4 v0 v1 ∧ own_mn r5 v2 v3 ∧ own_mn r6 v4 9218868437227405312 ∧ own_mn r2 r4 r5 ∧ own_mn r3 r6 9218868437227405312 ∧ own_mn r1 r2 r3) := by
  refine own_body pf2 (ls0 := [.val (.ref a), .val (.ref va)]) (fun m => by first | (simp [entryFrame, mkF, argsToLocals, Value.category, maxLocals]; done) | rfl) ?_
  intro p e s m below meth c T0 hx hby hml hown hnm hlk hret hZ X0 e0
  have hK := hKt2 hw; have hF := hFt2 hw
  have N0 := Fr.nil n0
  refine own_blk dec2 seq2 hby hx hZ hown hK hF 1 [] [] X0 e0 ?_
  show own_Aft X0 h0 _ 1 [zA a, zA va] [.ref a]
  refine fun T1 X1 eh1 => ?_
  refine own_initO X1 hx hZ hown (hw _ (wm 11 rfl)) (hw _ (wm 12 rfl)) (hw _ (wm 13 rfl)) eh1 (by rw [hml]; rfl) (hb hby d2_1) (by decide) 0 (Nat.le_of_eq rfl) (by decide) (fun T2 X2 eh2 => ?_)
  refine own_blk dec2 seq2 hby hx hZ hown hK hF 2 [] [] X2 eh2 ?_
  show own_Aft X2 h0 _ 6 [zA a, zA va] [.ref va, .ref a]
  refine fun T3 X3 eh3 => ?_
  refine own_putF X3 hx hZ hown (hw _ (wm 14 rfl)) eh3 F0_values E0 (Or.inr ⟨(hw _ (wm 15 rfl)), rfl, hnm⟩) (hw _ (wm 6 rfl)) (ty := (.array .double)) (by decide) rfl rfl (hb hby d2_6) (fun T4 hp4 X4 eh4 Wr4 Fd4 Ea4 => ?_)
  have Av_4 := Av.other Wr4 nva
  have F0_leaves_4 := own_so Wr4 F0_leaves (Or.inr (hw _ (wm 30 rfl))) (Or.inr (hw _ (wm 15 rfl)))
  have F0_least_4 := own_so Wr4 F0_least (Or.inr (hw _ (wm 32 rfl))) (Or.inr (hw _ (wm 15 rfl)))
  have Nf4 := Fr.snoc X4 N0 na
  have Z_4 : n0 ≤ hp4.size := by rw [Wr.size Wr4]; exact Z0
  refine own_blk dec2 seq2 hby hx hZ hown hK hF 6 [] [.int 5] X4 eh4 ?_
  show (own_ln Z hp4 va (5 : Int32)) ∧ own_Aft X4 hp4 _ 15 [zA a, zA va] [.int 4, .int 1, .ref a]
  refine ⟨Av_4.ln (5 : Int32) rfl, fun T5 X5 eh5 => ?_⟩
  refine own_callSP X5 hx hZ hown (hw _ (wm 16 rfl)) (hw _ (wm 17 rfl)) (hw _ (wm 18 rfl)) (hw _ (wm 19 rfl)) (by decide) eh5 [.int 1, .int 4] pd4 rfl (fr := 0) (lo := 0) (rm4_5 l Z a0 hw [] hp4 n0 Z_4) (by rw [hml]; rfl) 1 rfl (Nat.le_of_eq rfl) (hb hby d2_15) (by decide) (by decide) (by decide) (by decide) (fun T6 rv6 X6 eh6 qc6 => ?_)
  obtain rfl := qc6
  show own_Go p.tables e below _ (T6.setTop (mkF m 18 (Array.mk [zA a, zA va]) [.int 4, .ref a]))
  refine own_callSP X6 hx hZ hown (hw _ (wm 20 rfl)) (hw _ (wm 21 rfl)) (hw _ (wm 22 rfl)) (hw _ (wm 23 rfl)) (by decide) eh6 [.int 4] pd5 rfl (fr := 1) (lo := 16) (rm5_4 l Z a0 hw [] hp4 n0 Z_4) (by rw [hml]; rfl) 1 rfl (Nat.le_of_eq rfl) (hb hby d2_18) (by decide) (by decide) (by decide) (by decide) (fun T7 rv7 X7 eh7 qc7 => ?_)
  obtain rfl := qc7
  show own_Go p.tables e below _ (T7.setTop (mkF m 21 (Array.mk [zA a, zA va]) [.int 4, .ref a]))
  refine own_blk dec2 seq2 hby hx hZ hown hK hF 2 [] [] X7 eh7 ?_
  show own_Aft X7 hp4 _ 23 [zA a, zA va] [.int 8, .ref a]
  refine fun T8 X8 eh8 => ?_
  refine own_putF X8 hx hZ hown (hw _ (wm 29 rfl)) eh8 F0_leaves_4 Ea4 (Or.inr ⟨(hw _ (wm 30 rfl)), rfl, hnm⟩) (hw _ (wm 6 rfl)) (ty := .int) (by decide) rfl rfl (hb hby d2_23) (fun T9 hp9 X9 eh9 Wr9 Fd9 Ea9 => ?_)
  have Av_9 := Av_4.other Wr9 nva
  have Fd4_9 := own_so Wr9 Fd4 (Or.inr (hw _ (wm 15 rfl))) (Or.inr (hw _ (wm 30 rfl)))
  have F0_least_9 := own_so Wr9 F0_least_4 (Or.inr (hw _ (wm 32 rfl))) (Or.inr (hw _ (wm 30 rfl)))
  have Nf9 := Fr.snoc X9 Nf4 na
  have Z_9 : n0 ≤ hp9.size := by rw [Wr.size Wr9]; exact Z_4
  refine own_blk dec2 seq2 hby hx hZ hown hK hF 3 [] [.int 8] X9 eh9 ?_
  show (Fld Z hp9 a "com/example/binwright/binwright/binning/LeastTree" "leaves" "I" (.int 8)) ∧ own_Aft X9 hp9 _ 31 [zA a, zA va] [.int 8, .ref a]
  refine ⟨Fd9, fun T10 X10 eh10 => ?_⟩
  refine own_newP X10 hx hZ (hw _ (wm 4 rfl)) eh10 8 rfl (cap := 8) (by decide) (by decide) (hb hby d2_31) (by decide) (by decide) (fun T11 hp11 la ga11 X11 eh11 Ex11 Ar11 => ?_)
  have ne_va_la : va ≠ la := fun q => absurd Av_9.lt (by rw [q, ga11]; exact Nat.lt_irrefl _)
  have ne_a_la : a ≠ la := fun q => absurd Ea9.lt (by rw [q, ga11]; exact Nat.lt_irrefl _)
  have nw_la : n0 ≤ la := by rw [ga11]; exact Z_9
  have Av_11 := Av_9.ext Ex11
  have Ea9_11 := Exa.ext Ex11 Ea9
  have Fd4_11 := Fld.ext Ex11 Fd4_9
  have Fd9_11 := Fld.ext Ex11 Fd9
  have F0_least_11 := Fld.ext Ex11 F0_least_9
  have Z_11 : n0 ≤ hp11.size := Nat.le_trans Z_9 Ex11.1
  have Ar11' : own_A Z hp11 la .double [.double 0, .double 0, .double 0, .double 0, .double 0, .double 0, .double 0, .double 0] := Ar11
  show own_Go p.tables e below _ (T11.setTop (mkF m 33 (Array.mk [zA a, zA va]) [.ref la, .ref a]))
  refine own_putF X11 hx hZ hown (hw _ (wm 31 rfl)) eh11 F0_least_11 Ea9_11 (Or.inr ⟨(hw _ (wm 32 rfl)), rfl, hnm⟩) (hw _ (wm 6 rfl)) (ty := (.array .double)) (by decide) rfl rfl (hb hby d2_33) (fun T12 hp12 X12 eh12 Wr12 Fd12 Ea12 => ?_)
  have Av_12 := Av_11.other Wr12 nva
  have Ar11'_12 := Ar11'.other Wr12 (Ne.symm ne_a_la)
  have Fd4_12 := own_so Wr12 Fd4_11 (Or.inr (hw _ (wm 15 rfl))) (Or.inr (hw _ (wm 32 rfl)))
  have Fd9_12 := own_so Wr12 Fd9_11 (Or.inr (hw _ (wm 30 rfl))) (Or.inr (hw _ (wm 32 rfl)))
  have Nf12 := Fr.snoc X12 Nf9 na
  have Z_12 : n0 ≤ hp12.size := by rw [Wr.size Wr12]; exact Z_11
  refine own_blk dec2 seq2 hby hx hZ hown hK hF 3 [] [.ref la] X12 eh12 ?_
  show (Fld Z hp12 a "com/example/binwright/binwright/binning/LeastTree" "least" "[D" (.ref la)) ∧ own_Aft X12 hp12 _ 43 [zA a, zA va] [.double 9218868437227405312, .ref la]
  refine ⟨Fd12, fun T13 X13 eh13 => ?_⟩
  refine own_callS X13 hx hZ hown (hw _ (wm 34 rfl)) (hw _ (wm 35 rfl)) (hw _ (wm 36 rfl)) (hw _ (wm 37 rfl)) (by decide) eh13 [.ref la, .double 9218868437227405312] pd7 rfl (rm := ({ frames := 0, cells := 0, slots := 0, locals := 0 } : Room)) (rm7_8 l Z a0 hw [] la hp12 n0 Z_12 nw_la Ar11'_12) (by rw [hml]; rfl) 0 rfl (Nat.le_of_eq rfl) (hb hby d2_43) (by decide) (by decide) (by decide) (by decide) (fun T14 rv14 Lc14 X14 qc14 => ?_)
  obtain ⟨rfl, M1, K1, Al⟩ := qc14
  have nin1_a : a ∉ [la] := fun q => ne_a_la (List.mem_singleton.mp q)
  have nin1_va : va ∉ [la] := fun q => ne_va_la (List.mem_singleton.mp q)
  have Fd4_1 := Fld.keep Fd4_12 K1 nin1_a
  have Fd9_1 := Fld.keep Fd9_12 K1 nin1_a
  have Fd12_1 := Fld.keep Fd12 K1 nin1_a
  have EX1 := Exa.keep Ea12 K1
  have Av1 := Av_12.keep K1 nin1_va
  have N1_ := Fr.app Nf12 M1
  have Zz1 : n0 ≤ T14.heap.size := Nat.le_trans na (Nat.le_of_lt EX1.lt)
  show own_Go p.tables e below _ (T14.setTop (mkF m 46 (Array.mk [zA a, zA va]) []))
  refine own_blk dec2 seq2 hby hx hZ hown hK hF 4 [] [.int 5] X14 rfl ?_
  show (own_ln Z T14.heap va (5 : Int32)) ∧ own_Aft X14 T14.heap _ 50 [zA a, zA va] [.int 5, .int 0, .ref a]
  refine ⟨Av1.ln (5 : Int32) rfl, fun T15 X15 eh15 => ?_⟩
  refine own_callV X15 hx hZ hown (hw _ (wm 38 rfl)) (hw _ (wm 39 rfl)) (hw _ (wm 41 rfl)) (hw _ (wm 40 rfl)) (hw _ (wm 7 rfl)) (hw _ (wm 42 rfl)) (by decide) eh15 EX1 [.int 0, .int 5] pd8 rfl (rm := ({ frames := 1, cells := 0, slots := 0, locals := 24 } : Room)) (rm8_5 l Z a0 hw [] a la va v0 v1 v2 v3 v4 T14.heap n0 Zz1 EX1 nw_la ne_va_la ne_a_la Fd9_1 Fd12_1 Fd4_1 Al Av1 Nv0 Nv1 Nv2 Nv3 Nv4) (by rw [hml]; rfl) 0 rfl (Nat.le_of_eq rfl) (hb hby d2_50) (by decide) (by decide) (by decide) (by decide) (fun T16 rv16 Lc16 X16 qc16 => ?_)
  obtain ⟨rfl, M2, K2, PP⟩ := qc16
  have nin2_a : a ∉ [la] := fun q => ne_a_la (List.mem_singleton.mp q)
  have nin2_va : va ∉ [la] := fun q => ne_va_la (List.mem_singleton.mp q)
  have Fd4_2 := Fld.keep Fd4_1 K2 nin2_a
  have Fd9_2 := Fld.keep Fd9_1 K2 nin2_a
  have Fd12_2 := Fld.keep Fd12_1 K2 nin2_a
  have EX2 := Exa.keep EX1 K2
  have Av2 := Av1.keep K2 nin2_va
  have N2_ := Fr.app N1_ M2
  have Zz2 : n0 ≤ T16.heap.size := Nat.le_trans na (Nat.le_of_lt EX2.lt)
  show own_Go p.tables e below _ (T16.setTop (mkF m 53 (Array.mk [zA a, zA va]) []))
  exact own_retV X16 hx hlk rfl hret (hb hby d2_53) (by decide) (by decide) (⟨rfl, N2_, EX2, la, Fd9_2, Fd12_2, Fd4_2, Av2, PP⟩)
set_option maxRecDepth 65536 in
set_option maxHeartbeats 40000000 in
theorem rm2_6 (l : Launch) (Z : State) (a0 : Array Value) (hw : ∀ d ∈ tables_1, d.before a0 Z = true) (ws : List Jvm.Cond) (a va : Addr) (v0 v1 v2 v3 v4 v5 : UInt64) (h0 : Heap) (n0 : Nat) (Z0 : n0 ≤ h0.size) (E0 : Exa Z h0 a "com/example/binwright/binwright/binning/LeastTree") (na : n0 ≤ a) (nva : va ≠ a) (F0_values : Fld Z h0 a "com/example/binwright/binwright/binning/LeastTree" "values" "[D" (.null)) (F0_leaves : Fld Z h0 a "com/example/binwright/binwright/binning/LeastTree" "leaves" "I" (.int 0)) (F0_least : Fld Z h0 a "com/example/binwright/binwright/binning/LeastTree" "least" "[D" (.null)) (Av : own_A Z h0 va .double [.double v0, .double v1, .double v2, .double v3, .double v4, .double v5]) (Nv0 : own_num v0) (Nv1 : own_num v1) (Nv2 : own_num v2) (Nv3 : own_num v3) (Nv4 : own_num v4) (Nv5 : own_num v5) :
    own_MF l (⟨"com/example/binwright/binwright/binning/LeastTree", "<init>", "([D)V"⟩ : MethodName) prog_15_method_1_code 2 none ws ({ frames := 3, cells := 1, slots := 8, locals := 64 } : Room) #[.ref a, .ref va] Z h0 (fun v h L => v = none ∧ Fr n0 L ∧ Exa Z h a "com/example/binwright/binwright/binning/LeastTree" ∧ ∃ la : Addr, Fld Z h a "com/example/binwright/binwright/binning/LeastTree" "leaves" "I" (.int (8 : Int32)) ∧ Fld Z h a "com/example/binwright/binwright/binning/LeastTree" "least" "[D" (.ref la) ∧ Fld Z h a "com/example/binwright/binwright/binning/LeastTree" "values" "[D" (.ref va) ∧ own_A Z h va .double [.double v0, .double v1, .double v2, .double v3, .double v4, .double v5] ∧ ∃ (r4 r5 r6 r2 r3 r1 : UInt64), own_A Z h la .double [.double 9218868437227405312, .double r1, .double r2, .double r3, .double r4, .double r5, .double r6, .double 9218868437227405312] ∧ own_mn r4 v0 v1 ∧ own_mn r5 v2 v3 ∧ own_mn r6 v4 v5 ∧ own_mn r2 r4 r5 ∧ own_mn r3 r6 9218868437227405312 ∧ own_mn r1 r2 r3) := by
  refine own_body pf2 (ls0 := [.val (.ref a), .val (.ref va)]) (fun m => by first | (simp [entryFrame, mkF, argsToLocals, Value.category, maxLocals]; done) | rfl) ?_
  intro p e s m below meth c T0 hx hby hml hown hnm hlk hret hZ X0 e0
  have hK := hKt2 hw; have hF := hFt2 hw
  have N0 := Fr.nil n0
  refine own_blk dec2 seq2 hby hx hZ hown hK hF 1 [] [] X0 e0 ?_
  show own_Aft X0 h0 _ 1 [zA a, zA va] [.ref a]
  refine fun T1 X1 eh1 => ?_
  refine own_initO X1 hx hZ hown (hw _ (wm 11 rfl)) (hw _ (wm 12 rfl)) (hw _ (wm 13 rfl)) eh1 (by rw [hml]; rfl) (hb hby d2_1) (by decide) 0 (Nat.le_of_eq rfl) (by decide) (fun T2 X2 eh2 => ?_)
  refine own_blk dec2 seq2 hby hx hZ hown hK hF 2 [] [] X2 eh2 ?_
  show own_Aft X2 h0 _ 6 [zA a, zA va] [.ref va, .ref a]
  refine fun T3 X3 eh3 => ?_
  refine own_putF X3 hx hZ hown (hw _ (wm 14 rfl)) eh3 F0_values E0 (Or.inr ⟨(hw _ (wm 15 rfl)), rfl, hnm⟩) (hw _ (wm 6 rfl)) (ty := (.array .double)) (by decide) rfl rfl (hb hby d2_6) (fun T4 hp4 X4 eh4 Wr4 Fd4 Ea4 => ?_)
  have Av_4 := Av.other Wr4 nva
  have F0_leaves_4 := own_so Wr4 F0_leaves (Or.inr (hw _ (wm 30 rfl))) (Or.inr (hw _ (wm 15 rfl)))
  have F0_least_4 := own_so Wr4 F0_least (Or.inr (hw _ (wm 32 rfl))) (Or.inr (hw _ (wm 15 rfl)))
  have Nf4 := Fr.snoc X4 N0 na
  have Z_4 : n0 ≤ hp4.size := by rw [Wr.size Wr4]; exact Z0
  refine own_blk dec2 seq2 hby hx hZ hown hK hF 6 [] [.int 6] X4 eh4 ?_
  show (own_ln Z hp4 va (6 : Int32)) ∧ own_Aft X4 hp4 _ 15 [zA a, zA va] [.int 5, .int 1, .ref a]
  refine ⟨Av_4.ln (6 : Int32) rfl, fun T5 X5 eh5 => ?_⟩
  refine own_callSP X5 hx hZ hown (hw _ (wm 16 rfl)) (hw _ (wm 17 rfl)) (hw _ (wm 18 rfl)) (hw _ (wm 19 rfl)) (by decide) eh5 [.int 1, .int 5] pd4 rfl (fr := 0) (lo := 0) (rm4_6 l Z a0 hw [] hp4 n0 Z_4) (by rw [hml]; rfl) 1 rfl (Nat.le_of_eq rfl) (hb hby d2_15) (by decide) (by decide) (by decide) (by decide) (fun T6 rv6 X6 eh6 qc6 => ?_)
  obtain rfl := qc6
  show own_Go p.tables e below _ (T6.setTop (mkF m 18 (Array.mk [zA a, zA va]) [.int 5, .ref a]))
  refine own_callSP X6 hx hZ hown (hw _ (wm 20 rfl)) (hw _ (wm 21 rfl)) (hw _ (wm 22 rfl)) (hw _ (wm 23 rfl)) (by decide) eh6 [.int 5] pd5 rfl (fr := 1) (lo := 16) (rm5_5 l Z a0 hw [] hp4 n0 Z_4) (by rw [hml]; rfl) 1 rfl (Nat.le_of_eq rfl) (hb hby d2_18) (by decide) (by decide) (by decide) (by decide) (fun T7 rv7 X7 eh7 qc7 => ?_)
  obtain rfl := qc7
  show own_Go p.tables e below _ (T7.setTop (mkF m 21 (Array.mk [zA a, zA va]) [.int 4, .ref a]))
  refine own_blk dec2 seq2 hby hx hZ hown hK hF 2 [] [] X7 eh7 ?_
  show own_Aft X7 hp4 _ 23 [zA a, zA va] [.int 8, .ref a]
  refine fun T8 X8 eh8 => ?_
  refine own_putF X8 hx hZ hown (hw _ (wm 29 rfl)) eh8 F0_leaves_4 Ea4 (Or.inr ⟨(hw _ (wm 30 rfl)), rfl, hnm⟩) (hw _ (wm 6 rfl)) (ty := .int) (by decide) rfl rfl (hb hby d2_23) (fun T9 hp9 X9 eh9 Wr9 Fd9 Ea9 => ?_)
  have Av_9 := Av_4.other Wr9 nva
  have Fd4_9 := own_so Wr9 Fd4 (Or.inr (hw _ (wm 15 rfl))) (Or.inr (hw _ (wm 30 rfl)))
  have F0_least_9 := own_so Wr9 F0_least_4 (Or.inr (hw _ (wm 32 rfl))) (Or.inr (hw _ (wm 30 rfl)))
  have Nf9 := Fr.snoc X9 Nf4 na
  have Z_9 : n0 ≤ hp9.size := by rw [Wr.size Wr9]; exact Z_4
  refine own_blk dec2 seq2 hby hx hZ hown hK hF 3 [] [.int 8] X9 eh9 ?_
  show (Fld Z hp9 a "com/example/binwright/binwright/binning/LeastTree" "leaves" "I" (.int 8)) ∧ own_Aft X9 hp9 _ 31 [zA a, zA va] [.int 8, .ref a]
  refine ⟨Fd9, fun T10 X10 eh10 => ?_⟩
  refine own_newP X10 hx hZ (hw _ (wm 4 rfl)) eh10 8 rfl (cap := 8) (by decide) (by decide) (hb hby d2_31) (by decide) (by decide) (fun T11 hp11 la ga11 X11 eh11 Ex11 Ar11 => ?_)
  have ne_va_la : va ≠ la := fun q => absurd Av_9.lt (by rw [q, ga11]; exact Nat.lt_irrefl _)
  have ne_a_la : a ≠ la := fun q => absurd Ea9.lt (by rw [q, ga11]; exact Nat.lt_irrefl _)
  have nw_la : n0 ≤ la := by rw [ga11]; exact Z_9
  have Av_11 := Av_9.ext Ex11
  have Ea9_11 := Exa.ext Ex11 Ea9
  have Fd4_11 := Fld.ext Ex11 Fd4_9
  have Fd9_11 := Fld.ext Ex11 Fd9
  have F0_least_11 := Fld.ext Ex11 F0_least_9
  have Z_11 : n0 ≤ hp11.size := Nat.le_trans Z_9 Ex11.1
  have Ar11' : own_A Z hp11 la .double [.double 0, .double 0, .double 0, .double 0, .double 0, .double 0, .double 0, .double 0] := Ar11
  show own_Go p.tables e below _ (T11.setTop (mkF m 33 (Array.mk [zA a, zA va]) [.ref la, .ref a]))
  refine own_putF X11 hx hZ hown (hw _ (wm 31 rfl)) eh11 F0_least_11 Ea9_11 (Or.inr ⟨(hw _ (wm 32 rfl)), rfl, hnm⟩) (hw _ (wm 6 rfl)) (ty := (.array .double)) (by decide) rfl rfl (hb hby d2_33) (fun T12 hp12 X12 eh12 Wr12 Fd12 Ea12 => ?_)
  have Av_12 := Av_11.other Wr12 nva
  have Ar11'_12 := Ar11'.other Wr12 (Ne.symm ne_a_la)
  have Fd4_12 := own_so Wr12 Fd4_11 (Or.inr (hw _ (wm 15 rfl))) (Or.inr (hw _ (wm 32 rfl)))
  have Fd9_12 := own_so Wr12 Fd9_11 (Or.inr (hw _ (wm 30 rfl))) (Or.inr (hw _ (wm 32 rfl)))
  have Nf12 := Fr.snoc X12 Nf9 na
  have Z_12 : n0 ≤ hp12.size := by rw [Wr.size Wr12]; exact Z_11
  refine own_blk dec2 seq2 hby hx hZ hown hK hF 3 [] [.ref la] X12 eh12 ?_
  show (Fld Z hp12 a "com/example/binwright/binwright/binning/LeastTree" "least" "[D" (.ref la)) ∧ own_Aft X12 hp12 _ 43 [zA a, zA va] [.double 9218868437227405312, .ref la]
  refine ⟨Fd12, fun T13 X13 eh13 => ?_⟩
  refine own_callS X13 hx hZ hown (hw _ (wm 34 rfl)) (hw _ (wm 35 rfl)) (hw _ (wm 36 rfl)) (hw _ (wm 37 rfl)) (by decide) eh13 [.ref la, .double 9218868437227405312] pd7 rfl (rm := ({ frames := 0, cells := 0, slots := 0, locals := 0 } : Room)) (rm7_8 l Z a0 hw [] la hp12 n0 Z_12 nw_la Ar11'_12) (by rw [hml]; rfl) 0 rfl (Nat.le_of_eq rfl) (hb hby d2_43) (by decide) (by decide) (by decide) (by decide) (fun T14 rv14 Lc14 X14 qc14 => ?_)
  obtain ⟨rfl, M1, K1, Al⟩ := qc14
  have nin1_a : a ∉ [la] := fun q => ne_a_la (List.mem_singleton.mp q)
  have nin1_va : va ∉ [la] := fun q => ne_va_la (List.mem_singleton.mp q)
  have Fd4_1 := Fld.keep Fd4_12 K1 nin1_a
  have Fd9_1 := Fld.keep Fd9_12 K1 nin1_a
  have Fd12_1 := Fld.keep Fd12 K1 nin1_a
  have EX1 := Exa.keep Ea12 K1
  have Av1 := Av_12.keep K1 nin1_va
  have N1_ := Fr.app Nf12 M1
  have Zz1 : n0 ≤ T14.heap.size := Nat.le_trans na (Nat.le_of_lt EX1.lt)
  show own_Go p.tables e below _ (T14.setTop (mkF m 46 (Array.mk [zA a, zA va]) []))
  refine own_blk dec2 seq2 hby hx hZ hown hK hF 4 [] [.int 6] X14 rfl ?_
  show (own_ln Z T14.heap va (6 : Int32)) ∧ own_Aft X14 T14.heap _ 50 [zA a, zA va] [.int 6, .int 0, .ref a]
  refine ⟨Av1.ln (6 : Int32) rfl, fun T15 X15 eh15 => ?_⟩
  refine own_callV X15 hx hZ hown (hw _ (wm 38 rfl)) (hw _ (wm 39 rfl)) (hw _ (wm 41 rfl)) (hw _ (wm 40 rfl)) (hw _ (wm 7 rfl)) (hw _ (wm 42 rfl)) (by decide) eh15 EX1 [.int 0, .int 6] pd8 rfl (rm := ({ frames := 1, cells := 0, slots := 0, locals := 24 } : Room)) (rm8_6 l Z a0 hw [] a la va v0 v1 v2 v3 v4 v5 T14.heap n0 Zz1 EX1 nw_la ne_va_la ne_a_la Fd9_1 Fd12_1 Fd4_1 Al Av1 Nv0 Nv1 Nv2 Nv3 Nv4 Nv5) (by rw [hml]; rfl) 0 rfl (Nat.le_of_eq rfl) (hb hby d2_50) (by decide) (by decide) (by decide) (by decide) (fun T16 rv16 Lc16 X16 qc16 => ?_)
  obtain ⟨rfl, M2, K2, PP⟩ := qc16
  have nin2_a : a ∉ [la] := fun q => ne_a_la (List.mem_singleton.mp q)
  have nin2_va : va ∉ [la] := fun q => ne_va_la (List.mem_singleton.mp q)
  have Fd4_2 := Fld.keep Fd4_1 K2 nin2_a
  have Fd9_2 := Fld.keep Fd9_1 K2 nin2_a
  have Fd12_2 := Fld.keep Fd12_1 K2 nin2_a
  have EX2 := Exa.keep EX1 K2
  have Av2 := Av1.keep K2 nin2_va
  have N2_ := Fr.app N1_ M2
  have Zz2 : n0 ≤ T16.heap.size := Nat.le_trans na (Nat.le_of_lt EX2.lt)
  show own_Go p.tables e below _ (T16.setTop (mkF m 53 (Array.mk [zA a, zA va]) []))
  exact own_retV X16 hx hlk rfl hret (hb hby d2_53) (by decide) (by decide) (⟨rfl, N2_, EX2, la, Fd9_2, Fd12_2, Fd4_2, Av2, PP⟩)
set_option maxRecDepth 65536 in
set_option maxHeartbeats 40000000 in
theorem rm2_7 (l : Launch) (Z : State) (a0 : Array Value) (hw : ∀ d ∈ tables_1, d.before a0 Z = true) (ws : List Jvm.Cond) (a va : Addr) (v0 v1 v2 v3 v4 v5 v6 : UInt64) (h0 : Heap) (n0 : Nat) (Z0 : n0 ≤ h0.size) (E0 : Exa Z h0 a "com/example/binwright/binwright/binning/LeastTree") (na : n0 ≤ a) (nva : va ≠ a) (F0_values : Fld Z h0 a "com/example/binwright/binwright/binning/LeastTree" "values" "[D" (.null)) (F0_leaves : Fld Z h0 a "com/example/binwright/binwright/binning/LeastTree" "leaves" "I" (.int 0)) (F0_least : Fld Z h0 a "com/example/binwright/binwright/binning/LeastTree" "least" "[D" (.null)) (Av : own_A Z h0 va .double [.double v0, .double v1, .double v2, .double v3, .double v4, .double v5, .double v6]) (Nv0 : own_num v0) (Nv1 : own_num v1) (Nv2 : own_num v2) (Nv3 : own_num v3) (Nv4 : own_num v4) (Nv5 : own_num v5) (Nv6 : own_num v6) :
    own_MF l (⟨"com/example/binwright/binwright/binning/LeastTree", "<init>", "([D)V"⟩ : MethodName) prog_15_method_1_code 2 none ws ({ frames := 3, cells := 1, slots := 8, locals := 64 } : Room) #[.ref a, .ref va] Z h0 (fun v h L => v = none ∧ Fr n0 L ∧ Exa Z h a "com/example/binwright/binwright/binning/LeastTree" ∧ ∃ la : Addr, Fld Z h a "com/example/binwright/binwright/binning/LeastTree" "leaves" "I" (.int (8 : Int32)) ∧ Fld Z h a "com/example/binwright/binwright/binning/LeastTree" "least" "[D" (.ref la) ∧ Fld Z h a "com/example/binwright/binwright/binning/LeastTree" "values" "[D" (.ref va) ∧ own_A Z h va .double [.double v0, .double v1, .double v2, .double v3, .double v4, .double v5, .double v6] ∧ ∃ (r4 r5 r6 r7 r2 r3 r1 : UInt64), own_A Z h la .double [.double 9218868437227405312, .double r1, .double r2, .double r3, .double r4, .double r5, .double r6, .double r7] ∧ own_mn r4 v0 v1 ∧ own_mn r5 v2 v3 ∧ own_mn r6 v4 v5 ∧ own_mn r7 v6 9218868437227405312 ∧ own_mn r2 r4 r5 ∧ own_mn r3 r6 r7 ∧ own_mn r1 r2 r3) := by
  refine own_body pf2 (ls0 := [.val (.ref a), .val (.ref va)]) (fun m => by first | (simp [entryFrame, mkF, argsToLocals, Value.category, maxLocals]; done) | rfl) ?_
  intro p e s m below meth c T0 hx hby hml hown hnm hlk hret hZ X0 e0
  have hK := hKt2 hw; have hF := hFt2 hw
  have N0 := Fr.nil n0
  refine own_blk dec2 seq2 hby hx hZ hown hK hF 1 [] [] X0 e0 ?_
  show own_Aft X0 h0 _ 1 [zA a, zA va] [.ref a]
  refine fun T1 X1 eh1 => ?_
  refine own_initO X1 hx hZ hown (hw _ (wm 11 rfl)) (hw _ (wm 12 rfl)) (hw _ (wm 13 rfl)) eh1 (by rw [hml]; rfl) (hb hby d2_1) (by decide) 0 (Nat.le_of_eq rfl) (by decide) (fun T2 X2 eh2 => ?_)
  refine own_blk dec2 seq2 hby hx hZ hown hK hF 2 [] [] X2 eh2 ?_
  show own_Aft X2 h0 _ 6 [zA a, zA va] [.ref va, .ref a]
  refine fun T3 X3 eh3 => ?_
  refine own_putF X3 hx hZ hown (hw _ (wm 14 rfl)) eh3 F0_values E0 (Or.inr ⟨(hw _ (wm 15 rfl)), rfl, hnm⟩) (hw _ (wm 6 rfl)) (ty := (.array .double)) (by decide) rfl rfl (hb hby d2_6) (fun T4 hp4 X4 eh4 Wr4 Fd4 Ea4 => ?_)
  have Av_4 := Av.other Wr4 nva
  have F0_leaves_4 := own_so Wr4 F0_leaves (Or.inr (hw _ (wm 30 rfl))) (Or.inr (hw _ (wm 15 rfl)))
  have F0_least_4 := own_so Wr4 F0_least (Or.inr (hw _ (wm 32 rfl))) (Or.inr (hw _ (wm 15 rfl)))
  have Nf4 := Fr.snoc X4 N0 na
  have Z_4 : n0 ≤ hp4.size := by rw [Wr.size Wr4]; exact Z0
  refine own_blk dec2 seq2 hby hx hZ hown hK hF 6 [] [.int 7] X4 eh4 ?_
  show (own_ln Z hp4 va (7 : Int32)) ∧ own_Aft X4 hp4 _ 15 [zA a, zA va] [.int 6, .int 1, .ref a]
  refine ⟨Av_4.ln (7 : Int32) rfl, fun T5 X5 eh5 => ?_⟩
  refine own_callSP X5 hx hZ hown (hw _ (wm 16 rfl)) (hw _ (wm 17 rfl)) (hw _ (wm 18 rfl)) (hw _ (wm 19 rfl)) (by decide) eh5 [.int 1, .int 6] pd4 rfl (fr := 0) (lo := 0) (rm4_7 l Z a0 hw [] hp4 n0 Z_4) (by rw [hml]; rfl) 1 rfl (Nat.le_of_eq rfl) (hb hby d2_15) (by decide) (by decide) (by decide) (by decide) (fun T6 rv6 X6 eh6 qc6 => ?_)
  obtain rfl := qc6
  show own_Go p.tables e below _ (T6.setTop (mkF m 18 (Array.mk [zA a, zA va]) [.int 6, .ref a]))
  refine own_callSP X6 hx hZ hown (hw _ (wm 20 rfl)) (hw _ (wm 21 rfl)) (hw _ (wm 22 rfl)) (hw _ (wm 23 rfl)) (by decide) eh6 [.int 6] pd5 rfl (fr := 1) (lo := 16) (rm5_6 l Z a0 hw [] hp4 n0 Z_4) (by rw [hml]; rfl) 1 rfl (Nat.le_of_eq rfl) (hb hby d2_18) (by decide) (by decide) (by decide) (by decide) (fun T7 rv7 X7 eh7 qc7 => ?_)
  obtain rfl := qc7
  show own_Go p.tables e below _ (T7.setTop (mkF m 21 (Array.mk [zA a, zA va]) [.int 4, .ref a]))
  refine own_blk dec2 seq2 hby hx hZ hown hK hF 2 [] [] X7 eh7 ?_
  show own_Aft X7 hp4 _ 23 [zA a, zA va] [.int 8, .ref a]
  refine fun T8 X8 eh8 => ?_
  refine own_putF X8 hx hZ hown (hw _ (wm 29 rfl)) eh8 F0_leaves_4 Ea4 (Or.inr ⟨(hw _ (wm 30 rfl)), rfl, hnm⟩) (hw _ (wm 6 rfl)) (ty := .int) (by decide) rfl rfl (hb hby d2_23) (fun T9 hp9 X9 eh9 Wr9 Fd9 Ea9 => ?_)
  have Av_9 := Av_4.other Wr9 nva
  have Fd4_9 := own_so Wr9 Fd4 (Or.inr (hw _ (wm 15 rfl))) (Or.inr (hw _ (wm 30 rfl)))
  have F0_least_9 := own_so Wr9 F0_least_4 (Or.inr (hw _ (wm 32 rfl))) (Or.inr (hw _ (wm 30 rfl)))
  have Nf9 := Fr.snoc X9 Nf4 na
  have Z_9 : n0 ≤ hp9.size := by rw [Wr.size Wr9]; exact Z_4
  refine own_blk dec2 seq2 hby hx hZ hown hK hF 3 [] [.int 8] X9 eh9 ?_
  show (Fld Z hp9 a "com/example/binwright/binwright/binning/LeastTree" "leaves" "I" (.int 8)) ∧ own_Aft X9 hp9 _ 31 [zA a, zA va] [.int 8, .ref a]
  refine ⟨Fd9, fun T10 X10 eh10 => ?_⟩
  refine own_newP X10 hx hZ (hw _ (wm 4 rfl)) eh10 8 rfl (cap := 8) (by decide) (by decide) (hb hby d2_31) (by decide) (by decide) (fun T11 hp11 la ga11 X11 eh11 Ex11 Ar11 => ?_)
  have ne_va_la : va ≠ la := fun q => absurd Av_9.lt (by rw [q, ga11]; exact Nat.lt_irrefl _)
  have ne_a_la : a ≠ la := fun q => absurd Ea9.lt (by rw [q, ga11]; exact Nat.lt_irrefl _)
  have nw_la : n0 ≤ la := by rw [ga11]; exact Z_9
  have Av_11 := Av_9.ext Ex11
  have Ea9_11 := Exa.ext Ex11 Ea9
  have Fd4_11 := Fld.ext Ex11 Fd4_9
  have Fd9_11 := Fld.ext Ex11 Fd9
  have F0_least_11 := Fld.ext Ex11 F0_least_9
  have Z_11 : n0 ≤ hp11.size := Nat.le_trans Z_9 Ex11.1
  have Ar11' : own_A Z hp11 la .double [.double 0, .double 0, .double 0, .double 0, .double 0, .double 0, .double 0, .double 0] := Ar11
  show own_Go p.tables e below _ (T11.setTop (mkF m 33 (Array.mk [zA a, zA va]) [.ref la, .ref a]))
  refine own_putF X11 hx hZ hown (hw _ (wm 31 rfl)) eh11 F0_least_11 Ea9_11 (Or.inr ⟨(hw _ (wm 32 rfl)), rfl, hnm⟩) (hw _ (wm 6 rfl)) (ty := (.array .double)) (by decide) rfl rfl (hb hby d2_33) (fun T12 hp12 X12 eh12 Wr12 Fd12 Ea12 => ?_)
  have Av_12 := Av_11.other Wr12 nva
  have Ar11'_12 := Ar11'.other Wr12 (Ne.symm ne_a_la)
  have Fd4_12 := own_so Wr12 Fd4_11 (Or.inr (hw _ (wm 15 rfl))) (Or.inr (hw _ (wm 32 rfl)))
  have Fd9_12 := own_so Wr12 Fd9_11 (Or.inr (hw _ (wm 30 rfl))) (Or.inr (hw _ (wm 32 rfl)))
  have Nf12 := Fr.snoc X12 Nf9 na
  have Z_12 : n0 ≤ hp12.size := by rw [Wr.size Wr12]; exact Z_11
  refine own_blk dec2 seq2 hby hx hZ hown hK hF 3 [] [.ref la] X12 eh12 ?_
  show (Fld Z hp12 a "com/example/binwright/binwright/binning/LeastTree" "least" "[D" (.ref la)) ∧ own_Aft X12 hp12 _ 43 [zA a, zA va] [.double 9218868437227405312, .ref la]
  refine ⟨Fd12, fun T13 X13 eh13 => ?_⟩
  refine own_callS X13 hx hZ hown (hw _ (wm 34 rfl)) (hw _ (wm 35 rfl)) (hw _ (wm 36 rfl)) (hw _ (wm 37 rfl)) (by decide) eh13 [.ref la, .double 9218868437227405312] pd7 rfl (rm := ({ frames := 0, cells := 0, slots := 0, locals := 0 } : Room)) (rm7_8 l Z a0 hw [] la hp12 n0 Z_12 nw_la Ar11'_12) (by rw [hml]; rfl) 0 rfl (Nat.le_of_eq rfl) (hb hby d2_43) (by decide) (by decide) (by decide) (by decide) (fun T14 rv14 Lc14 X14 qc14 => ?_)
  obtain ⟨rfl, M1, K1, Al⟩ := qc14
  have nin1_a : a ∉ [la] := fun q => ne_a_la (List.mem_singleton.mp q)
  have nin1_va : va ∉ [la] := fun q => ne_va_la (List.mem_singleton.mp q)
  have Fd4_1 := Fld.keep Fd4_12 K1 nin1_a
  have Fd9_1 := Fld.keep Fd9_12 K1 nin1_a
  have Fd12_1 := Fld.keep Fd12 K1 nin1_a
  have EX1 := Exa.keep Ea12 K1
  have Av1 := Av_12.keep K1 nin1_va
  have N1_ := Fr.app Nf12 M1
  have Zz1 : n0 ≤ T14.heap.size := Nat.le_trans na (Nat.le_of_lt EX1.lt)
  show own_Go p.tables e below _ (T14.setTop (mkF m 46 (Array.mk [zA a, zA va]) []))
  refine own_blk dec2 seq2 hby hx hZ hown hK hF 4 [] [.int 7] X14 rfl ?_
  show (own_ln Z T14.heap va (7 : Int32)) ∧ own_Aft X14 T14.heap _ 50 [zA a, zA va] [.int 7, .int 0, .ref a]
  refine ⟨Av1.ln (7 : Int32) rfl, fun T15 X15 eh15 => ?_⟩
  refine own_callV X15 hx hZ hown (hw _ (wm 38 rfl)) (hw _ (wm 39 rfl)) (hw _ (wm 41 rfl)) (hw _ (wm 40 rfl)) (hw _ (wm 7 rfl)) (hw _ (wm 42 rfl)) (by decide) eh15 EX1 [.int 0, .int 7] pd8 rfl (rm := ({ frames := 1, cells := 0, slots := 0, locals := 24 } : Room)) (rm8_7 l Z a0 hw [] a la va v0 v1 v2 v3 v4 v5 v6 T14.heap n0 Zz1 EX1 nw_la ne_va_la ne_a_la Fd9_1 Fd12_1 Fd4_1 Al Av1 Nv0 Nv1 Nv2 Nv3 Nv4 Nv5 Nv6) (by rw [hml]; rfl) 0 rfl (Nat.le_of_eq rfl) (hb hby d2_50) (by decide) (by decide) (by decide) (by decide) (fun T16 rv16 Lc16 X16 qc16 => ?_)
  obtain ⟨rfl, M2, K2, PP⟩ := qc16
  have nin2_a : a ∉ [la] := fun q => ne_a_la (List.mem_singleton.mp q)
  have nin2_va : va ∉ [la] := fun q => ne_va_la (List.mem_singleton.mp q)
  have Fd4_2 := Fld.keep Fd4_1 K2 nin2_a
  have Fd9_2 := Fld.keep Fd9_1 K2 nin2_a
  have Fd12_2 := Fld.keep Fd12_1 K2 nin2_a
  have EX2 := Exa.keep EX1 K2
  have Av2 := Av1.keep K2 nin2_va
  have N2_ := Fr.app N1_ M2
  have Zz2 : n0 ≤ T16.heap.size := Nat.le_trans na (Nat.le_of_lt EX2.lt)
  show own_Go p.tables e below _ (T16.setTop (mkF m 53 (Array.mk [zA a, zA va]) []))
  exact own_retV X16 hx hlk rfl hret (hb hby d2_53) (by decide) (by decide) (⟨rfl, N2_, EX2, la, Fd9_2, Fd12_2, Fd4_2, Av2, PP⟩)
set_option maxRecDepth 65536 in
set_option maxHeartbeats 40000000 in
theorem rm2_8 (l : Launch) (Z : State) (a0 : Array Value) (hw : ∀ d ∈ tables_1, d.before a0 Z = true) (ws : List Jvm.Cond) (a va : Addr) (v0 v1 v2 v3 v4 v5 v6 v7 : UInt64) (h0 : Heap) (n0 : Nat) (Z0 : n0 ≤ h0.size) (E0 : Exa Z h0 a "com/example/binwright/binwright/binning/LeastTree") (na : n0 ≤ a) (nva : va ≠ a) (F0_values : Fld Z h0 a "com/example/binwright/binwright/binning/LeastTree" "values" "[D" (.null)) (F0_leaves : Fld Z h0 a "com/example/binwright/binwright/binning/LeastTree" "leaves" "I" (.int 0)) (F0_least : Fld Z h0 a "com/example/binwright/binwright/binning/LeastTree" "least" "[D" (.null)) (Av : own_A Z h0 va .double [.double v0, .double v1, .double v2, .double v3, .double v4, .double v5, .double v6, .double v7]) (Nv0 : own_num v0) (Nv1 : own_num v1) (Nv2 : own_num v2) (Nv3 : own_num v3) (Nv4 : own_num v4) (Nv5 : own_num v5) (Nv6 : own_num v6) (Nv7 : own_num v7) :
    own_MF l (⟨"com/example/binwright/binwright/binning/LeastTree", "<init>", "([D)V"⟩ : MethodName) prog_15_method_1_code 2 none ws ({ frames := 3, cells := 1, slots := 8, locals := 64 } : Room) #[.ref a, .ref va] Z h0 (fun v h L => v = none ∧ Fr n0 L ∧ Exa Z h a "com/example/binwright/binwright/binning/LeastTree" ∧ ∃ la : Addr, Fld Z h a "com/example/binwright/binwright/binning/LeastTree" "leaves" "I" (.int (8 : Int32)) ∧ Fld Z h a "com/example/binwright/binwright/binning/LeastTree" "least" "[D" (.ref la) ∧ Fld Z h a "com/example/binwright/binwright/binning/LeastTree" "values" "[D" (.ref va) ∧ own_A Z h va .double [.double v0, .double v1, .double v2, .double v3, .double v4, .double v5, .double v6, .double v7] ∧ ∃ (r4 r5 r6 r7 r2 r3 r1 : UInt64), own_A Z h la .double [.double 9218868437227405312, .double r1, .double r2, .double r3, .double r4, .double r5, .double r6, .double r7] ∧ own_mn r4 v0 v1 ∧ own_mn r5 v2 v3 ∧ own_mn r6 v4 v5 ∧ own_mn r7 v6 v7 ∧ own_mn r2 r4 r5 ∧ own_mn r3 r6 r7 ∧ own_mn r1 r2 r3) := by
  refine own_body pf2 (ls0 := [.val (.ref a), .val (.ref va)]) (fun m => by first | (simp [entryFrame, mkF, argsToLocals, Value.category, maxLocals]; done) | rfl) ?_
  intro p e s m below meth c T0 hx hby hml hown hnm hlk hret hZ X0 e0
  have hK := hKt2 hw; have hF := hFt2 hw
  have N0 := Fr.nil n0
  refine own_blk dec2 seq2 hby hx hZ hown hK hF 1 [] [] X0 e0 ?_
  show own_Aft X0 h0 _ 1 [zA a, zA va] [.ref a]
  refine fun T1 X1 eh1 => ?_
  refine own_initO X1 hx hZ hown (hw _ (wm 11 rfl)) (hw _ (wm 12 rfl)) (hw _ (wm 13 rfl)) eh1 (by rw [hml]; rfl) (hb hby d2_1) (by decide) 0 (Nat.le_of_eq rfl) (by decide) (fun T2 X2 eh2 => ?_)
  refine own_blk dec2 seq2 hby hx hZ hown hK hF 2 [] [] X2 eh2 ?_
  show own_Aft X2 h0 _ 6 [zA a, zA va] [.ref va, .ref a]
  refine fun T3 X3 eh3 => ?_
  refine own_putF X3 hx hZ hown (hw _ (wm 14 rfl)) eh3 F0_values E0 (Or.inr ⟨(hw _ (wm 15 rfl)), rfl, hnm⟩) (hw _ (wm 6 rfl)) (ty := (.array .double)) (by decide) rfl rfl (hb hby d2_6) (fun T4 hp4 X4 eh4 Wr4 Fd4 Ea4 => ?_)
  have Av_4 := Av.other Wr4 nva
  have F0_leaves_4 := own_so Wr4 F0_leaves (Or.inr (hw _ (wm 30 rfl))) (Or.inr (hw _ (wm 15 rfl)))
  have F0_least_4 := own_so Wr4 F0_least (Or.inr (hw _ (wm 32 rfl))) (Or.inr (hw _ (wm 15 rfl)))
  have Nf4 := Fr.snoc X4 N0 na
  have Z_4 : n0 ≤ hp4.size := by rw [Wr.size Wr4]; exact Z0
  refine own_blk dec2 seq2 hby hx hZ hown hK hF 6 [] [.int 8] X4 eh4 ?_
  show (own_ln Z hp4 va (8 : Int32)) ∧ own_Aft X4 hp4 _ 15 [zA a, zA va] [.int 7, .int 1, .ref a]
  refine ⟨Av_4.ln (8 : Int32) rfl, fun T5 X5 eh5 => ?_⟩
  refine own_callSP X5 hx hZ hown (hw _ (wm 16 rfl)) (hw _ (wm 17 rfl)) (hw _ (wm 18 rfl)) (hw _ (wm 19 rfl)) (by decide) eh5 [.int 1, .int 7] pd4 rfl (fr := 0) (lo := 0) (rm4_8 l Z a0 hw [] hp4 n0 Z_4) (by rw [hml]; rfl) 1 rfl (Nat.le_of_eq rfl) (hb hby d2_15) (by decide) (by decide) (by decide) (by decide) (fun T6 rv6 X6 eh6 qc6 => ?_)
  obtain rfl := qc6
  show own_Go p.tables e below _ (T6.setTop (mkF m 18 (Array.mk [zA a, zA va]) [.int 7, .ref a]))
  refine own_callSP X6 hx hZ hown (hw _ (wm 20 rfl)) (hw _ (wm 21 rfl)) (hw _ (wm 22 rfl)) (hw _ (wm 23 rfl)) (by decide) eh6 [.int 7] pd5 rfl (fr := 1) (lo := 16) (rm5_7 l Z a0 hw [] hp4 n0 Z_4) (by rw [hml]; rfl) 1 rfl (Nat.le_of_eq rfl) (hb hby d2_18) (by decide) (by decide) (by decide) (by decide) (fun T7 rv7 X7 eh7 qc7 => ?_)
  obtain rfl := qc7
  show own_Go p.tables e below _ (T7.setTop (mkF m 21 (Array.mk [zA a, zA va]) [.int 4, .ref a]))
  refine own_blk dec2 seq2 hby hx hZ hown hK hF 2 [] [] X7 eh7 ?_
  show own_Aft X7 hp4 _ 23 [zA a, zA va] [.int 8, .ref a]
  refine fun T8 X8 eh8 => ?_
  refine own_putF X8 hx hZ hown (hw _ (wm 29 rfl)) eh8 F0_leaves_4 Ea4 (Or.inr ⟨(hw _ (wm 30 rfl)), rfl, hnm⟩) (hw _ (wm 6 rfl)) (ty := .int) (by decide) rfl rfl (hb hby d2_23) (fun T9 hp9 X9 eh9 Wr9 Fd9 Ea9 => ?_)
  have Av_9 := Av_4.other Wr9 nva
  have Fd4_9 := own_so Wr9 Fd4 (Or.inr (hw _ (wm 15 rfl))) (Or.inr (hw _ (wm 30 rfl)))
  have F0_least_9 := own_so Wr9 F0_least_4 (Or.inr (hw _ (wm 32 rfl))) (Or.inr (hw _ (wm 30 rfl)))
  have Nf9 := Fr.snoc X9 Nf4 na
  have Z_9 : n0 ≤ hp9.size := by rw [Wr.size Wr9]; exact Z_4
  refine own_blk dec2 seq2 hby hx hZ hown hK hF 3 [] [.int 8] X9 eh9 ?_
  show (Fld Z hp9 a "com/example/binwright/binwright/binning/LeastTree" "leaves" "I" (.int 8)) ∧ own_Aft X9 hp9 _ 31 [zA a, zA va] [.int 8, .ref a]
  refine ⟨Fd9, fun T10 X10 eh10 => ?_⟩
  refine own_newP X10 hx hZ (hw _ (wm 4 rfl)) eh10 8 rfl (cap := 8) (by decide) (by decide) (hb hby d2_31) (by decide) (by decide) (fun T11 hp11 la ga11 X11 eh11 Ex11 Ar11 => ?_)
  have ne_va_la : va ≠ la := fun q => absurd Av_9.lt (by rw [q, ga11]; exact Nat.lt_irrefl _)
  have ne_a_la : a ≠ la := fun q => absurd Ea9.lt (by rw [q, ga11]; exact Nat.lt_irrefl _)
  have nw_la : n0 ≤ la := by rw [ga11]; exact Z_9
  have Av_11 := Av_9.ext Ex11
  have Ea9_11 := Exa.ext Ex11 Ea9
  have Fd4_11 := Fld.ext Ex11 Fd4_9
  have Fd9_11 := Fld.ext Ex11 Fd9
  have F0_least_11 := Fld.ext Ex11 F0_least_9
  have Z_11 : n0 ≤ hp11.size := Nat.le_trans Z_9 Ex11.1
  have Ar11' : own_A Z hp11 la .double [.double 0, .double 0, .double 0, .double 0, .double 0, .double 0, .double 0, .double 0] := Ar11
  show own_Go p.tables e below _ (T11.setTop (mkF m 33 (Array.mk [zA a, zA va]) [.ref la, .ref a]))
  refine own_putF X11 hx hZ hown (hw _ (wm 31 rfl)) eh11 F0_least_11 Ea9_11 (Or.inr ⟨(hw _ (wm 32 rfl)), rfl, hnm⟩) (hw _ (wm 6 rfl)) (ty := (.array .double)) (by decide) rfl rfl (hb hby d2_33) (fun T12 hp12 X12 eh12 Wr12 Fd12 Ea12 => ?_)
  have Av_12 := Av_11.other Wr12 nva
  have Ar11'_12 := Ar11'.other Wr12 (Ne.symm ne_a_la)
  have Fd4_12 := own_so Wr12 Fd4_11 (Or.inr (hw _ (wm 15 rfl))) (Or.inr (hw _ (wm 32 rfl)))
  have Fd9_12 := own_so Wr12 Fd9_11 (Or.inr (hw _ (wm 30 rfl))) (Or.inr (hw _ (wm 32 rfl)))
  have Nf12 := Fr.snoc X12 Nf9 na
  have Z_12 : n0 ≤ hp12.size := by rw [Wr.size Wr12]; exact Z_11
  refine own_blk dec2 seq2 hby hx hZ hown hK hF 3 [] [.ref la] X12 eh12 ?_
  show (Fld Z hp12 a "com/example/binwright/binwright/binning/LeastTree" "least" "[D" (.ref la)) ∧ own_Aft X12 hp12 _ 43 [zA a, zA va] [.double 9218868437227405312, .ref la]
  refine ⟨Fd12, fun T13 X13 eh13 => ?_⟩
  refine own_callS X13 hx hZ hown (hw _ (wm 34 rfl)) (hw _ (wm 35 rfl)) (hw _ (wm 36 rfl)) (hw _ (wm 37 rfl)) (by decide) eh13 [.ref la, .double 9218868437227405312] pd7 rfl (rm := ({ frames := 0, cells := 0, slots := 0, locals := 0 } : Room)) (rm7_8 l Z a0 hw [] la hp12 n0 Z_12 nw_la Ar11'_12) (by rw [hml]; rfl) 0 rfl (Nat.le_of_eq rfl) (hb hby d2_43) (by decide) (by decide) (by decide) (by decide) (fun T14 rv14 Lc14 X14 qc14 => ?_)
  obtain ⟨rfl, M1, K1, Al⟩ := qc14
  have nin1_a : a ∉ [la] := fun q => ne_a_la (List.mem_singleton.mp q)
  have nin1_va : va ∉ [la] := fun q => ne_va_la (List.mem_singleton.mp q)
  have Fd4_1 := Fld.keep Fd4_12 K1 nin1_a
  have Fd9_1 := Fld.keep Fd9_12 K1 nin1_a
  have Fd12_1 := Fld.keep Fd12 K1 nin1_a
  have EX1 := Exa.keep Ea12 K1
  have Av1 := Av_12.keep K1 nin1_va
  have N1_ := Fr.app Nf12 M1
  have Zz1 : n0 ≤ T14.heap.size := Nat.le_trans na (Nat.le_of_lt EX1.lt)
  show own_Go p.tables e below _ (T14.setTop (mkF m 46 (Array.mk [zA a, zA va]) []))
  refine own_blk dec2 seq2 hby hx hZ hown hK hF 4 [] [.int 8] X14 rfl ?_
  show (own_ln Z T14.heap va (8 : Int32)) ∧ own_Aft X14 T14.heap _ 50 [zA a, zA va] [.int 8, .int 0, .ref a]
  refine ⟨Av1.ln (8 : Int32) rfl, fun T15 X15 eh15 => ?_⟩
  refine own_callV X15 hx hZ hown (hw _ (wm 38 rfl)) (hw _ (wm 39 rfl)) (hw _ (wm 41 rfl)) (hw _ (wm 40 rfl)) (hw _ (wm 7 rfl)) (hw _ (wm 42 rfl)) (by decide) eh15 EX1 [.int 0, .int 8] pd8 rfl (rm := ({ frames := 1, cells := 0, slots := 0, locals := 24 } : Room)) (rm8_8 l Z a0 hw [] a la va v0 v1 v2 v3 v4 v5 v6 v7 T14.heap n0 Zz1 EX1 nw_la ne_va_la ne_a_la Fd9_1 Fd12_1 Fd4_1 Al Av1 Nv0 Nv1 Nv2 Nv3 Nv4 Nv5 Nv6 Nv7) (by rw [hml]; rfl) 0 rfl (Nat.le_of_eq rfl) (hb hby d2_50) (by decide) (by decide) (by decide) (by decide) (fun T16 rv16 Lc16 X16 qc16 => ?_)
  obtain ⟨rfl, M2, K2, PP⟩ := qc16
  have nin2_a : a ∉ [la] := fun q => ne_a_la (List.mem_singleton.mp q)
  have nin2_va : va ∉ [la] := fun q => ne_va_la (List.mem_singleton.mp q)
  have Fd4_2 := Fld.keep Fd4_1 K2 nin2_a
  have Fd9_2 := Fld.keep Fd9_1 K2 nin2_a
  have Fd12_2 := Fld.keep Fd12_1 K2 nin2_a
  have EX2 := Exa.keep EX1 K2
  have Av2 := Av1.keep K2 nin2_va
  have N2_ := Fr.app N1_ M2
  have Zz2 : n0 ≤ T16.heap.size := Nat.le_trans na (Nat.le_of_lt EX2.lt)
  show own_Go p.tables e below _ (T16.setTop (mkF m 53 (Array.mk [zA a, zA va]) []))
  exact own_retV X16 hx hlk rfl hret (hb hby d2_53) (by decide) (by decide) (⟨rfl, N2_, EX2, la, Fd9_2, Fd12_2, Fd4_2, Av2, PP⟩)
set_option maxHeartbeats 4000000 in
theorem own_first_0 (x : UInt64) (r : Int32) (hI : own_z x < own_z 9218868437227405312) (h : (r = -1 ∧ own_z x < own_z 9218868437227405312) ∨ (r = 0 ∧ own_z 9218868437227405312 ≤ own_z x ∧ own_z 9218868437227405312 ≤ own_z x) ∨ (r = 1 ∧ own_z 9218868437227405312 ≤ own_z x ∧ own_z x < own_z 9218868437227405312)) : (r = -1) := by
  rcases h with ⟨rfl, q0⟩ | ⟨rfl, q0, q1⟩ | ⟨rfl, q0, q1⟩
  · exact rfl
  · exfalso; omega
  · exfalso; omega
set_option maxHeartbeats 4000000 in
theorem own_first_1 (v0 r1 x : UInt64) (r : Int32) (Hr1 : own_mn r1 v0 9218868437227405312) (hI : own_z x < own_z 9218868437227405312) (h : (r = -1 ∧ own_z x < own_z r1) ∨ (r = 0 ∧ own_z r1 ≤ own_z x ∧ own_z v0 ≤ own_z x) ∨ (r = 1 ∧ own_z r1 ≤ own_z x ∧ own_z x < own_z v0)) : (r = -1 ∧ own_z x < own_z v0) ∨ (r = 0 ∧ own_z v0 ≤ own_z x) := by
  obtain ⟨-, a1, b1, c1⟩ := Hr1
  rcases h with ⟨rfl, q0⟩ | ⟨rfl, q0, q1⟩ | ⟨rfl, q0, q1⟩
  · exact Or.inl (⟨rfl, by omega⟩)
  · exact Or.inr (⟨rfl, by omega⟩)
  · exfalso; omega
set_option maxHeartbeats 4000000 in
theorem own_first_2 (v0 v1 r1 x : UInt64) (r : Int32) (Hr1 : own_mn r1 v0 v1) (hI : own_z x < own_z 9218868437227405312) (h : (r = -1 ∧ own_z x < own_z r1) ∨ (r = 0 ∧ own_z r1 ≤ own_z x ∧ own_z v0 ≤ own_z x) ∨ (r = 1 ∧ own_z r1 ≤ own_z x ∧ own_z x < own_z v0)) : (r = -1 ∧ own_z x < own_z v0 ∧ own_z x < own_z v1) ∨ (r = 0 ∧ own_z v0 ≤ own_z x) ∨ (r = 1 ∧ own_z v1 ≤ own_z x ∧ own_z x < own_z v0) := by
  obtain ⟨-, a1, b1, c1⟩ := Hr1
  rcases h with ⟨rfl, q0⟩ | ⟨rfl, q0, q1⟩ | ⟨rfl, q0, q1⟩
  · exact Or.inl (⟨rfl, by omega, by omega⟩)
  · exact Or.inr (Or.inl (⟨rfl, by omega⟩))
  · exact Or.inr (Or.inr (⟨rfl, by omega, by omega⟩))
set_option maxHeartbeats 4000000 in
theorem own_first_3 (v0 v1 v2 r2 r3 r1 x : UInt64) (r : Int32) (Hr2 : own_mn r2 v0 v1) (Hr3 : own_mn r3 v2 9218868437227405312) (Hr1 : own_mn r1 r2 r3) (hI : own_z x < own_z 9218868437227405312) (h : (r = -1 ∧ own_z x < own_z r1) ∨ (r = 0 ∧ own_z r1 ≤ own_z x ∧ own_z r2 ≤ own_z x ∧ own_z v0 ≤ own_z x) ∨ (r = 1 ∧ own_z r1 ≤ own_z x ∧ own_z r2 ≤ own_z x ∧ own_z x < own_z v0) ∨ (r = 2 ∧ own_z r1 ≤ own_z x ∧ own_z x < own_z r2 ∧ own_z v2 ≤ own_z x) ∨ (r = 3 ∧ own_z r1 ≤ own_z x ∧ own_z x < own_z r2 ∧ own_z x < own_z v2)) : (r = -1 ∧ own_z x < own_z v0 ∧ own_z x < own_z v1 ∧ own_z x < own_z v2) ∨ (r = 0 ∧ own_z v0 ≤ own_z x) ∨ (r = 1 ∧ own_z v1 ≤ own_z x ∧ own_z x < own_z v0) ∨ (r = 2 ∧ own_z v2 ≤ own_z x ∧ own_z x < own_z v0 ∧ own_z x < own_z v1) := by
  obtain ⟨-, a2, b2, c2⟩ := Hr2
  obtain ⟨-, a3, b3, c3⟩ := Hr3
  obtain ⟨-, a1, b1, c1⟩ := Hr1
  rcases h with ⟨rfl, q0⟩ | ⟨rfl, q0, q1, q2⟩ | ⟨rfl, q0, q1, q2⟩ | ⟨rfl, q0, q1, q2⟩ | ⟨rfl, q0, q1, q2⟩
  · exact Or.inl (⟨rfl, by omega, by omega, by omega⟩)
  · exact Or.inr (Or.inl (⟨rfl, by omega⟩))
  · exact Or.inr (Or.inr (Or.inl (⟨rfl, by omega, by omega⟩)))
  · exact Or.inr (Or.inr (Or.inr (⟨rfl, by omega, by omega, by omega⟩)))
  · exfalso; omega
set_option maxHeartbeats 4000000 in
theorem own_first_4 (v0 v1 v2 v3 r2 r3 r1 x : UInt64) (r : Int32) (Hr2 : own_mn r2 v0 v1) (Hr3 : own_mn r3 v2 v3) (Hr1 : own_mn r1 r2 r3) (hI : own_z x < own_z 9218868437227405312) (h : (r = -1 ∧ own_z x < own_z r1) ∨ (r = 0 ∧ own_z r1 ≤ own_z x ∧ own_z r2 ≤ own_z x ∧ own_z v0 ≤ own_z x) ∨ (r = 1 ∧ own_z r1 ≤ own_z x ∧ own_z r2 ≤ own_z x ∧ own_z x < own_z v0) ∨ (r = 2 ∧ own_z r1 ≤ own_z x ∧ own_z x < own_z r2 ∧ own_z v2 ≤ own_z x) ∨ (r = 3 ∧ own_z r1 ≤ own_z x ∧ own_z x < own_z r2 ∧ own_z x < own_z v2)) : (r = -1 ∧ own_z x < own_z v0 ∧ own_z x < own_z v1 ∧ own_z x < own_z v2 ∧ own_z x < own_z v3) ∨ (r = 0 ∧ own_z v0 ≤ own_z x) ∨ (r = 1 ∧ own_z v1 ≤ own_z x ∧ own_z x < own_z v0) ∨ (r = 2 ∧ own_z v2 ≤ own_z x ∧ own_z x < own_z v0 ∧ own_z x < own_z v1) ∨ (r = 3 ∧ own_z v3 ≤ own_z x ∧ own_z x < own_z v0 ∧ own_z x < own_z v1 ∧ own_z x < own_z v2) := by
  obtain ⟨-, a2, b2, c2⟩ := Hr2
  obtain ⟨-, a3, b3, c3⟩ := Hr3
  obtain ⟨-, a1, b1, c1⟩ := Hr1
  rcases h with ⟨rfl, q0⟩ | ⟨rfl, q0, q1, q2⟩ | ⟨rfl, q0, q1, q2⟩ | ⟨rfl, q0, q1, q2⟩ | ⟨rfl, q0, q1, q2⟩
  · exact Or.inl (⟨rfl, by omega, by omega, by omega, by omega⟩)
  · exact Or.inr (Or.inl (⟨rfl, by omega⟩))
  · exact Or.inr (Or.inr (Or.inl (⟨rfl, by omega, by omega⟩)))
  · exact Or.inr (Or.inr (Or.inr (Or.inl (⟨rfl, by omega, by omega, by omega⟩))))
  · exact Or.inr (Or.inr (Or.inr (Or.inr (⟨rfl, by omega, by omega, by omega, by omega⟩))))
set_option maxHeartbeats 4000000 in
theorem own_first_5 (v0 v1 v2 v3 v4 r4 r5 r6 r2 r3 r1 x : UInt64) (r : Int32) (Hr4 : own_mn r4 v0 v1) (Hr5 : own_mn r5 v2 v3) (Hr6 : own_mn r6 v4 9218868437227405312) (Hr2 : own_mn r2 r4 r5) (Hr3 : own_mn r3 r6 9218868437227405312) (Hr1 : own_mn r1 r2 r3) (hI : own_z x < own_z 9218868437227405312) (h : (r = -1 ∧ own_z x < own_z r1) ∨ (r = 0 ∧ own_z r1 ≤ own_z x ∧ own_z r2 ≤ own_z x ∧ own_z r4 ≤ own_z x ∧ own_z v0 ≤ own_z x) ∨ (r = 1 ∧ own_z r1 ≤ own_z x ∧ own_z r2 ≤ own_z x ∧ own_z r4 ≤ own_z x ∧ own_z x < own_z v0) ∨ (r = 2 ∧ own_z r1 ≤ own_z x ∧ own_z r2 ≤ own_z x ∧ own_z x < own_z r4 ∧ own_z v2 ≤ own_z x) ∨ (r = 3 ∧ own_z r1 ≤ own_z x ∧ own_z r2 ≤ own_z x ∧ own_z x < own_z r4 ∧ own_z x < own_z v2) ∨ (r = 4 ∧ own_z r1 ≤ own_z x ∧ own_z x < own_z r2 ∧ own_z r6 ≤ own_z x ∧ own_z v4 ≤ own_z x) ∨ (r = 5 ∧ own_z r1 ≤ own_z x ∧ own_z x < own_z r2 ∧ own_z r6 ≤ own_z x ∧ own_z x < own_z v4) ∨ (r = 6 ∧ own_z r1 ≤ own_z x ∧ own_z x < own_z r2 ∧ own_z x < own_z r6 ∧ own_z 9218868437227405312 ≤ own_z x) ∨ (r = 7 ∧ own_z r1 ≤ own_z x ∧ own_z x < own_z r2 ∧ own_z x < own_z r6 ∧ own_z x < own_z 9218868437227405312)) : (r = -1 ∧ own_z x < own_z v0 ∧ own_z x < own_z v1 ∧ own_z x < own_z v2 ∧ own_z x < own_z v3 ∧ own_z x < own_z v4) ∨ (r = 0 ∧ own_z v0 ≤ own_z x) ∨ (r = 1 ∧ own_z v1 ≤ own_z x ∧ own_z x < own_z v0) ∨ (r = 2 ∧ own_z v2 ≤ own_z x ∧ own_z x < own_z v0 ∧ own_z x < own_z v1) ∨ (r = 3 ∧ own_z v3 ≤ own_z x ∧ own_z x < own_z v0 ∧ own_z x < own_z v1 ∧ own_z x < own_z v2) ∨ (r = 4 ∧ own_z v4 ≤ own_z x ∧ own_z x < own_z v0 ∧ own_z x < own_z v1 ∧ own_z x < own_z v2 ∧ own_z x < own_z v3) := by
  obtain ⟨-, a4, b4, c4⟩ := Hr4
  obtain ⟨-, a5, b5, c5⟩ := Hr5
  obtain ⟨-, a6, b6, c6⟩ := Hr6
  obtain ⟨-, a2, b2, c2⟩ := Hr2
  obtain ⟨-, a3, b3, c3⟩ := Hr3
  obtain ⟨-, a1, b1, c1⟩ := Hr1
  rcases h with ⟨rfl, q0⟩ | ⟨rfl, q0, q1, q2, q3⟩ | ⟨rfl, q0, q1, q2, q3⟩ | ⟨rfl, q0, q1, q2, q3⟩ | ⟨rfl, q0, q1, q2, q3⟩ | ⟨rfl, q0, q1, q2, q3⟩ | ⟨rfl, q0, q1, q2, q3⟩ | ⟨rfl, q0, q1, q2, q3⟩ | ⟨rfl, q0, q1, q2, q3⟩
  · exact Or.inl (⟨rfl, by omega, by omega, by omega, by omega, by omega⟩)
  · exact Or.inr (Or.inl (⟨rfl, by omega⟩))
  · exact Or.inr (Or.inr (Or.inl (⟨rfl, by omega, by omega⟩)))
  · exact Or.inr (Or.inr (Or.inr (Or.inl (⟨rfl, by omega, by omega, by omega⟩))))
  · exact Or.inr (Or.inr (Or.inr (Or.inr (Or.inl (⟨rfl, by omega, by omega, by omega, by omega⟩)))))
  · exact Or.inr (Or.inr (Or.inr (Or.inr (Or.inr (⟨rfl, by omega, by omega, by omega, by omega, by omega⟩)))))
  · exfalso; omega
  · exfalso; omega
  · exfalso; omega
set_option maxHeartbeats 4000000 in
theorem own_first_6 (v0 v1 v2 v3 v4 v5 r4 r5 r6 r2 r3 r1 x : UInt64) (r : Int32) (Hr4 : own_mn r4 v0 v1) (Hr5 : own_mn r5 v2 v3) (Hr6 : own_mn r6 v4 v5) (Hr2 : own_mn r2 r4 r5) (Hr3 : own_mn r3 r6 9218868437227405312) (Hr1 : own_mn r1 r2 r3) (hI : own_z x < own_z 9218868437227405312) (h : (r = -1 ∧ own_z x < own_z r1) ∨ (r = 0 ∧ own_z r1 ≤ own_z x ∧ own_z r2 ≤ own_z x ∧ own_z r4 ≤ own_z x ∧ own_z v0 ≤ own_z x) ∨ (r = 1 ∧ own_z r1 ≤ own_z x ∧ own_z r2 ≤ own_z x ∧ own_z r4 ≤ own_z x ∧ own_z x < own_z v0) ∨ (r = 2 ∧ own_z r1 ≤ own_z x ∧ own_z r2 ≤ own_z x ∧ own_z x < own_z r4 ∧ own_z v2 ≤ own_z x) ∨ (r = 3 ∧ own_z r1 ≤ own_z x ∧ own_z r2 ≤ own_z x ∧ own_z x < own_z r4 ∧ own_z x < own_z v2) ∨ (r = 4 ∧ own_z r1 ≤ own_z x ∧ own_z x < own_z r2 ∧ own_z r6 ≤ own_z x ∧ own_z v4 ≤ own_z x) ∨ (r = 5 ∧ own_z r1 ≤ own_z x ∧ own_z x < own_z r2 ∧ own_z r6 ≤ own_z x ∧ own_z x < own_z v4) ∨ (r = 6 ∧ own_z r1 ≤ own_z x ∧ own_z x < own_z r2 ∧ own_z x < own_z r6 ∧ own_z 9218868437227405312 ≤ own_z x) ∨ (r = 7 ∧ own_z r1 ≤ own_z x ∧ own_z x < own_z r2 ∧ own_z x < own_z r6 ∧ own_z x < own_z 9218868437227405312)) : (r = -1 ∧ own_z x < own_z v0 ∧ own_z x < own_z v1 ∧ own_z x < own_z v2 ∧ own_z x < own_z v3 ∧ own_z x < own_z v4 ∧ own_z x < own_z v5) ∨ (r = 0 ∧ own_z v0 ≤ own_z x) ∨ (r = 1 ∧ own_z v1 ≤ own_z x ∧ own_z x < own_z v0) ∨ (r = 2 ∧ own_z v2 ≤ own_z x ∧ own_z x < own_z v0 ∧ own_z x < own_z v1) ∨ (r = 3 ∧ own_z v3 ≤ own_z x ∧ own_z x < own_z v0 ∧ own_z x < own_z v1 ∧ own_z x < own_z v2) ∨ (r = 4 ∧ own_z v4 ≤ own_z x ∧ own_z x < own_z v0 ∧ own_z x < own_z v1 ∧ own_z x < own_z v2 ∧ own_z x < own_z v3) ∨ (r = 5 ∧ own_z v5 ≤ own_z x ∧ own_z x < own_z v0 ∧ own_z x < own_z v1 ∧ own_z x < own_z v2 ∧ own_z x < own_z v3 ∧ own_z x < own_z v4) := by
  obtain ⟨-, a4, b4, c4⟩ := Hr4
  obtain ⟨-, a5, b5, c5⟩ := Hr5
  obtain ⟨-, a6, b6, c6⟩ := Hr6
  obtain ⟨-, a2, b2, c2⟩ := Hr2
  obtain ⟨-, a3, b3, c3⟩ := Hr3
  obtain ⟨-, a1, b1, c1⟩ := Hr1
  rcases h with ⟨rfl, q0⟩ | ⟨rfl, q0, q1, q2, q3⟩ | ⟨rfl, q0, q1, q2, q3⟩ | ⟨rfl, q0, q1, q2, q3⟩ | ⟨rfl, q0, q1, q2, q3⟩ | ⟨rfl, q0, q1, q2, q3⟩ | ⟨rfl, q0, q1, q2, q3⟩ | ⟨rfl, q0, q1, q2, q3⟩ | ⟨rfl, q0, q1, q2, q3⟩
  · exact Or.inl (⟨rfl, by omega, by omega, by omega, by omega, by omega, by omega⟩)
  · exact Or.inr (Or.inl (⟨rfl, by omega⟩))
  · exact Or.inr (Or.inr (Or.inl (⟨rfl, by omega, by omega⟩)))
  · exact Or.inr (Or.inr (Or.inr (Or.inl (⟨rfl, by omega, by omega, by omega⟩))))
  · exact Or.inr (Or.inr (Or.inr (Or.inr (Or.inl (⟨rfl, by omega, by omega, by omega, by omega⟩)))))
  · exact Or.inr (Or.inr (Or.inr (Or.inr (Or.inr (Or.inl (⟨rfl, by omega, by omega, by omega, by omega, by omega⟩))))))
  · exact Or.inr (Or.inr (Or.inr (Or.inr (Or.inr (Or.inr (⟨rfl, by omega, by omega, by omega, by omega, by omega, by omega⟩))))))
  · exfalso; omega
  · exfalso; omega
set_option maxHeartbeats 4000000 in
theorem own_first_7 (v0 v1 v2 v3 v4 v5 v6 r4 r5 r6 r7 r2 r3 r1 x : UInt64) (r : Int32) (Hr4 : own_mn r4 v0 v1) (Hr5 : own_mn r5 v2 v3) (Hr6 : own_mn r6 v4 v5) (Hr7 : own_mn r7 v6 9218868437227405312) (Hr2 : own_mn r2 r4 r5) (Hr3 : own_mn r3 r6 r7) (Hr1 : own_mn r1 r2 r3) (hI : own_z x < own_z 9218868437227405312) (h : (r = -1 ∧ own_z x < own_z r1) ∨ (r = 0 ∧ own_z r1 ≤ own_z x ∧ own_z r2 ≤ own_z x ∧ own_z r4 ≤ own_z x ∧ own_z v0 ≤ own_z x) ∨ (r = 1 ∧ own_z r1 ≤ own_z x ∧ own_z r2 ≤ own_z x ∧ own_z r4 ≤ own_z x ∧ own_z x < own_z v0) ∨ (r = 2 ∧ own_z r1 ≤ own_z x ∧ own_z r2 ≤ own_z x ∧ own_z x < own_z r4 ∧ own_z v2 ≤ own_z x) ∨ (r = 3 ∧ own_z r1 ≤ own_z x ∧ own_z r2 ≤ own_z x ∧ own_z x < own_z r4 ∧ own_z x < own_z v2) ∨ (r = 4 ∧ own_z r1 ≤ own_z x ∧ own_z x < own_z r2 ∧ own_z r6 ≤ own_z x ∧ own_z v4 ≤ own_z x) ∨ (r = 5 ∧ own_z r1 ≤ own_z x ∧ own_z x < own_z r2 ∧ own_z r6 ≤ own_z x ∧ own_z x < own_z v4) ∨ (r = 6 ∧ own_z r1 ≤ own_z x ∧ own_z x < own_z r2 ∧ own_z x < own_z r6 ∧ own_z v6 ≤ own_z x) ∨ (r = 7 ∧ own_z r1 ≤ own_z x ∧ own_z x < own_z r2 ∧ own_z x < own_z r6 ∧ own_z x < own_z v6)) : (r = -1 ∧ own_z x < own_z v0 ∧ own_z x < own_z v1 ∧ own_z x < own_z v2 ∧ own_z x < own_z v3 ∧ own_z x < own_z v4 ∧ own_z x < own_z v5 ∧ own_z x < own_z v6) ∨ (r = 0 ∧ own_z v0 ≤ own_z x) ∨ (r = 1 ∧ own_z v1 ≤ own_z x ∧ own_z x < own_z v0) ∨ (r = 2 ∧ own_z v2 ≤ own_z x ∧ own_z x < own_z v0 ∧ own_z x < own_z v1) ∨ (r = 3 ∧ own_z v3 ≤ own_z x ∧ own_z x < own_z v0 ∧ own_z x < own_z v1 ∧ own_z x < own_z v2) ∨ (r = 4 ∧ own_z v4 ≤ own_z x ∧ own_z x < own_z v0 ∧ own_z x < own_z v1 ∧ own_z x < own_z v2 ∧ own_z x < own_z v3) ∨ (r = 5 ∧ own_z v5 ≤ own_z x ∧ own_z x < own_z v0 ∧ own_z x < own_z v1 ∧ own_z x < own_z v2 ∧ own_z x < own_z v3 ∧ own_z x < own_z v4) ∨ (r = 6 ∧ own_z v6 ≤ own_z x ∧ own_z x < own_z v0 ∧ own_z x < own_z v1 ∧ own_z x < own_z v2 ∧ own_z x < own_z v3 ∧ own_z x < own_z v4 ∧ own_z x < own_z v5) := by
  obtain ⟨-, a4, b4, c4⟩ := Hr4
  obtain ⟨-, a5, b5, c5⟩ := Hr5
  obtain ⟨-, a6, b6, c6⟩ := Hr6
  obtain ⟨-, a7, b7, c7⟩ := Hr7
  obtain ⟨-, a2, b2, c2⟩ := Hr2
  obtain ⟨-, a3, b3, c3⟩ := Hr3
  obtain ⟨-, a1, b1, c1⟩ := Hr1
  rcases h with ⟨rfl, q0⟩ | ⟨rfl, q0, q1, q2, q3⟩ | ⟨rfl, q0, q1, q2, q3⟩ | ⟨rfl, q0, q1, q2, q3⟩ | ⟨rfl, q0, q1, q2, q3⟩ | ⟨rfl, q0, q1, q2, q3⟩ | ⟨rfl, q0, q1, q2, q3⟩ | ⟨rfl, q0, q1, q2, q3⟩ | ⟨rfl, q0, q1, q2, q3⟩
  · exact Or.inl (⟨rfl, by omega, by omega, by omega, by omega, by omega, by omega, by omega⟩)
  · exact Or.inr (Or.inl (⟨rfl, by omega⟩))
  · exact Or.inr (Or.inr (Or.inl (⟨rfl, by omega, by omega⟩)))
  · exact Or.inr (Or.inr (Or.inr (Or.inl (⟨rfl, by omega, by omega, by omega⟩))))
  · exact Or.inr (Or.inr (Or.inr (Or.inr (Or.inl (⟨rfl, by omega, by omega, by omega, by omega⟩)))))
  · exact Or.inr (Or.inr (Or.inr (Or.inr (Or.inr (Or.inl (⟨rfl, by omega, by omega, by omega, by omega, by omega⟩))))))
  · exact Or.inr (Or.inr (Or.inr (Or.inr (Or.inr (Or.inr (Or.inl (⟨rfl, by omega, by omega, by omega, by omega, by omega, by omega⟩)))))))
  · exact Or.inr (Or.inr (Or.inr (Or.inr (Or.inr (Or.inr (Or.inr (⟨rfl, by omega, by omega, by omega, by omega, by omega, by omega, by omega⟩)))))))
  · exfalso; omega
set_option maxHeartbeats 4000000 in
theorem own_first_8 (v0 v1 v2 v3 v4 v5 v6 v7 r4 r5 r6 r7 r2 r3 r1 x : UInt64) (r : Int32) (Hr4 : own_mn r4 v0 v1) (Hr5 : own_mn r5 v2 v3) (Hr6 : own_mn r6 v4 v5) (Hr7 : own_mn r7 v6 v7) (Hr2 : own_mn r2 r4 r5) (Hr3 : own_mn r3 r6 r7) (Hr1 : own_mn r1 r2 r3) (hI : own_z x < own_z 9218868437227405312) (h : (r = -1 ∧ own_z x < own_z r1) ∨ (r = 0 ∧ own_z r1 ≤ own_z x ∧ own_z r2 ≤ own_z x ∧ own_z r4 ≤ own_z x ∧ own_z v0 ≤ own_z x) ∨ (r = 1 ∧ own_z r1 ≤ own_z x ∧ own_z r2 ≤ own_z x ∧ own_z r4 ≤ own_z x ∧ own_z x < own_z v0) ∨ (r = 2 ∧ own_z r1 ≤ own_z x ∧ own_z r2 ≤ own_z x ∧ own_z x < own_z r4 ∧ own_z v2 ≤ own_z x) ∨ (r = 3 ∧ own_z r1 ≤ own_z x ∧ own_z r2 ≤ own_z x ∧ own_z x < own_z r4 ∧ own_z x < own_z v2) ∨ (r = 4 ∧ own_z r1 ≤ own_z x ∧ own_z x < own_z r2 ∧ own_z r6 ≤ own_z x ∧ own_z v4 ≤ own_z x) ∨ (r = 5 ∧ own_z r1 ≤ own_z x ∧ own_z x < own_z r2 ∧ own_z r6 ≤ own_z x ∧ own_z x < own_z v4) ∨ (r = 6 ∧ own_z r1 ≤ own_z x ∧ own_z x < own_z r2 ∧ own_z x < own_z r6 ∧ own_z v6 ≤ own_z x) ∨ (r = 7 ∧ own_z r1 ≤ own_z x ∧ own_z x < own_z r2 ∧ own_z x < own_z r6 ∧ own_z x < own_z v6)) : (r = -1 ∧ own_z x < own_z v0 ∧ own_z x < own_z v1 ∧ own_z x < own_z v2 ∧ own_z x < own_z v3 ∧ own_z x < own_z v4 ∧ own_z x < own_z v5 ∧ own_z x < own_z v6 ∧ own_z x < own_z v7) ∨ (r = 0 ∧ own_z v0 ≤ own_z x) ∨ (r = 1 ∧ own_z v1 ≤ own_z x ∧ own_z x < own_z v0) ∨ (r = 2 ∧ own_z v2 ≤ own_z x ∧ own_z x < own_z v0 ∧ own_z x < own_z v1) ∨ (r = 3 ∧ own_z v3 ≤ own_z x ∧ own_z x < own_z v0 ∧ own_z x < own_z v1 ∧ own_z x < own_z v2) ∨ (r = 4 ∧ own_z v4 ≤ own_z x ∧ own_z x < own_z v0 ∧ own_z x < own_z v1 ∧ own_z x < own_z v2 ∧ own_z x < own_z v3) ∨ (r = 5 ∧ own_z v5 ≤ own_z x ∧ own_z x < own_z v0 ∧ own_z x < own_z v1 ∧ own_z x < own_z v2 ∧ own_z x < own_z v3 ∧ own_z x < own_z v4) ∨ (r = 6 ∧ own_z v6 ≤ own_z x ∧ own_z x < own_z v0 ∧ own_z x < own_z v1 ∧ own_z x < own_z v2 ∧ own_z x < own_z v3 ∧ own_z x < own_z v4 ∧ own_z x < own_z v5) ∨ (r = 7 ∧ own_z v7 ≤ own_z x ∧ own_z x < own_z v0 ∧ own_z x < own_z v1 ∧ own_z x < own_z v2 ∧ own_z x < own_z v3 ∧ own_z x < own_z v4 ∧ own_z x < own_z v5 ∧ own_z x < own_z v6) := by
  obtain ⟨-, a4, b4, c4⟩ := Hr4
  obtain ⟨-, a5, b5, c5⟩ := Hr5
  obtain ⟨-, a6, b6, c6⟩ := Hr6
  obtain ⟨-, a7, b7, c7⟩ := Hr7
  obtain ⟨-, a2, b2, c2⟩ := Hr2
  obtain ⟨-, a3, b3, c3⟩ := Hr3
  obtain ⟨-, a1, b1, c1⟩ := Hr1
  rcases h with ⟨rfl, q0⟩ | ⟨rfl, q0, q1, q2, q3⟩ | ⟨rfl, q0, q1, q2, q3⟩ | ⟨rfl, q0, q1, q2, q3⟩ | ⟨rfl, q0, q1, q2, q3⟩ | ⟨rfl, q0, q1, q2, q3⟩ | ⟨rfl, q0, q1, q2, q3⟩ | ⟨rfl, q0, q1, q2, q3⟩ | ⟨rfl, q0, q1, q2, q3⟩
  · exact Or.inl (⟨rfl, by omega, by omega, by omega, by omega, by omega, by omega, by omega, by omega⟩)
  · exact Or.inr (Or.inl (⟨rfl, by omega⟩))
  · exact Or.inr (Or.inr (Or.inl (⟨rfl, by omega, by omega⟩)))
  · exact Or.inr (Or.inr (Or.inr (Or.inl (⟨rfl, by omega, by omega, by omega⟩))))
  · exact Or.inr (Or.inr (Or.inr (Or.inr (Or.inl (⟨rfl, by omega, by omega, by omega, by omega⟩)))))
  · exact Or.inr (Or.inr (Or.inr (Or.inr (Or.inr (Or.inl (⟨rfl, by omega, by omega, by omega, by omega, by omega⟩))))))
  · exact Or.inr (Or.inr (Or.inr (Or.inr (Or.inr (Or.inr (Or.inl (⟨rfl, by omega, by omega, by omega, by omega, by omega, by omega⟩)))))))
  · exact Or.inr (Or.inr (Or.inr (Or.inr (Or.inr (Or.inr (Or.inr (Or.inl (⟨rfl, by omega, by omega, by omega, by omega, by omega, by omega, by omega⟩))))))))
  · exact Or.inr (Or.inr (Or.inr (Or.inr (Or.inr (Or.inr (Or.inr (Or.inr (⟨rfl, by omega, by omega, by omega, by omega, by omega, by omega, by omega, by omega⟩))))))))
set_option maxRecDepth 65536 in
set_option maxHeartbeats 40000000 in
theorem skip_7 {p : Program} {l : Launch} {e : Env} {R : Room} {s : State} {m : MethodId} {args : Array Value} {below : List Frame} {meth : Method} {c : Code} {T0 : State} {locs : List Loc} {cells slots : Nat} {Z : State} {a0 : Array Value} {h0 : Heap} {Q : Outcome → State → Prop} (X0 : Stand p l e R s m args below meth c T0 locs cells slots) (hx : p.tables.exec = Jvm.exec) (hby : c.code = code) (hml : c.maxLocals = maxLocals) (hown : s.vm.findClass "com/example/binwright/binwright/binning/LeastTreeFirstAtMostPinLaw" = some m.cls) (hZ : Z.Warmed39 s.vm) (hK : own_ks "com/example/binwright/binwright/binning/LeastTreeFirstAtMostPinLaw" a0 Z kt0) (hF : own_fs "com/example/binwright/binwright/binning/LeastTreeFirstAtMostPinLaw" a0 Z ft0) (e0 : T0.heap = h0) (s0 s1 s2 s3 s5 s6 s7 s8 s9 s10 s11 s12 s13 s14 s15 s16 s17 s18 s21 s24 s25 : Slot) (nn wn : Int32) (vj xb : UInt64) (Nj : own_num vj) (Nb : own_num xb)
    (kk : ∀ (wn' : Int32), own_Aft X0 h0 Q 219 [s0, s1, s2, s3, zI nn, s5, s6, s7, s8, s9, s10, s11, s12, s13, s14, s15, s16, s17, s18, zD vj, zS, s21, zD xb, zS, s24, s25, zI wn'] []) : own_Go p.tables e below Q (T0.setTop (mkF m 200 (Array.mk [s0, s1, s2, s3, zI nn, s5, s6, s7, s8, s9, s10, s11, s12, s13, s14, s15, s16, s17, s18, zD vj, zS, s21, zD xb, zS, s24, s25, zI wn]) [])) := by
  by_cases hn : nn.toInt ≤ (7 : Int32).toInt
  · skip
    refine own_blk dec0 seq0 hby hx hZ hown hK hF 3 [true] [.int 7] X0 e0 ?_
    show ((Int8.ofInt 7).toInt32 = (7 : Int32)) ∧ ((nn).toInt ≤ ((7 : Int32)).toInt) ∧ own_Aft X0 h0 _ 219 [s0, s1, s2, s3, zI nn, s5, s6, s7, s8, s9, s10, s11, s12, s13, s14, s15, s16, s17, s18, zD vj, zS, s21, zD xb, zS, s24, s25, zI wn] []
    refine ⟨by decide +kernel, hn, fun T1 X1 eh1 => ?_⟩
    exact kk _ T1 X1 eh1
  · skip
    rcases Int.lt_or_le (own_z xb) (own_z vj) with q | q
    · skip
      refine own_blk dec0 seq0 hby hx hZ hown hK hF 7 [false, true] [.int 7] X0 e0 ?_
      show ((Int8.ofInt 7).toInt32 = (7 : Int32)) ∧ (¬ ((nn).toInt ≤ ((7 : Int32)).toInt)) ∧ (0 < (cmpValue (FP.dcmp vj xb) .g).toInt) ∧ own_Aft X0 h0 _ 219 [s0, s1, s2, s3, zI nn, s5, s6, s7, s8, s9, s10, s11, s12, s13, s14, s15, s16, s17, s18, zD vj, zS, s21, zD xb, zS, s24, s25, zI wn] []
      refine ⟨by decide +kernel, hn, own_ggt Nj Nb q, fun T2 X2 eh2 => ?_⟩
      exact kk _ T2 X2 eh2
    · skip
      refine own_blk dec0 seq0 hby hx hZ hown hK hF 9 [false, false] [.int 7, .int 7] X0 e0 ?_
      show ((Int8.ofInt 7).toInt32 = (7 : Int32)) ∧ (¬ ((nn).toInt ≤ ((7 : Int32)).toInt)) ∧ (¬ (0 < (cmpValue (FP.dcmp vj xb) .g).toInt)) ∧ ((Int8.ofInt 7).toInt32 = (7 : Int32)) ∧ own_Aft X0 h0 _ 219 [s0, s1, s2, s3, zI nn, s5, s6, s7, s8, s9, s10, s11, s12, s13, s14, s15, s16, s17, s18, zD vj, zS, s21, zD xb, zS, s24, s25, zI 7] []
      refine ⟨by decide +kernel, hn, by have := own_gle (k := .g) Nj Nb q; omega, by decide +kernel, fun T3 X3 eh3 => ?_⟩
      exact kk _ T3 X3 eh3
set_option maxRecDepth 65536 in
set_option maxHeartbeats 40000000 in
theorem skip_6 {p : Program} {l : Launch} {e : Env} {R : Room} {s : State} {m : MethodId} {args : Array Value} {below : List Frame} {meth : Method} {c : Code} {T0 : State} {locs : List Loc} {cells slots : Nat} {Z : State} {a0 : Array Value} {h0 : Heap} {Q : Outcome → State → Prop} (X0 : Stand p l e R s m args below meth c T0 locs cells slots) (hx : p.tables.exec = Jvm.exec) (hby : c.code = code) (hml : c.maxLocals = maxLocals) (hown : s.vm.findClass "com/example/binwright/binwright/binning/LeastTreeFirstAtMostPinLaw" = some m.cls) (hZ : Z.Warmed39 s.vm) (hK : own_ks "com/example/binwright/binwright/binning/LeastTreeFirstAtMostPinLaw" a0 Z kt0) (hF : own_fs "com/example/binwright/binwright/binning/LeastTreeFirstAtMostPinLaw" a0 Z ft0) (e0 : T0.heap = h0) (s0 s1 s2 s3 s5 s6 s7 s8 s9 s10 s11 s12 s13 s14 s15 s16 s19 s20 s21 s24 s25 : Slot) (nn wn : Int32) (vj xb : UInt64) (Nj : own_num vj) (Nb : own_num xb)
    (kk : ∀ (wn' : Int32), own_Aft X0 h0 Q 238 [s0, s1, s2, s3, zI nn, s5, s6, s7, s8, s9, s10, s11, s12, s13, s14, s15, s16, zD vj, zS, s19, s20, s21, zD xb, zS, s24, s25, zI wn'] []) : own_Go p.tables e below Q (T0.setTop (mkF m 219 (Array.mk [s0, s1, s2, s3, zI nn, s5, s6, s7, s8, s9, s10, s11, s12, s13, s14, s15, s16, zD vj, zS, s19, s20, s21, zD xb, zS, s24, s25, zI wn]) [])) := by
  by_cases hn : nn.toInt ≤ (6 : Int32).toInt
  · skip
    refine own_blk dec0 seq0 hby hx hZ hown hK hF 3 [true] [.int 6] X0 e0 ?_
    show ((Int8.ofInt 6).toInt32 = (6 : Int32)) ∧ ((nn).toInt ≤ ((6 : Int32)).toInt) ∧ own_Aft X0 h0 _ 238 [s0, s1, s2, s3, zI nn, s5, s6, s7, s8, s9, s10, s11, s12, s13, s14, s15, s16, zD vj, zS, s19, s20, s21, zD xb, zS, s24, s25, zI wn] []
    refine ⟨by decide +kernel, hn, fun T1 X1 eh1 => ?_⟩
    exact kk _ T1 X1 eh1
  · skip
    rcases Int.lt_or_le (own_z xb) (own_z vj) with q | q
    · skip
      refine own_blk dec0 seq0 hby hx hZ hown hK hF 7 [false, true] [.int 6] X0 e0 ?_
      show ((Int8.ofInt 6).toInt32 = (6 : Int32)) ∧ (¬ ((nn).toInt ≤ ((6 : Int32)).toInt)) ∧ (0 < (cmpValue (FP.dcmp vj xb) .g).toInt) ∧ own_Aft X0 h0 _ 238 [s0, s1, s2, s3, zI nn, s5, s6, s7, s8, s9, s10, s11, s12, s13, s14, s15, s16, zD vj, zS, s19, s20, s21, zD xb, zS, s24, s25, zI wn] []
      refine ⟨by decide +kernel, hn, own_ggt Nj Nb q, fun T2 X2 eh2 => ?_⟩
      exact kk _ T2 X2 eh2
    · skip
      refine own_blk dec0 seq0 hby hx hZ hown hK hF 9 [false, false] [.int 6, .int 6] X0 e0 ?_
      show ((Int8.ofInt 6).toInt32 = (6 : Int32)) ∧ (¬ ((nn).toInt ≤ ((6 : Int32)).toInt)) ∧ (¬ (0 < (cmpValue (FP.dcmp vj xb) .g).toInt)) ∧ ((Int8.ofInt 6).toInt32 = (6 : Int32)) ∧ own_Aft X0 h0 _ 238 [s0, s1, s2, s3, zI nn, s5, s6, s7, s8, s9, s10, s11, s12, s13, s14, s15, s16, zD vj, zS, s19, s20, s21, zD xb, zS, s24, s25, zI 6] []
      refine ⟨by decide +kernel, hn, by have := own_gle (k := .g) Nj Nb q; omega, by decide +kernel, fun T3 X3 eh3 => ?_⟩
      exact kk _ T3 X3 eh3
set_option maxRecDepth 65536 in
set_option maxHeartbeats 40000000 in
theorem skip_5 {p : Program} {l : Launch} {e : Env} {R : Room} {s : State} {m : MethodId} {args : Array Value} {below : List Frame} {meth : Method} {c : Code} {T0 : State} {locs : List Loc} {cells slots : Nat} {Z : State} {a0 : Array Value} {h0 : Heap} {Q : Outcome → State → Prop} (X0 : Stand p l e R s m args below meth c T0 locs cells slots) (hx : p.tables.exec = Jvm.exec) (hby : c.code = code) (hml : c.maxLocals = maxLocals) (hown : s.vm.findClass "com/example/binwright/binwright/binning/LeastTreeFirstAtMostPinLaw" = some m.cls) (hZ : Z.Warmed39 s.vm) (hK : own_ks "com/example/binwright/binwright/binning/LeastTreeFirstAtMostPinLaw" a0 Z kt0) (hF : own_fs "com/example/binwright/binwright/binning/LeastTreeFirstAtMostPinLaw" a0 Z ft0) (e0 : T0.heap = h0) (s0 s1 s2 s3 s5 s6 s7 s8 s9 s10 s11 s12 s13 s14 s17 s18 s19 s20 s21 s24 s25 : Slot) (nn wn : Int32) (vj xb : UInt64) (Nj : own_num vj) (Nb : own_num xb)
    (kk : ∀ (wn' : Int32), own_Aft X0 h0 Q 255 [s0, s1, s2, s3, zI nn, s5, s6, s7, s8, s9, s10, s11, s12, s13, s14, zD vj, zS, s17, s18, s19, s20, s21, zD xb, zS, s24, s25, zI wn'] []) : own_Go p.tables e below Q (T0.setTop (mkF m 238 (Array.mk [s0, s1, s2, s3, zI nn, s5, s6, s7, s8, s9, s10, s11, s12, s13, s14, zD vj, zS, s17, s18, s19, s20, s21, zD xb, zS, s24, s25, zI wn]) [])) := by
  by_cases hn : nn.toInt ≤ (5 : Int32).toInt
  · skip
    refine own_blk dec0 seq0 hby hx hZ hown hK hF 3 [true] [] X0 e0 ?_
    show ((nn).toInt ≤ ((5 : Int32)).toInt) ∧ own_Aft X0 h0 _ 255 [s0, s1, s2, s3, zI nn, s5, s6, s7, s8, s9, s10, s11, s12, s13, s14, zD vj, zS, s17, s18, s19, s20, s21, zD xb, zS, s24, s25, zI wn] []
    refine ⟨hn, fun T1 X1 eh1 => ?_⟩
    exact kk _ T1 X1 eh1
  · skip
    rcases Int.lt_or_le (own_z xb) (own_z vj) with q | q
    · skip
      refine own_blk dec0 seq0 hby hx hZ hown hK hF 7 [false, true] [] X0 e0 ?_
      show (¬ ((nn).toInt ≤ ((5 : Int32)).toInt)) ∧ (0 < (cmpValue (FP.dcmp vj xb) .g).toInt) ∧ own_Aft X0 h0 _ 255 [s0, s1, s2, s3, zI nn, s5, s6, s7, s8, s9, s10, s11, s12, s13, s14, zD vj, zS, s17, s18, s19, s20, s21, zD xb, zS, s24, s25, zI wn] []
      refine ⟨hn, own_ggt Nj Nb q, fun T2 X2 eh2 => ?_⟩
      exact kk _ T2 X2 eh2
    · skip
      refine own_blk dec0 seq0 hby hx hZ hown hK hF 9 [false, false] [] X0 e0 ?_
      show (¬ ((nn).toInt ≤ ((5 : Int32)).toInt)) ∧ (¬ (0 < (cmpValue (FP.dcmp vj xb) .g).toInt)) ∧ own_Aft X0 h0 _ 255 [s0, s1, s2, s3, zI nn, s5, s6, s7, s8, s9, s10, s11, s12, s13, s14, zD vj, zS, s17, s18, s19, s20, s21, zD xb, zS, s24, s25, zI 5] []
      refine ⟨hn, by have := own_gle (k := .g) Nj Nb q; omega, fun T3 X3 eh3 => ?_⟩
      exact kk _ T3 X3 eh3
set_option maxRecDepth 65536 in
set_option maxHeartbeats 40000000 in
theorem skip_4 {p : Program} {l : Launch} {e : Env} {R : Room} {s : State} {m : MethodId} {args : Array Value} {below : List Frame} {meth : Method} {c : Code} {T0 : State} {locs : List Loc} {cells slots : Nat} {Z : State} {a0 : Array Value} {h0 : Heap} {Q : Outcome → State → Prop} (X0 : Stand p l e R s m args below meth c T0 locs cells slots) (hx : p.tables.exec = Jvm.exec) (hby : c.code = code) (hml : c.maxLocals = maxLocals) (hown : s.vm.findClass "com/example/binwright/binwright/binning/LeastTreeFirstAtMostPinLaw" = some m.cls) (hZ : Z.Warmed39 s.vm) (hK : own_ks "com/example/binwright/binwright/binning/LeastTreeFirstAtMostPinLaw" a0 Z kt0) (hF : own_fs "com/example/binwright/binwright/binning/LeastTreeFirstAtMostPinLaw" a0 Z ft0) (e0 : T0.heap = h0) (s0 s1 s2 s3 s5 s6 s7 s8 s9 s10 s11 s12 s15 s16 s17 s18 s19 s20 s21 s24 s25 : Slot) (nn wn : Int32) (vj xb : UInt64) (Nj : own_num vj) (Nb : own_num xb)
    (kk : ∀ (wn' : Int32), own_Aft X0 h0 Q 272 [s0, s1, s2, s3, zI nn, s5, s6, s7, s8, s9, s10, s11, s12, zD vj, zS, s15, s16, s17, s18, s19, s20, s21, zD xb, zS, s24, s25, zI wn'] []) : own_Go p.tables e below Q (T0.setTop (mkF m 255 (Array.mk [s0, s1, s2, s3, zI nn, s5, s6, s7, s8, s9, s10, s11, s12, zD vj, zS, s15, s16, s17, s18, s19, s20, s21, zD xb, zS, s24, s25, zI wn]) [])) := by
  by_cases hn : nn.toInt ≤ (4 : Int32).toInt
  · skip
    refine own_blk dec0 seq0 hby hx hZ hown hK hF 3 [true] [] X0 e0 ?_
    show ((nn).toInt ≤ ((4 : Int32)).toInt) ∧ own_Aft X0 h0 _ 272 [s0, s1, s2, s3, zI nn, s5, s6, s7, s8, s9, s10, s11, s12, zD vj, zS, s15, s16, s17, s18, s19, s20, s21, zD xb, zS, s24, s25, zI wn] []
    refine ⟨hn, fun T1 X1 eh1 => ?_⟩
    exact kk _ T1 X1 eh1
  · skip
    rcases Int.lt_or_le (own_z xb) (own_z vj) with q | q
    · skip
      refine own_blk dec0 seq0 hby hx hZ hown hK hF 7 [false, true] [] X0 e0 ?_
      show (¬ ((nn).toInt ≤ ((4 : Int32)).toInt)) ∧ (0 < (cmpValue (FP.dcmp vj xb) .g).toInt) ∧ own_Aft X0 h0 _ 272 [s0, s1, s2, s3, zI nn, s5, s6, s7, s8, s9, s10, s11, s12, zD vj, zS, s15, s16, s17, s18, s19, s20, s21, zD xb, zS, s24, s25, zI wn] []
      refine ⟨hn, own_ggt Nj Nb q, fun T2 X2 eh2 => ?_⟩
      exact kk _ T2 X2 eh2
    · skip
      refine own_blk dec0 seq0 hby hx hZ hown hK hF 9 [false, false] [] X0 e0 ?_
      show (¬ ((nn).toInt ≤ ((4 : Int32)).toInt)) ∧ (¬ (0 < (cmpValue (FP.dcmp vj xb) .g).toInt)) ∧ own_Aft X0 h0 _ 272 [s0, s1, s2, s3, zI nn, s5, s6, s7, s8, s9, s10, s11, s12, zD vj, zS, s15, s16, s17, s18, s19, s20, s21, zD xb, zS, s24, s25, zI 4] []
      refine ⟨hn, by have := own_gle (k := .g) Nj Nb q; omega, fun T3 X3 eh3 => ?_⟩
      exact kk _ T3 X3 eh3
set_option maxRecDepth 65536 in
set_option maxHeartbeats 40000000 in
theorem skip_3 {p : Program} {l : Launch} {e : Env} {R : Room} {s : State} {m : MethodId} {args : Array Value} {below : List Frame} {meth : Method} {c : Code} {T0 : State} {locs : List Loc} {cells slots : Nat} {Z : State} {a0 : Array Value} {h0 : Heap} {Q : Outcome → State → Prop} (X0 : Stand p l e R s m args below meth c T0 locs cells slots) (hx : p.tables.exec = Jvm.exec) (hby : c.code = code) (hml : c.maxLocals = maxLocals) (hown : s.vm.findClass "com/example/binwright/binwright/binning/LeastTreeFirstAtMostPinLaw" = some m.cls) (hZ : Z.Warmed39 s.vm) (hK : own_ks "com/example/binwright/binwright/binning/LeastTreeFirstAtMostPinLaw" a0 Z kt0) (hF : own_fs "com/example/binwright/binwright/binning/LeastTreeFirstAtMostPinLaw" a0 Z ft0) (e0 : T0.heap = h0) (s0 s1 s2 s3 s5 s6 s7 s8 s9 s10 s13 s14 s15 s16 s17 s18 s19 s20 s21 s24 s25 : Slot) (nn wn : Int32) (vj xb : UInt64) (Nj : own_num vj) (Nb : own_num xb)
    (kk : ∀ (wn' : Int32), own_Aft X0 h0 Q 289 [s0, s1, s2, s3, zI nn, s5, s6, s7, s8, s9, s10, zD vj, zS, s13, s14, s15, s16, s17, s18, s19, s20, s21, zD xb, zS, s24, s25, zI wn'] []) : own_Go p.tables e below Q (T0.setTop (mkF m 272 (Array.mk [s0, s1, s2, s3, zI nn, s5, s6, s7, s8, s9, s10, zD vj, zS, s13, s14, s15, s16, s17, s18, s19, s20, s21, zD xb, zS, s24, s25, zI wn]) [])) := by
  by_cases hn : nn.toInt ≤ (3 : Int32).toInt
  · skip
    refine own_blk dec0 seq0 hby hx hZ hown hK hF 3 [true] [] X0 e0 ?_
    show ((nn).toInt ≤ ((3 : Int32)).toInt) ∧ own_Aft X0 h0 _ 289 [s0, s1, s2, s3, zI nn, s5, s6, s7, s8, s9, s10, zD vj, zS, s13, s14, s15, s16, s17, s18, s19, s20, s21, zD xb, zS, s24, s25, zI wn] []
    refine ⟨hn, fun T1 X1 eh1 => ?_⟩
    exact kk _ T1 X1 eh1
  · skip
    rcases Int.lt_or_le (own_z xb) (own_z vj) with q | q
    · skip
      refine own_blk dec0 seq0 hby hx hZ hown hK hF 7 [false, true] [] X0 e0 ?_
      show (¬ ((nn).toInt ≤ ((3 : Int32)).toInt)) ∧ (0 < (cmpValue (FP.dcmp vj xb) .g).toInt) ∧ own_Aft X0 h0 _ 289 [s0, s1, s2, s3, zI nn, s5, s6, s7, s8, s9, s10, zD vj, zS, s13, s14, s15, s16, s17, s18, s19, s20, s21, zD xb, zS, s24, s25, zI wn] []
      refine ⟨hn, own_ggt Nj Nb q, fun T2 X2 eh2 => ?_⟩
      exact kk _ T2 X2 eh2
    · skip
      refine own_blk dec0 seq0 hby hx hZ hown hK hF 9 [false, false] [] X0 e0 ?_
      show (¬ ((nn).toInt ≤ ((3 : Int32)).toInt)) ∧ (¬ (0 < (cmpValue (FP.dcmp vj xb) .g).toInt)) ∧ own_Aft X0 h0 _ 289 [s0, s1, s2, s3, zI nn, s5, s6, s7, s8, s9, s10, zD vj, zS, s13, s14, s15, s16, s17, s18, s19, s20, s21, zD xb, zS, s24, s25, zI 3] []
      refine ⟨hn, by have := own_gle (k := .g) Nj Nb q; omega, fun T3 X3 eh3 => ?_⟩
      exact kk _ T3 X3 eh3
set_option maxRecDepth 65536 in
set_option maxHeartbeats 40000000 in
theorem skip_2 {p : Program} {l : Launch} {e : Env} {R : Room} {s : State} {m : MethodId} {args : Array Value} {below : List Frame} {meth : Method} {c : Code} {T0 : State} {locs : List Loc} {cells slots : Nat} {Z : State} {a0 : Array Value} {h0 : Heap} {Q : Outcome → State → Prop} (X0 : Stand p l e R s m args below meth c T0 locs cells slots) (hx : p.tables.exec = Jvm.exec) (hby : c.code = code) (hml : c.maxLocals = maxLocals) (hown : s.vm.findClass "com/example/binwright/binwright/binning/LeastTreeFirstAtMostPinLaw" = some m.cls) (hZ : Z.Warmed39 s.vm) (hK : own_ks "com/example/binwright/binwright/binning/LeastTreeFirstAtMostPinLaw" a0 Z kt0) (hF : own_fs "com/example/binwright/binwright/binning/LeastTreeFirstAtMostPinLaw" a0 Z ft0) (e0 : T0.heap = h0) (s0 s1 s2 s3 s5 s6 s7 s8 s11 s12 s13 s14 s15 s16 s17 s18 s19 s20 s21 s24 s25 : Slot) (nn wn : Int32) (vj xb : UInt64) (Nj : own_num vj) (Nb : own_num xb)
    (kk : ∀ (wn' : Int32), own_Aft X0 h0 Q 306 [s0, s1, s2, s3, zI nn, s5, s6, s7, s8, zD vj, zS, s11, s12, s13, s14, s15, s16, s17, s18, s19, s20, s21, zD xb, zS, s24, s25, zI wn'] []) : own_Go p.tables e below Q (T0.setTop (mkF m 289 (Array.mk [s0, s1, s2, s3, zI nn, s5, s6, s7, s8, zD vj, zS, s11, s12, s13, s14, s15, s16, s17, s18, s19, s20, s21, zD xb, zS, s24, s25, zI wn]) [])) := by
  by_cases hn : nn.toInt ≤ (2 : Int32).toInt
  · skip
    refine own_blk dec0 seq0 hby hx hZ hown hK hF 3 [true] [] X0 e0 ?_
    show ((nn).toInt ≤ ((2 : Int32)).toInt) ∧ own_Aft X0 h0 _ 306 [s0, s1, s2, s3, zI nn, s5, s6, s7, s8, zD vj, zS, s11, s12, s13, s14, s15, s16, s17, s18, s19, s20, s21, zD xb, zS, s24, s25, zI wn] []
    refine ⟨hn, fun T1 X1 eh1 => ?_⟩
    exact kk _ T1 X1 eh1
  · skip
    rcases Int.lt_or_le (own_z xb) (own_z vj) with q | q
    · skip
      refine own_blk dec0 seq0 hby hx hZ hown hK hF 7 [false, true] [] X0 e0 ?_
      show (¬ ((nn).toInt ≤ ((2 : Int32)).toInt)) ∧ (0 < (cmpValue (FP.dcmp vj xb) .g).toInt) ∧ own_Aft X0 h0 _ 306 [s0, s1, s2, s3, zI nn, s5, s6, s7, s8, zD vj, zS, s11, s12, s13, s14, s15, s16, s17, s18, s19, s20, s21, zD xb, zS, s24, s25, zI wn] []
      refine ⟨hn, own_ggt Nj Nb q, fun T2 X2 eh2 => ?_⟩
      exact kk _ T2 X2 eh2
    · skip
      refine own_blk dec0 seq0 hby hx hZ hown hK hF 9 [false, false] [] X0 e0 ?_
      show (¬ ((nn).toInt ≤ ((2 : Int32)).toInt)) ∧ (¬ (0 < (cmpValue (FP.dcmp vj xb) .g).toInt)) ∧ own_Aft X0 h0 _ 306 [s0, s1, s2, s3, zI nn, s5, s6, s7, s8, zD vj, zS, s11, s12, s13, s14, s15, s16, s17, s18, s19, s20, s21, zD xb, zS, s24, s25, zI 2] []
      refine ⟨hn, by have := own_gle (k := .g) Nj Nb q; omega, fun T3 X3 eh3 => ?_⟩
      exact kk _ T3 X3 eh3
set_option maxRecDepth 65536 in
set_option maxHeartbeats 40000000 in
theorem skip_1 {p : Program} {l : Launch} {e : Env} {R : Room} {s : State} {m : MethodId} {args : Array Value} {below : List Frame} {meth : Method} {c : Code} {T0 : State} {locs : List Loc} {cells slots : Nat} {Z : State} {a0 : Array Value} {h0 : Heap} {Q : Outcome → State → Prop} (X0 : Stand p l e R s m args below meth c T0 locs cells slots) (hx : p.tables.exec = Jvm.exec) (hby : c.code = code) (hml : c.maxLocals = maxLocals) (hown : s.vm.findClass "com/example/binwright/binwright/binning/LeastTreeFirstAtMostPinLaw" = some m.cls) (hZ : Z.Warmed39 s.vm) (hK : own_ks "com/example/binwright/binwright/binning/LeastTreeFirstAtMostPinLaw" a0 Z kt0) (hF : own_fs "com/example/binwright/binwright/binning/LeastTreeFirstAtMostPinLaw" a0 Z ft0) (e0 : T0.heap = h0) (s0 s1 s2 s3 s5 s6 s9 s10 s11 s12 s13 s14 s15 s16 s17 s18 s19 s20 s21 s24 s25 : Slot) (nn wn : Int32) (vj xb : UInt64) (Nj : own_num vj) (Nb : own_num xb)
    (kk : ∀ (wn' : Int32), own_Aft X0 h0 Q 323 [s0, s1, s2, s3, zI nn, s5, s6, zD vj, zS, s9, s10, s11, s12, s13, s14, s15, s16, s17, s18, s19, s20, s21, zD xb, zS, s24, s25, zI wn'] []) : own_Go p.tables e below Q (T0.setTop (mkF m 306 (Array.mk [s0, s1, s2, s3, zI nn, s5, s6, zD vj, zS, s9, s10, s11, s12, s13, s14, s15, s16, s17, s18, s19, s20, s21, zD xb, zS, s24, s25, zI wn]) [])) := by
  by_cases hn : nn.toInt ≤ (1 : Int32).toInt
  · skip
    refine own_blk dec0 seq0 hby hx hZ hown hK hF 3 [true] [] X0 e0 ?_
    show ((nn).toInt ≤ ((1 : Int32)).toInt) ∧ own_Aft X0 h0 _ 323 [s0, s1, s2, s3, zI nn, s5, s6, zD vj, zS, s9, s10, s11, s12, s13, s14, s15, s16, s17, s18, s19, s20, s21, zD xb, zS, s24, s25, zI wn] []
    refine ⟨hn, fun T1 X1 eh1 => ?_⟩
    exact kk _ T1 X1 eh1
  · skip
    rcases Int.lt_or_le (own_z xb) (own_z vj) with q | q
    · skip
      refine own_blk dec0 seq0 hby hx hZ hown hK hF 7 [false, true] [] X0 e0 ?_
      show (¬ ((nn).toInt ≤ ((1 : Int32)).toInt)) ∧ (0 < (cmpValue (FP.dcmp vj xb) .g).toInt) ∧ own_Aft X0 h0 _ 323 [s0, s1, s2, s3, zI nn, s5, s6, zD vj, zS, s9, s10, s11, s12, s13, s14, s15, s16, s17, s18, s19, s20, s21, zD xb, zS, s24, s25, zI wn] []
      refine ⟨hn, own_ggt Nj Nb q, fun T2 X2 eh2 => ?_⟩
      exact kk _ T2 X2 eh2
    · skip
      refine own_blk dec0 seq0 hby hx hZ hown hK hF 9 [false, false] [] X0 e0 ?_
      show (¬ ((nn).toInt ≤ ((1 : Int32)).toInt)) ∧ (¬ (0 < (cmpValue (FP.dcmp vj xb) .g).toInt)) ∧ own_Aft X0 h0 _ 323 [s0, s1, s2, s3, zI nn, s5, s6, zD vj, zS, s9, s10, s11, s12, s13, s14, s15, s16, s17, s18, s19, s20, s21, zD xb, zS, s24, s25, zI 1] []
      refine ⟨hn, by have := own_gle (k := .g) Nj Nb q; omega, fun T3 X3 eh3 => ?_⟩
      exact kk _ T3 X3 eh3
set_option maxRecDepth 65536 in
set_option maxHeartbeats 40000000 in
theorem rm0 (l : Launch) (Z : State) (a0 : Array Value) (hw : ∀ d ∈ tables_1, d.before a0 Z = true) (ws : List Jvm.Cond) (pk : Int64) (sz bs : Int32) (h0 : Heap) (n0 : Nat) (Z0 : n0 ≤ h0.size)  :
    MetFree l x (head1 (Jvm.Cond.code x code maxLocals ret :: ws) room_1) (fun as_ U => as_ = #[.long pk, .int sz, .int bs] ∧ Z.Warmed39 U.vm ∧ U.heap = h0) (fun _ _ _ _ _ => True) (fun _ U o U' => own_Fin U 16 128 (fun v h L => v = some (.int 1) ∧ Fr n0 L) o U') := by
  refine own_body pf0 (ls0 := [.val (.long pk), .second, .val (.int sz), .val (.int bs), .unset, .unset, .unset, .unset, .unset, .unset, .unset, .unset, .unset, .unset, .unset, .unset, .unset, .unset, .unset, .unset, .unset, .unset, .unset, .unset, .unset, .unset, .unset]) (fun m => by first | (simp [entryFrame, mkF, argsToLocals, Value.category, maxLocals]; done) | rfl) ?_
  intro p e s m below meth c T0 hx hby hml hown hnm hlk hret hZ X0 e0
  have hK := hKt0 hw; have hF := hFt0 hw
  have N0 := Fr.nil n0
  have s1 := own_and32 sz 15 (by decide)
  have s2 := own_rem_pos s1.1 (b := 9) (by decide)
  have s3 : (9 : Int32).toInt = 9 := rfl
  refine own_blk dec0 seq0 hby hx hZ hown hK hF 8 [] [.int 15, .int 9] X0 e0 ?_
  show ((Int8.ofInt 15).toInt32 = (15 : Int32)) ∧ ((Int8.ofInt 9).toInt32 = (9 : Int32)) ∧ ((9 : Int32) ≠ 0) ∧ own_Aft X0 h0 _ 11 [zL pk, zS, zI sz, zI bs, zI ((sz &&& (15 : Int32)) % (9 : Int32)), zU, zU, zU, zU, zU, zU, zU, zU, zU, zU, zU, zU, zU, zU, zU, zU, zU, zU, zU, zU, zU, zU] [.int 0, .long pk]
  refine ⟨by decide +kernel, by decide +kernel, by decide, fun T1 X1 eh1 => ?_⟩
  generalize (sz &&& (15 : Int32)) % (9 : Int32) = nn at s2 ⊢
  show own_Go p.tables e below _ (T1.setTop (mkF m 11 (Array.mk [zL pk, zS, zI sz, zI bs, zI nn, zU, zU, zU, zU, zU, zU, zU, zU, zU, zU, zU, zU, zU, zU, zU, zU, zU, zU, zU, zU, zU, zU]) [.int 0, .long pk]))
  refine own_callSP X1 hx hZ hown (hw _ (wm 0 rfl)) (hw _ (wm 1 rfl)) (hw _ (wm 2 rfl)) (hw _ (wm 3 rfl)) (by decide) eh1 [.long pk, .int 0] pd1 rfl (fr := 0) (lo := 0) (rm1 l Z a0 hw [] pk (0 : Int32) h0 n0 Z0) (by rw [hml]; rfl) 0 rfl (Nat.le_of_eq rfl) (hb hby at_11) (by decide) (by decide) (by decide) (by decide) (fun T2 rv2 X2 eh2 qc2 => ?_)
  obtain ⟨y0, rfl⟩ := qc2
  show own_Go p.tables e below _ (T2.setTop (mkF m 14 (Array.mk [zL pk, zS, zI sz, zI bs, zI nn, zU, zU, zU, zU, zU, zU, zU, zU, zU, zU, zU, zU, zU, zU, zU, zU, zU, zU, zU, zU, zU, zU]) [.double (FP.i2d y0)]))
  have Nv0 : own_num (FP.i2d y0) := own_fin_num (own_D.i2d y0).1
  generalize FP.i2d y0 = v0 at Nv0 ⊢
  show own_Go p.tables e below _ (T2.setTop (mkF m 14 (Array.mk [zL pk, zS, zI sz, zI bs, zI nn, zU, zU, zU, zU, zU, zU, zU, zU, zU, zU, zU, zU, zU, zU, zU, zU, zU, zU, zU, zU, zU, zU]) [.double v0]))
  refine own_blk dec0 seq0 hby hx hZ hown hK hF 3 [] [] X2 eh2 ?_
  show own_Aft X2 h0 _ 18 [zL pk, zS, zI sz, zI bs, zI nn, zD v0, zS, zU, zU, zU, zU, zU, zU, zU, zU, zU, zU, zU, zU, zU, zU, zU, zU, zU, zU, zU, zU] [.int 1, .long pk]
  refine fun T3 X3 eh3 => ?_
  refine own_callSP X3 hx hZ hown (hw _ (wm 0 rfl)) (hw _ (wm 1 rfl)) (hw _ (wm 2 rfl)) (hw _ (wm 3 rfl)) (by decide) eh3 [.long pk, .int 1] pd1 rfl (fr := 0) (lo := 0) (rm1 l Z a0 hw [] pk (1 : Int32) h0 n0 Z0) (by rw [hml]; rfl) 0 rfl (Nat.le_of_eq rfl) (hb hby at_18) (by decide) (by decide) (by decide) (by decide) (fun T4 rv4 X4 eh4 qc4 => ?_)
  obtain ⟨y1, rfl⟩ := qc4
  show own_Go p.tables e below _ (T4.setTop (mkF m 21 (Array.mk [zL pk, zS, zI sz, zI bs, zI nn, zD v0, zS, zU, zU, zU, zU, zU, zU, zU, zU, zU, zU, zU, zU, zU, zU, zU, zU, zU, zU, zU, zU]) [.double (FP.i2d y1)]))
  have Nv1 : own_num (FP.i2d y1) := own_fin_num (own_D.i2d y1).1
  generalize FP.i2d y1 = v1 at Nv1 ⊢
  show own_Go p.tables e below _ (T4.setTop (mkF m 21 (Array.mk [zL pk, zS, zI sz, zI bs, zI nn, zD v0, zS, zU, zU, zU, zU, zU, zU, zU, zU, zU, zU, zU, zU, zU, zU, zU, zU, zU, zU, zU, zU]) [.double v1]))
  refine own_blk dec0 seq0 hby hx hZ hown hK hF 3 [] [] X4 eh4 ?_
  show own_Aft X4 h0 _ 25 [zL pk, zS, zI sz, zI bs, zI nn, zD v0, zS, zD v1, zS, zU, zU, zU, zU, zU, zU, zU, zU, zU, zU, zU, zU, zU, zU, zU, zU, zU, zU] [.int 2, .long pk]
  refine fun T5 X5 eh5 => ?_
  refine own_callSP X5 hx hZ hown (hw _ (wm 0 rfl)) (hw _ (wm 1 rfl)) (hw _ (wm 2 rfl)) (hw _ (wm 3 rfl)) (by decide) eh5 [.long pk, .int 2] pd1 rfl (fr := 0) (lo := 0) (rm1 l Z a0 hw [] pk (2 : Int32) h0 n0 Z0) (by rw [hml]; rfl) 0 rfl (Nat.le_of_eq rfl) (hb hby at_25) (by decide) (by decide) (by decide) (by decide) (fun T6 rv6 X6 eh6 qc6 => ?_)
  obtain ⟨y2, rfl⟩ := qc6
  show own_Go p.tables e below _ (T6.setTop (mkF m 28 (Array.mk [zL pk, zS, zI sz, zI bs, zI nn, zD v0, zS, zD v1, zS, zU, zU, zU, zU, zU, zU, zU, zU, zU, zU, zU, zU, zU, zU, zU, zU, zU, zU]) [.double (FP.i2d y2)]))
  have Nv2 : own_num (FP.i2d y2) := own_fin_num (own_D.i2d y2).1
  generalize FP.i2d y2 = v2 at Nv2 ⊢
  show own_Go p.tables e below _ (T6.setTop (mkF m 28 (Array.mk [zL pk, zS, zI sz, zI bs, zI nn, zD v0, zS, zD v1, zS, zU, zU, zU, zU, zU, zU, zU, zU, zU, zU, zU, zU, zU, zU, zU, zU, zU, zU]) [.double v2]))
  refine own_blk dec0 seq0 hby hx hZ hown hK hF 3 [] [] X6 eh6 ?_
  show own_Aft X6 h0 _ 32 [zL pk, zS, zI sz, zI bs, zI nn, zD v0, zS, zD v1, zS, zD v2, zS, zU, zU, zU, zU, zU, zU, zU, zU, zU, zU, zU, zU, zU, zU, zU, zU] [.int 3, .long pk]
  refine fun T7 X7 eh7 => ?_
  refine own_callSP X7 hx hZ hown (hw _ (wm 0 rfl)) (hw _ (wm 1 rfl)) (hw _ (wm 2 rfl)) (hw _ (wm 3 rfl)) (by decide) eh7 [.long pk, .int 3] pd1 rfl (fr := 0) (lo := 0) (rm1 l Z a0 hw [] pk (3 : Int32) h0 n0 Z0) (by rw [hml]; rfl) 0 rfl (Nat.le_of_eq rfl) (hb hby at_32) (by decide) (by decide) (by decide) (by decide) (fun T8 rv8 X8 eh8 qc8 => ?_)
  obtain ⟨y3, rfl⟩ := qc8
  show own_Go p.tables e below _ (T8.setTop (mkF m 35 (Array.mk [zL pk, zS, zI sz, zI bs, zI nn, zD v0, zS, zD v1, zS, zD v2, zS, zU, zU, zU, zU, zU, zU, zU, zU, zU, zU, zU, zU, zU, zU, zU, zU]) [.double (FP.i2d y3)]))
  have Nv3 : own_num (FP.i2d y3) := own_fin_num (own_D.i2d y3).1
  generalize FP.i2d y3 = v3 at Nv3 ⊢
  show own_Go p.tables e below _ (T8.setTop (mkF m 35 (Array.mk [zL pk, zS, zI sz, zI bs, zI nn, zD v0, zS, zD v1, zS, zD v2, zS, zU, zU, zU, zU, zU, zU, zU, zU, zU, zU, zU, zU, zU, zU, zU, zU]) [.double v3]))
  refine own_blk dec0 seq0 hby hx hZ hown hK hF 3 [] [] X8 eh8 ?_
  show own_Aft X8 h0 _ 39 [zL pk, zS, zI sz, zI bs, zI nn, zD v0, zS, zD v1, zS, zD v2, zS, zD v3, zS, zU, zU, zU, zU, zU, zU, zU, zU, zU, zU, zU, zU, zU, zU] [.int 4, .long pk]
  refine fun T9 X9 eh9 => ?_
  refine own_callSP X9 hx hZ hown (hw _ (wm 0 rfl)) (hw _ (wm 1 rfl)) (hw _ (wm 2 rfl)) (hw _ (wm 3 rfl)) (by decide) eh9 [.long pk, .int 4] pd1 rfl (fr := 0) (lo := 0) (rm1 l Z a0 hw [] pk (4 : Int32) h0 n0 Z0) (by rw [hml]; rfl) 0 rfl (Nat.le_of_eq rfl) (hb hby at_39) (by decide) (by decide) (by decide) (by decide) (fun T10 rv10 X10 eh10 qc10 => ?_)
  obtain ⟨y4, rfl⟩ := qc10
  show own_Go p.tables e below _ (T10.setTop (mkF m 42 (Array.mk [zL pk, zS, zI sz, zI bs, zI nn, zD v0, zS, zD v1, zS, zD v2, zS, zD v3, zS, zU, zU, zU, zU, zU, zU, zU, zU, zU, zU, zU, zU, zU, zU]) [.double (FP.i2d y4)]))
  have Nv4 : own_num (FP.i2d y4) := own_fin_num (own_D.i2d y4).1
  generalize FP.i2d y4 = v4 at Nv4 ⊢
  show own_Go p.tables e below _ (T10.setTop (mkF m 42 (Array.mk [zL pk, zS, zI sz, zI bs, zI nn, zD v0, zS, zD v1, zS, zD v2, zS, zD v3, zS, zU, zU, zU, zU, zU, zU, zU, zU, zU, zU, zU, zU, zU, zU]) [.double v4]))
  refine own_blk dec0 seq0 hby hx hZ hown hK hF 3 [] [] X10 eh10 ?_
  show own_Aft X10 h0 _ 46 [zL pk, zS, zI sz, zI bs, zI nn, zD v0, zS, zD v1, zS, zD v2, zS, zD v3, zS, zD v4, zS, zU, zU, zU, zU, zU, zU, zU, zU, zU, zU, zU, zU] [.int 5, .long pk]
  refine fun T11 X11 eh11 => ?_
  refine own_callSP X11 hx hZ hown (hw _ (wm 0 rfl)) (hw _ (wm 1 rfl)) (hw _ (wm 2 rfl)) (hw _ (wm 3 rfl)) (by decide) eh11 [.long pk, .int 5] pd1 rfl (fr := 0) (lo := 0) (rm1 l Z a0 hw [] pk (5 : Int32) h0 n0 Z0) (by rw [hml]; rfl) 0 rfl (Nat.le_of_eq rfl) (hb hby at_46) (by decide) (by decide) (by decide) (by decide) (fun T12 rv12 X12 eh12 qc12 => ?_)
  obtain ⟨y5, rfl⟩ := qc12
  show own_Go p.tables e below _ (T12.setTop (mkF m 49 (Array.mk [zL pk, zS, zI sz, zI bs, zI nn, zD v0, zS, zD v1, zS, zD v2, zS, zD v3, zS, zD v4, zS, zU, zU, zU, zU, zU, zU, zU, zU, zU, zU, zU, zU]) [.double (FP.i2d y5)]))
  have Nv5 : own_num (FP.i2d y5) := own_fin_num (own_D.i2d y5).1
  generalize FP.i2d y5 = v5 at Nv5 ⊢
  show own_Go p.tables e below _ (T12.setTop (mkF m 49 (Array.mk [zL pk, zS, zI sz, zI bs, zI nn, zD v0, zS, zD v1, zS, zD v2, zS, zD v3, zS, zD v4, zS, zU, zU, zU, zU, zU, zU, zU, zU, zU, zU, zU, zU]) [.double v5]))
  refine own_blk dec0 seq0 hby hx hZ hown hK hF 3 [] [.int 6] X12 eh12 ?_
  show ((Int8.ofInt 6).toInt32 = (6 : Int32)) ∧ own_Aft X12 h0 _ 54 [zL pk, zS, zI sz, zI bs, zI nn, zD v0, zS, zD v1, zS, zD v2, zS, zD v3, zS, zD v4, zS, zD v5, zS, zU, zU, zU, zU, zU, zU, zU, zU, zU, zU] [.int 6, .long pk]
  refine ⟨by decide +kernel, fun T13 X13 eh13 => ?_⟩
  refine own_callSP X13 hx hZ hown (hw _ (wm 0 rfl)) (hw _ (wm 1 rfl)) (hw _ (wm 2 rfl)) (hw _ (wm 3 rfl)) (by decide) eh13 [.long pk, .int 6] pd1 rfl (fr := 0) (lo := 0) (rm1 l Z a0 hw [] pk (6 : Int32) h0 n0 Z0) (by rw [hml]; rfl) 0 rfl (Nat.le_of_eq rfl) (hb hby at_54) (by decide) (by decide) (by decide) (by decide) (fun T14 rv14 X14 eh14 qc14 => ?_)
  obtain ⟨y6, rfl⟩ := qc14
  show own_Go p.tables e below _ (T14.setTop (mkF m 57 (Array.mk [zL pk, zS, zI sz, zI bs, zI nn, zD v0, zS, zD v1, zS, zD v2, zS, zD v3, zS, zD v4, zS, zD v5, zS, zU, zU, zU, zU, zU, zU, zU, zU, zU, zU]) [.double (FP.i2d y6)]))
  have Nv6 : own_num (FP.i2d y6) := own_fin_num (own_D.i2d y6).1
  generalize FP.i2d y6 = v6 at Nv6 ⊢
  show own_Go p.tables e below _ (T14.setTop (mkF m 57 (Array.mk [zL pk, zS, zI sz, zI bs, zI nn, zD v0, zS, zD v1, zS, zD v2, zS, zD v3, zS, zD v4, zS, zD v5, zS, zU, zU, zU, zU, zU, zU, zU, zU, zU, zU]) [.double v6]))
  refine own_blk dec0 seq0 hby hx hZ hown hK hF 3 [] [.int 7] X14 eh14 ?_
  show ((Int8.ofInt 7).toInt32 = (7 : Int32)) ∧ own_Aft X14 h0 _ 62 [zL pk, zS, zI sz, zI bs, zI nn, zD v0, zS, zD v1, zS, zD v2, zS, zD v3, zS, zD v4, zS, zD v5, zS, zD v6, zS, zU, zU, zU, zU, zU, zU, zU, zU] [.int 7, .long pk]
  refine ⟨by decide +kernel, fun T15 X15 eh15 => ?_⟩
  refine own_callSP X15 hx hZ hown (hw _ (wm 0 rfl)) (hw _ (wm 1 rfl)) (hw _ (wm 2 rfl)) (hw _ (wm 3 rfl)) (by decide) eh15 [.long pk, .int 7] pd1 rfl (fr := 0) (lo := 0) (rm1 l Z a0 hw [] pk (7 : Int32) h0 n0 Z0) (by rw [hml]; rfl) 0 rfl (Nat.le_of_eq rfl) (hb hby at_62) (by decide) (by decide) (by decide) (by decide) (fun T16 rv16 X16 eh16 qc16 => ?_)
  obtain ⟨y7, rfl⟩ := qc16
  show own_Go p.tables e below _ (T16.setTop (mkF m 65 (Array.mk [zL pk, zS, zI sz, zI bs, zI nn, zD v0, zS, zD v1, zS, zD v2, zS, zD v3, zS, zD v4, zS, zD v5, zS, zD v6, zS, zU, zU, zU, zU, zU, zU, zU, zU]) [.double (FP.i2d y7)]))
  have Nv7 : own_num (FP.i2d y7) := own_fin_num (own_D.i2d y7).1
  generalize FP.i2d y7 = v7 at Nv7 ⊢
  show own_Go p.tables e below _ (T16.setTop (mkF m 65 (Array.mk [zL pk, zS, zI sz, zI bs, zI nn, zD v0, zS, zD v1, zS, zD v2, zS, zD v3, zS, zD v4, zS, zD v5, zS, zD v6, zS, zU, zU, zU, zU, zU, zU, zU, zU]) [.double v7]))
  refine own_blk dec0 seq0 hby hx hZ hown hK hF 1 [] [] X16 eh16 ?_
  show own_Aft X16 h0 _ 67 [zL pk, zS, zI sz, zI bs, zI nn, zD v0, zS, zD v1, zS, zD v2, zS, zD v3, zS, zD v4, zS, zD v5, zS, zD v6, zS, zD v7, zS, zU, zU, zU, zU, zU, zU] []
  refine fun T17 X17 eh17 => ?_
  obtain hn | hn | hn | hn | hn | hn | hn | hn | hn : nn.toInt = (0 : Int32).toInt ∨ nn.toInt = (1 : Int32).toInt ∨ nn.toInt = (2 : Int32).toInt ∨ nn.toInt = (3 : Int32).toInt ∨ nn.toInt = (4 : Int32).toInt ∨ nn.toInt = (5 : Int32).toInt ∨ nn.toInt = (6 : Int32).toInt ∨ nn.toInt = (7 : Int32).toInt ∨ nn.toInt = (8 : Int32).toInt := by show nn.toInt = 0 ∨ nn.toInt = 1 ∨ nn.toInt = 2 ∨ nn.toInt = 3 ∨ nn.toInt = 4 ∨ nn.toInt = 5 ∨ nn.toInt = 6 ∨ nn.toInt = 7 ∨ nn.toInt = 8; omega
  · skip
    obtain rfl : nn = (0 : Int32) := Int32.toInt_inj.mp hn
    show own_Go p.tables e below _ (T17.setTop (mkF m 67 (Array.mk [zL pk, zS, zI sz, zI bs, zI 0, zD v0, zS, zD v1, zS, zD v2, zS, zD v3, zS, zD v4, zS, zD v5, zS, zD v6, zS, zD v7, zS, zU, zU, zU, zU, zU, zU]) []))
    refine own_blk dec0 seq0 hby hx hZ hown hK hF 1 [] [] X17 eh17 ?_
    show own_Aft X17 h0 _ 69 [zL pk, zS, zI sz, zI bs, zI 0, zD v0, zS, zD v1, zS, zD v2, zS, zD v3, zS, zD v4, zS, zD v5, zS, zD v6, zS, zD v7, zS, zU, zU, zU, zU, zU, zU] [.int 0]
    refine fun T18 X18 eh18 => ?_
    refine own_newP X18 hx hZ (hw _ (wm 4 rfl)) eh18 0 rfl (cap := 0) (by decide) (by decide) (hb hby at_69) (by decide) (by decide) (fun T19 hp19 va ga19 X19 eh19 Ex19 Ar19 => ?_)
    have nw_va : n0 ≤ va := by rw [ga19]; exact Z0
    have Z_19 : n0 ≤ hp19.size := Nat.le_trans Z0 Ex19.1
    have Ar19' : own_A Z hp19 va .double [] := Ar19
    show own_Go p.tables e below _ (T19.setTop (mkF m 71 (Array.mk [zL pk, zS, zI sz, zI bs, zI 0, zD v0, zS, zD v1, zS, zD v2, zS, zD v3, zS, zD v4, zS, zD v5, zS, zD v6, zS, zD v7, zS, zU, zU, zU, zU, zU, zU]) [.ref va]))
    refine own_blk dec0 seq0 hby hx hZ hown hK hF 24 [true, true, true, true, true, true, true, true] [.int 6, .int 7] X19 eh19 ?_
    show (((0 : Int32)).toInt ≤ 0) ∧ (((0 : Int32)).toInt ≤ ((1 : Int32)).toInt) ∧ (((0 : Int32)).toInt ≤ ((2 : Int32)).toInt) ∧ (((0 : Int32)).toInt ≤ ((3 : Int32)).toInt) ∧ (((0 : Int32)).toInt ≤ ((4 : Int32)).toInt) ∧ (((0 : Int32)).toInt ≤ ((5 : Int32)).toInt) ∧ ((Int8.ofInt 6).toInt32 = (6 : Int32)) ∧ (((0 : Int32)).toInt ≤ ((6 : Int32)).toInt) ∧ ((Int8.ofInt 7).toInt32 = (7 : Int32)) ∧ (((0 : Int32)).toInt ≤ ((7 : Int32)).toInt) ∧ own_Aft X19 hp19 _ 172 [zL pk, zS, zI sz, zI bs, zI 0, zD v0, zS, zD v1, zS, zD v2, zS, zD v3, zS, zD v4, zS, zD v5, zS, zD v6, zS, zD v7, zS, zA va, zU, zU, zU, zU, zU] []
    refine ⟨by decide, by decide, by decide, by decide, by decide, by decide, by decide +kernel, by decide, by decide +kernel, by decide, fun T20 X20 eh20 => ?_⟩
    refine own_blk dec0 seq0 hby hx hZ hown hK hF 4 [] [] X20 eh20 ?_
    show own_Aft X20 hp19 _ 177 [zL pk, zS, zI sz, zI bs, zI 0, zD v0, zS, zD v1, zS, zD v2, zS, zD v3, zS, zD v4, zS, zD v5, zS, zD v6, zS, zD v7, zS, zA va, zD (FP.i2d bs.toInt8.toInt32), zS, zU, zU, zU] []
    refine fun T21 X21 eh21 => ?_
    have Nxb : own_num (FP.i2d bs.toInt8.toInt32) := own_fin_num (own_D.i2d _).1
    have hI := own_i2d_inf (bs.toInt8.toInt32)
    generalize FP.i2d bs.toInt8.toInt32 = xb at Nxb hI ⊢
    show own_Go p.tables e below _ (T21.setTop (mkF m 177 (Array.mk [zL pk, zS, zI sz, zI bs, zI 0, zD v0, zS, zD v1, zS, zD v2, zS, zD v3, zS, zD v4, zS, zD v5, zS, zD v6, zS, zD v7, zS, zA va, zD xb, zS, zU, zU, zU]) []))
    refine own_new X21 hx hZ hown (hw _ (wm 5 rfl)) (hw _ (wm 6 rfl)) (hw _ (wm 7 rfl)) eh21 (hb hby at_177) (by decide) (by decide) (fun T22 hp22 ao ga22 X22 eh22 Ex22 Ea22 Dn22 => ?_)
    have ne_va_ao : va ≠ ao := fun q => absurd Ar19'.lt (by rw [q, ga22]; exact Nat.lt_irrefl _)
    have nw_ao : n0 ≤ ao := by rw [ga22]; exact Z_19
    have Ar19'_22 := Ar19'.ext Ex22
    have Z_22 : n0 ≤ hp22.size := Nat.le_trans Z_19 Ex22.1
    have Fn22_values : Fld Z hp22 ao "com/example/binwright/binwright/binning/LeastTree" "values" "[D" (.null) := Dn22 (Or.inr (hw _ (wm 15 rfl))) (ty := (.array .double)) (by decide)
    have Fn22_leaves : Fld Z hp22 ao "com/example/binwright/binwright/binning/LeastTree" "leaves" "I" (.int 0) := Dn22 (Or.inr (hw _ (wm 30 rfl))) (ty := .int) (by decide)
    have Fn22_least : Fld Z hp22 ao "com/example/binwright/binwright/binning/LeastTree" "least" "[D" (.null) := Dn22 (Or.inr (hw _ (wm 32 rfl))) (ty := (.array .double)) (by decide)
    show own_Go p.tables e below _ (T22.setTop (mkF m 180 (Array.mk [zL pk, zS, zI sz, zI bs, zI 0, zD v0, zS, zD v1, zS, zD v2, zS, zD v3, zS, zD v4, zS, zD v5, zS, zD v6, zS, zD v7, zS, zA va, zD xb, zS, zU, zU, zU]) [.ref ao]))
    refine own_blk dec0 seq0 hby hx hZ hown hK hF 2 [] [] X22 eh22 ?_
    show own_Aft X22 hp22 _ 183 [zL pk, zS, zI sz, zI bs, zI 0, zD v0, zS, zD v1, zS, zD v2, zS, zD v3, zS, zD v4, zS, zD v5, zS, zD v6, zS, zD v7, zS, zA va, zD xb, zS, zU, zU, zU] [.ref va, .ref ao, .ref ao]
    refine fun T23 X23 eh23 => ?_
    refine own_callI X23 hx hZ hown rfl (hw _ (wm 8 rfl)) (hw _ (wm 9 rfl)) (hw _ (wm 7 rfl)) (hw _ (wm 10 rfl)) (by decide) eh23 ao [.ref va] pd2 rfl (rm := ({ frames := 3, cells := 1, slots := 2, locals := 64 } : Room)) (rm2_0 l Z a0 hw [] ao va  hp22 n0 Z_22 Ea22 nw_ao ne_va_ao Fn22_values Fn22_leaves Fn22_least Ar19'_22 ) (by rw [hml]; rfl) 1 rfl (Nat.le_of_eq rfl) (hb hby at_183) (by decide) (by decide) (by decide) (by decide) (fun T24 rv24 Lc24 X24 qc24 => ?_)
    obtain ⟨rfl, M1, EX, la, F1, F2, F3, Av, Al⟩ := qc24
    have N1_ := Fr.app N0 M1
    have Zz1 : n0 ≤ T24.heap.size := Nat.le_trans nw_ao (Nat.le_of_lt EX.lt)
    show own_Go p.tables e below _ (T24.setTop (mkF m 186 (Array.mk [zL pk, zS, zI sz, zI bs, zI 0, zD v0, zS, zD v1, zS, zD v2, zS, zD v3, zS, zD v4, zS, zD v5, zS, zD v6, zS, zD v7, zS, zA va, zD xb, zS, zU, zU, zU]) [.ref ao]))
    refine own_blk dec0 seq0 hby hx hZ hown hK hF 3 [] [] X24 rfl ?_
    show own_Aft X24 T24.heap _ 192 [zL pk, zS, zI sz, zI bs, zI 0, zD v0, zS, zD v1, zS, zD v2, zS, zD v3, zS, zD v4, zS, zD v5, zS, zD v6, zS, zD v7, zS, zA va, zD xb, zS, zA ao, zU, zU] [.double xb, .ref ao]
    refine fun T25 X25 eh25 => ?_
    refine own_callVP X25 hx hZ hown (hw _ (wm 50 rfl)) (hw _ (wm 51 rfl)) (hw _ (wm 53 rfl)) (hw _ (wm 52 rfl)) (hw _ (wm 7 rfl)) (hw _ (wm 54 rfl)) (by decide) eh25 EX [.double xb] pd11 rfl (fr := 1) (lo := 24) (rm11_0 l Z a0 hw [] ao la va  xb T24.heap n0 Zz1 EX F1 F2 F3 Al Av  Nxb) (by rw [hml]; rfl) 0 rfl (Nat.le_of_eq rfl) (hb hby at_192) (by decide) (by decide) (by decide) (by decide) (fun T26 rv26 X26 eh26 qc26 => ?_)
    obtain ⟨got, rfl, hp⟩ := qc26
    show own_Go p.tables e below _ (T26.setTop (mkF m 195 (Array.mk [zL pk, zS, zI sz, zI bs, zI 0, zD v0, zS, zD v1, zS, zD v2, zS, zD v3, zS, zD v4, zS, zD v5, zS, zD v6, zS, zD v7, zS, zA va, zD xb, zS, zA ao, zU, zU]) [.int got]))
    have hq := own_first_0  xb got  hI hp
    obtain rfl := hq
    show own_Go p.tables e below _ (T26.setTop (mkF m 195 (Array.mk [zL pk, zS, zI sz, zI bs, zI 0, zD v0, zS, zD v1, zS, zD v2, zS, zD v3, zS, zD v4, zS, zD v5, zS, zD v6, zS, zD v7, zS, zA va, zD xb, zS, zA ao, zU, zU]) [.int (-1)]))
    refine own_blk dec0 seq0 hby hx hZ hown hK hF 31 [true, true, true, true, true, true, true, true, false] [.int 7, .int 6] X26 eh26 ?_
    show ((Int8.ofInt 7).toInt32 = (7 : Int32)) ∧ (((0 : Int32)).toInt ≤ ((7 : Int32)).toInt) ∧ ((Int8.ofInt 6).toInt32 = (6 : Int32)) ∧ (((0 : Int32)).toInt ≤ ((6 : Int32)).toInt) ∧ (((0 : Int32)).toInt ≤ ((5 : Int32)).toInt) ∧ (((0 : Int32)).toInt ≤ ((4 : Int32)).toInt) ∧ (((0 : Int32)).toInt ≤ ((3 : Int32)).toInt) ∧ (((0 : Int32)).toInt ≤ ((2 : Int32)).toInt) ∧ (((0 : Int32)).toInt ≤ ((1 : Int32)).toInt) ∧ (((0 : Int32)).toInt ≤ 0) ∧ (¬ (((-1 : Int32)).toInt ≠ ((-1 : Int32)).toInt)) ∧ own_Aft X26 T24.heap _ 351 [zL pk, zS, zI sz, zI bs, zI 0, zD v0, zS, zD v1, zS, zD v2, zS, zD v3, zS, zD v4, zS, zD v5, zS, zD v6, zS, zD v7, zS, zA va, zD xb, zS, zA ao, zI (-1), zI (-1)] [.int 1]
    refine ⟨by decide +kernel, by decide, by decide +kernel, by decide, by decide, by decide, by decide, by decide, by decide, by decide, by decide, fun T27 X27 eh27 => ?_⟩
    exact own_ret X27 hx hlk eh27 hret (by first | rfl | decide) (Or.inl ⟨rfl, by simp, _, rfl⟩) (hb hby at_351) (by decide) (by decide) (⟨rfl, N1_⟩)
  · skip
    obtain rfl : nn = (1 : Int32) := Int32.toInt_inj.mp hn
    show own_Go p.tables e below _ (T17.setTop (mkF m 67 (Array.mk [zL pk, zS, zI sz, zI bs, zI 1, zD v0, zS, zD v1, zS, zD v2, zS, zD v3, zS, zD v4, zS, zD v5, zS, zD v6, zS, zD v7, zS, zU, zU, zU, zU, zU, zU]) []))
    refine own_blk dec0 seq0 hby hx hZ hown hK hF 1 [] [] X17 eh17 ?_
    show own_Aft X17 h0 _ 69 [zL pk, zS, zI sz, zI bs, zI 1, zD v0, zS, zD v1, zS, zD v2, zS, zD v3, zS, zD v4, zS, zD v5, zS, zD v6, zS, zD v7, zS, zU, zU, zU, zU, zU, zU] [.int 1]
    refine fun T28 X28 eh28 => ?_
    refine own_newP X28 hx hZ (hw _ (wm 4 rfl)) eh28 1 rfl (cap := 1) (by decide) (by decide) (hb hby at_69) (by decide) (by decide) (fun T29 hp29 va ga29 X29 eh29 Ex29 Ar29 => ?_)
    have nw_va : n0 ≤ va := by rw [ga29]; exact Z0
    have Z_29 : n0 ≤ hp29.size := Nat.le_trans Z0 Ex29.1
    have Ar29' : own_A Z hp29 va .double [.double 0] := Ar29
    show own_Go p.tables e below _ (T29.setTop (mkF m 71 (Array.mk [zL pk, zS, zI sz, zI bs, zI 1, zD v0, zS, zD v1, zS, zD v2, zS, zD v3, zS, zD v4, zS, zD v5, zS, zD v6, zS, zD v7, zS, zU, zU, zU, zU, zU, zU]) [.ref va]))
    refine own_blk dec0 seq0 hby hx hZ hown hK hF 6 [false] [] X29 eh29 ?_
    show (¬ (((1 : Int32)).toInt ≤ 0)) ∧ own_Aft X29 hp29 _ 83 [zL pk, zS, zI sz, zI bs, zI 1, zD v0, zS, zD v1, zS, zD v2, zS, zD v3, zS, zD v4, zS, zD v5, zS, zD v6, zS, zD v7, zS, zA va, zU, zU, zU, zU, zU] [.double v0, .int 0, .ref va]
    refine ⟨by decide, fun T30 X30 eh30 => ?_⟩
    refine own_sD X30 hx hZ eh30 Ar29' 0 rfl (by show 0 < 1; decide) (hb hby at_83) (fun T31 hp31 X31 eh31 Wr31 Ar31 => ?_)
    have Ar31' : own_A Z hp31 va .double [.double v0] := Ar31
    have Nf31 := Fr.snoc X31 N0 nw_va
    have Z_31 : n0 ≤ hp31.size := by rw [Wr.size Wr31]; exact Z_29
    refine own_blk dec0 seq0 hby hx hZ hown hK hF 21 [true, true, true, true, true, true, true] [.int 6, .int 7] X31 eh31 ?_
    show (((1 : Int32)).toInt ≤ ((1 : Int32)).toInt) ∧ (((1 : Int32)).toInt ≤ ((2 : Int32)).toInt) ∧ (((1 : Int32)).toInt ≤ ((3 : Int32)).toInt) ∧ (((1 : Int32)).toInt ≤ ((4 : Int32)).toInt) ∧ (((1 : Int32)).toInt ≤ ((5 : Int32)).toInt) ∧ ((Int8.ofInt 6).toInt32 = (6 : Int32)) ∧ (((1 : Int32)).toInt ≤ ((6 : Int32)).toInt) ∧ ((Int8.ofInt 7).toInt32 = (7 : Int32)) ∧ (((1 : Int32)).toInt ≤ ((7 : Int32)).toInt) ∧ own_Aft X31 hp31 _ 172 [zL pk, zS, zI sz, zI bs, zI 1, zD v0, zS, zD v1, zS, zD v2, zS, zD v3, zS, zD v4, zS, zD v5, zS, zD v6, zS, zD v7, zS, zA va, zU, zU, zU, zU, zU] []
    refine ⟨by decide, by decide, by decide, by decide, by decide, by decide +kernel, by decide, by decide +kernel, by decide, fun T32 X32 eh32 => ?_⟩
    refine own_blk dec0 seq0 hby hx hZ hown hK hF 4 [] [] X32 eh32 ?_
    show own_Aft X32 hp31 _ 177 [zL pk, zS, zI sz, zI bs, zI 1, zD v0, zS, zD v1, zS, zD v2, zS, zD v3, zS, zD v4, zS, zD v5, zS, zD v6, zS, zD v7, zS, zA va, zD (FP.i2d bs.toInt8.toInt32), zS, zU, zU, zU] []
    refine fun T33 X33 eh33 => ?_
    have Nxb : own_num (FP.i2d bs.toInt8.toInt32) := own_fin_num (own_D.i2d _).1
    have hI := own_i2d_inf (bs.toInt8.toInt32)
    generalize FP.i2d bs.toInt8.toInt32 = xb at Nxb hI ⊢
    show own_Go p.tables e below _ (T33.setTop (mkF m 177 (Array.mk [zL pk, zS, zI sz, zI bs, zI 1, zD v0, zS, zD v1, zS, zD v2, zS, zD v3, zS, zD v4, zS, zD v5, zS, zD v6, zS, zD v7, zS, zA va, zD xb, zS, zU, zU, zU]) []))
    refine own_new X33 hx hZ hown (hw _ (wm 5 rfl)) (hw _ (wm 6 rfl)) (hw _ (wm 7 rfl)) eh33 (hb hby at_177) (by decide) (by decide) (fun T34 hp34 ao ga34 X34 eh34 Ex34 Ea34 Dn34 => ?_)
    have ne_va_ao : va ≠ ao := fun q => absurd Ar31'.lt (by rw [q, ga34]; exact Nat.lt_irrefl _)
    have nw_ao : n0 ≤ ao := by rw [ga34]; exact Z_31
    have Ar31'_34 := Ar31'.ext Ex34
    have Z_34 : n0 ≤ hp34.size := Nat.le_trans Z_31 Ex34.1
    have Fn34_values : Fld Z hp34 ao "com/example/binwright/binwright/binning/LeastTree" "values" "[D" (.null) := Dn34 (Or.inr (hw _ (wm 15 rfl))) (ty := (.array .double)) (by decide)
    have Fn34_leaves : Fld Z hp34 ao "com/example/binwright/binwright/binning/LeastTree" "leaves" "I" (.int 0) := Dn34 (Or.inr (hw _ (wm 30 rfl))) (ty := .int) (by decide)
    have Fn34_least : Fld Z hp34 ao "com/example/binwright/binwright/binning/LeastTree" "least" "[D" (.null) := Dn34 (Or.inr (hw _ (wm 32 rfl))) (ty := (.array .double)) (by decide)
    show own_Go p.tables e below _ (T34.setTop (mkF m 180 (Array.mk [zL pk, zS, zI sz, zI bs, zI 1, zD v0, zS, zD v1, zS, zD v2, zS, zD v3, zS, zD v4, zS, zD v5, zS, zD v6, zS, zD v7, zS, zA va, zD xb, zS, zU, zU, zU]) [.ref ao]))
    refine own_blk dec0 seq0 hby hx hZ hown hK hF 2 [] [] X34 eh34 ?_
    show own_Aft X34 hp34 _ 183 [zL pk, zS, zI sz, zI bs, zI 1, zD v0, zS, zD v1, zS, zD v2, zS, zD v3, zS, zD v4, zS, zD v5, zS, zD v6, zS, zD v7, zS, zA va, zD xb, zS, zU, zU, zU] [.ref va, .ref ao, .ref ao]
    refine fun T35 X35 eh35 => ?_
    refine own_callI X35 hx hZ hown rfl (hw _ (wm 8 rfl)) (hw _ (wm 9 rfl)) (hw _ (wm 7 rfl)) (hw _ (wm 10 rfl)) (by decide) eh35 ao [.ref va] pd2 rfl (rm := ({ frames := 3, cells := 1, slots := 2, locals := 64 } : Room)) (rm2_1 l Z a0 hw [] ao va v0 hp34 n0 Z_34 Ea34 nw_ao ne_va_ao Fn34_values Fn34_leaves Fn34_least Ar31'_34 Nv0) (by rw [hml]; rfl) 1 rfl (Nat.le_of_eq rfl) (hb hby at_183) (by decide) (by decide) (by decide) (by decide) (fun T36 rv36 Lc36 X36 qc36 => ?_)
    obtain ⟨rfl, M1, EX, la, F1, F2, F3, Av, r1, Al, Hr1⟩ := qc36
    have N1_ := Fr.app Nf31 M1
    have Zz1 : n0 ≤ T36.heap.size := Nat.le_trans nw_ao (Nat.le_of_lt EX.lt)
    show own_Go p.tables e below _ (T36.setTop (mkF m 186 (Array.mk [zL pk, zS, zI sz, zI bs, zI 1, zD v0, zS, zD v1, zS, zD v2, zS, zD v3, zS, zD v4, zS, zD v5, zS, zD v6, zS, zD v7, zS, zA va, zD xb, zS, zU, zU, zU]) [.ref ao]))
    refine own_blk dec0 seq0 hby hx hZ hown hK hF 3 [] [] X36 rfl ?_
    show own_Aft X36 T36.heap _ 192 [zL pk, zS, zI sz, zI bs, zI 1, zD v0, zS, zD v1, zS, zD v2, zS, zD v3, zS, zD v4, zS, zD v5, zS, zD v6, zS, zD v7, zS, zA va, zD xb, zS, zA ao, zU, zU] [.double xb, .ref ao]
    refine fun T37 X37 eh37 => ?_
    refine own_callVP X37 hx hZ hown (hw _ (wm 50 rfl)) (hw _ (wm 51 rfl)) (hw _ (wm 53 rfl)) (hw _ (wm 52 rfl)) (hw _ (wm 7 rfl)) (hw _ (wm 54 rfl)) (by decide) eh37 EX [.double xb] pd11 rfl (fr := 1) (lo := 24) (rm11_1 l Z a0 hw [] ao la va v0 r1 xb T36.heap n0 Zz1 EX F1 F2 F3 Al Av Nv0 Hr1.1 Nxb) (by rw [hml]; rfl) 0 rfl (Nat.le_of_eq rfl) (hb hby at_192) (by decide) (by decide) (by decide) (by decide) (fun T38 rv38 X38 eh38 qc38 => ?_)
    obtain ⟨got, rfl, hp⟩ := qc38
    show own_Go p.tables e below _ (T38.setTop (mkF m 195 (Array.mk [zL pk, zS, zI sz, zI bs, zI 1, zD v0, zS, zD v1, zS, zD v2, zS, zD v3, zS, zD v4, zS, zD v5, zS, zD v6, zS, zD v7, zS, zA va, zD xb, zS, zA ao, zU, zU]) [.int got]))
    have hq := own_first_1 v0 r1 xb got Hr1 hI hp
    rcases hq with ⟨rfl, u0⟩ | ⟨rfl, u0⟩
    · skip
      show own_Go p.tables e below _ (T38.setTop (mkF m 195 (Array.mk [zL pk, zS, zI sz, zI bs, zI 1, zD v0, zS, zD v1, zS, zD v2, zS, zD v3, zS, zD v4, zS, zD v5, zS, zD v6, zS, zD v7, zS, zA va, zD xb, zS, zA ao, zU, zU]) [.int (-1)]))
      refine own_blk dec0 seq0 hby hx hZ hown hK hF 35 [true, true, true, true, true, true, true, false, true, false] [.int 7, .int 6] X38 eh38 ?_
      show ((Int8.ofInt 7).toInt32 = (7 : Int32)) ∧ (((1 : Int32)).toInt ≤ ((7 : Int32)).toInt) ∧ ((Int8.ofInt 6).toInt32 = (6 : Int32)) ∧ (((1 : Int32)).toInt ≤ ((6 : Int32)).toInt) ∧ (((1 : Int32)).toInt ≤ ((5 : Int32)).toInt) ∧ (((1 : Int32)).toInt ≤ ((4 : Int32)).toInt) ∧ (((1 : Int32)).toInt ≤ ((3 : Int32)).toInt) ∧ (((1 : Int32)).toInt ≤ ((2 : Int32)).toInt) ∧ (((1 : Int32)).toInt ≤ ((1 : Int32)).toInt) ∧ (¬ (((1 : Int32)).toInt ≤ 0)) ∧ (0 < (cmpValue (FP.dcmp v0 xb) .g).toInt) ∧ (¬ (((-1 : Int32)).toInt ≠ ((-1 : Int32)).toInt)) ∧ own_Aft X38 T36.heap _ 351 [zL pk, zS, zI sz, zI bs, zI 1, zD v0, zS, zD v1, zS, zD v2, zS, zD v3, zS, zD v4, zS, zD v5, zS, zD v6, zS, zD v7, zS, zA va, zD xb, zS, zA ao, zI (-1), zI (-1)] [.int 1]
      refine ⟨by decide +kernel, by decide, by decide +kernel, by decide, by decide, by decide, by decide, by decide, by decide, by decide, own_ggt Nv0 Nxb u0, by decide, fun T39 X39 eh39 => ?_⟩
      exact own_ret X39 hx hlk eh39 hret (by first | rfl | decide) (Or.inl ⟨rfl, by simp, _, rfl⟩) (hb hby at_351) (by decide) (by decide) (⟨rfl, N1_⟩)
    · skip
      show own_Go p.tables e below _ (T38.setTop (mkF m 195 (Array.mk [zL pk, zS, zI sz, zI bs, zI 1, zD v0, zS, zD v1, zS, zD v2, zS, zD v3, zS, zD v4, zS, zD v5, zS, zD v6, zS, zD v7, zS, zA va, zD xb, zS, zA ao, zU, zU]) [.int 0]))
      refine own_blk dec0 seq0 hby hx hZ hown hK hF 24 [true, true, true, true, true, true, true] [.int 7, .int 6] X38 eh38 ?_
      show ((Int8.ofInt 7).toInt32 = (7 : Int32)) ∧ (((1 : Int32)).toInt ≤ ((7 : Int32)).toInt) ∧ ((Int8.ofInt 6).toInt32 = (6 : Int32)) ∧ (((1 : Int32)).toInt ≤ ((6 : Int32)).toInt) ∧ (((1 : Int32)).toInt ≤ ((5 : Int32)).toInt) ∧ (((1 : Int32)).toInt ≤ ((4 : Int32)).toInt) ∧ (((1 : Int32)).toInt ≤ ((3 : Int32)).toInt) ∧ (((1 : Int32)).toInt ≤ ((2 : Int32)).toInt) ∧ (((1 : Int32)).toInt ≤ ((1 : Int32)).toInt) ∧ own_Aft X38 T36.heap _ 323 [zL pk, zS, zI sz, zI bs, zI 1, zD v0, zS, zD v1, zS, zD v2, zS, zD v3, zS, zD v4, zS, zD v5, zS, zD v6, zS, zD v7, zS, zA va, zD xb, zS, zA ao, zI 0, zI (-1)] []
      refine ⟨by decide +kernel, by decide, by decide +kernel, by decide, by decide, by decide, by decide, by decide, by decide, fun T40 X40 eh40 => ?_⟩
      refine own_blk dec0 seq0 hby hx hZ hown hK hF 13 [false, false, false] [] X40 eh40 ?_
      show (¬ (((1 : Int32)).toInt ≤ 0)) ∧ (¬ (0 < (cmpValue (FP.dcmp v0 xb) .g).toInt)) ∧ (¬ (((0 : Int32)).toInt ≠ ((0 : Int32)).toInt)) ∧ own_Aft X40 T36.heap _ 351 [zL pk, zS, zI sz, zI bs, zI 1, zD v0, zS, zD v1, zS, zD v2, zS, zD v3, zS, zD v4, zS, zD v5, zS, zD v6, zS, zD v7, zS, zA va, zD xb, zS, zA ao, zI 0, zI 0] [.int 1]
      refine ⟨by decide, by have := own_gle (k := .g) Nv0 Nxb u0; omega, by decide, fun T41 X41 eh41 => ?_⟩
      exact own_ret X41 hx hlk eh41 hret (by first | rfl | decide) (Or.inl ⟨rfl, by simp, _, rfl⟩) (hb hby at_351) (by decide) (by decide) (⟨rfl, N1_⟩)
  · skip
    obtain rfl : nn = (2 : Int32) := Int32.toInt_inj.mp hn
    show own_Go p.tables e below _ (T17.setTop (mkF m 67 (Array.mk [zL pk, zS, zI sz, zI bs, zI 2, zD v0, zS, zD v1, zS, zD v2, zS, zD v3, zS, zD v4, zS, zD v5, zS, zD v6, zS, zD v7, zS, zU, zU, zU, zU, zU, zU]) []))
    refine own_blk dec0 seq0 hby hx hZ hown hK hF 1 [] [] X17 eh17 ?_
    show own_Aft X17 h0 _ 69 [zL pk, zS, zI sz, zI bs, zI 2, zD v0, zS, zD v1, zS, zD v2, zS, zD v3, zS, zD v4, zS, zD v5, zS, zD v6, zS, zD v7, zS, zU, zU, zU, zU, zU, zU] [.int 2]
    refine fun T42 X42 eh42 => ?_
    refine own_newP X42 hx hZ (hw _ (wm 4 rfl)) eh42 2 rfl (cap := 2) (by decide) (by decide) (hb hby at_69) (by decide) (by decide) (fun T43 hp43 va ga43 X43 eh43 Ex43 Ar43 => ?_)
    have nw_va : n0 ≤ va := by rw [ga43]; exact Z0
    have Z_43 : n0 ≤ hp43.size := Nat.le_trans Z0 Ex43.1
    have Ar43' : own_A Z hp43 va .double [.double 0, .double 0] := Ar43
    show own_Go p.tables e below _ (T43.setTop (mkF m 71 (Array.mk [zL pk, zS, zI sz, zI bs, zI 2, zD v0, zS, zD v1, zS, zD v2, zS, zD v3, zS, zD v4, zS, zD v5, zS, zD v6, zS, zD v7, zS, zU, zU, zU, zU, zU, zU]) [.ref va]))
    refine own_blk dec0 seq0 hby hx hZ hown hK hF 6 [false] [] X43 eh43 ?_
    show (¬ (((2 : Int32)).toInt ≤ 0)) ∧ own_Aft X43 hp43 _ 83 [zL pk, zS, zI sz, zI bs, zI 2, zD v0, zS, zD v1, zS, zD v2, zS, zD v3, zS, zD v4, zS, zD v5, zS, zD v6, zS, zD v7, zS, zA va, zU, zU, zU, zU, zU] [.double v0, .int 0, .ref va]
    refine ⟨by decide, fun T44 X44 eh44 => ?_⟩
    refine own_sD X44 hx hZ eh44 Ar43' 0 rfl (by show 0 < 2; decide) (hb hby at_83) (fun T45 hp45 X45 eh45 Wr45 Ar45 => ?_)
    have Ar45' : own_A Z hp45 va .double [.double v0, .double 0] := Ar45
    have Nf45 := Fr.snoc X45 N0 nw_va
    have Z_45 : n0 ≤ hp45.size := by rw [Wr.size Wr45]; exact Z_43
    refine own_blk dec0 seq0 hby hx hZ hown hK hF 6 [false] [] X45 eh45 ?_
    show (¬ (((2 : Int32)).toInt ≤ ((1 : Int32)).toInt)) ∧ own_Aft X45 hp45 _ 95 [zL pk, zS, zI sz, zI bs, zI 2, zD v0, zS, zD v1, zS, zD v2, zS, zD v3, zS, zD v4, zS, zD v5, zS, zD v6, zS, zD v7, zS, zA va, zU, zU, zU, zU, zU] [.double v1, .int 1, .ref va]
    refine ⟨by decide, fun T46 X46 eh46 => ?_⟩
    refine own_sD X46 hx hZ eh46 Ar45' 1 rfl (by show 1 < 2; decide) (hb hby at_95) (fun T47 hp47 X47 eh47 Wr47 Ar47 => ?_)
    have Ar47' : own_A Z hp47 va .double [.double v0, .double v1] := Ar47
    have Nf47 := Fr.snoc X47 Nf45 nw_va
    have Z_47 : n0 ≤ hp47.size := by rw [Wr.size Wr47]; exact Z_45
    refine own_blk dec0 seq0 hby hx hZ hown hK hF 18 [true, true, true, true, true, true] [.int 6, .int 7] X47 eh47 ?_
    show (((2 : Int32)).toInt ≤ ((2 : Int32)).toInt) ∧ (((2 : Int32)).toInt ≤ ((3 : Int32)).toInt) ∧ (((2 : Int32)).toInt ≤ ((4 : Int32)).toInt) ∧ (((2 : Int32)).toInt ≤ ((5 : Int32)).toInt) ∧ ((Int8.ofInt 6).toInt32 = (6 : Int32)) ∧ (((2 : Int32)).toInt ≤ ((6 : Int32)).toInt) ∧ ((Int8.ofInt 7).toInt32 = (7 : Int32)) ∧ (((2 : Int32)).toInt ≤ ((7 : Int32)).toInt) ∧ own_Aft X47 hp47 _ 172 [zL pk, zS, zI sz, zI bs, zI 2, zD v0, zS, zD v1, zS, zD v2, zS, zD v3, zS, zD v4, zS, zD v5, zS, zD v6, zS, zD v7, zS, zA va, zU, zU, zU, zU, zU] []
    refine ⟨by decide, by decide, by decide, by decide, by decide +kernel, by decide, by decide +kernel, by decide, fun T48 X48 eh48 => ?_⟩
    refine own_blk dec0 seq0 hby hx hZ hown hK hF 4 [] [] X48 eh48 ?_
    show own_Aft X48 hp47 _ 177 [zL pk, zS, zI sz, zI bs, zI 2, zD v0, zS, zD v1, zS, zD v2, zS, zD v3, zS, zD v4, zS, zD v5, zS, zD v6, zS, zD v7, zS, zA va, zD (FP.i2d bs.toInt8.toInt32), zS, zU, zU, zU] []
    refine fun T49 X49 eh49 => ?_
    have Nxb : own_num (FP.i2d bs.toInt8.toInt32) := own_fin_num (own_D.i2d _).1
    have hI := own_i2d_inf (bs.toInt8.toInt32)
    generalize FP.i2d bs.toInt8.toInt32 = xb at Nxb hI ⊢
    show own_Go p.tables e below _ (T49.setTop (mkF m 177 (Array.mk [zL pk, zS, zI sz, zI bs, zI 2, zD v0, zS, zD v1, zS, zD v2, zS, zD v3, zS, zD v4, zS, zD v5, zS, zD v6, zS, zD v7, zS, zA va, zD xb, zS, zU, zU, zU]) []))
    refine own_new X49 hx hZ hown (hw _ (wm 5 rfl)) (hw _ (wm 6 rfl)) (hw _ (wm 7 rfl)) eh49 (hb hby at_177) (by decide) (by decide) (fun T50 hp50 ao ga50 X50 eh50 Ex50 Ea50 Dn50 => ?_)
    have ne_va_ao : va ≠ ao := fun q => absurd Ar47'.lt (by rw [q, ga50]; exact Nat.lt_irrefl _)
    have nw_ao : n0 ≤ ao := by rw [ga50]; exact Z_47
    have Ar47'_50 := Ar47'.ext Ex50
    have Z_50 : n0 ≤ hp50.size := Nat.le_trans Z_47 Ex50.1
    have Fn50_values : Fld Z hp50 ao "com/example/binwright/binwright/binning/LeastTree" "values" "[D" (.null) := Dn50 (Or.inr (hw _ (wm 15 rfl))) (ty := (.array .double)) (by decide)
    have Fn50_leaves : Fld Z hp50 ao "com/example/binwright/binwright/binning/LeastTree" "leaves" "I" (.int 0) := Dn50 (Or.inr (hw _ (wm 30 rfl))) (ty := .int) (by decide)
    have Fn50_least : Fld Z hp50 ao "com/example/binwright/binwright/binning/LeastTree" "least" "[D" (.null) := Dn50 (Or.inr (hw _ (wm 32 rfl))) (ty := (.array .double)) (by decide)
    show own_Go p.tables e below _ (T50.setTop (mkF m 180 (Array.mk [zL pk, zS, zI sz, zI bs, zI 2, zD v0, zS, zD v1, zS, zD v2, zS, zD v3, zS, zD v4, zS, zD v5, zS, zD v6, zS, zD v7, zS, zA va, zD xb, zS, zU, zU, zU]) [.ref ao]))
    refine own_blk dec0 seq0 hby hx hZ hown hK hF 2 [] [] X50 eh50 ?_
    show own_Aft X50 hp50 _ 183 [zL pk, zS, zI sz, zI bs, zI 2, zD v0, zS, zD v1, zS, zD v2, zS, zD v3, zS, zD v4, zS, zD v5, zS, zD v6, zS, zD v7, zS, zA va, zD xb, zS, zU, zU, zU] [.ref va, .ref ao, .ref ao]
    refine fun T51 X51 eh51 => ?_
    refine own_callI X51 hx hZ hown rfl (hw _ (wm 8 rfl)) (hw _ (wm 9 rfl)) (hw _ (wm 7 rfl)) (hw _ (wm 10 rfl)) (by decide) eh51 ao [.ref va] pd2 rfl (rm := ({ frames := 3, cells := 1, slots := 2, locals := 64 } : Room)) (rm2_2 l Z a0 hw [] ao va v0 v1 hp50 n0 Z_50 Ea50 nw_ao ne_va_ao Fn50_values Fn50_leaves Fn50_least Ar47'_50 Nv0 Nv1) (by rw [hml]; rfl) 1 rfl (Nat.le_of_eq rfl) (hb hby at_183) (by decide) (by decide) (by decide) (by decide) (fun T52 rv52 Lc52 X52 qc52 => ?_)
    obtain ⟨rfl, M1, EX, la, F1, F2, F3, Av, r1, Al, Hr1⟩ := qc52
    have N1_ := Fr.app Nf47 M1
    have Zz1 : n0 ≤ T52.heap.size := Nat.le_trans nw_ao (Nat.le_of_lt EX.lt)
    show own_Go p.tables e below _ (T52.setTop (mkF m 186 (Array.mk [zL pk, zS, zI sz, zI bs, zI 2, zD v0, zS, zD v1, zS, zD v2, zS, zD v3, zS, zD v4, zS, zD v5, zS, zD v6, zS, zD v7, zS, zA va, zD xb, zS, zU, zU, zU]) [.ref ao]))
    refine own_blk dec0 seq0 hby hx hZ hown hK hF 3 [] [] X52 rfl ?_
    show own_Aft X52 T52.heap _ 192 [zL pk, zS, zI sz, zI bs, zI 2, zD v0, zS, zD v1, zS, zD v2, zS, zD v3, zS, zD v4, zS, zD v5, zS, zD v6, zS, zD v7, zS, zA va, zD xb, zS, zA ao, zU, zU] [.double xb, .ref ao]
    refine fun T53 X53 eh53 => ?_
    refine own_callVP X53 hx hZ hown (hw _ (wm 50 rfl)) (hw _ (wm 51 rfl)) (hw _ (wm 53 rfl)) (hw _ (wm 52 rfl)) (hw _ (wm 7 rfl)) (hw _ (wm 54 rfl)) (by decide) eh53 EX [.double xb] pd11 rfl (fr := 1) (lo := 24) (rm11_2 l Z a0 hw [] ao la va v0 v1 r1 xb T52.heap n0 Zz1 EX F1 F2 F3 Al Av Nv0 Nv1 Hr1.1 Nxb) (by rw [hml]; rfl) 0 rfl (Nat.le_of_eq rfl) (hb hby at_192) (by decide) (by decide) (by decide) (by decide) (fun T54 rv54 X54 eh54 qc54 => ?_)
    obtain ⟨got, rfl, hp⟩ := qc54
    show own_Go p.tables e below _ (T54.setTop (mkF m 195 (Array.mk [zL pk, zS, zI sz, zI bs, zI 2, zD v0, zS, zD v1, zS, zD v2, zS, zD v3, zS, zD v4, zS, zD v5, zS, zD v6, zS, zD v7, zS, zA va, zD xb, zS, zA ao, zU, zU]) [.int got]))
    have hq := own_first_2 v0 v1 r1 xb got Hr1 hI hp
    rcases hq with ⟨rfl, u0, u1⟩ | ⟨rfl, u0⟩ | ⟨rfl, u1, u0⟩
    · skip
      show own_Go p.tables e below _ (T54.setTop (mkF m 195 (Array.mk [zL pk, zS, zI sz, zI bs, zI 2, zD v0, zS, zD v1, zS, zD v2, zS, zD v3, zS, zD v4, zS, zD v5, zS, zD v6, zS, zD v7, zS, zA va, zD xb, zS, zA ao, zU, zU]) [.int (-1)]))
      refine own_blk dec0 seq0 hby hx hZ hown hK hF 39 [true, true, true, true, true, true, false, true, false, true, false] [.int 7, .int 6] X54 eh54 ?_
      show ((Int8.ofInt 7).toInt32 = (7 : Int32)) ∧ (((2 : Int32)).toInt ≤ ((7 : Int32)).toInt) ∧ ((Int8.ofInt 6).toInt32 = (6 : Int32)) ∧ (((2 : Int32)).toInt ≤ ((6 : Int32)).toInt) ∧ (((2 : Int32)).toInt ≤ ((5 : Int32)).toInt) ∧ (((2 : Int32)).toInt ≤ ((4 : Int32)).toInt) ∧ (((2 : Int32)).toInt ≤ ((3 : Int32)).toInt) ∧ (((2 : Int32)).toInt ≤ ((2 : Int32)).toInt) ∧ (¬ (((2 : Int32)).toInt ≤ ((1 : Int32)).toInt)) ∧ (0 < (cmpValue (FP.dcmp v1 xb) .g).toInt) ∧ (¬ (((2 : Int32)).toInt ≤ 0)) ∧ (0 < (cmpValue (FP.dcmp v0 xb) .g).toInt) ∧ (¬ (((-1 : Int32)).toInt ≠ ((-1 : Int32)).toInt)) ∧ own_Aft X54 T52.heap _ 351 [zL pk, zS, zI sz, zI bs, zI 2, zD v0, zS, zD v1, zS, zD v2, zS, zD v3, zS, zD v4, zS, zD v5, zS, zD v6, zS, zD v7, zS, zA va, zD xb, zS, zA ao, zI (-1), zI (-1)] [.int 1]
      refine ⟨by decide +kernel, by decide, by decide +kernel, by decide, by decide, by decide, by decide, by decide, by decide, own_ggt Nv1 Nxb u1, by decide, own_ggt Nv0 Nxb u0, by decide, fun T55 X55 eh55 => ?_⟩
      exact own_ret X55 hx hlk eh55 hret (by first | rfl | decide) (Or.inl ⟨rfl, by simp, _, rfl⟩) (hb hby at_351) (by decide) (by decide) (⟨rfl, N1_⟩)
    · skip
      show own_Go p.tables e below _ (T54.setTop (mkF m 195 (Array.mk [zL pk, zS, zI sz, zI bs, zI 2, zD v0, zS, zD v1, zS, zD v2, zS, zD v3, zS, zD v4, zS, zD v5, zS, zD v6, zS, zD v7, zS, zA va, zD xb, zS, zA ao, zU, zU]) [.int 0]))
      refine own_blk dec0 seq0 hby hx hZ hown hK hF 21 [true, true, true, true, true, true] [.int 7, .int 6] X54 eh54 ?_
      show ((Int8.ofInt 7).toInt32 = (7 : Int32)) ∧ (((2 : Int32)).toInt ≤ ((7 : Int32)).toInt) ∧ ((Int8.ofInt 6).toInt32 = (6 : Int32)) ∧ (((2 : Int32)).toInt ≤ ((6 : Int32)).toInt) ∧ (((2 : Int32)).toInt ≤ ((5 : Int32)).toInt) ∧ (((2 : Int32)).toInt ≤ ((4 : Int32)).toInt) ∧ (((2 : Int32)).toInt ≤ ((3 : Int32)).toInt) ∧ (((2 : Int32)).toInt ≤ ((2 : Int32)).toInt) ∧ own_Aft X54 T52.heap _ 306 [zL pk, zS, zI sz, zI bs, zI 2, zD v0, zS, zD v1, zS, zD v2, zS, zD v3, zS, zD v4, zS, zD v5, zS, zD v6, zS, zD v7, zS, zA va, zD xb, zS, zA ao, zI 0, zI (-1)] []
      refine ⟨by decide +kernel, by decide, by decide +kernel, by decide, by decide, by decide, by decide, by decide, fun T56 X56 eh56 => ?_⟩
      refine skip_1 X56 hx hby hml hown hZ hK hF eh56 _ _ _ _ _ _ _ _ _ _ _ _ _ _ _ _ _ _ _ _ _ (2 : Int32) (-1 : Int32) v1 xb Nv1 Nxb (fun wn1 T57 X57 eh57 => ?_)
      refine own_blk dec0 seq0 hby hx hZ hown hK hF 13 [false, false, false] [] X57 eh57 ?_
      show (¬ (((2 : Int32)).toInt ≤ 0)) ∧ (¬ (0 < (cmpValue (FP.dcmp v0 xb) .g).toInt)) ∧ (¬ (((0 : Int32)).toInt ≠ ((0 : Int32)).toInt)) ∧ own_Aft X57 T52.heap _ 351 [zL pk, zS, zI sz, zI bs, zI 2, zD v0, zS, zD v1, zS, zD v2, zS, zD v3, zS, zD v4, zS, zD v5, zS, zD v6, zS, zD v7, zS, zA va, zD xb, zS, zA ao, zI 0, zI 0] [.int 1]
      refine ⟨by decide, by have := own_gle (k := .g) Nv0 Nxb u0; omega, by decide, fun T58 X58 eh58 => ?_⟩
      exact own_ret X58 hx hlk eh58 hret (by first | rfl | decide) (Or.inl ⟨rfl, by simp, _, rfl⟩) (hb hby at_351) (by decide) (by decide) (⟨rfl, N1_⟩)
    · skip
      show own_Go p.tables e below _ (T54.setTop (mkF m 195 (Array.mk [zL pk, zS, zI sz, zI bs, zI 2, zD v0, zS, zD v1, zS, zD v2, zS, zD v3, zS, zD v4, zS, zD v5, zS, zD v6, zS, zD v7, zS, zA va, zD xb, zS, zA ao, zU, zU]) [.int 1]))
      refine own_blk dec0 seq0 hby hx hZ hown hK hF 21 [true, true, true, true, true, true] [.int 7, .int 6] X54 eh54 ?_
      show ((Int8.ofInt 7).toInt32 = (7 : Int32)) ∧ (((2 : Int32)).toInt ≤ ((7 : Int32)).toInt) ∧ ((Int8.ofInt 6).toInt32 = (6 : Int32)) ∧ (((2 : Int32)).toInt ≤ ((6 : Int32)).toInt) ∧ (((2 : Int32)).toInt ≤ ((5 : Int32)).toInt) ∧ (((2 : Int32)).toInt ≤ ((4 : Int32)).toInt) ∧ (((2 : Int32)).toInt ≤ ((3 : Int32)).toInt) ∧ (((2 : Int32)).toInt ≤ ((2 : Int32)).toInt) ∧ own_Aft X54 T52.heap _ 306 [zL pk, zS, zI sz, zI bs, zI 2, zD v0, zS, zD v1, zS, zD v2, zS, zD v3, zS, zD v4, zS, zD v5, zS, zD v6, zS, zD v7, zS, zA va, zD xb, zS, zA ao, zI 1, zI (-1)] []
      refine ⟨by decide +kernel, by decide, by decide +kernel, by decide, by decide, by decide, by decide, by decide, fun T59 X59 eh59 => ?_⟩
      refine own_blk dec0 seq0 hby hx hZ hown hK hF 20 [false, false, false, true, false] [] X59 eh59 ?_
      show (¬ (((2 : Int32)).toInt ≤ ((1 : Int32)).toInt)) ∧ (¬ (0 < (cmpValue (FP.dcmp v1 xb) .g).toInt)) ∧ (¬ (((2 : Int32)).toInt ≤ 0)) ∧ (0 < (cmpValue (FP.dcmp v0 xb) .g).toInt) ∧ (¬ (((1 : Int32)).toInt ≠ ((1 : Int32)).toInt)) ∧ own_Aft X59 T52.heap _ 351 [zL pk, zS, zI sz, zI bs, zI 2, zD v0, zS, zD v1, zS, zD v2, zS, zD v3, zS, zD v4, zS, zD v5, zS, zD v6, zS, zD v7, zS, zA va, zD xb, zS, zA ao, zI 1, zI 1] [.int 1]
      refine ⟨by decide, by have := own_gle (k := .g) Nv1 Nxb u1; omega, by decide, own_ggt Nv0 Nxb u0, by decide, fun T60 X60 eh60 => ?_⟩
      exact own_ret X60 hx hlk eh60 hret (by first | rfl | decide) (Or.inl ⟨rfl, by simp, _, rfl⟩) (hb hby at_351) (by decide) (by decide) (⟨rfl, N1_⟩)
  · skip
    obtain rfl : nn = (3 : Int32) := Int32.toInt_inj.mp hn
    show own_Go p.tables e below _ (T17.setTop (mkF m 67 (Array.mk [zL pk, zS, zI sz, zI bs, zI 3, zD v0, zS, zD v1, zS, zD v2, zS, zD v3, zS, zD v4, zS, zD v5, zS, zD v6, zS, zD v7, zS, zU, zU, zU, zU, zU, zU]) []))
    refine own_blk dec0 seq0 hby hx hZ hown hK hF 1 [] [] X17 eh17 ?_
    show own_Aft X17 h0 _ 69 [zL pk, zS, zI sz, zI bs, zI 3, zD v0, zS, zD v1, zS, zD v2, zS, zD v3, zS, zD v4, zS, zD v5, zS, zD v6, zS, zD v7, zS, zU, zU, zU, zU, zU, zU] [.int 3]
    refine fun T61 X61 eh61 => ?_
    refine own_newP X61 hx hZ (hw _ (wm 4 rfl)) eh61 3 rfl (cap := 3) (by decide) (by decide) (hb hby at_69) (by decide) (by decide) (fun T62 hp62 va ga62 X62 eh62 Ex62 Ar62 => ?_)
    have nw_va : n0 ≤ va := by rw [ga62]; exact Z0
    have Z_62 : n0 ≤ hp62.size := Nat.le_trans Z0 Ex62.1
    have Ar62' : own_A Z hp62 va .double [.double 0, .double 0, .double 0] := Ar62
    show own_Go p.tables e below _ (T62.setTop (mkF m 71 (Array.mk [zL pk, zS, zI sz, zI bs, zI 3, zD v0, zS, zD v1, zS, zD v2, zS, zD v3, zS, zD v4, zS, zD v5, zS, zD v6, zS, zD v7, zS, zU, zU, zU, zU, zU, zU]) [.ref va]))
    refine own_blk dec0 seq0 hby hx hZ hown hK hF 6 [false] [] X62 eh62 ?_
    show (¬ (((3 : Int32)).toInt ≤ 0)) ∧ own_Aft X62 hp62 _ 83 [zL pk, zS, zI sz, zI bs, zI 3, zD v0, zS, zD v1, zS, zD v2, zS, zD v3, zS, zD v4, zS, zD v5, zS, zD v6, zS, zD v7, zS, zA va, zU, zU, zU, zU, zU] [.double v0, .int 0, .ref va]
    refine ⟨by decide, fun T63 X63 eh63 => ?_⟩
    refine own_sD X63 hx hZ eh63 Ar62' 0 rfl (by show 0 < 3; decide) (hb hby at_83) (fun T64 hp64 X64 eh64 Wr64 Ar64 => ?_)
    have Ar64' : own_A Z hp64 va .double [.double v0, .double 0, .double 0] := Ar64
    have Nf64 := Fr.snoc X64 N0 nw_va
    have Z_64 : n0 ≤ hp64.size := by rw [Wr.size Wr64]; exact Z_62
    refine own_blk dec0 seq0 hby hx hZ hown hK hF 6 [false] [] X64 eh64 ?_
    show (¬ (((3 : Int32)).toInt ≤ ((1 : Int32)).toInt)) ∧ own_Aft X64 hp64 _ 95 [zL pk, zS, zI sz, zI bs, zI 3, zD v0, zS, zD v1, zS, zD v2, zS, zD v3, zS, zD v4, zS, zD v5, zS, zD v6, zS, zD v7, zS, zA va, zU, zU, zU, zU, zU] [.double v1, .int 1, .ref va]
    refine ⟨by decide, fun T65 X65 eh65 => ?_⟩
    refine own_sD X65 hx hZ eh65 Ar64' 1 rfl (by show 1 < 3; decide) (hb hby at_95) (fun T66 hp66 X66 eh66 Wr66 Ar66 => ?_)
    have Ar66' : own_A Z hp66 va .double [.double v0, .double v1, .double 0] := Ar66
    have Nf66 := Fr.snoc X66 Nf64 nw_va
    have Z_66 : n0 ≤ hp66.size := by rw [Wr.size Wr66]; exact Z_64
    refine own_blk dec0 seq0 hby hx hZ hown hK hF 6 [false] [] X66 eh66 ?_
    show (¬ (((3 : Int32)).toInt ≤ ((2 : Int32)).toInt)) ∧ own_Aft X66 hp66 _ 107 [zL pk, zS, zI sz, zI bs, zI 3, zD v0, zS, zD v1, zS, zD v2, zS, zD v3, zS, zD v4, zS, zD v5, zS, zD v6, zS, zD v7, zS, zA va, zU, zU, zU, zU, zU] [.double v2, .int 2, .ref va]
    refine ⟨by decide, fun T67 X67 eh67 => ?_⟩
    refine own_sD X67 hx hZ eh67 Ar66' 2 rfl (by show 2 < 3; decide) (hb hby at_107) (fun T68 hp68 X68 eh68 Wr68 Ar68 => ?_)
    have Ar68' : own_A Z hp68 va .double [.double v0, .double v1, .double v2] := Ar68
    have Nf68 := Fr.snoc X68 Nf66 nw_va
    have Z_68 : n0 ≤ hp68.size := by rw [Wr.size Wr68]; exact Z_66
    refine own_blk dec0 seq0 hby hx hZ hown hK hF 15 [true, true, true, true, true] [.int 6, .int 7] X68 eh68 ?_
    show (((3 : Int32)).toInt ≤ ((3 : Int32)).toInt) ∧ (((3 : Int32)).toInt ≤ ((4 : Int32)).toInt) ∧ (((3 : Int32)).toInt ≤ ((5 : Int32)).toInt) ∧ ((Int8.ofInt 6).toInt32 = (6 : Int32)) ∧ (((3 : Int32)).toInt ≤ ((6 : Int32)).toInt) ∧ ((Int8.ofInt 7).toInt32 = (7 : Int32)) ∧ (((3 : Int32)).toInt ≤ ((7 : Int32)).toInt) ∧ own_Aft X68 hp68 _ 172 [zL pk, zS, zI sz, zI bs, zI 3, zD v0, zS, zD v1, zS, zD v2, zS, zD v3, zS, zD v4, zS, zD v5, zS, zD v6, zS, zD v7, zS, zA va, zU, zU, zU, zU, zU] []
    refine ⟨by decide, by decide, by decide, by decide +kernel, by decide, by decide +kernel, by decide, fun T69 X69 eh69 => ?_⟩
    refine own_blk dec0 seq0 hby hx hZ hown hK hF 4 [] [] X69 eh69 ?_
    show own_Aft X69 hp68 _ 177 [zL pk, zS, zI sz, zI bs, zI 3, zD v0, zS, zD v1, zS, zD v2, zS, zD v3, zS, zD v4, zS, zD v5, zS, zD v6, zS, zD v7, zS, zA va, zD (FP.i2d bs.toInt8.toInt32), zS, zU, zU, zU] []
    refine fun T70 X70 eh70 => ?_
    have Nxb : own_num (FP.i2d bs.toInt8.toInt32) := own_fin_num (own_D.i2d _).1
    have hI := own_i2d_inf (bs.toInt8.toInt32)
    generalize FP.i2d bs.toInt8.toInt32 = xb at Nxb hI ⊢
    show own_Go p.tables e below _ (T70.setTop (mkF m 177 (Array.mk [zL pk, zS, zI sz, zI bs, zI 3, zD v0, zS, zD v1, zS, zD v2, zS, zD v3, zS, zD v4, zS, zD v5, zS, zD v6, zS, zD v7, zS, zA va, zD xb, zS, zU, zU, zU]) []))
    refine own_new X70 hx hZ hown (hw _ (wm 5 rfl)) (hw _ (wm 6 rfl)) (hw _ (wm 7 rfl)) eh70 (hb hby at_177) (by decide) (by decide) (fun T71 hp71 ao ga71 X71 eh71 Ex71 Ea71 Dn71 => ?_)
    have ne_va_ao : va ≠ ao := fun q => absurd Ar68'.lt (by rw [q, ga71]; exact Nat.lt_irrefl _)
    have nw_ao : n0 ≤ ao := by rw [ga71]; exact Z_68
    have Ar68'_71 := Ar68'.ext Ex71
    have Z_71 : n0 ≤ hp71.size := Nat.le_trans Z_68 Ex71.1
    have Fn71_values : Fld Z hp71 ao "com/example/binwright/binwright/binning/LeastTree" "values" "[D" (.null) := Dn71 (Or.inr (hw _ (wm 15 rfl))) (ty := (.array .double)) (by decide)
    have Fn71_leaves : Fld Z hp71 ao "com/example/binwright/binwright/binning/LeastTree" "leaves" "I" (.int 0) := Dn71 (Or.inr (hw _ (wm 30 rfl))) (ty := .int) (by decide)
    have Fn71_least : Fld Z hp71 ao "com/example/binwright/binwright/binning/LeastTree" "least" "[D" (.null) := Dn71 (Or.inr (hw _ (wm 32 rfl))) (ty := (.array .double)) (by decide)
    show own_Go p.tables e below _ (T71.setTop (mkF m 180 (Array.mk [zL pk, zS, zI sz, zI bs, zI 3, zD v0, zS, zD v1, zS, zD v2, zS, zD v3, zS, zD v4, zS, zD v5, zS, zD v6, zS, zD v7, zS, zA va, zD xb, zS, zU, zU, zU]) [.ref ao]))
    refine own_blk dec0 seq0 hby hx hZ hown hK hF 2 [] [] X71 eh71 ?_
    show own_Aft X71 hp71 _ 183 [zL pk, zS, zI sz, zI bs, zI 3, zD v0, zS, zD v1, zS, zD v2, zS, zD v3, zS, zD v4, zS, zD v5, zS, zD v6, zS, zD v7, zS, zA va, zD xb, zS, zU, zU, zU] [.ref va, .ref ao, .ref ao]
    refine fun T72 X72 eh72 => ?_
    refine own_callI X72 hx hZ hown rfl (hw _ (wm 8 rfl)) (hw _ (wm 9 rfl)) (hw _ (wm 7 rfl)) (hw _ (wm 10 rfl)) (by decide) eh72 ao [.ref va] pd2 rfl (rm := ({ frames := 3, cells := 1, slots := 4, locals := 64 } : Room)) (rm2_3 l Z a0 hw [] ao va v0 v1 v2 hp71 n0 Z_71 Ea71 nw_ao ne_va_ao Fn71_values Fn71_leaves Fn71_least Ar68'_71 Nv0 Nv1 Nv2) (by rw [hml]; rfl) 1 rfl (Nat.le_of_eq rfl) (hb hby at_183) (by decide) (by decide) (by decide) (by decide) (fun T73 rv73 Lc73 X73 qc73 => ?_)
    obtain ⟨rfl, M1, EX, la, F1, F2, F3, Av, r2, r3, r1, Al, Hr2, Hr3, Hr1⟩ := qc73
    have N1_ := Fr.app Nf68 M1
    have Zz1 : n0 ≤ T73.heap.size := Nat.le_trans nw_ao (Nat.le_of_lt EX.lt)
    show own_Go p.tables e below _ (T73.setTop (mkF m 186 (Array.mk [zL pk, zS, zI sz, zI bs, zI 3, zD v0, zS, zD v1, zS, zD v2, zS, zD v3, zS, zD v4, zS, zD v5, zS, zD v6, zS, zD v7, zS, zA va, zD xb, zS, zU, zU, zU]) [.ref ao]))
    refine own_blk dec0 seq0 hby hx hZ hown hK hF 3 [] [] X73 rfl ?_
    show own_Aft X73 T73.heap _ 192 [zL pk, zS, zI sz, zI bs, zI 3, zD v0, zS, zD v1, zS, zD v2, zS, zD v3, zS, zD v4, zS, zD v5, zS, zD v6, zS, zD v7, zS, zA va, zD xb, zS, zA ao, zU, zU] [.double xb, .ref ao]
    refine fun T74 X74 eh74 => ?_
    refine own_callVP X74 hx hZ hown (hw _ (wm 50 rfl)) (hw _ (wm 51 rfl)) (hw _ (wm 53 rfl)) (hw _ (wm 52 rfl)) (hw _ (wm 7 rfl)) (hw _ (wm 54 rfl)) (by decide) eh74 EX [.double xb] pd11 rfl (fr := 1) (lo := 24) (rm11_3 l Z a0 hw [] ao la va v0 v1 v2 r1 r2 r3 xb T73.heap n0 Zz1 EX F1 F2 F3 Al Av Nv0 Nv1 Nv2 Hr1.1 Hr2.1 Hr3.1 Nxb) (by rw [hml]; rfl) 0 rfl (Nat.le_of_eq rfl) (hb hby at_192) (by decide) (by decide) (by decide) (by decide) (fun T75 rv75 X75 eh75 qc75 => ?_)
    obtain ⟨got, rfl, hp⟩ := qc75
    show own_Go p.tables e below _ (T75.setTop (mkF m 195 (Array.mk [zL pk, zS, zI sz, zI bs, zI 3, zD v0, zS, zD v1, zS, zD v2, zS, zD v3, zS, zD v4, zS, zD v5, zS, zD v6, zS, zD v7, zS, zA va, zD xb, zS, zA ao, zU, zU]) [.int got]))
    have hq := own_first_3 v0 v1 v2 r2 r3 r1 xb got Hr2 Hr3 Hr1 hI hp
    rcases hq with ⟨rfl, u0, u1, u2⟩ | ⟨rfl, u0⟩ | ⟨rfl, u1, u0⟩ | ⟨rfl, u2, u0, u1⟩
    · skip
      show own_Go p.tables e below _ (T75.setTop (mkF m 195 (Array.mk [zL pk, zS, zI sz, zI bs, zI 3, zD v0, zS, zD v1, zS, zD v2, zS, zD v3, zS, zD v4, zS, zD v5, zS, zD v6, zS, zD v7, zS, zA va, zD xb, zS, zA ao, zU, zU]) [.int (-1)]))
      refine own_blk dec0 seq0 hby hx hZ hown hK hF 43 [true, true, true, true, true, false, true, false, true, false, true, false] [.int 7, .int 6] X75 eh75 ?_
      show ((Int8.ofInt 7).toInt32 = (7 : Int32)) ∧ (((3 : Int32)).toInt ≤ ((7 : Int32)).toInt) ∧ ((Int8.ofInt 6).toInt32 = (6 : Int32)) ∧ (((3 : Int32)).toInt ≤ ((6 : Int32)).toInt) ∧ (((3 : Int32)).toInt ≤ ((5 : Int32)).toInt) ∧ (((3 : Int32)).toInt ≤ ((4 : Int32)).toInt) ∧ (((3 : Int32)).toInt ≤ ((3 : Int32)).toInt) ∧ (¬ (((3 : Int32)).toInt ≤ ((2 : Int32)).toInt)) ∧ (0 < (cmpValue (FP.dcmp v2 xb) .g).toInt) ∧ (¬ (((3 : Int32)).toInt ≤ ((1 : Int32)).toInt)) ∧ (0 < (cmpValue (FP.dcmp v1 xb) .g).toInt) ∧ (¬ (((3 : Int32)).toInt ≤ 0)) ∧ (0 < (cmpValue (FP.dcmp v0 xb) .g).toInt) ∧ (¬ (((-1 : Int32)).toInt ≠ ((-1 : Int32)).toInt)) ∧ own_Aft X75 T73.heap _ 351 [zL pk, zS, zI sz, zI bs, zI 3, zD v0, zS, zD v1, zS, zD v2, zS, zD v3, zS, zD v4, zS, zD v5, zS, zD v6, zS, zD v7, zS, zA va, zD xb, zS, zA ao, zI (-1), zI (-1)] [.int 1]
      refine ⟨by decide +kernel, by decide, by decide +kernel, by decide, by decide, by decide, by decide, by decide, own_ggt Nv2 Nxb u2, by decide, own_ggt Nv1 Nxb u1, by decide, own_ggt Nv0 Nxb u0, by decide, fun T76 X76 eh76 => ?_⟩
      exact own_ret X76 hx hlk eh76 hret (by first | rfl | decide) (Or.inl ⟨rfl, by simp, _, rfl⟩) (hb hby at_351) (by decide) (by decide) (⟨rfl, N1_⟩)
    · skip
      show own_Go p.tables e below _ (T75.setTop (mkF m 195 (Array.mk [zL pk, zS, zI sz, zI bs, zI 3, zD v0, zS, zD v1, zS, zD v2, zS, zD v3, zS, zD v4, zS, zD v5, zS, zD v6, zS, zD v7, zS, zA va, zD xb, zS, zA ao, zU, zU]) [.int 0]))
      refine own_blk dec0 seq0 hby hx hZ hown hK hF 18 [true, true, true, true, true] [.int 7, .int 6] X75 eh75 ?_
      show ((Int8.ofInt 7).toInt32 = (7 : Int32)) ∧ (((3 : Int32)).toInt ≤ ((7 : Int32)).toInt) ∧ ((Int8.ofInt 6).toInt32 = (6 : Int32)) ∧ (((3 : Int32)).toInt ≤ ((6 : Int32)).toInt) ∧ (((3 : Int32)).toInt ≤ ((5 : Int32)).toInt) ∧ (((3 : Int32)).toInt ≤ ((4 : Int32)).toInt) ∧ (((3 : Int32)).toInt ≤ ((3 : Int32)).toInt) ∧ own_Aft X75 T73.heap _ 289 [zL pk, zS, zI sz, zI bs, zI 3, zD v0, zS, zD v1, zS, zD v2, zS, zD v3, zS, zD v4, zS, zD v5, zS, zD v6, zS, zD v7, zS, zA va, zD xb, zS, zA ao, zI 0, zI (-1)] []
      refine ⟨by decide +kernel, by decide, by decide +kernel, by decide, by decide, by decide, by decide, fun T77 X77 eh77 => ?_⟩
      refine skip_2 X77 hx hby hml hown hZ hK hF eh77 _ _ _ _ _ _ _ _ _ _ _ _ _ _ _ _ _ _ _ _ _ (3 : Int32) (-1 : Int32) v2 xb Nv2 Nxb (fun wn2 T78 X78 eh78 => ?_)
      refine skip_1 X78 hx hby hml hown hZ hK hF eh78 _ _ _ _ _ _ _ _ _ _ _ _ _ _ _ _ _ _ _ _ _ (3 : Int32) wn2 v1 xb Nv1 Nxb (fun wn1 T79 X79 eh79 => ?_)
      refine own_blk dec0 seq0 hby hx hZ hown hK hF 13 [false, false, false] [] X79 eh79 ?_
      show (¬ (((3 : Int32)).toInt ≤ 0)) ∧ (¬ (0 < (cmpValue (FP.dcmp v0 xb) .g).toInt)) ∧ (¬ (((0 : Int32)).toInt ≠ ((0 : Int32)).toInt)) ∧ own_Aft X79 T73.heap _ 351 [zL pk, zS, zI sz, zI bs, zI 3, zD v0, zS, zD v1, zS, zD v2, zS, zD v3, zS, zD v4, zS, zD v5, zS, zD v6, zS, zD v7, zS, zA va, zD xb, zS, zA ao, zI 0, zI 0] [.int 1]
      refine ⟨by decide, by have := own_gle (k := .g) Nv0 Nxb u0; omega, by decide, fun T80 X80 eh80 => ?_⟩
      exact own_ret X80 hx hlk eh80 hret (by first | rfl | decide) (Or.inl ⟨rfl, by simp, _, rfl⟩) (hb hby at_351) (by decide) (by decide) (⟨rfl, N1_⟩)
    · skip
      show own_Go p.tables e below _ (T75.setTop (mkF m 195 (Array.mk [zL pk, zS, zI sz, zI bs, zI 3, zD v0, zS, zD v1, zS, zD v2, zS, zD v3, zS, zD v4, zS, zD v5, zS, zD v6, zS, zD v7, zS, zA va, zD xb, zS, zA ao, zU, zU]) [.int 1]))
      refine own_blk dec0 seq0 hby hx hZ hown hK hF 18 [true, true, true, true, true] [.int 7, .int 6] X75 eh75 ?_
      show ((Int8.ofInt 7).toInt32 = (7 : Int32)) ∧ (((3 : Int32)).toInt ≤ ((7 : Int32)).toInt) ∧ ((Int8.ofInt 6).toInt32 = (6 : Int32)) ∧ (((3 : Int32)).toInt ≤ ((6 : Int32)).toInt) ∧ (((3 : Int32)).toInt ≤ ((5 : Int32)).toInt) ∧ (((3 : Int32)).toInt ≤ ((4 : Int32)).toInt) ∧ (((3 : Int32)).toInt ≤ ((3 : Int32)).toInt) ∧ own_Aft X75 T73.heap _ 289 [zL pk, zS, zI sz, zI bs, zI 3, zD v0, zS, zD v1, zS, zD v2, zS, zD v3, zS, zD v4, zS, zD v5, zS, zD v6, zS, zD v7, zS, zA va, zD xb, zS, zA ao, zI 1, zI (-1)] []
      refine ⟨by decide +kernel, by decide, by decide +kernel, by decide, by decide, by decide, by decide, fun T81 X81 eh81 => ?_⟩
      refine skip_2 X81 hx hby hml hown hZ hK hF eh81 _ _ _ _ _ _ _ _ _ _ _ _ _ _ _ _ _ _ _ _ _ (3 : Int32) (-1 : Int32) v2 xb Nv2 Nxb (fun wn2 T82 X82 eh82 => ?_)
      refine own_blk dec0 seq0 hby hx hZ hown hK hF 20 [false, false, false, true, false] [] X82 eh82 ?_
      show (¬ (((3 : Int32)).toInt ≤ ((1 : Int32)).toInt)) ∧ (¬ (0 < (cmpValue (FP.dcmp v1 xb) .g).toInt)) ∧ (¬ (((3 : Int32)).toInt ≤ 0)) ∧ (0 < (cmpValue (FP.dcmp v0 xb) .g).toInt) ∧ (¬ (((1 : Int32)).toInt ≠ ((1 : Int32)).toInt)) ∧ own_Aft X82 T73.heap _ 351 [zL pk, zS, zI sz, zI bs, zI 3, zD v0, zS, zD v1, zS, zD v2, zS, zD v3, zS, zD v4, zS, zD v5, zS, zD v6, zS, zD v7, zS, zA va, zD xb, zS, zA ao, zI 1, zI 1] [.int 1]
      refine ⟨by decide, by have := own_gle (k := .g) Nv1 Nxb u1; omega, by decide, own_ggt Nv0 Nxb u0, by decide, fun T83 X83 eh83 => ?_⟩
      exact own_ret X83 hx hlk eh83 hret (by first | rfl | decide) (Or.inl ⟨rfl, by simp, _, rfl⟩) (hb hby at_351) (by decide) (by decide) (⟨rfl, N1_⟩)
    · skip
      show own_Go p.tables e below _ (T75.setTop (mkF m 195 (Array.mk [zL pk, zS, zI sz, zI bs, zI 3, zD v0, zS, zD v1, zS, zD v2, zS, zD v3, zS, zD v4, zS, zD v5, zS, zD v6, zS, zD v7, zS, zA va, zD xb, zS, zA ao, zU, zU]) [.int 2]))
      refine own_blk dec0 seq0 hby hx hZ hown hK hF 18 [true, true, true, true, true] [.int 7, .int 6] X75 eh75 ?_
      show ((Int8.ofInt 7).toInt32 = (7 : Int32)) ∧ (((3 : Int32)).toInt ≤ ((7 : Int32)).toInt) ∧ ((Int8.ofInt 6).toInt32 = (6 : Int32)) ∧ (((3 : Int32)).toInt ≤ ((6 : Int32)).toInt) ∧ (((3 : Int32)).toInt ≤ ((5 : Int32)).toInt) ∧ (((3 : Int32)).toInt ≤ ((4 : Int32)).toInt) ∧ (((3 : Int32)).toInt ≤ ((3 : Int32)).toInt) ∧ own_Aft X75 T73.heap _ 289 [zL pk, zS, zI sz, zI bs, zI 3, zD v0, zS, zD v1, zS, zD v2, zS, zD v3, zS, zD v4, zS, zD v5, zS, zD v6, zS, zD v7, zS, zA va, zD xb, zS, zA ao, zI 2, zI (-1)] []
      refine ⟨by decide +kernel, by decide, by decide +kernel, by decide, by decide, by decide, by decide, fun T84 X84 eh84 => ?_⟩
      refine own_blk dec0 seq0 hby hx hZ hown hK hF 27 [false, false, false, true, false, true, false] [] X84 eh84 ?_
      show (¬ (((3 : Int32)).toInt ≤ ((2 : Int32)).toInt)) ∧ (¬ (0 < (cmpValue (FP.dcmp v2 xb) .g).toInt)) ∧ (¬ (((3 : Int32)).toInt ≤ ((1 : Int32)).toInt)) ∧ (0 < (cmpValue (FP.dcmp v1 xb) .g).toInt) ∧ (¬ (((3 : Int32)).toInt ≤ 0)) ∧ (0 < (cmpValue (FP.dcmp v0 xb) .g).toInt) ∧ (¬ (((2 : Int32)).toInt ≠ ((2 : Int32)).toInt)) ∧ own_Aft X84 T73.heap _ 351 [zL pk, zS, zI sz, zI bs, zI 3, zD v0, zS, zD v1, zS, zD v2, zS, zD v3, zS, zD v4, zS, zD v5, zS, zD v6, zS, zD v7, zS, zA va, zD xb, zS, zA ao, zI 2, zI 2] [.int 1]
      refine ⟨by decide, by have := own_gle (k := .g) Nv2 Nxb u2; omega, by decide, own_ggt Nv1 Nxb u1, by decide, own_ggt Nv0 Nxb u0, by decide, fun T85 X85 eh85 => ?_⟩
      exact own_ret X85 hx hlk eh85 hret (by first | rfl | decide) (Or.inl ⟨rfl, by simp, _, rfl⟩) (hb hby at_351) (by decide) (by decide) (⟨rfl, N1_⟩)
  · skip
    obtain rfl : nn = (4 : Int32) := Int32.toInt_inj.mp hn
    show own_Go p.tables e below _ (T17.setTop (mkF m 67 (Array.mk [zL pk, zS, zI sz, zI bs, zI 4, zD v0, zS, zD v1, zS, zD v2, zS, zD v3, zS, zD v4, zS, zD v5, zS, zD v6, zS, zD v7, zS, zU, zU, zU, zU, zU, zU]) []))
    refine own_blk dec0 seq0 hby hx hZ hown hK hF 1 [] [] X17 eh17 ?_
    show own_Aft X17 h0 _ 69 [zL pk, zS, zI sz, zI bs, zI 4, zD v0, zS, zD v1, zS, zD v2, zS, zD v3, zS, zD v4, zS, zD v5, zS, zD v6, zS, zD v7, zS, zU, zU, zU, zU, zU, zU] [.int 4]
    refine fun T86 X86 eh86 => ?_
    refine own_newP X86 hx hZ (hw _ (wm 4 rfl)) eh86 4 rfl (cap := 4) (by decide) (by decide) (hb hby at_69) (by decide) (by decide) (fun T87 hp87 va ga87 X87 eh87 Ex87 Ar87 => ?_)
    have nw_va : n0 ≤ va := by rw [ga87]; exact Z0
    have Z_87 : n0 ≤ hp87.size := Nat.le_trans Z0 Ex87.1
    have Ar87' : own_A Z hp87 va .double [.double 0, .double 0, .double 0, .double 0] := Ar87
    show own_Go p.tables e below _ (T87.setTop (mkF m 71 (Array.mk [zL pk, zS, zI sz, zI bs, zI 4, zD v0, zS, zD v1, zS, zD v2, zS, zD v3, zS, zD v4, zS, zD v5, zS, zD v6, zS, zD v7, zS, zU, zU, zU, zU, zU, zU]) [.ref va]))
    refine own_blk dec0 seq0 hby hx hZ hown hK hF 6 [false] [] X87 eh87 ?_
    show (¬ (((4 : Int32)).toInt ≤ 0)) ∧ own_Aft X87 hp87 _ 83 [zL pk, zS, zI sz, zI bs, zI 4, zD v0, zS, zD v1, zS, zD v2, zS, zD v3, zS, zD v4, zS, zD v5, zS, zD v6, zS, zD v7, zS, zA va, zU, zU, zU, zU, zU] [.double v0, .int 0, .ref va]
    refine ⟨by decide, fun T88 X88 eh88 => ?_⟩
    refine own_sD X88 hx hZ eh88 Ar87' 0 rfl (by show 0 < 4; decide) (hb hby at_83) (fun T89 hp89 X89 eh89 Wr89 Ar89 => ?_)
    have Ar89' : own_A Z hp89 va .double [.double v0, .double 0, .double 0, .double 0] := Ar89
    have Nf89 := Fr.snoc X89 N0 nw_va
    have Z_89 : n0 ≤ hp89.size := by rw [Wr.size Wr89]; exact Z_87
    refine own_blk dec0 seq0 hby hx hZ hown hK hF 6 [false] [] X89 eh89 ?_
    show (¬ (((4 : Int32)).toInt ≤ ((1 : Int32)).toInt)) ∧ own_Aft X89 hp89 _ 95 [zL pk, zS, zI sz, zI bs, zI 4, zD v0, zS, zD v1, zS, zD v2, zS, zD v3, zS, zD v4, zS, zD v5, zS, zD v6, zS, zD v7, zS, zA va, zU, zU, zU, zU, zU] [.double v1, .int 1, .ref va]
    refine ⟨by decide, fun T90 X90 eh90 => ?_⟩
    refine own_sD X90 hx hZ eh90 Ar89' 1 rfl (by show 1 < 4; decide) (hb hby at_95) (fun T91 hp91 X91 eh91 Wr91 Ar91 => ?_)
    have Ar91' : own_A Z hp91 va .double [.double v0, .double v1, .double 0, .double 0] := Ar91
    have Nf91 := Fr.snoc X91 Nf89 nw_va
    have Z_91 : n0 ≤ hp91.size := by rw [Wr.size Wr91]; exact Z_89
    refine own_blk dec0 seq0 hby hx hZ hown hK hF 6 [false] [] X91 eh91 ?_
    show (¬ (((4 : Int32)).toInt ≤ ((2 : Int32)).toInt)) ∧ own_Aft X91 hp91 _ 107 [zL pk, zS, zI sz, zI bs, zI 4, zD v0, zS, zD v1, zS, zD v2, zS, zD v3, zS, zD v4, zS, zD v5, zS, zD v6, zS, zD v7, zS, zA va, zU, zU, zU, zU, zU] [.double v2, .int 2, .ref va]
    refine ⟨by decide, fun T92 X92 eh92 => ?_⟩
    refine own_sD X92 hx hZ eh92 Ar91' 2 rfl (by show 2 < 4; decide) (hb hby at_107) (fun T93 hp93 X93 eh93 Wr93 Ar93 => ?_)
    have Ar93' : own_A Z hp93 va .double [.double v0, .double v1, .double v2, .double 0] := Ar93
    have Nf93 := Fr.snoc X93 Nf91 nw_va
    have Z_93 : n0 ≤ hp93.size := by rw [Wr.size Wr93]; exact Z_91
    refine own_blk dec0 seq0 hby hx hZ hown hK hF 6 [false] [] X93 eh93 ?_
    show (¬ (((4 : Int32)).toInt ≤ ((3 : Int32)).toInt)) ∧ own_Aft X93 hp93 _ 119 [zL pk, zS, zI sz, zI bs, zI 4, zD v0, zS, zD v1, zS, zD v2, zS, zD v3, zS, zD v4, zS, zD v5, zS, zD v6, zS, zD v7, zS, zA va, zU, zU, zU, zU, zU] [.double v3, .int 3, .ref va]
    refine ⟨by decide, fun T94 X94 eh94 => ?_⟩
    refine own_sD X94 hx hZ eh94 Ar93' 3 rfl (by show 3 < 4; decide) (hb hby at_119) (fun T95 hp95 X95 eh95 Wr95 Ar95 => ?_)
    have Ar95' : own_A Z hp95 va .double [.double v0, .double v1, .double v2, .double v3] := Ar95
    have Nf95 := Fr.snoc X95 Nf93 nw_va
    have Z_95 : n0 ≤ hp95.size := by rw [Wr.size Wr95]; exact Z_93
    refine own_blk dec0 seq0 hby hx hZ hown hK hF 12 [true, true, true, true] [.int 6, .int 7] X95 eh95 ?_
    show (((4 : Int32)).toInt ≤ ((4 : Int32)).toInt) ∧ (((4 : Int32)).toInt ≤ ((5 : Int32)).toInt) ∧ ((Int8.ofInt 6).toInt32 = (6 : Int32)) ∧ (((4 : Int32)).toInt ≤ ((6 : Int32)).toInt) ∧ ((Int8.ofInt 7).toInt32 = (7 : Int32)) ∧ (((4 : Int32)).toInt ≤ ((7 : Int32)).toInt) ∧ own_Aft X95 hp95 _ 172 [zL pk, zS, zI sz, zI bs, zI 4, zD v0, zS, zD v1, zS, zD v2, zS, zD v3, zS, zD v4, zS, zD v5, zS, zD v6, zS, zD v7, zS, zA va, zU, zU, zU, zU, zU] []
    refine ⟨by decide, by decide, by decide +kernel, by decide, by decide +kernel, by decide, fun T96 X96 eh96 => ?_⟩
    refine own_blk dec0 seq0 hby hx hZ hown hK hF 4 [] [] X96 eh96 ?_
    show own_Aft X96 hp95 _ 177 [zL pk, zS, zI sz, zI bs, zI 4, zD v0, zS, zD v1, zS, zD v2, zS, zD v3, zS, zD v4, zS, zD v5, zS, zD v6, zS, zD v7, zS, zA va, zD (FP.i2d bs.toInt8.toInt32), zS, zU, zU, zU] []
    refine fun T97 X97 eh97 => ?_
    have Nxb : own_num (FP.i2d bs.toInt8.toInt32) := own_fin_num (own_D.i2d _).1
    have hI := own_i2d_inf (bs.toInt8.toInt32)
    generalize FP.i2d bs.toInt8.toInt32 = xb at Nxb hI ⊢
    show own_Go p.tables e below _ (T97.setTop (mkF m 177 (Array.mk [zL pk, zS, zI sz, zI bs, zI 4, zD v0, zS, zD v1, zS, zD v2, zS, zD v3, zS, zD v4, zS, zD v5, zS, zD v6, zS, zD v7, zS, zA va, zD xb, zS, zU, zU, zU]) []))
    refine own_new X97 hx hZ hown (hw _ (wm 5 rfl)) (hw _ (wm 6 rfl)) (hw _ (wm 7 rfl)) eh97 (hb hby at_177) (by decide) (by decide) (fun T98 hp98 ao ga98 X98 eh98 Ex98 Ea98 Dn98 => ?_)
    have ne_va_ao : va ≠ ao := fun q => absurd Ar95'.lt (by rw [q, ga98]; exact Nat.lt_irrefl _)
    have nw_ao : n0 ≤ ao := by rw [ga98]; exact Z_95
    have Ar95'_98 := Ar95'.ext Ex98
    have Z_98 : n0 ≤ hp98.size := Nat.le_trans Z_95 Ex98.1
    have Fn98_values : Fld Z hp98 ao "com/example/binwright/binwright/binning/LeastTree" "values" "[D" (.null) := Dn98 (Or.inr (hw _ (wm 15 rfl))) (ty := (.array .double)) (by decide)
    have Fn98_leaves : Fld Z hp98 ao "com/example/binwright/binwright/binning/LeastTree" "leaves" "I" (.int 0) := Dn98 (Or.inr (hw _ (wm 30 rfl))) (ty := .int) (by decide)
    have Fn98_least : Fld Z hp98 ao "com/example/binwright/binwright/binning/LeastTree" "least" "[D" (.null) := Dn98 (Or.inr (hw _ (wm 32 rfl))) (ty := (.array .double)) (by decide)
    show own_Go p.tables e below _ (T98.setTop (mkF m 180 (Array.mk [zL pk, zS, zI sz, zI bs, zI 4, zD v0, zS, zD v1, zS, zD v2, zS, zD v3, zS, zD v4, zS, zD v5, zS, zD v6, zS, zD v7, zS, zA va, zD xb, zS, zU, zU, zU]) [.ref ao]))
    refine own_blk dec0 seq0 hby hx hZ hown hK hF 2 [] [] X98 eh98 ?_
    show own_Aft X98 hp98 _ 183 [zL pk, zS, zI sz, zI bs, zI 4, zD v0, zS, zD v1, zS, zD v2, zS, zD v3, zS, zD v4, zS, zD v5, zS, zD v6, zS, zD v7, zS, zA va, zD xb, zS, zU, zU, zU] [.ref va, .ref ao, .ref ao]
    refine fun T99 X99 eh99 => ?_
    refine own_callI X99 hx hZ hown rfl (hw _ (wm 8 rfl)) (hw _ (wm 9 rfl)) (hw _ (wm 7 rfl)) (hw _ (wm 10 rfl)) (by decide) eh99 ao [.ref va] pd2 rfl (rm := ({ frames := 3, cells := 1, slots := 4, locals := 64 } : Room)) (rm2_4 l Z a0 hw [] ao va v0 v1 v2 v3 hp98 n0 Z_98 Ea98 nw_ao ne_va_ao Fn98_values Fn98_leaves Fn98_least Ar95'_98 Nv0 Nv1 Nv2 Nv3) (by rw [hml]; rfl) 1 rfl (Nat.le_of_eq rfl) (hb hby at_183) (by decide) (by decide) (by decide) (by decide) (fun T100 rv100 Lc100 X100 qc100 => ?_)
    obtain ⟨rfl, M1, EX, la, F1, F2, F3, Av, r2, r3, r1, Al, Hr2, Hr3, Hr1⟩ := qc100
    have N1_ := Fr.app Nf95 M1
    have Zz1 : n0 ≤ T100.heap.size := Nat.le_trans nw_ao (Nat.le_of_lt EX.lt)
    show own_Go p.tables e below _ (T100.setTop (mkF m 186 (Array.mk [zL pk, zS, zI sz, zI bs, zI 4, zD v0, zS, zD v1, zS, zD v2, zS, zD v3, zS, zD v4, zS, zD v5, zS, zD v6, zS, zD v7, zS, zA va, zD xb, zS, zU, zU, zU]) [.ref ao]))
    refine own_blk dec0 seq0 hby hx hZ hown hK hF 3 [] [] X100 rfl ?_
    show own_Aft X100 T100.heap _ 192 [zL pk, zS, zI sz, zI bs, zI 4, zD v0, zS, zD v1, zS, zD v2, zS, zD v3, zS, zD v4, zS, zD v5, zS, zD v6, zS, zD v7, zS, zA va, zD xb, zS, zA ao, zU, zU] [.double xb, .ref ao]
    refine fun T101 X101 eh101 => ?_
    refine own_callVP X101 hx hZ hown (hw _ (wm 50 rfl)) (hw _ (wm 51 rfl)) (hw _ (wm 53 rfl)) (hw _ (wm 52 rfl)) (hw _ (wm 7 rfl)) (hw _ (wm 54 rfl)) (by decide) eh101 EX [.double xb] pd11 rfl (fr := 1) (lo := 24) (rm11_4 l Z a0 hw [] ao la va v0 v1 v2 v3 r1 r2 r3 xb T100.heap n0 Zz1 EX F1 F2 F3 Al Av Nv0 Nv1 Nv2 Nv3 Hr1.1 Hr2.1 Hr3.1 Nxb) (by rw [hml]; rfl) 0 rfl (Nat.le_of_eq rfl) (hb hby at_192) (by decide) (by decide) (by decide) (by decide) (fun T102 rv102 X102 eh102 qc102 => ?_)
    obtain ⟨got, rfl, hp⟩ := qc102
    show own_Go p.tables e below _ (T102.setTop (mkF m 195 (Array.mk [zL pk, zS, zI sz, zI bs, zI 4, zD v0, zS, zD v1, zS, zD v2, zS, zD v3, zS, zD v4, zS, zD v5, zS, zD v6, zS, zD v7, zS, zA va, zD xb, zS, zA ao, zU, zU]) [.int got]))
    have hq := own_first_4 v0 v1 v2 v3 r2 r3 r1 xb got Hr2 Hr3 Hr1 hI hp
    rcases hq with ⟨rfl, u0, u1, u2, u3⟩ | ⟨rfl, u0⟩ | ⟨rfl, u1, u0⟩ | ⟨rfl, u2, u0, u1⟩ | ⟨rfl, u3, u0, u1, u2⟩
    · skip
      show own_Go p.tables e below _ (T102.setTop (mkF m 195 (Array.mk [zL pk, zS, zI sz, zI bs, zI 4, zD v0, zS, zD v1, zS, zD v2, zS, zD v3, zS, zD v4, zS, zD v5, zS, zD v6, zS, zD v7, zS, zA va, zD xb, zS, zA ao, zU, zU]) [.int (-1)]))
      refine own_blk dec0 seq0 hby hx hZ hown hK hF 47 [true, true, true, true, false, true, false, true, false, true, false, true, false] [.int 7, .int 6] X102 eh102 ?_
      show ((Int8.ofInt 7).toInt32 = (7 : Int32)) ∧ (((4 : Int32)).toInt ≤ ((7 : Int32)).toInt) ∧ ((Int8.ofInt 6).toInt32 = (6 : Int32)) ∧ (((4 : Int32)).toInt ≤ ((6 : Int32)).toInt) ∧ (((4 : Int32)).toInt ≤ ((5 : Int32)).toInt) ∧ (((4 : Int32)).toInt ≤ ((4 : Int32)).toInt) ∧ (¬ (((4 : Int32)).toInt ≤ ((3 : Int32)).toInt)) ∧ (0 < (cmpValue (FP.dcmp v3 xb) .g).toInt) ∧ (¬ (((4 : Int32)).toInt ≤ ((2 : Int32)).toInt)) ∧ (0 < (cmpValue (FP.dcmp v2 xb) .g).toInt) ∧ (¬ (((4 : Int32)).toInt ≤ ((1 : Int32)).toInt)) ∧ (0 < (cmpValue (FP.dcmp v1 xb) .g).toInt) ∧ (¬ (((4 : Int32)).toInt ≤ 0)) ∧ (0 < (cmpValue (FP.dcmp v0 xb) .g).toInt) ∧ (¬ (((-1 : Int32)).toInt ≠ ((-1 : Int32)).toInt)) ∧ own_Aft X102 T100.heap _ 351 [zL pk, zS, zI sz, zI bs, zI 4, zD v0, zS, zD v1, zS, zD v2, zS, zD v3, zS, zD v4, zS, zD v5, zS, zD v6, zS, zD v7, zS, zA va, zD xb, zS, zA ao, zI (-1), zI (-1)] [.int 1]
      refine ⟨by decide +kernel, by decide, by decide +kernel, by decide, by decide, by decide, by decide, own_ggt Nv3 Nxb u3, by decide, own_ggt Nv2 Nxb u2, by decide, own_ggt Nv1 Nxb u1, by decide, own_ggt Nv0 Nxb u0, by decide, fun T103 X103 eh103 => ?_⟩
      exact own_ret X103 hx hlk eh103 hret (by first | rfl | decide) (Or.inl ⟨rfl, by simp, _, rfl⟩) (hb hby at_351) (by decide) (by decide) (⟨rfl, N1_⟩)
    · skip
      show own_Go p.tables e below _ (T102.setTop (mkF m 195 (Array.mk [zL pk, zS, zI sz, zI bs, zI 4, zD v0, zS, zD v1, zS, zD v2, zS, zD v3, zS, zD v4, zS, zD v5, zS, zD v6, zS, zD v7, zS, zA va, zD xb, zS, zA ao, zU, zU]) [.int 0]))
      refine own_blk dec0 seq0 hby hx hZ hown hK hF 15 [true, true, true, true] [.int 7, .int 6] X102 eh102 ?_
      show ((Int8.ofInt 7).toInt32 = (7 : Int32)) ∧ (((4 : Int32)).toInt ≤ ((7 : Int32)).toInt) ∧ ((Int8.ofInt 6).toInt32 = (6 : Int32)) ∧ (((4 : Int32)).toInt ≤ ((6 : Int32)).toInt) ∧ (((4 : Int32)).toInt ≤ ((5 : Int32)).toInt) ∧ (((4 : Int32)).toInt ≤ ((4 : Int32)).toInt) ∧ own_Aft X102 T100.heap _ 272 [zL pk, zS, zI sz, zI bs, zI 4, zD v0, zS, zD v1, zS, zD v2, zS, zD v3, zS, zD v4, zS, zD v5, zS, zD v6, zS, zD v7, zS, zA va, zD xb, zS, zA ao, zI 0, zI (-1)] []
      refine ⟨by decide +kernel, by decide, by decide +kernel, by decide, by decide, by decide, fun T104 X104 eh104 => ?_⟩
      refine skip_3 X104 hx hby hml hown hZ hK hF eh104 _ _ _ _ _ _ _ _ _ _ _ _ _ _ _ _ _ _ _ _ _ (4 : Int32) (-1 : Int32) v3 xb Nv3 Nxb (fun wn3 T105 X105 eh105 => ?_)
      refine skip_2 X105 hx hby hml hown hZ hK hF eh105 _ _ _ _ _ _ _ _ _ _ _ _ _ _ _ _ _ _ _ _ _ (4 : Int32) wn3 v2 xb Nv2 Nxb (fun wn2 T106 X106 eh106 => ?_)
      refine skip_1 X106 hx hby hml hown hZ hK hF eh106 _ _ _ _ _ _ _ _ _ _ _ _ _ _ _ _ _ _ _ _ _ (4 : Int32) wn2 v1 xb Nv1 Nxb (fun wn1 T107 X107 eh107 => ?_)
      refine own_blk dec0 seq0 hby hx hZ hown hK hF 13 [false, false, false] [] X107 eh107 ?_
      show (¬ (((4 : Int32)).toInt ≤ 0)) ∧ (¬ (0 < (cmpValue (FP.dcmp v0 xb) .g).toInt)) ∧ (¬ (((0 : Int32)).toInt ≠ ((0 : Int32)).toInt)) ∧ own_Aft X107 T100.heap _ 351 [zL pk, zS, zI sz, zI bs, zI 4, zD v0, zS, zD v1, zS, zD v2, zS, zD v3, zS, zD v4, zS, zD v5, zS, zD v6, zS, zD v7, zS, zA va, zD xb, zS, zA ao, zI 0, zI 0] [.int 1]
      refine ⟨by decide, by have := own_gle (k := .g) Nv0 Nxb u0; omega, by decide, fun T108 X108 eh108 => ?_⟩
      exact own_ret X108 hx hlk eh108 hret (by first | rfl | decide) (Or.inl ⟨rfl, by simp, _, rfl⟩) (hb hby at_351) (by decide) (by decide) (⟨rfl, N1_⟩)
    · skip
      show own_Go p.tables e below _ (T102.setTop (mkF m 195 (Array.mk [zL pk, zS, zI sz, zI bs, zI 4, zD v0, zS, zD v1, zS, zD v2, zS, zD v3, zS, zD v4, zS, zD v5, zS, zD v6, zS, zD v7, zS, zA va, zD xb, zS, zA ao, zU, zU]) [.int 1]))
      refine own_blk dec0 seq0 hby hx hZ hown hK hF 15 [true, true, true, true] [.int 7, .int 6] X102 eh102 ?_
      show ((Int8.ofInt 7).toInt32 = (7 : Int32)) ∧ (((4 : Int32)).toInt ≤ ((7 : Int32)).toInt) ∧ ((Int8.ofInt 6).toInt32 = (6 : Int32)) ∧ (((4 : Int32)).toInt ≤ ((6 : Int32)).toInt) ∧ (((4 : Int32)).toInt ≤ ((5 : Int32)).toInt) ∧ (((4 : Int32)).toInt ≤ ((4 : Int32)).toInt) ∧ own_Aft X102 T100.heap _ 272 [zL pk, zS, zI sz, zI bs, zI 4, zD v0, zS, zD v1, zS, zD v2, zS, zD v3, zS, zD v4, zS, zD v5, zS, zD v6, zS, zD v7, zS, zA va, zD xb, zS, zA ao, zI 1, zI (-1)] []
      refine ⟨by decide +kernel, by decide, by decide +kernel, by decide, by decide, by decide, fun T109 X109 eh109 => ?_⟩
      refine skip_3 X109 hx hby hml hown hZ hK hF eh109 _ _ _ _ _ _ _ _ _ _ _ _ _ _ _ _ _ _ _ _ _ (4 : Int32) (-1 : Int32) v3 xb Nv3 Nxb (fun wn3 T110 X110 eh110 => ?_)
      refine skip_2 X110 hx hby hml hown hZ hK hF eh110 _ _ _ _ _ _ _ _ _ _ _ _ _ _ _ _ _ _ _ _ _ (4 : Int32) wn3 v2 xb Nv2 Nxb (fun wn2 T111 X111 eh111 => ?_)
      refine own_blk dec0 seq0 hby hx hZ hown hK hF 20 [false, false, false, true, false] [] X111 eh111 ?_
      show (¬ (((4 : Int32)).toInt ≤ ((1 : Int32)).toInt)) ∧ (¬ (0 < (cmpValue (FP.dcmp v1 xb) .g).toInt)) ∧ (¬ (((4 : Int32)).toInt ≤ 0)) ∧ (0 < (cmpValue (FP.dcmp v0 xb) .g).toInt) ∧ (¬ (((1 : Int32)).toInt ≠ ((1 : Int32)).toInt)) ∧ own_Aft X111 T100.heap _ 351 [zL pk, zS, zI sz, zI bs, zI 4, zD v0, zS, zD v1, zS, zD v2, zS, zD v3, zS, zD v4, zS, zD v5, zS, zD v6, zS, zD v7, zS, zA va, zD xb, zS, zA ao, zI 1, zI 1] [.int 1]
      refine ⟨by decide, by have := own_gle (k := .g) Nv1 Nxb u1; omega, by decide, own_ggt Nv0 Nxb u0, by decide, fun T112 X112 eh112 => ?_⟩
      exact own_ret X112 hx hlk eh112 hret (by first | rfl | decide) (Or.inl ⟨rfl, by simp, _, rfl⟩) (hb hby at_351) (by decide) (by decide) (⟨rfl, N1_⟩)
    · skip
      show own_Go p.tables e below _ (T102.setTop (mkF m 195 (Array.mk [zL pk, zS, zI sz, zI bs, zI 4, zD v0, zS, zD v1, zS, zD v2, zS, zD v3, zS, zD v4, zS, zD v5, zS, zD v6, zS, zD v7, zS, zA va, zD xb, zS, zA ao, zU, zU]) [.int 2]))
      refine own_blk dec0 seq0 hby hx hZ hown hK hF 15 [true, true, true, true] [.int 7, .int 6] X102 eh102 ?_
      show ((Int8.ofInt 7).toInt32 = (7 : Int32)) ∧ (((4 : Int32)).toInt ≤ ((7 : Int32)).toInt) ∧ ((Int8.ofInt 6).toInt32 = (6 : Int32)) ∧ (((4 : Int32)).toInt ≤ ((6 : Int32)).toInt) ∧ (((4 : Int32)).toInt ≤ ((5 : Int32)).toInt) ∧ (((4 : Int32)).toInt ≤ ((4 : Int32)).toInt) ∧ own_Aft X102 T100.heap _ 272 [zL pk, zS, zI sz, zI bs, zI 4, zD v0, zS, zD v1, zS, zD v2, zS, zD v3, zS, zD v4, zS, zD v5, zS, zD v6, zS, zD v7, zS, zA va, zD xb, zS, zA ao, zI 2, zI (-1)] []
      refine ⟨by decide +kernel, by decide, by decide +kernel, by decide, by decide, by decide, fun T113 X113 eh113 => ?_⟩
      refine skip_3 X113 hx hby hml hown hZ hK hF eh113 _ _ _ _ _ _ _ _ _ _ _ _ _ _ _ _ _ _ _ _ _ (4 : Int32) (-1 : Int32) v3 xb Nv3 Nxb (fun wn3 T114 X114 eh114 => ?_)
      refine own_blk dec0 seq0 hby hx hZ hown hK hF 27 [false, false, false, true, false, true, false] [] X114 eh114 ?_
      show (¬ (((4 : Int32)).toInt ≤ ((2 : Int32)).toInt)) ∧ (¬ (0 < (cmpValue (FP.dcmp v2 xb) .g).toInt)) ∧ (¬ (((4 : Int32)).toInt ≤ ((1 : Int32)).toInt)) ∧ (0 < (cmpValue (FP.dcmp v1 xb) .g).toInt) ∧ (¬ (((4 : Int32)).toInt ≤ 0)) ∧ (0 < (cmpValue (FP.dcmp v0 xb) .g).toInt) ∧ (¬ (((2 : Int32)).toInt ≠ ((2 : Int32)).toInt)) ∧ own_Aft X114 T100.heap _ 351 [zL pk, zS, zI sz, zI bs, zI 4, zD v0, zS, zD v1, zS, zD v2, zS, zD v3, zS, zD v4, zS, zD v5, zS, zD v6, zS, zD v7, zS, zA va, zD xb, zS, zA ao, zI 2, zI 2] [.int 1]
      refine ⟨by decide, by have := own_gle (k := .g) Nv2 Nxb u2; omega, by decide, own_ggt Nv1 Nxb u1, by decide, own_ggt Nv0 Nxb u0, by decide, fun T115 X115 eh115 => ?_⟩
      exact own_ret X115 hx hlk eh115 hret (by first | rfl | decide) (Or.inl ⟨rfl, by simp, _, rfl⟩) (hb hby at_351) (by decide) (by decide) (⟨rfl, N1_⟩)
    · skip
      show own_Go p.tables e below _ (T102.setTop (mkF m 195 (Array.mk [zL pk, zS, zI sz, zI bs, zI 4, zD v0, zS, zD v1, zS, zD v2, zS, zD v3, zS, zD v4, zS, zD v5, zS, zD v6, zS, zD v7, zS, zA va, zD xb, zS, zA ao, zU, zU]) [.int 3]))
      refine own_blk dec0 seq0 hby hx hZ hown hK hF 15 [true, true, true, true] [.int 7, .int 6] X102 eh102 ?_
      show ((Int8.ofInt 7).toInt32 = (7 : Int32)) ∧ (((4 : Int32)).toInt ≤ ((7 : Int32)).toInt) ∧ ((Int8.ofInt 6).toInt32 = (6 : Int32)) ∧ (((4 : Int32)).toInt ≤ ((6 : Int32)).toInt) ∧ (((4 : Int32)).toInt ≤ ((5 : Int32)).toInt) ∧ (((4 : Int32)).toInt ≤ ((4 : Int32)).toInt) ∧ own_Aft X102 T100.heap _ 272 [zL pk, zS, zI sz, zI bs, zI 4, zD v0, zS, zD v1, zS, zD v2, zS, zD v3, zS, zD v4, zS, zD v5, zS, zD v6, zS, zD v7, zS, zA va, zD xb, zS, zA ao, zI 3, zI (-1)] []
      refine ⟨by decide +kernel, by decide, by decide +kernel, by decide, by decide, by decide, fun T116 X116 eh116 => ?_⟩
      refine own_blk dec0 seq0 hby hx hZ hown hK hF 34 [false, false, false, true, false, true, false, true, false] [] X116 eh116 ?_
      show (¬ (((4 : Int32)).toInt ≤ ((3 : Int32)).toInt)) ∧ (¬ (0 < (cmpValue (FP.dcmp v3 xb) .g).toInt)) ∧ (¬ (((4 : Int32)).toInt ≤ ((2 : Int32)).toInt)) ∧ (0 < (cmpValue (FP.dcmp v2 xb) .g).toInt) ∧ (¬ (((4 : Int32)).toInt ≤ ((1 : Int32)).toInt)) ∧ (0 < (cmpValue (FP.dcmp v1 xb) .g).toInt) ∧ (¬ (((4 : Int32)).toInt ≤ 0)) ∧ (0 < (cmpValue (FP.dcmp v0 xb) .g).toInt) ∧ (¬ (((3 : Int32)).toInt ≠ ((3 : Int32)).toInt)) ∧ own_Aft X116 T100.heap _ 351 [zL pk, zS, zI sz, zI bs, zI 4, zD v0, zS, zD v1, zS, zD v2, zS, zD v3, zS, zD v4, zS, zD v5, zS, zD v6, zS, zD v7, zS, zA va, zD xb, zS, zA ao, zI 3, zI 3] [.int 1]
      refine ⟨by decide, by have := own_gle (k := .g) Nv3 Nxb u3; omega, by decide, own_ggt Nv2 Nxb u2, by decide, own_ggt Nv1 Nxb u1, by decide, own_ggt Nv0 Nxb u0, by decide, fun T117 X117 eh117 => ?_⟩
      exact own_ret X117 hx hlk eh117 hret (by first | rfl | decide) (Or.inl ⟨rfl, by simp, _, rfl⟩) (hb hby at_351) (by decide) (by decide) (⟨rfl, N1_⟩)
  · skip
    obtain rfl : nn = (5 : Int32) := Int32.toInt_inj.mp hn
    show own_Go p.tables e below _ (T17.setTop (mkF m 67 (Array.mk [zL pk, zS, zI sz, zI bs, zI 5, zD v0, zS, zD v1, zS, zD v2, zS, zD v3, zS, zD v4, zS, zD v5, zS, zD v6, zS, zD v7, zS, zU, zU, zU, zU, zU, zU]) []))
    refine own_blk dec0 seq0 hby hx hZ hown hK hF 1 [] [] X17 eh17 ?_
    show own_Aft X17 h0 _ 69 [zL pk, zS, zI sz, zI bs, zI 5, zD v0, zS, zD v1, zS, zD v2, zS, zD v3, zS, zD v4, zS, zD v5, zS, zD v6, zS, zD v7, zS, zU, zU, zU, zU, zU, zU] [.int 5]
    refine fun T118 X118 eh118 => ?_
    refine own_newP X118 hx hZ (hw _ (wm 4 rfl)) eh118 5 rfl (cap := 5) (by decide) (by decide) (hb hby at_69) (by decide) (by decide) (fun T119 hp119 va ga119 X119 eh119 Ex119 Ar119 => ?_)
    have nw_va : n0 ≤ va := by rw [ga119]; exact Z0
    have Z_119 : n0 ≤ hp119.size := Nat.le_trans Z0 Ex119.1
    have Ar119' : own_A Z hp119 va .double [.double 0, .double 0, .double 0, .double 0, .double 0] := Ar119
    show own_Go p.tables e below _ (T119.setTop (mkF m 71 (Array.mk [zL pk, zS, zI sz, zI bs, zI 5, zD v0, zS, zD v1, zS, zD v2, zS, zD v3, zS, zD v4, zS, zD v5, zS, zD v6, zS, zD v7, zS, zU, zU, zU, zU, zU, zU]) [.ref va]))
    refine own_blk dec0 seq0 hby hx hZ hown hK hF 6 [false] [] X119 eh119 ?_
    show (¬ (((5 : Int32)).toInt ≤ 0)) ∧ own_Aft X119 hp119 _ 83 [zL pk, zS, zI sz, zI bs, zI 5, zD v0, zS, zD v1, zS, zD v2, zS, zD v3, zS, zD v4, zS, zD v5, zS, zD v6, zS, zD v7, zS, zA va, zU, zU, zU, zU, zU] [.double v0, .int 0, .ref va]
    refine ⟨by decide, fun T120 X120 eh120 => ?_⟩
    refine own_sD X120 hx hZ eh120 Ar119' 0 rfl (by show 0 < 5; decide) (hb hby at_83) (fun T121 hp121 X121 eh121 Wr121 Ar121 => ?_)
    have Ar121' : own_A Z hp121 va .double [.double v0, .double 0, .double 0, .double 0, .double 0] := Ar121
    have Nf121 := Fr.snoc X121 N0 nw_va
    have Z_121 : n0 ≤ hp121.size := by rw [Wr.size Wr121]; exact Z_119
    refine own_blk dec0 seq0 hby hx hZ hown hK hF 6 [false] [] X121 eh121 ?_
    show (¬ (((5 : Int32)).toInt ≤ ((1 : Int32)).toInt)) ∧ own_Aft X121 hp121 _ 95 [zL pk, zS, zI sz, zI bs, zI 5, zD v0, zS, zD v1, zS, zD v2, zS, zD v3, zS, zD v4, zS, zD v5, zS, zD v6, zS, zD v7, zS, zA va, zU, zU, zU, zU, zU] [.double v1, .int 1, .ref va]
    refine ⟨by decide, fun T122 X122 eh122 => ?_⟩
    refine own_sD X122 hx hZ eh122 Ar121' 1 rfl (by show 1 < 5; decide) (hb hby at_95) (fun T123 hp123 X123 eh123 Wr123 Ar123 => ?_)
    have Ar123' : own_A Z hp123 va .double [.double v0, .double v1, .double 0, .double 0, .double 0] := Ar123
    have Nf123 := Fr.snoc X123 Nf121 nw_va
    have Z_123 : n0 ≤ hp123.size := by rw [Wr.size Wr123]; exact Z_121
    refine own_blk dec0 seq0 hby hx hZ hown hK hF 6 [false] [] X123 eh123 ?_
    show (¬ (((5 : Int32)).toInt ≤ ((2 : Int32)).toInt)) ∧ own_Aft X123 hp123 _ 107 [zL pk, zS, zI sz, zI bs, zI 5, zD v0, zS, zD v1, zS, zD v2, zS, zD v3, zS, zD v4, zS, zD v5, zS, zD v6, zS, zD v7, zS, zA va, zU, zU, zU, zU, zU] [.double v2, .int 2, .ref va]
    refine ⟨by decide, fun T124 X124 eh124 => ?_⟩
    refine own_sD X124 hx hZ eh124 Ar123' 2 rfl (by show 2 < 5; decide) (hb hby at_107) (fun T125 hp125 X125 eh125 Wr125 Ar125 => ?_)
    have Ar125' : own_A Z hp125 va .double [.double v0, .double v1, .double v2, .double 0, .double 0] := Ar125
    have Nf125 := Fr.snoc X125 Nf123 nw_va
    have Z_125 : n0 ≤ hp125.size := by rw [Wr.size Wr125]; exact Z_123
    refine own_blk dec0 seq0 hby hx hZ hown hK hF 6 [false] [] X125 eh125 ?_
    show (¬ (((5 : Int32)).toInt ≤ ((3 : Int32)).toInt)) ∧ own_Aft X125 hp125 _ 119 [zL pk, zS, zI sz, zI bs, zI 5, zD v0, zS, zD v1, zS, zD v2, zS, zD v3, zS, zD v4, zS, zD v5, zS, zD v6, zS, zD v7, zS, zA va, zU, zU, zU, zU, zU] [.double v3, .int 3, .ref va]
    refine ⟨by decide, fun T126 X126 eh126 => ?_⟩
    refine own_sD X126 hx hZ eh126 Ar125' 3 rfl (by show 3 < 5; decide) (hb hby at_119) (fun T127 hp127 X127 eh127 Wr127 Ar127 => ?_)
    have Ar127' : own_A Z hp127 va .double [.double v0, .double v1, .double v2, .double v3, .double 0] := Ar127
    have Nf127 := Fr.snoc X127 Nf125 nw_va
    have Z_127 : n0 ≤ hp127.size := by rw [Wr.size Wr127]; exact Z_125
    refine own_blk dec0 seq0 hby hx hZ hown hK hF 6 [false] [] X127 eh127 ?_
    show (¬ (((5 : Int32)).toInt ≤ ((4 : Int32)).toInt)) ∧ own_Aft X127 hp127 _ 131 [zL pk, zS, zI sz, zI bs, zI 5, zD v0, zS, zD v1, zS, zD v2, zS, zD v3, zS, zD v4, zS, zD v5, zS, zD v6, zS, zD v7, zS, zA va, zU, zU, zU, zU, zU] [.double v4, .int 4, .ref va]
    refine ⟨by decide, fun T128 X128 eh128 => ?_⟩
    refine own_sD X128 hx hZ eh128 Ar127' 4 rfl (by show 4 < 5; decide) (hb hby at_131) (fun T129 hp129 X129 eh129 Wr129 Ar129 => ?_)
    have Ar129' : own_A Z hp129 va .double [.double v0, .double v1, .double v2, .double v3, .double v4] := Ar129
    have Nf129 := Fr.snoc X129 Nf127 nw_va
    have Z_129 : n0 ≤ hp129.size := by rw [Wr.size Wr129]; exact Z_127
    refine own_blk dec0 seq0 hby hx hZ hown hK hF 9 [true, true, true] [.int 6, .int 7] X129 eh129 ?_
    show (((5 : Int32)).toInt ≤ ((5 : Int32)).toInt) ∧ ((Int8.ofInt 6).toInt32 = (6 : Int32)) ∧ (((5 : Int32)).toInt ≤ ((6 : Int32)).toInt) ∧ ((Int8.ofInt 7).toInt32 = (7 : Int32)) ∧ (((5 : Int32)).toInt ≤ ((7 : Int32)).toInt) ∧ own_Aft X129 hp129 _ 172 [zL pk, zS, zI sz, zI bs, zI 5, zD v0, zS, zD v1, zS, zD v2, zS, zD v3, zS, zD v4, zS, zD v5, zS, zD v6, zS, zD v7, zS, zA va, zU, zU, zU, zU, zU] []
    refine ⟨by decide, by decide +kernel, by decide, by decide +kernel, by decide, fun T130 X130 eh130 => ?_⟩
    refine own_blk dec0 seq0 hby hx hZ hown hK hF 4 [] [] X130 eh130 ?_
    show own_Aft X130 hp129 _ 177 [zL pk, zS, zI sz, zI bs, zI 5, zD v0, zS, zD v1, zS, zD v2, zS, zD v3, zS, zD v4, zS, zD v5, zS, zD v6, zS, zD v7, zS, zA va, zD (FP.i2d bs.toInt8.toInt32), zS, zU, zU, zU] []
    refine fun T131 X131 eh131 => ?_
    have Nxb : own_num (FP.i2d bs.toInt8.toInt32) := own_fin_num (own_D.i2d _).1
    have hI := own_i2d_inf (bs.toInt8.toInt32)
    generalize FP.i2d bs.toInt8.toInt32 = xb at Nxb hI ⊢
    show own_Go p.tables e below _ (T131.setTop (mkF m 177 (Array.mk [zL pk, zS, zI sz, zI bs, zI 5, zD v0, zS, zD v1, zS, zD v2, zS, zD v3, zS, zD v4, zS, zD v5, zS, zD v6, zS, zD v7, zS, zA va, zD xb, zS, zU, zU, zU]) []))
    refine own_new X131 hx hZ hown (hw _ (wm 5 rfl)) (hw _ (wm 6 rfl)) (hw _ (wm 7 rfl)) eh131 (hb hby at_177) (by decide) (by decide) (fun T132 hp132 ao ga132 X132 eh132 Ex132 Ea132 Dn132 => ?_)
    have ne_va_ao : va ≠ ao := fun q => absurd Ar129'.lt (by rw [q, ga132]; exact Nat.lt_irrefl _)
    have nw_ao : n0 ≤ ao := by rw [ga132]; exact Z_129
    have Ar129'_132 := Ar129'.ext Ex132
    have Z_132 : n0 ≤ hp132.size := Nat.le_trans Z_129 Ex132.1
    have Fn132_values : Fld Z hp132 ao "com/example/binwright/binwright/binning/LeastTree" "values" "[D" (.null) := Dn132 (Or.inr (hw _ (wm 15 rfl))) (ty := (.array .double)) (by decide)
    have Fn132_leaves : Fld Z hp132 ao "com/example/binwright/binwright/binning/LeastTree" "leaves" "I" (.int 0) := Dn132 (Or.inr (hw _ (wm 30 rfl))) (ty := .int) (by decide)
    have Fn132_least : Fld Z hp132 ao "com/example/binwright/binwright/binning/LeastTree" "least" "[D" (.null) := Dn132 (Or.inr (hw _ (wm 32 rfl))) (ty := (.array .double)) (by decide)
    show own_Go p.tables e below _ (T132.setTop (mkF m 180 (Array.mk [zL pk, zS, zI sz, zI bs, zI 5, zD v0, zS, zD v1, zS, zD v2, zS, zD v3, zS, zD v4, zS, zD v5, zS, zD v6, zS, zD v7, zS, zA va, zD xb, zS, zU, zU, zU]) [.ref ao]))
    refine own_blk dec0 seq0 hby hx hZ hown hK hF 2 [] [] X132 eh132 ?_
    show own_Aft X132 hp132 _ 183 [zL pk, zS, zI sz, zI bs, zI 5, zD v0, zS, zD v1, zS, zD v2, zS, zD v3, zS, zD v4, zS, zD v5, zS, zD v6, zS, zD v7, zS, zA va, zD xb, zS, zU, zU, zU] [.ref va, .ref ao, .ref ao]
    refine fun T133 X133 eh133 => ?_
    refine own_callI X133 hx hZ hown rfl (hw _ (wm 8 rfl)) (hw _ (wm 9 rfl)) (hw _ (wm 7 rfl)) (hw _ (wm 10 rfl)) (by decide) eh133 ao [.ref va] pd2 rfl (rm := ({ frames := 3, cells := 1, slots := 8, locals := 64 } : Room)) (rm2_5 l Z a0 hw [] ao va v0 v1 v2 v3 v4 hp132 n0 Z_132 Ea132 nw_ao ne_va_ao Fn132_values Fn132_leaves Fn132_least Ar129'_132 Nv0 Nv1 Nv2 Nv3 Nv4) (by rw [hml]; rfl) 1 rfl (Nat.le_of_eq rfl) (hb hby at_183) (by decide) (by decide) (by decide) (by decide) (fun T134 rv134 Lc134 X134 qc134 => ?_)
    obtain ⟨rfl, M1, EX, la, F1, F2, F3, Av, r4, r5, r6, r2, r3, r1, Al, Hr4, Hr5, Hr6, Hr2, Hr3, Hr1⟩ := qc134
    have N1_ := Fr.app Nf129 M1
    have Zz1 : n0 ≤ T134.heap.size := Nat.le_trans nw_ao (Nat.le_of_lt EX.lt)
    show own_Go p.tables e below _ (T134.setTop (mkF m 186 (Array.mk [zL pk, zS, zI sz, zI bs, zI 5, zD v0, zS, zD v1, zS, zD v2, zS, zD v3, zS, zD v4, zS, zD v5, zS, zD v6, zS, zD v7, zS, zA va, zD xb, zS, zU, zU, zU]) [.ref ao]))
    refine own_blk dec0 seq0 hby hx hZ hown hK hF 3 [] [] X134 rfl ?_
    show own_Aft X134 T134.heap _ 192 [zL pk, zS, zI sz, zI bs, zI 5, zD v0, zS, zD v1, zS, zD v2, zS, zD v3, zS, zD v4, zS, zD v5, zS, zD v6, zS, zD v7, zS, zA va, zD xb, zS, zA ao, zU, zU] [.double xb, .ref ao]
    refine fun T135 X135 eh135 => ?_
    refine own_callVP X135 hx hZ hown (hw _ (wm 50 rfl)) (hw _ (wm 51 rfl)) (hw _ (wm 53 rfl)) (hw _ (wm 52 rfl)) (hw _ (wm 7 rfl)) (hw _ (wm 54 rfl)) (by decide) eh135 EX [.double xb] pd11 rfl (fr := 1) (lo := 24) (rm11_5 l Z a0 hw [] ao la va v0 v1 v2 v3 v4 r1 r2 r3 r4 r5 r6 xb T134.heap n0 Zz1 EX F1 F2 F3 Al Av Nv0 Nv1 Nv2 Nv3 Nv4 Hr1.1 Hr2.1 Hr3.1 Hr4.1 Hr5.1 Hr6.1 Nxb) (by rw [hml]; rfl) 0 rfl (Nat.le_of_eq rfl) (hb hby at_192) (by decide) (by decide) (by decide) (by decide) (fun T136 rv136 X136 eh136 qc136 => ?_)
    obtain ⟨got, rfl, hp⟩ := qc136
    show own_Go p.tables e below _ (T136.setTop (mkF m 195 (Array.mk [zL pk, zS, zI sz, zI bs, zI 5, zD v0, zS, zD v1, zS, zD v2, zS, zD v3, zS, zD v4, zS, zD v5, zS, zD v6, zS, zD v7, zS, zA va, zD xb, zS, zA ao, zU, zU]) [.int got]))
    have hq := own_first_5 v0 v1 v2 v3 v4 r4 r5 r6 r2 r3 r1 xb got Hr4 Hr5 Hr6 Hr2 Hr3 Hr1 hI hp
    rcases hq with ⟨rfl, u0, u1, u2, u3, u4⟩ | ⟨rfl, u0⟩ | ⟨rfl, u1, u0⟩ | ⟨rfl, u2, u0, u1⟩ | ⟨rfl, u3, u0, u1, u2⟩ | ⟨rfl, u4, u0, u1, u2, u3⟩
    · skip
      show own_Go p.tables e below _ (T136.setTop (mkF m 195 (Array.mk [zL pk, zS, zI sz, zI bs, zI 5, zD v0, zS, zD v1, zS, zD v2, zS, zD v3, zS, zD v4, zS, zD v5, zS, zD v6, zS, zD v7, zS, zA va, zD xb, zS, zA ao, zU, zU]) [.int (-1)]))
      refine own_blk dec0 seq0 hby hx hZ hown hK hF 51 [true, true, true, false, true, false, true, false, true, false, true, false, true, false] [.int 7, .int 6] X136 eh136 ?_
      show ((Int8.ofInt 7).toInt32 = (7 : Int32)) ∧ (((5 : Int32)).toInt ≤ ((7 : Int32)).toInt) ∧ ((Int8.ofInt 6).toInt32 = (6 : Int32)) ∧ (((5 : Int32)).toInt ≤ ((6 : Int32)).toInt) ∧ (((5 : Int32)).toInt ≤ ((5 : Int32)).toInt) ∧ (¬ (((5 : Int32)).toInt ≤ ((4 : Int32)).toInt)) ∧ (0 < (cmpValue (FP.dcmp v4 xb) .g).toInt) ∧ (¬ (((5 : Int32)).toInt ≤ ((3 : Int32)).toInt)) ∧ (0 < (cmpValue (FP.dcmp v3 xb) .g).toInt) ∧ (¬ (((5 : Int32)).toInt ≤ ((2 : Int32)).toInt)) ∧ (0 < (cmpValue (FP.dcmp v2 xb) .g).toInt) ∧ (¬ (((5 : Int32)).toInt ≤ ((1 : Int32)).toInt)) ∧ (0 < (cmpValue (FP.dcmp v1 xb) .g).toInt) ∧ (¬ (((5 : Int32)).toInt ≤ 0)) ∧ (0 < (cmpValue (FP.dcmp v0 xb) .g).toInt) ∧ (¬ (((-1 : Int32)).toInt ≠ ((-1 : Int32)).toInt)) ∧ own_Aft X136 T134.heap _ 351 [zL pk, zS, zI sz, zI bs, zI 5, zD v0, zS, zD v1, zS, zD v2, zS, zD v3, zS, zD v4, zS, zD v5, zS, zD v6, zS, zD v7, zS, zA va, zD xb, zS, zA ao, zI (-1), zI (-1)] [.int 1]
      refine ⟨by decide +kernel, by decide, by decide +kernel, by decide, by decide, by decide, own_ggt Nv4 Nxb u4, by decide, own_ggt Nv3 Nxb u3, by decide, own_ggt Nv2 Nxb u2, by decide, own_ggt Nv1 Nxb u1, by decide, own_ggt Nv0 Nxb u0, by decide, fun T137 X137 eh137 => ?_⟩
      exact own_ret X137 hx hlk eh137 hret (by first | rfl | decide) (Or.inl ⟨rfl, by simp, _, rfl⟩) (hb hby at_351) (by decide) (by decide) (⟨rfl, N1_⟩)
    · skip
      show own_Go p.tables e below _ (T136.setTop (mkF m 195 (Array.mk [zL pk, zS, zI sz, zI bs, zI 5, zD v0, zS, zD v1, zS, zD v2, zS, zD v3, zS, zD v4, zS, zD v5, zS, zD v6, zS, zD v7, zS, zA va, zD xb, zS, zA ao, zU, zU]) [.int 0]))
      refine own_blk dec0 seq0 hby hx hZ hown hK hF 12 [true, true, true] [.int 7, .int 6] X136 eh136 ?_
      show ((Int8.ofInt 7).toInt32 = (7 : Int32)) ∧ (((5 : Int32)).toInt ≤ ((7 : Int32)).toInt) ∧ ((Int8.ofInt 6).toInt32 = (6 : Int32)) ∧ (((5 : Int32)).toInt ≤ ((6 : Int32)).toInt) ∧ (((5 : Int32)).toInt ≤ ((5 : Int32)).toInt) ∧ own_Aft X136 T134.heap _ 255 [zL pk, zS, zI sz, zI bs, zI 5, zD v0, zS, zD v1, zS, zD v2, zS, zD v3, zS, zD v4, zS, zD v5, zS, zD v6, zS, zD v7, zS, zA va, zD xb, zS, zA ao, zI 0, zI (-1)] []
      refine ⟨by decide +kernel, by decide, by decide +kernel, by decide, by decide, fun T138 X138 eh138 => ?_⟩
      refine skip_4 X138 hx hby hml hown hZ hK hF eh138 _ _ _ _ _ _ _ _ _ _ _ _ _ _ _ _ _ _ _ _ _ (5 : Int32) (-1 : Int32) v4 xb Nv4 Nxb (fun wn4 T139 X139 eh139 => ?_)
      refine skip_3 X139 hx hby hml hown hZ hK hF eh139 _ _ _ _ _ _ _ _ _ _ _ _ _ _ _ _ _ _ _ _ _ (5 : Int32) wn4 v3 xb Nv3 Nxb (fun wn3 T140 X140 eh140 => ?_)
      refine skip_2 X140 hx hby hml hown hZ hK hF eh140 _ _ _ _ _ _ _ _ _ _ _ _ _ _ _ _ _ _ _ _ _ (5 : Int32) wn3 v2 xb Nv2 Nxb (fun wn2 T141 X141 eh141 => ?_)
      refine skip_1 X141 hx hby hml hown hZ hK hF eh141 _ _ _ _ _ _ _ _ _ _ _ _ _ _ _ _ _ _ _ _ _ (5 : Int32) wn2 v1 xb Nv1 Nxb (fun wn1 T142 X142 eh142 => ?_)
      refine own_blk dec0 seq0 hby hx hZ hown hK hF 13 [false, false, false] [] X142 eh142 ?_
      show (¬ (((5 : Int32)).toInt ≤ 0)) ∧ (¬ (0 < (cmpValue (FP.dcmp v0 xb) .g).toInt)) ∧ (¬ (((0 : Int32)).toInt ≠ ((0 : Int32)).toInt)) ∧ own_Aft X142 T134.heap _ 351 [zL pk, zS, zI sz, zI bs, zI 5, zD v0, zS, zD v1, zS, zD v2, zS, zD v3, zS, zD v4, zS, zD v5, zS, zD v6, zS, zD v7, zS, zA va, zD xb, zS, zA ao, zI 0, zI 0] [.int 1]
      refine ⟨by decide, by have := own_gle (k := .g) Nv0 Nxb u0; omega, by decide, fun T143 X143 eh143 => ?_⟩
      exact own_ret X143 hx hlk eh143 hret (by first | rfl | decide) (Or.inl ⟨rfl, by simp, _, rfl⟩) (hb hby at_351) (by decide) (by decide) (⟨rfl, N1_⟩)
    · skip
      show own_Go p.tables e below _ (T136.setTop (mkF m 195 (Array.mk [zL pk, zS, zI sz, zI bs, zI 5, zD v0, zS, zD v1, zS, zD v2, zS, zD v3, zS, zD v4, zS, zD v5, zS, zD v6, zS, zD v7, zS, zA va, zD xb, zS, zA ao, zU, zU]) [.int 1]))
      refine own_blk dec0 seq0 hby hx hZ hown hK hF 12 [true, true, true] [.int 7, .int 6] X136 eh136 ?_
      show ((Int8.ofInt 7).toInt32 = (7 : Int32)) ∧ (((5 : Int32)).toInt ≤ ((7 : Int32)).toInt) ∧ ((Int8.ofInt 6).toInt32 = (6 : Int32)) ∧ (((5 : Int32)).toInt ≤ ((6 : Int32)).toInt) ∧ (((5 : Int32)).toInt ≤ ((5 : Int32)).toInt) ∧ own_Aft X136 T134.heap _ 255 [zL pk, zS, zI sz, zI bs, zI 5, zD v0, zS, zD v1, zS, zD v2, zS, zD v3, zS, zD v4, zS, zD v5, zS, zD v6, zS, zD v7, zS, zA va, zD xb, zS, zA ao, zI 1, zI (-1)] []
      refine ⟨by decide +kernel, by decide, by decide +kernel, by decide, by decide, fun T144 X144 eh144 => ?_⟩
      refine skip_4 X144 hx hby hml hown hZ hK hF eh144 _ _ _ _ _ _ _ _ _ _ _ _ _ _ _ _ _ _ _ _ _ (5 : Int32) (-1 : Int32) v4 xb Nv4 Nxb (fun wn4 T145 X145 eh145 => ?_)
      refine skip_3 X145 hx hby hml hown hZ hK hF eh145 _ _ _ _ _ _ _ _ _ _ _ _ _ _ _ _ _ _ _ _ _ (5 : Int32) wn4 v3 xb Nv3 Nxb (fun wn3 T146 X146 eh146 => ?_)
      refine skip_2 X146 hx hby hml hown hZ hK hF eh146 _ _ _ _ _ _ _ _ _ _ _ _ _ _ _ _ _ _ _ _ _ (5 : Int32) wn3 v2 xb Nv2 Nxb (fun wn2 T147 X147 eh147 => ?_)
      refine own_blk dec0 seq0 hby hx hZ hown hK hF 20 [false, false, false, true, false] [] X147 eh147 ?_
      show (¬ (((5 : Int32)).toInt ≤ ((1 : Int32)).toInt)) ∧ (¬ (0 < (cmpValue (FP.dcmp v1 xb) .g).toInt)) ∧ (¬ (((5 : Int32)).toInt ≤ 0)) ∧ (0 < (cmpValue (FP.dcmp v0 xb) .g).toInt) ∧ (¬ (((1 : Int32)).toInt ≠ ((1 : Int32)).toInt)) ∧ own_Aft X147 T134.heap _ 351 [zL pk, zS, zI sz, zI bs, zI 5, zD v0, zS, zD v1, zS, zD v2, zS, zD v3, zS, zD v4, zS, zD v5, zS, zD v6, zS, zD v7, zS, zA va, zD xb, zS, zA ao, zI 1, zI 1] [.int 1]
      refine ⟨by decide, by have := own_gle (k := .g) Nv1 Nxb u1; omega, by decide, own_ggt Nv0 Nxb u0, by decide, fun T148 X148 eh148 => ?_⟩
      exact own_ret X148 hx hlk eh148 hret (by first | rfl | decide) (Or.inl ⟨rfl, by simp, _, rfl⟩) (hb hby at_351) (by decide) (by decide) (⟨rfl, N1_⟩)
    · skip
      show own_Go p.tables e below _ (T136.setTop (mkF m 195 (Array.mk [zL pk, zS, zI sz, zI bs, zI 5, zD v0, zS, zD v1, zS, zD v2, zS, zD v3, zS, zD v4, zS, zD v5, zS, zD v6, zS, zD v7, zS, zA va, zD xb, zS, zA ao, zU, zU]) [.int 2]))
      refine own_blk dec0 seq0 hby hx hZ hown hK hF 12 [true, true, true] [.int 7, .int 6] X136 eh136 ?_
      show ((Int8.ofInt 7).toInt32 = (7 : Int32)) ∧ (((5 : Int32)).toInt ≤ ((7 : Int32)).toInt) ∧ ((Int8.ofInt 6).toInt32 = (6 : Int32)) ∧ (((5 : Int32)).toInt ≤ ((6 : Int32)).toInt) ∧ (((5 : Int32)).toInt ≤ ((5 : Int32)).toInt) ∧ own_Aft X136 T134.heap _ 255 [zL pk, zS, zI sz, zI bs, zI 5, zD v0, zS, zD v1, zS, zD v2, zS, zD v3, zS, zD v4, zS, zD v5, zS, zD v6, zS, zD v7, zS, zA va, zD xb, zS, zA ao, zI 2, zI (-1)] []
      refine ⟨by decide +kernel, by decide, by decide +kernel, by decide, by decide, fun T149 X149 eh149 => ?_⟩
      refine skip_4 X149 hx hby hml hown hZ hK hF eh149 _ _ _ _ _ _ _ _ _ _ _ _ _ _ _ _ _ _ _ _ _ (5 : Int32) (-1 : Int32) v4 xb Nv4 Nxb (fun wn4 T150 X150 eh150 => ?_)
      refine skip_3 X150 hx hby hml hown hZ hK hF eh150 _ _ _ _ _ _ _ _ _ _ _ _ _ _ _ _ _ _ _ _ _ (5 : Int32) wn4 v3 xb Nv3 Nxb (fun wn3 T151 X151 eh151 => ?_)
      refine own_blk dec0 seq0 hby hx hZ hown hK hF 27 [false, false, false, true, false, true, false] [] X151 eh151 ?_
      show (¬ (((5 : Int32)).toInt ≤ ((2 : Int32)).toInt)) ∧ (¬ (0 < (cmpValue (FP.dcmp v2 xb) .g).toInt)) ∧ (¬ (((5 : Int32)).toInt ≤ ((1 : Int32)).toInt)) ∧ (0 < (cmpValue (FP.dcmp v1 xb) .g).toInt) ∧ (¬ (((5 : Int32)).toInt ≤ 0)) ∧ (0 < (cmpValue (FP.dcmp v0 xb) .g).toInt) ∧ (¬ (((2 : Int32)).toInt ≠ ((2 : Int32)).toInt)) ∧ own_Aft X151 T134.heap _ 351 [zL pk, zS, zI sz, zI bs, zI 5, zD v0, zS, zD v1, zS, zD v2, zS, zD v3, zS, zD v4, zS, zD v5, zS, zD v6, zS, zD v7, zS, zA va, zD xb, zS, zA ao, zI 2, zI 2] [.int 1]
      refine ⟨by decide, by have := own_gle (k := .g) Nv2 Nxb u2; omega, by decide, own_ggt Nv1 Nxb u1, by decide, own_ggt Nv0 Nxb u0, by decide, fun T152 X152 eh152 => ?_⟩
      exact own_ret X152 hx hlk eh152 hret (by first | rfl | decide) (Or.inl ⟨rfl, by simp, _, rfl⟩) (hb hby at_351) (by decide) (by decide) (⟨rfl, N1_⟩)
    · skip
      show own_Go p.tables e below _ (T136.setTop (mkF m 195 (Array.mk [zL pk, zS, zI sz, zI bs, zI 5, zD v0, zS, zD v1, zS, zD v2, zS, zD v3, zS, zD v4, zS, zD v5, zS, zD v6, zS, zD v7, zS, zA va, zD xb, zS, zA ao, zU, zU]) [.int 3]))
      refine own_blk dec0 seq0 hby hx hZ hown hK hF 12 [true, true, true] [.int 7, .int 6] X136 eh136 ?_
      show ((Int8.ofInt 7).toInt32 = (7 : Int32)) ∧ (((5 : Int32)).toInt ≤ ((7 : Int32)).toInt) ∧ ((Int8.ofInt 6).toInt32 = (6 : Int32)) ∧ (((5 : Int32)).toInt ≤ ((6 : Int32)).toInt) ∧ (((5 : Int32)).toInt ≤ ((5 : Int32)).toInt) ∧ own_Aft X136 T134.heap _ 255 [zL pk, zS, zI sz, zI bs, zI 5, zD v0, zS, zD v1, zS, zD v2, zS, zD v3, zS, zD v4, zS, zD v5, zS, zD v6, zS, zD v7, zS, zA va, zD xb, zS, zA ao, zI 3, zI (-1)] []
      refine ⟨by decide +kernel, by decide, by decide +kernel, by decide, by decide, fun T153 X153 eh153 => ?_⟩
      refine skip_4 X153 hx hby hml hown hZ hK hF eh153 _ _ _ _ _ _ _ _ _ _ _ _ _ _ _ _ _ _ _ _ _ (5 : Int32) (-1 : Int32) v4 xb Nv4 Nxb (fun wn4 T154 X154 eh154 => ?_)
      refine own_blk dec0 seq0 hby hx hZ hown hK hF 34 [false, false, false, true, false, true, false, true, false] [] X154 eh154 ?_
      show (¬ (((5 : Int32)).toInt ≤ ((3 : Int32)).toInt)) ∧ (¬ (0 < (cmpValue (FP.dcmp v3 xb) .g).toInt)) ∧ (¬ (((5 : Int32)).toInt ≤ ((2 : Int32)).toInt)) ∧ (0 < (cmpValue (FP.dcmp v2 xb) .g).toInt) ∧ (¬ (((5 : Int32)).toInt ≤ ((1 : Int32)).toInt)) ∧ (0 < (cmpValue (FP.dcmp v1 xb) .g).toInt) ∧ (¬ (((5 : Int32)).toInt ≤ 0)) ∧ (0 < (cmpValue (FP.dcmp v0 xb) .g).toInt) ∧ (¬ (((3 : Int32)).toInt ≠ ((3 : Int32)).toInt)) ∧ own_Aft X154 T134.heap _ 351 [zL pk, zS, zI sz, zI bs, zI 5, zD v0, zS, zD v1, zS, zD v2, zS, zD v3, zS, zD v4, zS, zD v5, zS, zD v6, zS, zD v7, zS, zA va, zD xb, zS, zA ao, zI 3, zI 3] [.int 1]
      refine ⟨by decide, by have := own_gle (k := .g) Nv3 Nxb u3; omega, by decide, own_ggt Nv2 Nxb u2, by decide, own_ggt Nv1 Nxb u1, by decide, own_ggt Nv0 Nxb u0, by decide, fun T155 X155 eh155 => ?_⟩
      exact own_ret X155 hx hlk eh155 hret (by first | rfl | decide) (Or.inl ⟨rfl, by simp, _, rfl⟩) (hb hby at_351) (by decide) (by decide) (⟨rfl, N1_⟩)
    · skip
      show own_Go p.tables e below _ (T136.setTop (mkF m 195 (Array.mk [zL pk, zS, zI sz, zI bs, zI 5, zD v0, zS, zD v1, zS, zD v2, zS, zD v3, zS, zD v4, zS, zD v5, zS, zD v6, zS, zD v7, zS, zA va, zD xb, zS, zA ao, zU, zU]) [.int 4]))
      refine own_blk dec0 seq0 hby hx hZ hown hK hF 12 [true, true, true] [.int 7, .int 6] X136 eh136 ?_
      show ((Int8.ofInt 7).toInt32 = (7 : Int32)) ∧ (((5 : Int32)).toInt ≤ ((7 : Int32)).toInt) ∧ ((Int8.ofInt 6).toInt32 = (6 : Int32)) ∧ (((5 : Int32)).toInt ≤ ((6 : Int32)).toInt) ∧ (((5 : Int32)).toInt ≤ ((5 : Int32)).toInt) ∧ own_Aft X136 T134.heap _ 255 [zL pk, zS, zI sz, zI bs, zI 5, zD v0, zS, zD v1, zS, zD v2, zS, zD v3, zS, zD v4, zS, zD v5, zS, zD v6, zS, zD v7, zS, zA va, zD xb, zS, zA ao, zI 4, zI (-1)] []
      refine ⟨by decide +kernel, by decide, by decide +kernel, by decide, by decide, fun T156 X156 eh156 => ?_⟩
      refine own_blk dec0 seq0 hby hx hZ hown hK hF 41 [false, false, false, true, false, true, false, true, false, true, false] [] X156 eh156 ?_
      show (¬ (((5 : Int32)).toInt ≤ ((4 : Int32)).toInt)) ∧ (¬ (0 < (cmpValue (FP.dcmp v4 xb) .g).toInt)) ∧ (¬ (((5 : Int32)).toInt ≤ ((3 : Int32)).toInt)) ∧ (0 < (cmpValue (FP.dcmp v3 xb) .g).toInt) ∧ (¬ (((5 : Int32)).toInt ≤ ((2 : Int32)).toInt)) ∧ (0 < (cmpValue (FP.dcmp v2 xb) .g).toInt) ∧ (¬ (((5 : Int32)).toInt ≤ ((1 : Int32)).toInt)) ∧ (0 < (cmpValue (FP.dcmp v1 xb) .g).toInt) ∧ (¬ (((5 : Int32)).toInt ≤ 0)) ∧ (0 < (cmpValue (FP.dcmp v0 xb) .g).toInt) ∧ (¬ (((4 : Int32)).toInt ≠ ((4 : Int32)).toInt)) ∧ own_Aft X156 T134.heap _ 351 [zL pk, zS, zI sz, zI bs, zI 5, zD v0, zS, zD v1, zS, zD v2, zS, zD v3, zS, zD v4, zS, zD v5, zS, zD v6, zS, zD v7, zS, zA va, zD xb, zS, zA ao, zI 4, zI 4] [.int 1]
      refine ⟨by decide, by have := own_gle (k := .g) Nv4 Nxb u4; omega, by decide, own_ggt Nv3 Nxb u3, by decide, own_ggt Nv2 Nxb u2, by decide, own_ggt Nv1 Nxb u1, by decide, own_ggt Nv0 Nxb u0, by decide, fun T157 X157 eh157 => ?_⟩
      exact own_ret X157 hx hlk eh157 hret (by first | rfl | decide) (Or.inl ⟨rfl, by simp, _, rfl⟩) (hb hby at_351) (by decide) (by decide) (⟨rfl, N1_⟩)
  · skip
    obtain rfl : nn = (6 : Int32) := Int32.toInt_inj.mp hn
    show own_Go p.tables e below _ (T17.setTop (mkF m 67 (Array.mk [zL pk, zS, zI sz, zI bs, zI 6, zD v0, zS, zD v1, zS, zD v2, zS, zD v3, zS, zD v4, zS, zD v5, zS, zD v6, zS, zD v7, zS, zU, zU, zU, zU, zU, zU]) []))
    refine own_blk dec0 seq0 hby hx hZ hown hK hF 1 [] [] X17 eh17 ?_
    show own_Aft X17 h0 _ 69 [zL pk, zS, zI sz, zI bs, zI 6, zD v0, zS, zD v1, zS, zD v2, zS, zD v3, zS, zD v4, zS, zD v5, zS, zD v6, zS, zD v7, zS, zU, zU, zU, zU, zU, zU] [.int 6]
    refine fun T158 X158 eh158 => ?_
    refine own_newP X158 hx hZ (hw _ (wm 4 rfl)) eh158 6 rfl (cap := 6) (by decide) (by decide) (hb hby at_69) (by decide) (by decide) (fun T159 hp159 va ga159 X159 eh159 Ex159 Ar159 => ?_)
    have nw_va : n0 ≤ va := by rw [ga159]; exact Z0
    have Z_159 : n0 ≤ hp159.size := Nat.le_trans Z0 Ex159.1
    have Ar159' : own_A Z hp159 va .double [.double 0, .double 0, .double 0, .double 0, .double 0, .double 0] := Ar159
    show own_Go p.tables e below _ (T159.setTop (mkF m 71 (Array.mk [zL pk, zS, zI sz, zI bs, zI 6, zD v0, zS, zD v1, zS, zD v2, zS, zD v3, zS, zD v4, zS, zD v5, zS, zD v6, zS, zD v7, zS, zU, zU, zU, zU, zU, zU]) [.ref va]))
    refine own_blk dec0 seq0 hby hx hZ hown hK hF 6 [false] [] X159 eh159 ?_
    show (¬ (((6 : Int32)).toInt ≤ 0)) ∧ own_Aft X159 hp159 _ 83 [zL pk, zS, zI sz, zI bs, zI 6, zD v0, zS, zD v1, zS, zD v2, zS, zD v3, zS, zD v4, zS, zD v5, zS, zD v6, zS, zD v7, zS, zA va, zU, zU, zU, zU, zU] [.double v0, .int 0, .ref va]
    refine ⟨by decide, fun T160 X160 eh160 => ?_⟩
    refine own_sD X160 hx hZ eh160 Ar159' 0 rfl (by show 0 < 6; decide) (hb hby at_83) (fun T161 hp161 X161 eh161 Wr161 Ar161 => ?_)
    have Ar161' : own_A Z hp161 va .double [.double v0, .double 0, .double 0, .double 0, .double 0, .double 0] := Ar161
    have Nf161 := Fr.snoc X161 N0 nw_va
    have Z_161 : n0 ≤ hp161.size := by rw [Wr.size Wr161]; exact Z_159
    refine own_blk dec0 seq0 hby hx hZ hown hK hF 6 [false] [] X161 eh161 ?_
    show (¬ (((6 : Int32)).toInt ≤ ((1 : Int32)).toInt)) ∧ own_Aft X161 hp161 _ 95 [zL pk, zS, zI sz, zI bs, zI 6, zD v0, zS, zD v1, zS, zD v2, zS, zD v3, zS, zD v4, zS, zD v5, zS, zD v6, zS, zD v7, zS, zA va, zU, zU, zU, zU, zU] [.double v1, .int 1, .ref va]
    refine ⟨by decide, fun T162 X162 eh162 => ?_⟩
    refine own_sD X162 hx hZ eh162 Ar161' 1 rfl (by show 1 < 6; decide) (hb hby at_95) (fun T163 hp163 X163 eh163 Wr163 Ar163 => ?_)
    have Ar163' : own_A Z hp163 va .double [.double v0, .double v1, .double 0, .double 0, .double 0, .double 0] := Ar163
    have Nf163 := Fr.snoc X163 Nf161 nw_va
    have Z_163 : n0 ≤ hp163.size := by rw [Wr.size Wr163]; exact Z_161
    refine own_blk dec0 seq0 hby hx hZ hown hK hF 6 [false] [] X163 eh163 ?_
    show (¬ (((6 : Int32)).toInt ≤ ((2 : Int32)).toInt)) ∧ own_Aft X163 hp163 _ 107 [zL pk, zS, zI sz, zI bs, zI 6, zD v0, zS, zD v1, zS, zD v2, zS, zD v3, zS, zD v4, zS, zD v5, zS, zD v6, zS, zD v7, zS, zA va, zU, zU, zU, zU, zU] [.double v2, .int 2, .ref va]
    refine ⟨by decide, fun T164 X164 eh164 => ?_⟩
    refine own_sD X164 hx hZ eh164 Ar163' 2 rfl (by show 2 < 6; decide) (hb hby at_107) (fun T165 hp165 X165 eh165 Wr165 Ar165 => ?_)
    have Ar165' : own_A Z hp165 va .double [.double v0, .double v1, .double v2, .double 0, .double 0, .double 0] := Ar165
    have Nf165 := Fr.snoc X165 Nf163 nw_va
    have Z_165 : n0 ≤ hp165.size := by rw [Wr.size Wr165]; exact Z_163
    refine own_blk dec0 seq0 hby hx hZ hown hK hF 6 [false] [] X165 eh165 ?_
    show (¬ (((6 : Int32)).toInt ≤ ((3 : Int32)).toInt)) ∧ own_Aft X165 hp165 _ 119 [zL pk, zS, zI sz, zI bs, zI 6, zD v0, zS, zD v1, zS, zD v2, zS, zD v3, zS, zD v4, zS, zD v5, zS, zD v6, zS, zD v7, zS, zA va, zU, zU, zU, zU, zU] [.double v3, .int 3, .ref va]
    refine ⟨by decide, fun T166 X166 eh166 => ?_⟩
    refine own_sD X166 hx hZ eh166 Ar165' 3 rfl (by show 3 < 6; decide) (hb hby at_119) (fun T167 hp167 X167 eh167 Wr167 Ar167 => ?_)
    have Ar167' : own_A Z hp167 va .double [.double v0, .double v1, .double v2, .double v3, .double 0, .double 0] := Ar167
    have Nf167 := Fr.snoc X167 Nf165 nw_va
    have Z_167 : n0 ≤ hp167.size := by rw [Wr.size Wr167]; exact Z_165
    refine own_blk dec0 seq0 hby hx hZ hown hK hF 6 [false] [] X167 eh167 ?_
    show (¬ (((6 : Int32)).toInt ≤ ((4 : Int32)).toInt)) ∧ own_Aft X167 hp167 _ 131 [zL pk, zS, zI sz, zI bs, zI 6, zD v0, zS, zD v1, zS, zD v2, zS, zD v3, zS, zD v4, zS, zD v5, zS, zD v6, zS, zD v7, zS, zA va, zU, zU, zU, zU, zU] [.double v4, .int 4, .ref va]
    refine ⟨by decide, fun T168 X168 eh168 => ?_⟩
    refine own_sD X168 hx hZ eh168 Ar167' 4 rfl (by show 4 < 6; decide) (hb hby at_131) (fun T169 hp169 X169 eh169 Wr169 Ar169 => ?_)
    have Ar169' : own_A Z hp169 va .double [.double v0, .double v1, .double v2, .double v3, .double v4, .double 0] := Ar169
    have Nf169 := Fr.snoc X169 Nf167 nw_va
    have Z_169 : n0 ≤ hp169.size := by rw [Wr.size Wr169]; exact Z_167
    refine own_blk dec0 seq0 hby hx hZ hown hK hF 6 [false] [] X169 eh169 ?_
    show (¬ (((6 : Int32)).toInt ≤ ((5 : Int32)).toInt)) ∧ own_Aft X169 hp169 _ 143 [zL pk, zS, zI sz, zI bs, zI 6, zD v0, zS, zD v1, zS, zD v2, zS, zD v3, zS, zD v4, zS, zD v5, zS, zD v6, zS, zD v7, zS, zA va, zU, zU, zU, zU, zU] [.double v5, .int 5, .ref va]
    refine ⟨by decide, fun T170 X170 eh170 => ?_⟩
    refine own_sD X170 hx hZ eh170 Ar169' 5 rfl (by show 5 < 6; decide) (hb hby at_143) (fun T171 hp171 X171 eh171 Wr171 Ar171 => ?_)
    have Ar171' : own_A Z hp171 va .double [.double v0, .double v1, .double v2, .double v3, .double v4, .double v5] := Ar171
    have Nf171 := Fr.snoc X171 Nf169 nw_va
    have Z_171 : n0 ≤ hp171.size := by rw [Wr.size Wr171]; exact Z_169
    refine own_blk dec0 seq0 hby hx hZ hown hK hF 6 [true, true] [.int 6, .int 7] X171 eh171 ?_
    show ((Int8.ofInt 6).toInt32 = (6 : Int32)) ∧ (((6 : Int32)).toInt ≤ ((6 : Int32)).toInt) ∧ ((Int8.ofInt 7).toInt32 = (7 : Int32)) ∧ (((6 : Int32)).toInt ≤ ((7 : Int32)).toInt) ∧ own_Aft X171 hp171 _ 172 [zL pk, zS, zI sz, zI bs, zI 6, zD v0, zS, zD v1, zS, zD v2, zS, zD v3, zS, zD v4, zS, zD v5, zS, zD v6, zS, zD v7, zS, zA va, zU, zU, zU, zU, zU] []
    refine ⟨by decide +kernel, by decide, by decide +kernel, by decide, fun T172 X172 eh172 => ?_⟩
    refine own_blk dec0 seq0 hby hx hZ hown hK hF 4 [] [] X172 eh172 ?_
    show own_Aft X172 hp171 _ 177 [zL pk, zS, zI sz, zI bs, zI 6, zD v0, zS, zD v1, zS, zD v2, zS, zD v3, zS, zD v4, zS, zD v5, zS, zD v6, zS, zD v7, zS, zA va, zD (FP.i2d bs.toInt8.toInt32), zS, zU, zU, zU] []
    refine fun T173 X173 eh173 => ?_
    have Nxb : own_num (FP.i2d bs.toInt8.toInt32) := own_fin_num (own_D.i2d _).1
    have hI := own_i2d_inf (bs.toInt8.toInt32)
    generalize FP.i2d bs.toInt8.toInt32 = xb at Nxb hI ⊢
    show own_Go p.tables e below _ (T173.setTop (mkF m 177 (Array.mk [zL pk, zS, zI sz, zI bs, zI 6, zD v0, zS, zD v1, zS, zD v2, zS, zD v3, zS, zD v4, zS, zD v5, zS, zD v6, zS, zD v7, zS, zA va, zD xb, zS, zU, zU, zU]) []))
    refine own_new X173 hx hZ hown (hw _ (wm 5 rfl)) (hw _ (wm 6 rfl)) (hw _ (wm 7 rfl)) eh173 (hb hby at_177) (by decide) (by decide) (fun T174 hp174 ao ga174 X174 eh174 Ex174 Ea174 Dn174 => ?_)
    have ne_va_ao : va ≠ ao := fun q => absurd Ar171'.lt (by rw [q, ga174]; exact Nat.lt_irrefl _)
    have nw_ao : n0 ≤ ao := by rw [ga174]; exact Z_171
    have Ar171'_174 := Ar171'.ext Ex174
    have Z_174 : n0 ≤ hp174.size := Nat.le_trans Z_171 Ex174.1
    have Fn174_values : Fld Z hp174 ao "com/example/binwright/binwright/binning/LeastTree" "values" "[D" (.null) := Dn174 (Or.inr (hw _ (wm 15 rfl))) (ty := (.array .double)) (by decide)
    have Fn174_leaves : Fld Z hp174 ao "com/example/binwright/binwright/binning/LeastTree" "leaves" "I" (.int 0) := Dn174 (Or.inr (hw _ (wm 30 rfl))) (ty := .int) (by decide)
    have Fn174_least : Fld Z hp174 ao "com/example/binwright/binwright/binning/LeastTree" "least" "[D" (.null) := Dn174 (Or.inr (hw _ (wm 32 rfl))) (ty := (.array .double)) (by decide)
    show own_Go p.tables e below _ (T174.setTop (mkF m 180 (Array.mk [zL pk, zS, zI sz, zI bs, zI 6, zD v0, zS, zD v1, zS, zD v2, zS, zD v3, zS, zD v4, zS, zD v5, zS, zD v6, zS, zD v7, zS, zA va, zD xb, zS, zU, zU, zU]) [.ref ao]))
    refine own_blk dec0 seq0 hby hx hZ hown hK hF 2 [] [] X174 eh174 ?_
    show own_Aft X174 hp174 _ 183 [zL pk, zS, zI sz, zI bs, zI 6, zD v0, zS, zD v1, zS, zD v2, zS, zD v3, zS, zD v4, zS, zD v5, zS, zD v6, zS, zD v7, zS, zA va, zD xb, zS, zU, zU, zU] [.ref va, .ref ao, .ref ao]
    refine fun T175 X175 eh175 => ?_
    refine own_callI X175 hx hZ hown rfl (hw _ (wm 8 rfl)) (hw _ (wm 9 rfl)) (hw _ (wm 7 rfl)) (hw _ (wm 10 rfl)) (by decide) eh175 ao [.ref va] pd2 rfl (rm := ({ frames := 3, cells := 1, slots := 8, locals := 64 } : Room)) (rm2_6 l Z a0 hw [] ao va v0 v1 v2 v3 v4 v5 hp174 n0 Z_174 Ea174 nw_ao ne_va_ao Fn174_values Fn174_leaves Fn174_least Ar171'_174 Nv0 Nv1 Nv2 Nv3 Nv4 Nv5) (by rw [hml]; rfl) 1 rfl (Nat.le_of_eq rfl) (hb hby at_183) (by decide) (by decide) (by decide) (by decide) (fun T176 rv176 Lc176 X176 qc176 => ?_)
    obtain ⟨rfl, M1, EX, la, F1, F2, F3, Av, r4, r5, r6, r2, r3, r1, Al, Hr4, Hr5, Hr6, Hr2, Hr3, Hr1⟩ := qc176
    have N1_ := Fr.app Nf171 M1
    have Zz1 : n0 ≤ T176.heap.size := Nat.le_trans nw_ao (Nat.le_of_lt EX.lt)
    show own_Go p.tables e below _ (T176.setTop (mkF m 186 (Array.mk [zL pk, zS, zI sz, zI bs, zI 6, zD v0, zS, zD v1, zS, zD v2, zS, zD v3, zS, zD v4, zS, zD v5, zS, zD v6, zS, zD v7, zS, zA va, zD xb, zS, zU, zU, zU]) [.ref ao]))
    refine own_blk dec0 seq0 hby hx hZ hown hK hF 3 [] [] X176 rfl ?_
    show own_Aft X176 T176.heap _ 192 [zL pk, zS, zI sz, zI bs, zI 6, zD v0, zS, zD v1, zS, zD v2, zS, zD v3, zS, zD v4, zS, zD v5, zS, zD v6, zS, zD v7, zS, zA va, zD xb, zS, zA ao, zU, zU] [.double xb, .ref ao]
    refine fun T177 X177 eh177 => ?_
    refine own_callVP X177 hx hZ hown (hw _ (wm 50 rfl)) (hw _ (wm 51 rfl)) (hw _ (wm 53 rfl)) (hw _ (wm 52 rfl)) (hw _ (wm 7 rfl)) (hw _ (wm 54 rfl)) (by decide) eh177 EX [.double xb] pd11 rfl (fr := 1) (lo := 24) (rm11_6 l Z a0 hw [] ao la va v0 v1 v2 v3 v4 v5 r1 r2 r3 r4 r5 r6 xb T176.heap n0 Zz1 EX F1 F2 F3 Al Av Nv0 Nv1 Nv2 Nv3 Nv4 Nv5 Hr1.1 Hr2.1 Hr3.1 Hr4.1 Hr5.1 Hr6.1 Nxb) (by rw [hml]; rfl) 0 rfl (Nat.le_of_eq rfl) (hb hby at_192) (by decide) (by decide) (by decide) (by decide) (fun T178 rv178 X178 eh178 qc178 => ?_)
    obtain ⟨got, rfl, hp⟩ := qc178
    show own_Go p.tables e below _ (T178.setTop (mkF m 195 (Array.mk [zL pk, zS, zI sz, zI bs, zI 6, zD v0, zS, zD v1, zS, zD v2, zS, zD v3, zS, zD v4, zS, zD v5, zS, zD v6, zS, zD v7, zS, zA va, zD xb, zS, zA ao, zU, zU]) [.int got]))
    have hq := own_first_6 v0 v1 v2 v3 v4 v5 r4 r5 r6 r2 r3 r1 xb got Hr4 Hr5 Hr6 Hr2 Hr3 Hr1 hI hp
    rcases hq with ⟨rfl, u0, u1, u2, u3, u4, u5⟩ | ⟨rfl, u0⟩ | ⟨rfl, u1, u0⟩ | ⟨rfl, u2, u0, u1⟩ | ⟨rfl, u3, u0, u1, u2⟩ | ⟨rfl, u4, u0, u1, u2, u3⟩ | ⟨rfl, u5, u0, u1, u2, u3, u4⟩
    · skip
      show own_Go p.tables e below _ (T178.setTop (mkF m 195 (Array.mk [zL pk, zS, zI sz, zI bs, zI 6, zD v0, zS, zD v1, zS, zD v2, zS, zD v3, zS, zD v4, zS, zD v5, zS, zD v6, zS, zD v7, zS, zA va, zD xb, zS, zA ao, zU, zU]) [.int (-1)]))
      refine own_blk dec0 seq0 hby hx hZ hown hK hF 55 [true, true, false, true, false, true, false, true, false, true, false, true, false, true, false] [.int 7, .int 6] X178 eh178 ?_
      show ((Int8.ofInt 7).toInt32 = (7 : Int32)) ∧ (((6 : Int32)).toInt ≤ ((7 : Int32)).toInt) ∧ ((Int8.ofInt 6).toInt32 = (6 : Int32)) ∧ (((6 : Int32)).toInt ≤ ((6 : Int32)).toInt) ∧ (¬ (((6 : Int32)).toInt ≤ ((5 : Int32)).toInt)) ∧ (0 < (cmpValue (FP.dcmp v5 xb) .g).toInt) ∧ (¬ (((6 : Int32)).toInt ≤ ((4 : Int32)).toInt)) ∧ (0 < (cmpValue (FP.dcmp v4 xb) .g).toInt) ∧ (¬ (((6 : Int32)).toInt ≤ ((3 : Int32)).toInt)) ∧ (0 < (cmpValue (FP.dcmp v3 xb) .g).toInt) ∧ (¬ (((6 : Int32)).toInt ≤ ((2 : Int32)).toInt)) ∧ (0 < (cmpValue (FP.dcmp v2 xb) .g).toInt) ∧ (¬ (((6 : Int32)).toInt ≤ ((1 : Int32)).toInt)) ∧ (0 < (cmpValue (FP.dcmp v1 xb) .g).toInt) ∧ (¬ (((6 : Int32)).toInt ≤ 0)) ∧ (0 < (cmpValue (FP.dcmp v0 xb) .g).toInt) ∧ (¬ (((-1 : Int32)).toInt ≠ ((-1 : Int32)).toInt)) ∧ own_Aft X178 T176.heap _ 351 [zL pk, zS, zI sz, zI bs, zI 6, zD v0, zS, zD v1, zS, zD v2, zS, zD v3, zS, zD v4, zS, zD v5, zS, zD v6, zS, zD v7, zS, zA va, zD xb, zS, zA ao, zI (-1), zI (-1)] [.int 1]
      refine ⟨by decide +kernel, by decide, by decide +kernel, by decide, by decide, own_ggt Nv5 Nxb u5, by decide, own_ggt Nv4 Nxb u4, by decide, own_ggt Nv3 Nxb u3, by decide, own_ggt Nv2 Nxb u2, by decide, own_ggt Nv1 Nxb u1, by decide, own_ggt Nv0 Nxb u0, by decide, fun T179 X179 eh179 => ?_⟩
      exact own_ret X179 hx hlk eh179 hret (by first | rfl | decide) (Or.inl ⟨rfl, by simp, _, rfl⟩) (hb hby at_351) (by decide) (by decide) (⟨rfl, N1_⟩)
    · skip
      show own_Go p.tables e below _ (T178.setTop (mkF m 195 (Array.mk [zL pk, zS, zI sz, zI bs, zI 6, zD v0, zS, zD v1, zS, zD v2, zS, zD v3, zS, zD v4, zS, zD v5, zS, zD v6, zS, zD v7, zS, zA va, zD xb, zS, zA ao, zU, zU]) [.int 0]))
      refine own_blk dec0 seq0 hby hx hZ hown hK hF 9 [true, true] [.int 7, .int 6] X178 eh178 ?_
      show ((Int8.ofInt 7).toInt32 = (7 : Int32)) ∧ (((6 : Int32)).toInt ≤ ((7 : Int32)).toInt) ∧ ((Int8.ofInt 6).toInt32 = (6 : Int32)) ∧ (((6 : Int32)).toInt ≤ ((6 : Int32)).toInt) ∧ own_Aft X178 T176.heap _ 238 [zL pk, zS, zI sz, zI bs, zI 6, zD v0, zS, zD v1, zS, zD v2, zS, zD v3, zS, zD v4, zS, zD v5, zS, zD v6, zS, zD v7, zS, zA va, zD xb, zS, zA ao, zI 0, zI (-1)] []
      refine ⟨by decide +kernel, by decide, by decide +kernel, by decide, fun T180 X180 eh180 => ?_⟩
      refine skip_5 X180 hx hby hml hown hZ hK hF eh180 _ _ _ _ _ _ _ _ _ _ _ _ _ _ _ _ _ _ _ _ _ (6 : Int32) (-1 : Int32) v5 xb Nv5 Nxb (fun wn5 T181 X181 eh181 => ?_)
      refine skip_4 X181 hx hby hml hown hZ hK hF eh181 _ _ _ _ _ _ _ _ _ _ _ _ _ _ _ _ _ _ _ _ _ (6 : Int32) wn5 v4 xb Nv4 Nxb (fun wn4 T182 X182 eh182 => ?_)
      refine skip_3 X182 hx hby hml hown hZ hK hF eh182 _ _ _ _ _ _ _ _ _ _ _ _ _ _ _ _ _ _ _ _ _ (6 : Int32) wn4 v3 xb Nv3 Nxb (fun wn3 T183 X183 eh183 => ?_)
      refine skip_2 X183 hx hby hml hown hZ hK hF eh183 _ _ _ _ _ _ _ _ _ _ _ _ _ _ _ _ _ _ _ _ _ (6 : Int32) wn3 v2 xb Nv2 Nxb (fun wn2 T184 X184 eh184 => ?_)
      refine skip_1 X184 hx hby hml hown hZ hK hF eh184 _ _ _ _ _ _ _ _ _ _ _ _ _ _ _ _ _ _ _ _ _ (6 : Int32) wn2 v1 xb Nv1 Nxb (fun wn1 T185 X185 eh185 => ?_)
      refine own_blk dec0 seq0 hby hx hZ hown hK hF 13 [false, false, false] [] X185 eh185 ?_
      show (¬ (((6 : Int32)).toInt ≤ 0)) ∧ (¬ (0 < (cmpValue (FP.dcmp v0 xb) .g).toInt)) ∧ (¬ (((0 : Int32)).toInt ≠ ((0 : Int32)).toInt)) ∧ own_Aft X185 T176.heap _ 351 [zL pk, zS, zI sz, zI bs, zI 6, zD v0, zS, zD v1, zS, zD v2, zS, zD v3, zS, zD v4, zS, zD v5, zS, zD v6, zS, zD v7, zS, zA va, zD xb, zS, zA ao, zI 0, zI 0] [.int 1]
      refine ⟨by decide, by have := own_gle (k := .g) Nv0 Nxb u0; omega, by decide, fun T186 X186 eh186 => ?_⟩
      exact own_ret X186 hx hlk eh186 hret (by first | rfl | decide) (Or.inl ⟨rfl, by simp, _, rfl⟩) (hb hby at_351) (by decide) (by decide) (⟨rfl, N1_⟩)
    · skip
      show own_Go p.tables e below _ (T178.setTop (mkF m 195 (Array.mk [zL pk, zS, zI sz, zI bs, zI 6, zD v0, zS, zD v1, zS, zD v2, zS, zD v3, zS, zD v4, zS, zD v5, zS, zD v6, zS, zD v7, zS, zA va, zD xb, zS, zA ao, zU, zU]) [.int 1]))
      refine own_blk dec0 seq0 hby hx hZ hown hK hF 9 [true, true] [.int 7, .int 6] X178 eh178 ?_
      show ((Int8.ofInt 7).toInt32 = (7 : Int32)) ∧ (((6 : Int32)).toInt ≤ ((7 : Int32)).toInt) ∧ ((Int8.ofInt 6).toInt32 = (6 : Int32)) ∧ (((6 : Int32)).toInt ≤ ((6 : Int32)).toInt) ∧ own_Aft X178 T176.heap _ 238 [zL pk, zS, zI sz, zI bs, zI 6, zD v0, zS, zD v1, zS, zD v2, zS, zD v3, zS, zD v4, zS, zD v5, zS, zD v6, zS, zD v7, zS, zA va, zD xb, zS, zA ao, zI 1, zI (-1)] []
      refine ⟨by decide +kernel, by decide, by decide +kernel, by decide, fun T187 X187 eh187 => ?_⟩
      refine skip_5 X187 hx hby hml hown hZ hK hF eh187 _ _ _ _ _ _ _ _ _ _ _ _ _ _ _ _ _ _ _ _ _ (6 : Int32) (-1 : Int32) v5 xb Nv5 Nxb (fun wn5 T188 X188 eh188 => ?_)
      refine skip_4 X188 hx hby hml hown hZ hK hF eh188 _ _ _ _ _ _ _ _ _ _ _ _ _ _ _ _ _ _ _ _ _ (6 : Int32) wn5 v4 xb Nv4 Nxb (fun wn4 T189 X189 eh189 => ?_)
      refine skip_3 X189 hx hby hml hown hZ hK hF eh189 _ _ _ _ _ _ _ _ _ _ _ _ _ _ _ _ _ _ _ _ _ (6 : Int32) wn4 v3 xb Nv3 Nxb (fun wn3 T190 X190 eh190 => ?_)
      refine skip_2 X190 hx hby hml hown hZ hK hF eh190 _ _ _ _ _ _ _ _ _ _ _ _ _ _ _ _ _ _ _ _ _ (6 : Int32) wn3 v2 xb Nv2 Nxb (fun wn2 T191 X191 eh191 => ?_)
      refine own_blk dec0 seq0 hby hx hZ hown hK hF 20 [false, false, false, true, false] [] X191 eh191 ?_
      show (¬ (((6 : Int32)).toInt ≤ ((1 : Int32)).toInt)) ∧ (¬ (0 < (cmpValue (FP.dcmp v1 xb) .g).toInt)) ∧ (¬ (((6 : Int32)).toInt ≤ 0)) ∧ (0 < (cmpValue (FP.dcmp v0 xb) .g).toInt) ∧ (¬ (((1 : Int32)).toInt ≠ ((1 : Int32)).toInt)) ∧ own_Aft X191 T176.heap _ 351 [zL pk, zS, zI sz, zI bs, zI 6, zD v0, zS, zD v1, zS, zD v2, zS, zD v3, zS, zD v4, zS, zD v5, zS, zD v6, zS, zD v7, zS, zA va, zD xb, zS, zA ao, zI 1, zI 1] [.int 1]
      refine ⟨by decide, by have := own_gle (k := .g) Nv1 Nxb u1; omega, by decide, own_ggt Nv0 Nxb u0, by decide, fun T192 X192 eh192 => ?_⟩
      exact own_ret X192 hx hlk eh192 hret (by first | rfl | decide) (Or.inl ⟨rfl, by simp, _, rfl⟩) (hb hby at_351) (by decide) (by decide) (⟨rfl, N1_⟩)
    · skip
      show own_Go p.tables e below _ (T178.setTop (mkF m 195 (Array.mk [zL pk, zS, zI sz, zI bs, zI 6, zD v0, zS, zD v1, zS, zD v2, zS, zD v3, zS, zD v4, zS, zD v5, zS, zD v6, zS, zD v7, zS, zA va, zD xb, zS, zA ao, zU, zU]) [.int 2]))
      refine own_blk dec0 seq0 hby hx hZ hown hK hF 9 [true, true] [.int 7, .int 6] X178 eh178 ?_
      show ((Int8.ofInt 7).toInt32 = (7 : Int32)) ∧ (((6 : Int32)).toInt ≤ ((7 : Int32)).toInt) ∧ ((Int8.ofInt 6).toInt32 = (6 : Int32)) ∧ (((6 : Int32)).toInt ≤ ((6 : Int32)).toInt) ∧ own_Aft X178 T176.heap _ 238 [zL pk, zS, zI sz, zI bs, zI 6, zD v0, zS, zD v1, zS, zD v2, zS, zD v3, zS, zD v4, zS, zD v5, zS, zD v6, zS, zD v7, zS, zA va, zD xb, zS, zA ao, zI 2, zI (-1)] []
      refine ⟨by decide +kernel, by decide, by decide +kernel, by decide, fun T193 X193 eh193 => ?_⟩
      refine skip_5 X193 hx hby hml hown hZ hK hF eh193 _ _ _ _ _ _ _ _ _ _ _ _ _ _ _ _ _ _ _ _ _ (6 : Int32) (-1 : Int32) v5 xb Nv5 Nxb (fun wn5 T194 X194 eh194 => ?_)
      refine skip_4 X194 hx hby hml hown hZ hK hF eh194 _ _ _ _ _ _ _ _ _ _ _ _ _ _ _ _ _ _ _ _ _ (6 : Int32) wn5 v4 xb Nv4 Nxb (fun wn4 T195 X195 eh195 => ?_)
      refine skip_3 X195 hx hby hml hown hZ hK hF eh195 _ _ _ _ _ _ _ _ _ _ _ _ _ _ _ _ _ _ _ _ _ (6 : Int32) wn4 v3 xb Nv3 Nxb (fun wn3 T196 X196 eh196 => ?_)
      refine own_blk dec0 seq0 hby hx hZ hown hK hF 27 [false, false, false, true, false, true, false] [] X196 eh196 ?_
      show (¬ (((6 : Int32)).toInt ≤ ((2 : Int32)).toInt)) ∧ (¬ (0 < (cmpValue (FP.dcmp v2 xb) .g).toInt)) ∧ (¬ (((6 : Int32)).toInt ≤ ((1 : Int32)).toInt)) ∧ (0 < (cmpValue (FP.dcmp v1 xb) .g).toInt) ∧ (¬ (((6 : Int32)).toInt ≤ 0)) ∧ (0 < (cmpValue (FP.dcmp v0 xb) .g).toInt) ∧ (¬ (((2 : Int32)).toInt ≠ ((2 : Int32)).toInt)) ∧ own_Aft X196 T176.heap _ 351 [zL pk, zS, zI sz, zI bs, zI 6, zD v0, zS, zD v1, zS, zD v2, zS, zD v3, zS, zD v4, zS, zD v5, zS, zD v6, zS, zD v7, zS, zA va, zD xb, zS, zA ao, zI 2, zI 2] [.int 1]
      refine ⟨by decide, by have := own_gle (k := .g) Nv2 Nxb u2; omega, by decide, own_ggt Nv1 Nxb u1, by decide, own_ggt Nv0 Nxb u0, by decide, fun T197 X197 eh197 => ?_⟩
      exact own_ret X197 hx hlk eh197 hret (by first | rfl | decide) (Or.inl ⟨rfl, by simp, _, rfl⟩) (hb hby at_351) (by decide) (by decide) (⟨rfl, N1_⟩)
    · skip
      show own_Go p.tables e below _ (T178.setTop (mkF m 195 (Array.mk [zL pk, zS, zI sz, zI bs, zI 6, zD v0, zS, zD v1, zS, zD v2, zS, zD v3, zS, zD v4, zS, zD v5, zS, zD v6, zS, zD v7, zS, zA va, zD xb, zS, zA ao, zU, zU]) [.int 3]))
      refine own_blk dec0 seq0 hby hx hZ hown hK hF 9 [true, true] [.int 7, .int 6] X178 eh178 ?_
      show ((Int8.ofInt 7).toInt32 = (7 : Int32)) ∧ (((6 : Int32)).toInt ≤ ((7 : Int32)).toInt) ∧ ((Int8.ofInt 6).toInt32 = (6 : Int32)) ∧ (((6 : Int32)).toInt ≤ ((6 : Int32)).toInt) ∧ own_Aft X178 T176.heap _ 238 [zL pk, zS, zI sz, zI bs, zI 6, zD v0, zS, zD v1, zS, zD v2, zS, zD v3, zS, zD v4, zS, zD v5, zS, zD v6, zS, zD v7, zS, zA va, zD xb, zS, zA ao, zI 3, zI (-1)] []
      refine ⟨by decide +kernel, by decide, by decide +kernel, by decide, fun T198 X198 eh198 => ?_⟩
      refine skip_5 X198 hx hby hml hown hZ hK hF eh198 _ _ _ _ _ _ _ _ _ _ _ _ _ _ _ _ _ _ _ _ _ (6 : Int32) (-1 : Int32) v5 xb Nv5 Nxb (fun wn5 T199 X199 eh199 => ?_)
      refine skip_4 X199 hx hby hml hown hZ hK hF eh199 _ _ _ _ _ _ _ _ _ _ _ _ _ _ _ _ _ _ _ _ _ (6 : Int32) wn5 v4 xb Nv4 Nxb (fun wn4 T200 X200 eh200 => ?_)
      refine own_blk dec0 seq0 hby hx hZ hown hK hF 34 [false, false, false, true, false, true, false, true, false] [] X200 eh200 ?_
      show (¬ (((6 : Int32)).toInt ≤ ((3 : Int32)).toInt)) ∧ (¬ (0 < (cmpValue (FP.dcmp v3 xb) .g).toInt)) ∧ (¬ (((6 : Int32)).toInt ≤ ((2 : Int32)).toInt)) ∧ (0 < (cmpValue (FP.dcmp v2 xb) .g).toInt) ∧ (¬ (((6 : Int32)).toInt ≤ ((1 : Int32)).toInt)) ∧ (0 < (cmpValue (FP.dcmp v1 xb) .g).toInt) ∧ (¬ (((6 : Int32)).toInt ≤ 0)) ∧ (0 < (cmpValue (FP.dcmp v0 xb) .g).toInt) ∧ (¬ (((3 : Int32)).toInt ≠ ((3 : Int32)).toInt)) ∧ own_Aft X200 T176.heap _ 351 [zL pk, zS, zI sz, zI bs, zI 6, zD v0, zS, zD v1, zS, zD v2, zS, zD v3, zS, zD v4, zS, zD v5, zS, zD v6, zS, zD v7, zS, zA va, zD xb, zS, zA ao, zI 3, zI 3] [.int 1]
      refine ⟨by decide, by have := own_gle (k := .g) Nv3 Nxb u3; omega, by decide, own_ggt Nv2 Nxb u2, by decide, own_ggt Nv1 Nxb u1, by decide, own_ggt Nv0 Nxb u0, by decide, fun T201 X201 eh201 => ?_⟩
      exact own_ret X201 hx hlk eh201 hret (by first | rfl | decide) (Or.inl ⟨rfl, by simp, _, rfl⟩) (hb hby at_351) (by decide) (by decide) (⟨rfl, N1_⟩)
    · skip
      show own_Go p.tables e below _ (T178.setTop (mkF m 195 (Array.mk [zL pk, zS, zI sz, zI bs, zI 6, zD v0, zS, zD v1, zS, zD v2, zS, zD v3, zS, zD v4, zS, zD v5, zS, zD v6, zS, zD v7, zS, zA va, zD xb, zS, zA ao, zU, zU]) [.int 4]))
      refine own_blk dec0 seq0 hby hx hZ hown hK hF 9 [true, true] [.int 7, .int 6] X178 eh178 ?_
      show ((Int8.ofInt 7).toInt32 = (7 : Int32)) ∧ (((6 : Int32)).toInt ≤ ((7 : Int32)).toInt) ∧ ((Int8.ofInt 6).toInt32 = (6 : Int32)) ∧ (((6 : Int32)).toInt ≤ ((6 : Int32)).toInt) ∧ own_Aft X178 T176.heap _ 238 [zL pk, zS, zI sz, zI bs, zI 6, zD v0, zS, zD v1, zS, zD v2, zS, zD v3, zS, zD v4, zS, zD v5, zS, zD v6, zS, zD v7, zS, zA va, zD xb, zS, zA ao, zI 4, zI (-1)] []
      refine ⟨by decide +kernel, by decide, by decide +kernel, by decide, fun T202 X202 eh202 => ?_⟩
      refine skip_5 X202 hx hby hml hown hZ hK hF eh202 _ _ _ _ _ _ _ _ _ _ _ _ _ _ _ _ _ _ _ _ _ (6 : Int32) (-1 : Int32) v5 xb Nv5 Nxb (fun wn5 T203 X203 eh203 => ?_)
      refine own_blk dec0 seq0 hby hx hZ hown hK hF 41 [false, false, false, true, false, true, false, true, false, true, false] [] X203 eh203 ?_
      show (¬ (((6 : Int32)).toInt ≤ ((4 : Int32)).toInt)) ∧ (¬ (0 < (cmpValue (FP.dcmp v4 xb) .g).toInt)) ∧ (¬ (((6 : Int32)).toInt ≤ ((3 : Int32)).toInt)) ∧ (0 < (cmpValue (FP.dcmp v3 xb) .g).toInt) ∧ (¬ (((6 : Int32)).toInt ≤ ((2 : Int32)).toInt)) ∧ (0 < (cmpValue (FP.dcmp v2 xb) .g).toInt) ∧ (¬ (((6 : Int32)).toInt ≤ ((1 : Int32)).toInt)) ∧ (0 < (cmpValue (FP.dcmp v1 xb) .g).toInt) ∧ (¬ (((6 : Int32)).toInt ≤ 0)) ∧ (0 < (cmpValue (FP.dcmp v0 xb) .g).toInt) ∧ (¬ (((4 : Int32)).toInt ≠ ((4 : Int32)).toInt)) ∧ own_Aft X203 T176.heap _ 351 [zL pk, zS, zI sz, zI bs, zI 6, zD v0, zS, zD v1, zS, zD v2, zS, zD v3, zS, zD v4, zS, zD v5, zS, zD v6, zS, zD v7, zS, zA va, zD xb, zS, zA ao, zI 4, zI 4] [.int 1]
      refine ⟨by decide, by have := own_gle (k := .g) Nv4 Nxb u4; omega, by decide, own_ggt Nv3 Nxb u3, by decide, own_ggt Nv2 Nxb u2, by decide, own_ggt Nv1 Nxb u1, by decide, own_ggt Nv0 Nxb u0, by decide, fun T204 X204 eh204 => ?_⟩
      exact own_ret X204 hx hlk eh204 hret (by first | rfl | decide) (Or.inl ⟨rfl, by simp, _, rfl⟩) (hb hby at_351) (by decide) (by decide) (⟨rfl, N1_⟩)
    · skip
      show own_Go p.tables e below _ (T178.setTop (mkF m 195 (Array.mk [zL pk, zS, zI sz, zI bs, zI 6, zD v0, zS, zD v1, zS, zD v2, zS, zD v3, zS, zD v4, zS, zD v5, zS, zD v6, zS, zD v7, zS, zA va, zD xb, zS, zA ao, zU, zU]) [.int 5]))
      refine own_blk dec0 seq0 hby hx hZ hown hK hF 9 [true, true] [.int 7, .int 6] X178 eh178 ?_
      show ((Int8.ofInt 7).toInt32 = (7 : Int32)) ∧ (((6 : Int32)).toInt ≤ ((7 : Int32)).toInt) ∧ ((Int8.ofInt 6).toInt32 = (6 : Int32)) ∧ (((6 : Int32)).toInt ≤ ((6 : Int32)).toInt) ∧ own_Aft X178 T176.heap _ 238 [zL pk, zS, zI sz, zI bs, zI 6, zD v0, zS, zD v1, zS, zD v2, zS, zD v3, zS, zD v4, zS, zD v5, zS, zD v6, zS, zD v7, zS, zA va, zD xb, zS, zA ao, zI 5, zI (-1)] []
      refine ⟨by decide +kernel, by decide, by decide +kernel, by decide, fun T205 X205 eh205 => ?_⟩
      refine own_blk dec0 seq0 hby hx hZ hown hK hF 48 [false, false, false, true, false, true, false, true, false, true, false, true, false] [] X205 eh205 ?_
      show (¬ (((6 : Int32)).toInt ≤ ((5 : Int32)).toInt)) ∧ (¬ (0 < (cmpValue (FP.dcmp v5 xb) .g).toInt)) ∧ (¬ (((6 : Int32)).toInt ≤ ((4 : Int32)).toInt)) ∧ (0 < (cmpValue (FP.dcmp v4 xb) .g).toInt) ∧ (¬ (((6 : Int32)).toInt ≤ ((3 : Int32)).toInt)) ∧ (0 < (cmpValue (FP.dcmp v3 xb) .g).toInt) ∧ (¬ (((6 : Int32)).toInt ≤ ((2 : Int32)).toInt)) ∧ (0 < (cmpValue (FP.dcmp v2 xb) .g).toInt) ∧ (¬ (((6 : Int32)).toInt ≤ ((1 : Int32)).toInt)) ∧ (0 < (cmpValue (FP.dcmp v1 xb) .g).toInt) ∧ (¬ (((6 : Int32)).toInt ≤ 0)) ∧ (0 < (cmpValue (FP.dcmp v0 xb) .g).toInt) ∧ (¬ (((5 : Int32)).toInt ≠ ((5 : Int32)).toInt)) ∧ own_Aft X205 T176.heap _ 351 [zL pk, zS, zI sz, zI bs, zI 6, zD v0, zS, zD v1, zS, zD v2, zS, zD v3, zS, zD v4, zS, zD v5, zS, zD v6, zS, zD v7, zS, zA va, zD xb, zS, zA ao, zI 5, zI 5] [.int 1]
      refine ⟨by decide, by have := own_gle (k := .g) Nv5 Nxb u5; omega, by decide, own_ggt Nv4 Nxb u4, by decide, own_ggt Nv3 Nxb u3, by decide, own_ggt Nv2 Nxb u2, by decide, own_ggt Nv1 Nxb u1, by decide, own_ggt Nv0 Nxb u0, by decide, fun T206 X206 eh206 => ?_⟩
      exact own_ret X206 hx hlk eh206 hret (by first | rfl | decide) (Or.inl ⟨rfl, by simp, _, rfl⟩) (hb hby at_351) (by decide) (by decide) (⟨rfl, N1_⟩)
  · skip
    obtain rfl : nn = (7 : Int32) := Int32.toInt_inj.mp hn
    show own_Go p.tables e below _ (T17.setTop (mkF m 67 (Array.mk [zL pk, zS, zI sz, zI bs, zI 7, zD v0, zS, zD v1, zS, zD v2, zS, zD v3, zS, zD v4, zS, zD v5, zS, zD v6, zS, zD v7, zS, zU, zU, zU, zU, zU, zU]) []))
    refine own_blk dec0 seq0 hby hx hZ hown hK hF 1 [] [] X17 eh17 ?_
    show own_Aft X17 h0 _ 69 [zL pk, zS, zI sz, zI bs, zI 7, zD v0, zS, zD v1, zS, zD v2, zS, zD v3, zS, zD v4, zS, zD v5, zS, zD v6, zS, zD v7, zS, zU, zU, zU, zU, zU, zU] [.int 7]
    refine fun T207 X207 eh207 => ?_
    refine own_newP X207 hx hZ (hw _ (wm 4 rfl)) eh207 7 rfl (cap := 7) (by decide) (by decide) (hb hby at_69) (by decide) (by decide) (fun T208 hp208 va ga208 X208 eh208 Ex208 Ar208 => ?_)
    have nw_va : n0 ≤ va := by rw [ga208]; exact Z0
    have Z_208 : n0 ≤ hp208.size := Nat.le_trans Z0 Ex208.1
    have Ar208' : own_A Z hp208 va .double [.double 0, .double 0, .double 0, .double 0, .double 0, .double 0, .double 0] := Ar208
    show own_Go p.tables e below _ (T208.setTop (mkF m 71 (Array.mk [zL pk, zS, zI sz, zI bs, zI 7, zD v0, zS, zD v1, zS, zD v2, zS, zD v3, zS, zD v4, zS, zD v5, zS, zD v6, zS, zD v7, zS, zU, zU, zU, zU, zU, zU]) [.ref va]))
    refine own_blk dec0 seq0 hby hx hZ hown hK hF 6 [false] [] X208 eh208 ?_
    show (¬ (((7 : Int32)).toInt ≤ 0)) ∧ own_Aft X208 hp208 _ 83 [zL pk, zS, zI sz, zI bs, zI 7, zD v0, zS, zD v1, zS, zD v2, zS, zD v3, zS, zD v4, zS, zD v5, zS, zD v6, zS, zD v7, zS, zA va, zU, zU, zU, zU, zU] [.double v0, .int 0, .ref va]
    refine ⟨by decide, fun T209 X209 eh209 => ?_⟩
    refine own_sD X209 hx hZ eh209 Ar208' 0 rfl (by show 0 < 7; decide) (hb hby at_83) (fun T210 hp210 X210 eh210 Wr210 Ar210 => ?_)
    have Ar210' : own_A Z hp210 va .double [.double v0, .double 0, .double 0, .double 0, .double 0, .double 0, .double 0] := Ar210
    have Nf210 := Fr.snoc X210 N0 nw_va
    have Z_210 : n0 ≤ hp210.size := by rw [Wr.size Wr210]; exact Z_208
    refine own_blk dec0 seq0 hby hx hZ hown hK hF 6 [false] [] X210 eh210 ?_
    show (¬ (((7 : Int32)).toInt ≤ ((1 : Int32)).toInt)) ∧ own_Aft X210 hp210 _ 95 [zL pk, zS, zI sz, zI bs, zI 7, zD v0, zS, zD v1, zS, zD v2, zS, zD v3, zS, zD v4, zS, zD v5, zS, zD v6, zS, zD v7, zS, zA va, zU, zU, zU, zU, zU] [.double v1, .int 1, .ref va]
    refine ⟨by decide, fun T211 X211 eh211 => ?_⟩
    refine own_sD X211 hx hZ eh211 Ar210' 1 rfl (by show 1 < 7; decide) (hb hby at_95) (fun T212 hp212 X212 eh212 Wr212 Ar212 => ?_)
    have Ar212' : own_A Z hp212 va .double [.double v0, .double v1, .double 0, .double 0, .double 0, .double 0, .double 0] := Ar212
    have Nf212 := Fr.snoc X212 Nf210 nw_va
    have Z_212 : n0 ≤ hp212.size := by rw [Wr.size Wr212]; exact Z_210
    refine own_blk dec0 seq0 hby hx hZ hown hK hF 6 [false] [] X212 eh212 ?_
    show (¬ (((7 : Int32)).toInt ≤ ((2 : Int32)).toInt)) ∧ own_Aft X212 hp212 _ 107 [zL pk, zS, zI sz, zI bs, zI 7, zD v0, zS, zD v1, zS, zD v2, zS, zD v3, zS, zD v4, zS, zD v5, zS, zD v6, zS, zD v7, zS, zA va, zU, zU, zU, zU, zU] [.double v2, .int 2, .ref va]
    refine ⟨by decide, fun T213 X213 eh213 => ?_⟩
    refine own_sD X213 hx hZ eh213 Ar212' 2 rfl (by show 2 < 7; decide) (hb hby at_107) (fun T214 hp214 X214 eh214 Wr214 Ar214 => ?_)
    have Ar214' : own_A Z hp214 va .double [.double v0, .double v1, .double v2, .double 0, .double 0, .double 0, .double 0] := Ar214
    have Nf214 := Fr.snoc X214 Nf212 nw_va
    have Z_214 : n0 ≤ hp214.size := by rw [Wr.size Wr214]; exact Z_212
    refine own_blk dec0 seq0 hby hx hZ hown hK hF 6 [false] [] X214 eh214 ?_
    show (¬ (((7 : Int32)).toInt ≤ ((3 : Int32)).toInt)) ∧ own_Aft X214 hp214 _ 119 [zL pk, zS, zI sz, zI bs, zI 7, zD v0, zS, zD v1, zS, zD v2, zS, zD v3, zS, zD v4, zS, zD v5, zS, zD v6, zS, zD v7, zS, zA va, zU, zU, zU, zU, zU] [.double v3, .int 3, .ref va]
    refine ⟨by decide, fun T215 X215 eh215 => ?_⟩
    refine own_sD X215 hx hZ eh215 Ar214' 3 rfl (by show 3 < 7; decide) (hb hby at_119) (fun T216 hp216 X216 eh216 Wr216 Ar216 => ?_)
    have Ar216' : own_A Z hp216 va .double [.double v0, .double v1, .double v2, .double v3, .double 0, .double 0, .double 0] := Ar216
    have Nf216 := Fr.snoc X216 Nf214 nw_va
    have Z_216 : n0 ≤ hp216.size := by rw [Wr.size Wr216]; exact Z_214
    refine own_blk dec0 seq0 hby hx hZ hown hK hF 6 [false] [] X216 eh216 ?_
    show (¬ (((7 : Int32)).toInt ≤ ((4 : Int32)).toInt)) ∧ own_Aft X216 hp216 _ 131 [zL pk, zS, zI sz, zI bs, zI 7, zD v0, zS, zD v1, zS, zD v2, zS, zD v3, zS, zD v4, zS, zD v5, zS, zD v6, zS, zD v7, zS, zA va, zU, zU, zU, zU, zU] [.double v4, .int 4, .ref va]
    refine ⟨by decide, fun T217 X217 eh217 => ?_⟩
    refine own_sD X217 hx hZ eh217 Ar216' 4 rfl (by show 4 < 7; decide) (hb hby at_131) (fun T218 hp218 X218 eh218 Wr218 Ar218 => ?_)
    have Ar218' : own_A Z hp218 va .double [.double v0, .double v1, .double v2, .double v3, .double v4, .double 0, .double 0] := Ar218
    have Nf218 := Fr.snoc X218 Nf216 nw_va
    have Z_218 : n0 ≤ hp218.size := by rw [Wr.size Wr218]; exact Z_216
    refine own_blk dec0 seq0 hby hx hZ hown hK hF 6 [false] [] X218 eh218 ?_
    show (¬ (((7 : Int32)).toInt ≤ ((5 : Int32)).toInt)) ∧ own_Aft X218 hp218 _ 143 [zL pk, zS, zI sz, zI bs, zI 7, zD v0, zS, zD v1, zS, zD v2, zS, zD v3, zS, zD v4, zS, zD v5, zS, zD v6, zS, zD v7, zS, zA va, zU, zU, zU, zU, zU] [.double v5, .int 5, .ref va]
    refine ⟨by decide, fun T219 X219 eh219 => ?_⟩
    refine own_sD X219 hx hZ eh219 Ar218' 5 rfl (by show 5 < 7; decide) (hb hby at_143) (fun T220 hp220 X220 eh220 Wr220 Ar220 => ?_)
    have Ar220' : own_A Z hp220 va .double [.double v0, .double v1, .double v2, .double v3, .double v4, .double v5, .double 0] := Ar220
    have Nf220 := Fr.snoc X220 Nf218 nw_va
    have Z_220 : n0 ≤ hp220.size := by rw [Wr.size Wr220]; exact Z_218
    refine own_blk dec0 seq0 hby hx hZ hown hK hF 6 [false] [.int 6, .int 6] X220 eh220 ?_
    show ((Int8.ofInt 6).toInt32 = (6 : Int32)) ∧ (¬ (((7 : Int32)).toInt ≤ ((6 : Int32)).toInt)) ∧ ((Int8.ofInt 6).toInt32 = (6 : Int32)) ∧ own_Aft X220 hp220 _ 157 [zL pk, zS, zI sz, zI bs, zI 7, zD v0, zS, zD v1, zS, zD v2, zS, zD v3, zS, zD v4, zS, zD v5, zS, zD v6, zS, zD v7, zS, zA va, zU, zU, zU, zU, zU] [.double v6, .int 6, .ref va]
    refine ⟨by decide +kernel, by decide, by decide +kernel, fun T221 X221 eh221 => ?_⟩
    refine own_sD X221 hx hZ eh221 Ar220' 6 rfl (by show 6 < 7; decide) (hb hby at_157) (fun T222 hp222 X222 eh222 Wr222 Ar222 => ?_)
    have Ar222' : own_A Z hp222 va .double [.double v0, .double v1, .double v2, .double v3, .double v4, .double v5, .double v6] := Ar222
    have Nf222 := Fr.snoc X222 Nf220 nw_va
    have Z_222 : n0 ≤ hp222.size := by rw [Wr.size Wr222]; exact Z_220
    refine own_blk dec0 seq0 hby hx hZ hown hK hF 3 [true] [.int 7] X222 eh222 ?_
    show ((Int8.ofInt 7).toInt32 = (7 : Int32)) ∧ (((7 : Int32)).toInt ≤ ((7 : Int32)).toInt) ∧ own_Aft X222 hp222 _ 172 [zL pk, zS, zI sz, zI bs, zI 7, zD v0, zS, zD v1, zS, zD v2, zS, zD v3, zS, zD v4, zS, zD v5, zS, zD v6, zS, zD v7, zS, zA va, zU, zU, zU, zU, zU] []
    refine ⟨by decide +kernel, by decide, fun T223 X223 eh223 => ?_⟩
    refine own_blk dec0 seq0 hby hx hZ hown hK hF 4 [] [] X223 eh223 ?_
    show own_Aft X223 hp222 _ 177 [zL pk, zS, zI sz, zI bs, zI 7, zD v0, zS, zD v1, zS, zD v2, zS, zD v3, zS, zD v4, zS, zD v5, zS, zD v6, zS, zD v7, zS, zA va, zD (FP.i2d bs.toInt8.toInt32), zS, zU, zU, zU] []
    refine fun T224 X224 eh224 => ?_
    have Nxb : own_num (FP.i2d bs.toInt8.toInt32) := own_fin_num (own_D.i2d _).1
    have hI := own_i2d_inf (bs.toInt8.toInt32)
    generalize FP.i2d bs.toInt8.toInt32 = xb at Nxb hI ⊢
    show own_Go p.tables e below _ (T224.setTop (mkF m 177 (Array.mk [zL pk, zS, zI sz, zI bs, zI 7, zD v0, zS, zD v1, zS, zD v2, zS, zD v3, zS, zD v4, zS, zD v5, zS, zD v6, zS, zD v7, zS, zA va, zD xb, zS, zU, zU, zU]) []))
    refine own_new X224 hx hZ hown (hw _ (wm 5 rfl)) (hw _ (wm 6 rfl)) (hw _ (wm 7 rfl)) eh224 (hb hby at_177) (by decide) (by decide) (fun T225 hp225 ao ga225 X225 eh225 Ex225 Ea225 Dn225 => ?_)
    have ne_va_ao : va ≠ ao := fun q => absurd Ar222'.lt (by rw [q, ga225]; exact Nat.lt_irrefl _)
    have nw_ao : n0 ≤ ao := by rw [ga225]; exact Z_222
    have Ar222'_225 := Ar222'.ext Ex225
    have Z_225 : n0 ≤ hp225.size := Nat.le_trans Z_222 Ex225.1
    have Fn225_values : Fld Z hp225 ao "com/example/binwright/binwright/binning/LeastTree" "values" "[D" (.null) := Dn225 (Or.inr (hw _ (wm 15 rfl))) (ty := (.array .double)) (by decide)
    have Fn225_leaves : Fld Z hp225 ao "com/example/binwright/binwright/binning/LeastTree" "leaves" "I" (.int 0) := Dn225 (Or.inr (hw _ (wm 30 rfl))) (ty := .int) (by decide)
    have Fn225_least : Fld Z hp225 ao "com/example/binwright/binwright/binning/LeastTree" "least" "[D" (.null) := Dn225 (Or.inr (hw _ (wm 32 rfl))) (ty := (.array .double)) (by decide)
    show own_Go p.tables e below _ (T225.setTop (mkF m 180 (Array.mk [zL pk, zS, zI sz, zI bs, zI 7, zD v0, zS, zD v1, zS, zD v2, zS, zD v3, zS, zD v4, zS, zD v5, zS, zD v6, zS, zD v7, zS, zA va, zD xb, zS, zU, zU, zU]) [.ref ao]))
    refine own_blk dec0 seq0 hby hx hZ hown hK hF 2 [] [] X225 eh225 ?_
    show own_Aft X225 hp225 _ 183 [zL pk, zS, zI sz, zI bs, zI 7, zD v0, zS, zD v1, zS, zD v2, zS, zD v3, zS, zD v4, zS, zD v5, zS, zD v6, zS, zD v7, zS, zA va, zD xb, zS, zU, zU, zU] [.ref va, .ref ao, .ref ao]
    refine fun T226 X226 eh226 => ?_
    refine own_callI X226 hx hZ hown rfl (hw _ (wm 8 rfl)) (hw _ (wm 9 rfl)) (hw _ (wm 7 rfl)) (hw _ (wm 10 rfl)) (by decide) eh226 ao [.ref va] pd2 rfl (rm := ({ frames := 3, cells := 1, slots := 8, locals := 64 } : Room)) (rm2_7 l Z a0 hw [] ao va v0 v1 v2 v3 v4 v5 v6 hp225 n0 Z_225 Ea225 nw_ao ne_va_ao Fn225_values Fn225_leaves Fn225_least Ar222'_225 Nv0 Nv1 Nv2 Nv3 Nv4 Nv5 Nv6) (by rw [hml]; rfl) 1 rfl (Nat.le_of_eq rfl) (hb hby at_183) (by decide) (by decide) (by decide) (by decide) (fun T227 rv227 Lc227 X227 qc227 => ?_)
    obtain ⟨rfl, M1, EX, la, F1, F2, F3, Av, r4, r5, r6, r7, r2, r3, r1, Al, Hr4, Hr5, Hr6, Hr7, Hr2, Hr3, Hr1⟩ := qc227
    have N1_ := Fr.app Nf222 M1
    have Zz1 : n0 ≤ T227.heap.size := Nat.le_trans nw_ao (Nat.le_of_lt EX.lt)
    show own_Go p.tables e below _ (T227.setTop (mkF m 186 (Array.mk [zL pk, zS, zI sz, zI bs, zI 7, zD v0, zS, zD v1, zS, zD v2, zS, zD v3, zS, zD v4, zS, zD v5, zS, zD v6, zS, zD v7, zS, zA va, zD xb, zS, zU, zU, zU]) [.ref ao]))
    refine own_blk dec0 seq0 hby hx hZ hown hK hF 3 [] [] X227 rfl ?_
    show own_Aft X227 T227.heap _ 192 [zL pk, zS, zI sz, zI bs, zI 7, zD v0, zS, zD v1, zS, zD v2, zS, zD v3, zS, zD v4, zS, zD v5, zS, zD v6, zS, zD v7, zS, zA va, zD xb, zS, zA ao, zU, zU] [.double xb, .ref ao]
    refine fun T228 X228 eh228 => ?_
    refine own_callVP X228 hx hZ hown (hw _ (wm 50 rfl)) (hw _ (wm 51 rfl)) (hw _ (wm 53 rfl)) (hw _ (wm 52 rfl)) (hw _ (wm 7 rfl)) (hw _ (wm 54 rfl)) (by decide) eh228 EX [.double xb] pd11 rfl (fr := 1) (lo := 24) (rm11_7 l Z a0 hw [] ao la va v0 v1 v2 v3 v4 v5 v6 r1 r2 r3 r4 r5 r6 r7 xb T227.heap n0 Zz1 EX F1 F2 F3 Al Av Nv0 Nv1 Nv2 Nv3 Nv4 Nv5 Nv6 Hr1.1 Hr2.1 Hr3.1 Hr4.1 Hr5.1 Hr6.1 Hr7.1 Nxb) (by rw [hml]; rfl) 0 rfl (Nat.le_of_eq rfl) (hb hby at_192) (by decide) (by decide) (by decide) (by decide) (fun T229 rv229 X229 eh229 qc229 => ?_)
    obtain ⟨got, rfl, hp⟩ := qc229
    show own_Go p.tables e below _ (T229.setTop (mkF m 195 (Array.mk [zL pk, zS, zI sz, zI bs, zI 7, zD v0, zS, zD v1, zS, zD v2, zS, zD v3, zS, zD v4, zS, zD v5, zS, zD v6, zS, zD v7, zS, zA va, zD xb, zS, zA ao, zU, zU]) [.int got]))
    have hq := own_first_7 v0 v1 v2 v3 v4 v5 v6 r4 r5 r6 r7 r2 r3 r1 xb got Hr4 Hr5 Hr6 Hr7 Hr2 Hr3 Hr1 hI hp
    rcases hq with ⟨rfl, u0, u1, u2, u3, u4, u5, u6⟩ | ⟨rfl, u0⟩ | ⟨rfl, u1, u0⟩ | ⟨rfl, u2, u0, u1⟩ | ⟨rfl, u3, u0, u1, u2⟩ | ⟨rfl, u4, u0, u1, u2, u3⟩ | ⟨rfl, u5, u0, u1, u2, u3, u4⟩ | ⟨rfl, u6, u0, u1, u2, u3, u4, u5⟩
    · skip
      show own_Go p.tables e below _ (T229.setTop (mkF m 195 (Array.mk [zL pk, zS, zI sz, zI bs, zI 7, zD v0, zS, zD v1, zS, zD v2, zS, zD v3, zS, zD v4, zS, zD v5, zS, zD v6, zS, zD v7, zS, zA va, zD xb, zS, zA ao, zU, zU]) [.int (-1)]))
      refine own_blk dec0 seq0 hby hx hZ hown hK hF 59 [true, false, true, false, true, false, true, false, true, false, true, false, true, false, true, false] [.int 7, .int 6] X229 eh229 ?_
      show ((Int8.ofInt 7).toInt32 = (7 : Int32)) ∧ (((7 : Int32)).toInt ≤ ((7 : Int32)).toInt) ∧ ((Int8.ofInt 6).toInt32 = (6 : Int32)) ∧ (¬ (((7 : Int32)).toInt ≤ ((6 : Int32)).toInt)) ∧ (0 < (cmpValue (FP.dcmp v6 xb) .g).toInt) ∧ (¬ (((7 : Int32)).toInt ≤ ((5 : Int32)).toInt)) ∧ (0 < (cmpValue (FP.dcmp v5 xb) .g).toInt) ∧ (¬ (((7 : Int32)).toInt ≤ ((4 : Int32)).toInt)) ∧ (0 < (cmpValue (FP.dcmp v4 xb) .g).toInt) ∧ (¬ (((7 : Int32)).toInt ≤ ((3 : Int32)).toInt)) ∧ (0 < (cmpValue (FP.dcmp v3 xb) .g).toInt) ∧ (¬ (((7 : Int32)).toInt ≤ ((2 : Int32)).toInt)) ∧ (0 < (cmpValue (FP.dcmp v2 xb) .g).toInt) ∧ (¬ (((7 : Int32)).toInt ≤ ((1 : Int32)).toInt)) ∧ (0 < (cmpValue (FP.dcmp v1 xb) .g).toInt) ∧ (¬ (((7 : Int32)).toInt ≤ 0)) ∧ (0 < (cmpValue (FP.dcmp v0 xb) .g).toInt) ∧ (¬ (((-1 : Int32)).toInt ≠ ((-1 : Int32)).toInt)) ∧ own_Aft X229 T227.heap _ 351 [zL pk, zS, zI sz, zI bs, zI 7, zD v0, zS, zD v1, zS, zD v2, zS, zD v3, zS, zD v4, zS, zD v5, zS, zD v6, zS, zD v7, zS, zA va, zD xb, zS, zA ao, zI (-1), zI (-1)] [.int 1]
      refine ⟨by decide +kernel, by decide, by decide +kernel, by decide, own_ggt Nv6 Nxb u6, by decide, own_ggt Nv5 Nxb u5, by decide, own_ggt Nv4 Nxb u4, by decide, own_ggt Nv3 Nxb u3, by decide, own_ggt Nv2 Nxb u2, by decide, own_ggt Nv1 Nxb u1, by decide, own_ggt Nv0 Nxb u0, by decide, fun T230 X230 eh230 => ?_⟩
      exact own_ret X230 hx hlk eh230 hret (by first | rfl | decide) (Or.inl ⟨rfl, by simp, _, rfl⟩) (hb hby at_351) (by decide) (by decide) (⟨rfl, N1_⟩)
    · skip
      show own_Go p.tables e below _ (T229.setTop (mkF m 195 (Array.mk [zL pk, zS, zI sz, zI bs, zI 7, zD v0, zS, zD v1, zS, zD v2, zS, zD v3, zS, zD v4, zS, zD v5, zS, zD v6, zS, zD v7, zS, zA va, zD xb, zS, zA ao, zU, zU]) [.int 0]))
      refine own_blk dec0 seq0 hby hx hZ hown hK hF 6 [true] [.int 7] X229 eh229 ?_
      show ((Int8.ofInt 7).toInt32 = (7 : Int32)) ∧ (((7 : Int32)).toInt ≤ ((7 : Int32)).toInt) ∧ own_Aft X229 T227.heap _ 219 [zL pk, zS, zI sz, zI bs, zI 7, zD v0, zS, zD v1, zS, zD v2, zS, zD v3, zS, zD v4, zS, zD v5, zS, zD v6, zS, zD v7, zS, zA va, zD xb, zS, zA ao, zI 0, zI (-1)] []
      refine ⟨by decide +kernel, by decide, fun T231 X231 eh231 => ?_⟩
      refine skip_6 X231 hx hby hml hown hZ hK hF eh231 _ _ _ _ _ _ _ _ _ _ _ _ _ _ _ _ _ _ _ _ _ (7 : Int32) (-1 : Int32) v6 xb Nv6 Nxb (fun wn6 T232 X232 eh232 => ?_)
      refine skip_5 X232 hx hby hml hown hZ hK hF eh232 _ _ _ _ _ _ _ _ _ _ _ _ _ _ _ _ _ _ _ _ _ (7 : Int32) wn6 v5 xb Nv5 Nxb (fun wn5 T233 X233 eh233 => ?_)
      refine skip_4 X233 hx hby hml hown hZ hK hF eh233 _ _ _ _ _ _ _ _ _ _ _ _ _ _ _ _ _ _ _ _ _ (7 : Int32) wn5 v4 xb Nv4 Nxb (fun wn4 T234 X234 eh234 => ?_)
      refine skip_3 X234 hx hby hml hown hZ hK hF eh234 _ _ _ _ _ _ _ _ _ _ _ _ _ _ _ _ _ _ _ _ _ (7 : Int32) wn4 v3 xb Nv3 Nxb (fun wn3 T235 X235 eh235 => ?_)
      refine skip_2 X235 hx hby hml hown hZ hK hF eh235 _ _ _ _ _ _ _ _ _ _ _ _ _ _ _ _ _ _ _ _ _ (7 : Int32) wn3 v2 xb Nv2 Nxb (fun wn2 T236 X236 eh236 => ?_)
      refine skip_1 X236 hx hby hml hown hZ hK hF eh236 _ _ _ _ _ _ _ _ _ _ _ _ _ _ _ _ _ _ _ _ _ (7 : Int32) wn2 v1 xb Nv1 Nxb (fun wn1 T237 X237 eh237 => ?_)
      refine own_blk dec0 seq0 hby hx hZ hown hK hF 13 [false, false, false] [] X237 eh237 ?_
      show (¬ (((7 : Int32)).toInt ≤ 0)) ∧ (¬ (0 < (cmpValue (FP.dcmp v0 xb) .g).toInt)) ∧ (¬ (((0 : Int32)).toInt ≠ ((0 : Int32)).toInt)) ∧ own_Aft X237 T227.heap _ 351 [zL pk, zS, zI sz, zI bs, zI 7, zD v0, zS, zD v1, zS, zD v2, zS, zD v3, zS, zD v4, zS, zD v5, zS, zD v6, zS, zD v7, zS, zA va, zD xb, zS, zA ao, zI 0, zI 0] [.int 1]
      refine ⟨by decide, by have := own_gle (k := .g) Nv0 Nxb u0; omega, by decide, fun T238 X238 eh238 => ?_⟩
      exact own_ret X238 hx hlk eh238 hret (by first | rfl | decide) (Or.inl ⟨rfl, by simp, _, rfl⟩) (hb hby at_351) (by decide) (by decide) (⟨rfl, N1_⟩)
    · skip
      show own_Go p.tables e below _ (T229.setTop (mkF m 195 (Array.mk [zL pk, zS, zI sz, zI bs, zI 7, zD v0, zS, zD v1, zS, zD v2, zS, zD v3, zS, zD v4, zS, zD v5, zS, zD v6, zS, zD v7, zS, zA va, zD xb, zS, zA ao, zU, zU]) [.int 1]))
      refine own_blk dec0 seq0 hby hx hZ hown hK hF 6 [true] [.int 7] X229 eh229 ?_
      show ((Int8.ofInt 7).toInt32 = (7 : Int32)) ∧ (((7 : Int32)).toInt ≤ ((7 : Int32)).toInt) ∧ own_Aft X229 T227.heap _ 219 [zL pk, zS, zI sz, zI bs, zI 7, zD v0, zS, zD v1, zS, zD v2, zS, zD v3, zS, zD v4, zS, zD v5, zS, zD v6, zS, zD v7, zS, zA va, zD xb, zS, zA ao, zI 1, zI (-1)] []
      refine ⟨by decide +kernel, by decide, fun T239 X239 eh239 => ?_⟩
      refine skip_6 X239 hx hby hml hown hZ hK hF eh239 _ _ _ _ _ _ _ _ _ _ _ _ _ _ _ _ _ _ _ _ _ (7 : Int32) (-1 : Int32) v6 xb Nv6 Nxb (fun wn6 T240 X240 eh240 => ?_)
      refine skip_5 X240 hx hby hml hown hZ hK hF eh240 _ _ _ _ _ _ _ _ _ _ _ _ _ _ _ _ _ _ _ _ _ (7 : Int32) wn6 v5 xb Nv5 Nxb (fun wn5 T241 X241 eh241 => ?_)
      refine skip_4 X241 hx hby hml hown hZ hK hF eh241 _ _ _ _ _ _ _ _ _ _ _ _ _ _ _ _ _ _ _ _ _ (7 : Int32) wn5 v4 xb Nv4 Nxb (fun wn4 T242 X242 eh242 => ?_)
      refine skip_3 X242 hx hby hml hown hZ hK hF eh242 _ _ _ _ _ _ _ _ _ _ _ _ _ _ _ _ _ _ _ _ _ (7 : Int32) wn4 v3 xb Nv3 Nxb (fun wn3 T243 X243 eh243 => ?_)
      refine skip_2 X243 hx hby hml hown hZ hK hF eh243 _ _ _ _ _ _ _ _ _ _ _ _ _ _ _ _ _ _ _ _ _ (7 : Int32) wn3 v2 xb Nv2 Nxb (fun wn2 T244 X244 eh244 => ?_)
      refine own_blk dec0 seq0 hby hx hZ hown hK hF 20 [false, false, false, true, false] [] X244 eh244 ?_
      show (¬ (((7 : Int32)).toInt ≤ ((1 : Int32)).toInt)) ∧ (¬ (0 < (cmpValue (FP.dcmp v1 xb) .g).toInt)) ∧ (¬ (((7 : Int32)).toInt ≤ 0)) ∧ (0 < (cmpValue (FP.dcmp v0 xb) .g).toInt) ∧ (¬ (((1 : Int32)).toInt ≠ ((1 : Int32)).toInt)) ∧ own_Aft X244 T227.heap _ 351 [zL pk, zS, zI sz, zI bs, zI 7, zD v0, zS, zD v1, zS, zD v2, zS, zD v3, zS, zD v4, zS, zD v5, zS, zD v6, zS, zD v7, zS, zA va, zD xb, zS, zA ao, zI 1, zI 1] [.int 1]
      refine ⟨by decide, by have := own_gle (k := .g) Nv1 Nxb u1; omega, by decide, own_ggt Nv0 Nxb u0, by decide, fun T245 X245 eh245 => ?_⟩
      exact own_ret X245 hx hlk eh245 hret (by first | rfl | decide) (Or.inl ⟨rfl, by simp, _, rfl⟩) (hb hby at_351) (by decide) (by decide) (⟨rfl, N1_⟩)
    · skip
      show own_Go p.tables e below _ (T229.setTop (mkF m 195 (Array.mk [zL pk, zS, zI sz, zI bs, zI 7, zD v0, zS, zD v1, zS, zD v2, zS, zD v3, zS, zD v4, zS, zD v5, zS, zD v6, zS, zD v7, zS, zA va, zD xb, zS, zA ao, zU, zU]) [.int 2]))
      refine own_blk dec0 seq0 hby hx hZ hown hK hF 6 [true] [.int 7] X229 eh229 ?_
      show ((Int8.ofInt 7).toInt32 = (7 : Int32)) ∧ (((7 : Int32)).toInt ≤ ((7 : Int32)).toInt) ∧ own_Aft X229 T227.heap _ 219 [zL pk, zS, zI sz, zI bs, zI 7, zD v0, zS, zD v1, zS, zD v2, zS, zD v3, zS, zD v4, zS, zD v5, zS, zD v6, zS, zD v7, zS, zA va, zD xb, zS, zA ao, zI 2, zI (-1)] []
      refine ⟨by decide +kernel, by decide, fun T246 X246 eh246 => ?_⟩
      refine skip_6 X246 hx hby hml hown hZ hK hF eh246 _ _ _ _ _ _ _ _ _ _ _ _ _ _ _ _ _ _ _ _ _ (7 : Int32) (-1 : Int32) v6 xb Nv6 Nxb (fun wn6 T247 X247 eh247 => ?_)
      refine skip_5 X247 hx hby hml hown hZ hK hF eh247 _ _ _ _ _ _ _ _ _ _ _ _ _ _ _ _ _ _ _ _ _ (7 : Int32) wn6 v5 xb Nv5 Nxb (fun wn5 T248 X248 eh248 => ?_)
      refine skip_4 X248 hx hby hml hown hZ hK hF eh248 _ _ _ _ _ _ _ _ _ _ _ _ _ _ _ _ _ _ _ _ _ (7 : Int32) wn5 v4 xb Nv4 Nxb (fun wn4 T249 X249 eh249 => ?_)
      refine skip_3 X249 hx hby hml hown hZ hK hF eh249 _ _ _ _ _ _ _ _ _ _ _ _ _ _ _ _ _ _ _ _ _ (7 : Int32) wn4 v3 xb Nv3 Nxb (fun wn3 T250 X250 eh250 => ?_)
      refine own_blk dec0 seq0 hby hx hZ hown hK hF 27 [false, false, false, true, false, true, false] [] X250 eh250 ?_
      show (¬ (((7 : Int32)).toInt ≤ ((2 : Int32)).toInt)) ∧ (¬ (0 < (cmpValue (FP.dcmp v2 xb) .g).toInt)) ∧ (¬ (((7 : Int32)).toInt ≤ ((1 : Int32)).toInt)) ∧ (0 < (cmpValue (FP.dcmp v1 xb) .g).toInt) ∧ (¬ (((7 : Int32)).toInt ≤ 0)) ∧ (0 < (cmpValue (FP.dcmp v0 xb) .g).toInt) ∧ (¬ (((2 : Int32)).toInt ≠ ((2 : Int32)).toInt)) ∧ own_Aft X250 T227.heap _ 351 [zL pk, zS, zI sz, zI bs, zI 7, zD v0, zS, zD v1, zS, zD v2, zS, zD v3, zS, zD v4, zS, zD v5, zS, zD v6, zS, zD v7, zS, zA va, zD xb, zS, zA ao, zI 2, zI 2] [.int 1]
      refine ⟨by decide, by have := own_gle (k := .g) Nv2 Nxb u2; omega, by decide, own_ggt Nv1 Nxb u1, by decide, own_ggt Nv0 Nxb u0, by decide, fun T251 X251 eh251 => ?_⟩
      exact own_ret X251 hx hlk eh251 hret (by first | rfl | decide) (Or.inl ⟨rfl, by simp, _, rfl⟩) (hb hby at_351) (by decide) (by decide) (⟨rfl, N1_⟩)
    · skip
      show own_Go p.tables e below _ (T229.setTop (mkF m 195 (Array.mk [zL pk, zS, zI sz, zI bs, zI 7, zD v0, zS, zD v1, zS, zD v2, zS, zD v3, zS, zD v4, zS, zD v5, zS, zD v6, zS, zD v7, zS, zA va, zD xb, zS, zA ao, zU, zU]) [.int 3]))
      refine own_blk dec0 seq0 hby hx hZ hown hK hF 6 [true] [.int 7] X229 eh229 ?_
      show ((Int8.ofInt 7).toInt32 = (7 : Int32)) ∧ (((7 : Int32)).toInt ≤ ((7 : Int32)).toInt) ∧ own_Aft X229 T227.heap _ 219 [zL pk, zS, zI sz, zI bs, zI 7, zD v0, zS, zD v1, zS, zD v2, zS, zD v3, zS, zD v4, zS, zD v5, zS, zD v6, zS, zD v7, zS, zA va, zD xb, zS, zA ao, zI 3, zI (-1)] []
      refine ⟨by decide +kernel, by decide, fun T252 X252 eh252 => ?_⟩
      refine skip_6 X252 hx hby hml hown hZ hK hF eh252 _ _ _ _ _ _ _ _ _ _ _ _ _ _ _ _ _ _ _ _ _ (7 : Int32) (-1 : Int32) v6 xb Nv6 Nxb (fun wn6 T253 X253 eh253 => ?_)
      refine skip_5 X253 hx hby hml hown hZ hK hF eh253 _ _ _ _ _ _ _ _ _ _ _ _ _ _ _ _ _ _ _ _ _ (7 : Int32) wn6 v5 xb Nv5 Nxb (fun wn5 T254 X254 eh254 => ?_)
      refine skip_4 X254 hx hby hml hown hZ hK hF eh254 _ _ _ _ _ _ _ _ _ _ _ _ _ _ _ _ _ _ _ _ _ (7 : Int32) wn5 v4 xb Nv4 Nxb (fun wn4 T255 X255 eh255 => ?_)
      refine own_blk dec0 seq0 hby hx hZ hown hK hF 34 [false, false, false, true, false, true, false, true, false] [] X255 eh255 ?_
      show (¬ (((7 : Int32)).toInt ≤ ((3 : Int32)).toInt)) ∧ (¬ (0 < (cmpValue (FP.dcmp v3 xb) .g).toInt)) ∧ (¬ (((7 : Int32)).toInt ≤ ((2 : Int32)).toInt)) ∧ (0 < (cmpValue (FP.dcmp v2 xb) .g).toInt) ∧ (¬ (((7 : Int32)).toInt ≤ ((1 : Int32)).toInt)) ∧ (0 < (cmpValue (FP.dcmp v1 xb) .g).toInt) ∧ (¬ (((7 : Int32)).toInt ≤ 0)) ∧ (0 < (cmpValue (FP.dcmp v0 xb) .g).toInt) ∧ (¬ (((3 : Int32)).toInt ≠ ((3 : Int32)).toInt)) ∧ own_Aft X255 T227.heap _ 351 [zL pk, zS, zI sz, zI bs, zI 7, zD v0, zS, zD v1, zS, zD v2, zS, zD v3, zS, zD v4, zS, zD v5, zS, zD v6, zS, zD v7, zS, zA va, zD xb, zS, zA ao, zI 3, zI 3] [.int 1]
      refine ⟨by decide, by have := own_gle (k := .g) Nv3 Nxb u3; omega, by decide, own_ggt Nv2 Nxb u2, by decide, own_ggt Nv1 Nxb u1, by decide, own_ggt Nv0 Nxb u0, by decide, fun T256 X256 eh256 => ?_⟩
      exact own_ret X256 hx hlk eh256 hret (by first | rfl | decide) (Or.inl ⟨rfl, by simp, _, rfl⟩) (hb hby at_351) (by decide) (by decide) (⟨rfl, N1_⟩)
    · skip
      show own_Go p.tables e below _ (T229.setTop (mkF m 195 (Array.mk [zL pk, zS, zI sz, zI bs, zI 7, zD v0, zS, zD v1, zS, zD v2, zS, zD v3, zS, zD v4, zS, zD v5, zS, zD v6, zS, zD v7, zS, zA va, zD xb, zS, zA ao, zU, zU]) [.int 4]))
      refine own_blk dec0 seq0 hby hx hZ hown hK hF 6 [true] [.int 7] X229 eh229 ?_
      show ((Int8.ofInt 7).toInt32 = (7 : Int32)) ∧ (((7 : Int32)).toInt ≤ ((7 : Int32)).toInt) ∧ own_Aft X229 T227.heap _ 219 [zL pk, zS, zI sz, zI bs, zI 7, zD v0, zS, zD v1, zS, zD v2, zS, zD v3, zS, zD v4, zS, zD v5, zS, zD v6, zS, zD v7, zS, zA va, zD xb, zS, zA ao, zI 4, zI (-1)] []
      refine ⟨by decide +kernel, by decide, fun T257 X257 eh257 => ?_⟩
      refine skip_6 X257 hx hby hml hown hZ hK hF eh257 _ _ _ _ _ _ _ _ _ _ _ _ _ _ _ _ _ _ _ _ _ (7 : Int32) (-1 : Int32) v6 xb Nv6 Nxb (fun wn6 T258 X258 eh258 => ?_)
      refine skip_5 X258 hx hby hml hown hZ hK hF eh258 _ _ _ _ _ _ _ _ _ _ _ _ _ _ _ _ _ _ _ _ _ (7 : Int32) wn6 v5 xb Nv5 Nxb (fun wn5 T259 X259 eh259 => ?_)
      refine own_blk dec0 seq0 hby hx hZ hown hK hF 41 [false, false, false, true, false, true, false, true, false, true, false] [] X259 eh259 ?_
      show (¬ (((7 : Int32)).toInt ≤ ((4 : Int32)).toInt)) ∧ (¬ (0 < (cmpValue (FP.dcmp v4 xb) .g).toInt)) ∧ (¬ (((7 : Int32)).toInt ≤ ((3 : Int32)).toInt)) ∧ (0 < (cmpValue (FP.dcmp v3 xb) .g).toInt) ∧ (¬ (((7 : Int32)).toInt ≤ ((2 : Int32)).toInt)) ∧ (0 < (cmpValue (FP.dcmp v2 xb) .g).toInt) ∧ (¬ (((7 : Int32)).toInt ≤ ((1 : Int32)).toInt)) ∧ (0 < (cmpValue (FP.dcmp v1 xb) .g).toInt) ∧ (¬ (((7 : Int32)).toInt ≤ 0)) ∧ (0 < (cmpValue (FP.dcmp v0 xb) .g).toInt) ∧ (¬ (((4 : Int32)).toInt ≠ ((4 : Int32)).toInt)) ∧ own_Aft X259 T227.heap _ 351 [zL pk, zS, zI sz, zI bs, zI 7, zD v0, zS, zD v1, zS, zD v2, zS, zD v3, zS, zD v4, zS, zD v5, zS, zD v6, zS, zD v7, zS, zA va, zD xb, zS, zA ao, zI 4, zI 4] [.int 1]
      refine ⟨by decide, by have := own_gle (k := .g) Nv4 Nxb u4; omega, by decide, own_ggt Nv3 Nxb u3, by decide, own_ggt Nv2 Nxb u2, by decide, own_ggt Nv1 Nxb u1, by decide, own_ggt Nv0 Nxb u0, by decide, fun T260 X260 eh260 => ?_⟩
      exact own_ret X260 hx hlk eh260 hret (by first | rfl | decide) (Or.inl ⟨rfl, by simp, _, rfl⟩) (hb hby at_351) (by decide) (by decide) (⟨rfl, N1_⟩)
    · skip
      show own_Go p.tables e below _ (T229.setTop (mkF m 195 (Array.mk [zL pk, zS, zI sz, zI bs, zI 7, zD v0, zS, zD v1, zS, zD v2, zS, zD v3, zS, zD v4, zS, zD v5, zS, zD v6, zS, zD v7, zS, zA va, zD xb, zS, zA ao, zU, zU]) [.int 5]))
      refine own_blk dec0 seq0 hby hx hZ hown hK hF 6 [true] [.int 7] X229 eh229 ?_
      show ((Int8.ofInt 7).toInt32 = (7 : Int32)) ∧ (((7 : Int32)).toInt ≤ ((7 : Int32)).toInt) ∧ own_Aft X229 T227.heap _ 219 [zL pk, zS, zI sz, zI bs, zI 7, zD v0, zS, zD v1, zS, zD v2, zS, zD v3, zS, zD v4, zS, zD v5, zS, zD v6, zS, zD v7, zS, zA va, zD xb, zS, zA ao, zI 5, zI (-1)] []
      refine ⟨by decide +kernel, by decide, fun T261 X261 eh261 => ?_⟩
      refine skip_6 X261 hx hby hml hown hZ hK hF eh261 _ _ _ _ _ _ _ _ _ _ _ _ _ _ _ _ _ _ _ _ _ (7 : Int32) (-1 : Int32) v6 xb Nv6 Nxb (fun wn6 T262 X262 eh262 => ?_)
      refine own_blk dec0 seq0 hby hx hZ hown hK hF 48 [false, false, false, true, false, true, false, true, false, true, false, true, false] [] X262 eh262 ?_
      show (¬ (((7 : Int32)).toInt ≤ ((5 : Int32)).toInt)) ∧ (¬ (0 < (cmpValue (FP.dcmp v5 xb) .g).toInt)) ∧ (¬ (((7 : Int32)).toInt ≤ ((4 : Int32)).toInt)) ∧ (0 < (cmpValue (FP.dcmp v4 xb) .g).toInt) ∧ (¬ (((7 : Int32)).toInt ≤ ((3 : Int32)).toInt)) ∧ (0 < (cmpValue (FP.dcmp v3 xb) .g).toInt) ∧ (¬ (((7 : Int32)).toInt ≤ ((2 : Int32)).toInt)) ∧ (0 < (cmpValue (FP.dcmp v2 xb) .g).toInt) ∧ (¬ (((7 : Int32)).toInt ≤ ((1 : Int32)).toInt)) ∧ (0 < (cmpValue (FP.dcmp v1 xb) .g).toInt) ∧ (¬ (((7 : Int32)).toInt ≤ 0)) ∧ (0 < (cmpValue (FP.dcmp v0 xb) .g).toInt) ∧ (¬ (((5 : Int32)).toInt ≠ ((5 : Int32)).toInt)) ∧ own_Aft X262 T227.heap _ 351 [zL pk, zS, zI sz, zI bs, zI 7, zD v0, zS, zD v1, zS, zD v2, zS, zD v3, zS, zD v4, zS, zD v5, zS, zD v6, zS, zD v7, zS, zA va, zD xb, zS, zA ao, zI 5, zI 5] [.int 1]
      refine ⟨by decide, by have := own_gle (k := .g) Nv5 Nxb u5; omega, by decide, own_ggt Nv4 Nxb u4, by decide, own_ggt Nv3 Nxb u3, by decide, own_ggt Nv2 Nxb u2, by decide, own_ggt Nv1 Nxb u1, by decide, own_ggt Nv0 Nxb u0, by decide, fun T263 X263 eh263 => ?_⟩
      exact own_ret X263 hx hlk eh263 hret (by first | rfl | decide) (Or.inl ⟨rfl, by simp, _, rfl⟩) (hb hby at_351) (by decide) (by decide) (⟨rfl, N1_⟩)
    · skip
      show own_Go p.tables e below _ (T229.setTop (mkF m 195 (Array.mk [zL pk, zS, zI sz, zI bs, zI 7, zD v0, zS, zD v1, zS, zD v2, zS, zD v3, zS, zD v4, zS, zD v5, zS, zD v6, zS, zD v7, zS, zA va, zD xb, zS, zA ao, zU, zU]) [.int 6]))
      refine own_blk dec0 seq0 hby hx hZ hown hK hF 6 [true] [.int 7] X229 eh229 ?_
      show ((Int8.ofInt 7).toInt32 = (7 : Int32)) ∧ (((7 : Int32)).toInt ≤ ((7 : Int32)).toInt) ∧ own_Aft X229 T227.heap _ 219 [zL pk, zS, zI sz, zI bs, zI 7, zD v0, zS, zD v1, zS, zD v2, zS, zD v3, zS, zD v4, zS, zD v5, zS, zD v6, zS, zD v7, zS, zA va, zD xb, zS, zA ao, zI 6, zI (-1)] []
      refine ⟨by decide +kernel, by decide, fun T264 X264 eh264 => ?_⟩
      refine own_blk dec0 seq0 hby hx hZ hown hK hF 55 [false, false, false, true, false, true, false, true, false, true, false, true, false, true, false] [.int 6, .int 6] X264 eh264 ?_
      show ((Int8.ofInt 6).toInt32 = (6 : Int32)) ∧ (¬ (((7 : Int32)).toInt ≤ ((6 : Int32)).toInt)) ∧ (¬ (0 < (cmpValue (FP.dcmp v6 xb) .g).toInt)) ∧ ((Int8.ofInt 6).toInt32 = (6 : Int32)) ∧ (¬ (((7 : Int32)).toInt ≤ ((5 : Int32)).toInt)) ∧ (0 < (cmpValue (FP.dcmp v5 xb) .g).toInt) ∧ (¬ (((7 : Int32)).toInt ≤ ((4 : Int32)).toInt)) ∧ (0 < (cmpValue (FP.dcmp v4 xb) .g).toInt) ∧ (¬ (((7 : Int32)).toInt ≤ ((3 : Int32)).toInt)) ∧ (0 < (cmpValue (FP.dcmp v3 xb) .g).toInt) ∧ (¬ (((7 : Int32)).toInt ≤ ((2 : Int32)).toInt)) ∧ (0 < (cmpValue (FP.dcmp v2 xb) .g).toInt) ∧ (¬ (((7 : Int32)).toInt ≤ ((1 : Int32)).toInt)) ∧ (0 < (cmpValue (FP.dcmp v1 xb) .g).toInt) ∧ (¬ (((7 : Int32)).toInt ≤ 0)) ∧ (0 < (cmpValue (FP.dcmp v0 xb) .g).toInt) ∧ (¬ (((6 : Int32)).toInt ≠ ((6 : Int32)).toInt)) ∧ own_Aft X264 T227.heap _ 351 [zL pk, zS, zI sz, zI bs, zI 7, zD v0, zS, zD v1, zS, zD v2, zS, zD v3, zS, zD v4, zS, zD v5, zS, zD v6, zS, zD v7, zS, zA va, zD xb, zS, zA ao, zI 6, zI 6] [.int 1]
      refine ⟨by decide +kernel, by decide, by have := own_gle (k := .g) Nv6 Nxb u6; omega, by decide +kernel, by decide, own_ggt Nv5 Nxb u5, by decide, own_ggt Nv4 Nxb u4, by decide, own_ggt Nv3 Nxb u3, by decide, own_ggt Nv2 Nxb u2, by decide, own_ggt Nv1 Nxb u1, by decide, own_ggt Nv0 Nxb u0, by decide, fun T265 X265 eh265 => ?_⟩
      exact own_ret X265 hx hlk eh265 hret (by first | rfl | decide) (Or.inl ⟨rfl, by simp, _, rfl⟩) (hb hby at_351) (by decide) (by decide) (⟨rfl, N1_⟩)
  · skip
    obtain rfl : nn = (8 : Int32) := Int32.toInt_inj.mp hn
    show own_Go p.tables e below _ (T17.setTop (mkF m 67 (Array.mk [zL pk, zS, zI sz, zI bs, zI 8, zD v0, zS, zD v1, zS, zD v2, zS, zD v3, zS, zD v4, zS, zD v5, zS, zD v6, zS, zD v7, zS, zU, zU, zU, zU, zU, zU]) []))
    refine own_blk dec0 seq0 hby hx hZ hown hK hF 1 [] [] X17 eh17 ?_
    show own_Aft X17 h0 _ 69 [zL pk, zS, zI sz, zI bs, zI 8, zD v0, zS, zD v1, zS, zD v2, zS, zD v3, zS, zD v4, zS, zD v5, zS, zD v6, zS, zD v7, zS, zU, zU, zU, zU, zU, zU] [.int 8]
    refine fun T266 X266 eh266 => ?_
    refine own_newP X266 hx hZ (hw _ (wm 4 rfl)) eh266 8 rfl (cap := 8) (by decide) (by decide) (hb hby at_69) (by decide) (by decide) (fun T267 hp267 va ga267 X267 eh267 Ex267 Ar267 => ?_)
    have nw_va : n0 ≤ va := by rw [ga267]; exact Z0
    have Z_267 : n0 ≤ hp267.size := Nat.le_trans Z0 Ex267.1
    have Ar267' : own_A Z hp267 va .double [.double 0, .double 0, .double 0, .double 0, .double 0, .double 0, .double 0, .double 0] := Ar267
    show own_Go p.tables e below _ (T267.setTop (mkF m 71 (Array.mk [zL pk, zS, zI sz, zI bs, zI 8, zD v0, zS, zD v1, zS, zD v2, zS, zD v3, zS, zD v4, zS, zD v5, zS, zD v6, zS, zD v7, zS, zU, zU, zU, zU, zU, zU]) [.ref va]))
    refine own_blk dec0 seq0 hby hx hZ hown hK hF 6 [false] [] X267 eh267 ?_
    show (¬ (((8 : Int32)).toInt ≤ 0)) ∧ own_Aft X267 hp267 _ 83 [zL pk, zS, zI sz, zI bs, zI 8, zD v0, zS, zD v1, zS, zD v2, zS, zD v3, zS, zD v4, zS, zD v5, zS, zD v6, zS, zD v7, zS, zA va, zU, zU, zU, zU, zU] [.double v0, .int 0, .ref va]
    refine ⟨by decide, fun T268 X268 eh268 => ?_⟩
    refine own_sD X268 hx hZ eh268 Ar267' 0 rfl (by show 0 < 8; decide) (hb hby at_83) (fun T269 hp269 X269 eh269 Wr269 Ar269 => ?_)
    have Ar269' : own_A Z hp269 va .double [.double v0, .double 0, .double 0, .double 0, .double 0, .double 0, .double 0, .double 0] := Ar269
    have Nf269 := Fr.snoc X269 N0 nw_va
    have Z_269 : n0 ≤ hp269.size := by rw [Wr.size Wr269]; exact Z_267
    refine own_blk dec0 seq0 hby hx hZ hown hK hF 6 [false] [] X269 eh269 ?_
    show (¬ (((8 : Int32)).toInt ≤ ((1 : Int32)).toInt)) ∧ own_Aft X269 hp269 _ 95 [zL pk, zS, zI sz, zI bs, zI 8, zD v0, zS, zD v1, zS, zD v2, zS, zD v3, zS, zD v4, zS, zD v5, zS, zD v6, zS, zD v7, zS, zA va, zU, zU, zU, zU, zU] [.double v1, .int 1, .ref va]
    refine ⟨by decide, fun T270 X270 eh270 => ?_⟩
    refine own_sD X270 hx hZ eh270 Ar269' 1 rfl (by show 1 < 8; decide) (hb hby at_95) (fun T271 hp271 X271 eh271 Wr271 Ar271 => ?_)
    have Ar271' : own_A Z hp271 va .double [.double v0, .double v1, .double 0, .double 0, .double 0, .double 0, .double 0, .double 0] := Ar271
    have Nf271 := Fr.snoc X271 Nf269 nw_va
    have Z_271 : n0 ≤ hp271.size := by rw [Wr.size Wr271]; exact Z_269
    refine own_blk dec0 seq0 hby hx hZ hown hK hF 6 [false] [] X271 eh271 ?_
    show (¬ (((8 : Int32)).toInt ≤ ((2 : Int32)).toInt)) ∧ own_Aft X271 hp271 _ 107 [zL pk, zS, zI sz, zI bs, zI 8, zD v0, zS, zD v1, zS, zD v2, zS, zD v3, zS, zD v4, zS, zD v5, zS, zD v6, zS, zD v7, zS, zA va, zU, zU, zU, zU, zU] [.double v2, .int 2, .ref va]
    refine ⟨by decide, fun T272 X272 eh272 => ?_⟩
    refine own_sD X272 hx hZ eh272 Ar271' 2 rfl (by show 2 < 8; decide) (hb hby at_107) (fun T273 hp273 X273 eh273 Wr273 Ar273 => ?_)
    have Ar273' : own_A Z hp273 va .double [.double v0, .double v1, .double v2, .double 0, .double 0, .double 0, .double 0, .double 0] := Ar273
    have Nf273 := Fr.snoc X273 Nf271 nw_va
    have Z_273 : n0 ≤ hp273.size := by rw [Wr.size Wr273]; exact Z_271
    refine own_blk dec0 seq0 hby hx hZ hown hK hF 6 [false] [] X273 eh273 ?_
    show (¬ (((8 : Int32)).toInt ≤ ((3 : Int32)).toInt)) ∧ own_Aft X273 hp273 _ 119 [zL pk, zS, zI sz, zI bs, zI 8, zD v0, zS, zD v1, zS, zD v2, zS, zD v3, zS, zD v4, zS, zD v5, zS, zD v6, zS, zD v7, zS, zA va, zU, zU, zU, zU, zU] [.double v3, .int 3, .ref va]
    refine ⟨by decide, fun T274 X274 eh274 => ?_⟩
    refine own_sD X274 hx hZ eh274 Ar273' 3 rfl (by show 3 < 8; decide) (hb hby at_119) (fun T275 hp275 X275 eh275 Wr275 Ar275 => ?_)
    have Ar275' : own_A Z hp275 va .double [.double v0, .double v1, .double v2, .double v3, .double 0, .double 0, .double 0, .double 0] := Ar275
    have Nf275 := Fr.snoc X275 Nf273 nw_va
    have Z_275 : n0 ≤ hp275.size := by rw [Wr.size Wr275]; exact Z_273
    refine own_blk dec0 seq0 hby hx hZ hown hK hF 6 [false] [] X275 eh275 ?_
    show (¬ (((8 : Int32)).toInt ≤ ((4 : Int32)).toInt)) ∧ own_Aft X275 hp275 _ 131 [zL pk, zS, zI sz, zI bs, zI 8, zD v0, zS, zD v1, zS, zD v2, zS, zD v3, zS, zD v4, zS, zD v5, zS, zD v6, zS, zD v7, zS, zA va, zU, zU, zU, zU, zU] [.double v4, .int 4, .ref va]
    refine ⟨by decide, fun T276 X276 eh276 => ?_⟩
    refine own_sD X276 hx hZ eh276 Ar275' 4 rfl (by show 4 < 8; decide) (hb hby at_131) (fun T277 hp277 X277 eh277 Wr277 Ar277 => ?_)
    have Ar277' : own_A Z hp277 va .double [.double v0, .double v1, .double v2, .double v3, .double v4, .double 0, .double 0, .double 0] := Ar277
    have Nf277 := Fr.snoc X277 Nf275 nw_va
    have Z_277 : n0 ≤ hp277.size := by rw [Wr.size Wr277]; exact Z_275
    refine own_blk dec0 seq0 hby hx hZ hown hK hF 6 [false] [] X277 eh277 ?_
    show (¬ (((8 : Int32)).toInt ≤ ((5 : Int32)).toInt)) ∧ own_Aft X277 hp277 _ 143 [zL pk, zS, zI sz, zI bs, zI 8, zD v0, zS, zD v1, zS, zD v2, zS, zD v3, zS, zD v4, zS, zD v5, zS, zD v6, zS, zD v7, zS, zA va, zU, zU, zU, zU, zU] [.double v5, .int 5, .ref va]
    refine ⟨by decide, fun T278 X278 eh278 => ?_⟩
    refine own_sD X278 hx hZ eh278 Ar277' 5 rfl (by show 5 < 8; decide) (hb hby at_143) (fun T279 hp279 X279 eh279 Wr279 Ar279 => ?_)
    have Ar279' : own_A Z hp279 va .double [.double v0, .double v1, .double v2, .double v3, .double v4, .double v5, .double 0, .double 0] := Ar279
    have Nf279 := Fr.snoc X279 Nf277 nw_va
    have Z_279 : n0 ≤ hp279.size := by rw [Wr.size Wr279]; exact Z_277
    refine own_blk dec0 seq0 hby hx hZ hown hK hF 6 [false] [.int 6, .int 6] X279 eh279 ?_
    show ((Int8.ofInt 6).toInt32 = (6 : Int32)) ∧ (¬ (((8 : Int32)).toInt ≤ ((6 : Int32)).toInt)) ∧ ((Int8.ofInt 6).toInt32 = (6 : Int32)) ∧ own_Aft X279 hp279 _ 157 [zL pk, zS, zI sz, zI bs, zI 8, zD v0, zS, zD v1, zS, zD v2, zS, zD v3, zS, zD v4, zS, zD v5, zS, zD v6, zS, zD v7, zS, zA va, zU, zU, zU, zU, zU] [.double v6, .int 6, .ref va]
    refine ⟨by decide +kernel, by decide, by decide +kernel, fun T280 X280 eh280 => ?_⟩
    refine own_sD X280 hx hZ eh280 Ar279' 6 rfl (by show 6 < 8; decide) (hb hby at_157) (fun T281 hp281 X281 eh281 Wr281 Ar281 => ?_)
    have Ar281' : own_A Z hp281 va .double [.double v0, .double v1, .double v2, .double v3, .double v4, .double v5, .double v6, .double 0] := Ar281
    have Nf281 := Fr.snoc X281 Nf279 nw_va
    have Z_281 : n0 ≤ hp281.size := by rw [Wr.size Wr281]; exact Z_279
    refine own_blk dec0 seq0 hby hx hZ hown hK hF 6 [false] [.int 7, .int 7] X281 eh281 ?_
    show ((Int8.ofInt 7).toInt32 = (7 : Int32)) ∧ (¬ (((8 : Int32)).toInt ≤ ((7 : Int32)).toInt)) ∧ ((Int8.ofInt 7).toInt32 = (7 : Int32)) ∧ own_Aft X281 hp281 _ 171 [zL pk, zS, zI sz, zI bs, zI 8, zD v0, zS, zD v1, zS, zD v2, zS, zD v3, zS, zD v4, zS, zD v5, zS, zD v6, zS, zD v7, zS, zA va, zU, zU, zU, zU, zU] [.double v7, .int 7, .ref va]
    refine ⟨by decide +kernel, by decide, by decide +kernel, fun T282 X282 eh282 => ?_⟩
    refine own_sD X282 hx hZ eh282 Ar281' 7 rfl (by show 7 < 8; decide) (hb hby at_171) (fun T283 hp283 X283 eh283 Wr283 Ar283 => ?_)
    have Ar283' : own_A Z hp283 va .double [.double v0, .double v1, .double v2, .double v3, .double v4, .double v5, .double v6, .double v7] := Ar283
    have Nf283 := Fr.snoc X283 Nf281 nw_va
    have Z_283 : n0 ≤ hp283.size := by rw [Wr.size Wr283]; exact Z_281
    refine own_blk dec0 seq0 hby hx hZ hown hK hF 4 [] [] X283 eh283 ?_
    show own_Aft X283 hp283 _ 177 [zL pk, zS, zI sz, zI bs, zI 8, zD v0, zS, zD v1, zS, zD v2, zS, zD v3, zS, zD v4, zS, zD v5, zS, zD v6, zS, zD v7, zS, zA va, zD (FP.i2d bs.toInt8.toInt32), zS, zU, zU, zU] []
    refine fun T284 X284 eh284 => ?_
    have Nxb : own_num (FP.i2d bs.toInt8.toInt32) := own_fin_num (own_D.i2d _).1
    have hI := own_i2d_inf (bs.toInt8.toInt32)
    generalize FP.i2d bs.toInt8.toInt32 = xb at Nxb hI ⊢
    show own_Go p.tables e below _ (T284.setTop (mkF m 177 (Array.mk [zL pk, zS, zI sz, zI bs, zI 8, zD v0, zS, zD v1, zS, zD v2, zS, zD v3, zS, zD v4, zS, zD v5, zS, zD v6, zS, zD v7, zS, zA va, zD xb, zS, zU, zU, zU]) []))
    refine own_new X284 hx hZ hown (hw _ (wm 5 rfl)) (hw _ (wm 6 rfl)) (hw _ (wm 7 rfl)) eh284 (hb hby at_177) (by decide) (by decide) (fun T285 hp285 ao ga285 X285 eh285 Ex285 Ea285 Dn285 => ?_)
    have ne_va_ao : va ≠ ao := fun q => absurd Ar283'.lt (by rw [q, ga285]; exact Nat.lt_irrefl _)
    have nw_ao : n0 ≤ ao := by rw [ga285]; exact Z_283
    have Ar283'_285 := Ar283'.ext Ex285
    have Z_285 : n0 ≤ hp285.size := Nat.le_trans Z_283 Ex285.1
    have Fn285_values : Fld Z hp285 ao "com/example/binwright/binwright/binning/LeastTree" "values" "[D" (.null) := Dn285 (Or.inr (hw _ (wm 15 rfl))) (ty := (.array .double)) (by decide)
    have Fn285_leaves : Fld Z hp285 ao "com/example/binwright/binwright/binning/LeastTree" "leaves" "I" (.int 0) := Dn285 (Or.inr (hw _ (wm 30 rfl))) (ty := .int) (by decide)
    have Fn285_least : Fld Z hp285 ao "com/example/binwright/binwright/binning/LeastTree" "least" "[D" (.null) := Dn285 (Or.inr (hw _ (wm 32 rfl))) (ty := (.array .double)) (by decide)
    show own_Go p.tables e below _ (T285.setTop (mkF m 180 (Array.mk [zL pk, zS, zI sz, zI bs, zI 8, zD v0, zS, zD v1, zS, zD v2, zS, zD v3, zS, zD v4, zS, zD v5, zS, zD v6, zS, zD v7, zS, zA va, zD xb, zS, zU, zU, zU]) [.ref ao]))
    refine own_blk dec0 seq0 hby hx hZ hown hK hF 2 [] [] X285 eh285 ?_
    show own_Aft X285 hp285 _ 183 [zL pk, zS, zI sz, zI bs, zI 8, zD v0, zS, zD v1, zS, zD v2, zS, zD v3, zS, zD v4, zS, zD v5, zS, zD v6, zS, zD v7, zS, zA va, zD xb, zS, zU, zU, zU] [.ref va, .ref ao, .ref ao]
    refine fun T286 X286 eh286 => ?_
    refine own_callI X286 hx hZ hown rfl (hw _ (wm 8 rfl)) (hw _ (wm 9 rfl)) (hw _ (wm 7 rfl)) (hw _ (wm 10 rfl)) (by decide) eh286 ao [.ref va] pd2 rfl (rm := ({ frames := 3, cells := 1, slots := 8, locals := 64 } : Room)) (rm2_8 l Z a0 hw [] ao va v0 v1 v2 v3 v4 v5 v6 v7 hp285 n0 Z_285 Ea285 nw_ao ne_va_ao Fn285_values Fn285_leaves Fn285_least Ar283'_285 Nv0 Nv1 Nv2 Nv3 Nv4 Nv5 Nv6 Nv7) (by rw [hml]; rfl) 1 rfl (Nat.le_of_eq rfl) (hb hby at_183) (by decide) (by decide) (by decide) (by decide) (fun T287 rv287 Lc287 X287 qc287 => ?_)
    obtain ⟨rfl, M1, EX, la, F1, F2, F3, Av, r4, r5, r6, r7, r2, r3, r1, Al, Hr4, Hr5, Hr6, Hr7, Hr2, Hr3, Hr1⟩ := qc287
    have N1_ := Fr.app Nf283 M1
    have Zz1 : n0 ≤ T287.heap.size := Nat.le_trans nw_ao (Nat.le_of_lt EX.lt)
    show own_Go p.tables e below _ (T287.setTop (mkF m 186 (Array.mk [zL pk, zS, zI sz, zI bs, zI 8, zD v0, zS, zD v1, zS, zD v2, zS, zD v3, zS, zD v4, zS, zD v5, zS, zD v6, zS, zD v7, zS, zA va, zD xb, zS, zU, zU, zU]) [.ref ao]))
    refine own_blk dec0 seq0 hby hx hZ hown hK hF 3 [] [] X287 rfl ?_
    show own_Aft X287 T287.heap _ 192 [zL pk, zS, zI sz, zI bs, zI 8, zD v0, zS, zD v1, zS, zD v2, zS, zD v3, zS, zD v4, zS, zD v5, zS, zD v6, zS, zD v7, zS, zA va, zD xb, zS, zA ao, zU, zU] [.double xb, .ref ao]
    refine fun T288 X288 eh288 => ?_
    refine own_callVP X288 hx hZ hown (hw _ (wm 50 rfl)) (hw _ (wm 51 rfl)) (hw _ (wm 53 rfl)) (hw _ (wm 52 rfl)) (hw _ (wm 7 rfl)) (hw _ (wm 54 rfl)) (by decide) eh288 EX [.double xb] pd11 rfl (fr := 1) (lo := 24) (rm11_8 l Z a0 hw [] ao la va v0 v1 v2 v3 v4 v5 v6 v7 r1 r2 r3 r4 r5 r6 r7 xb T287.heap n0 Zz1 EX F1 F2 F3 Al Av Nv0 Nv1 Nv2 Nv3 Nv4 Nv5 Nv6 Nv7 Hr1.1 Hr2.1 Hr3.1 Hr4.1 Hr5.1 Hr6.1 Hr7.1 Nxb) (by rw [hml]; rfl) 0 rfl (Nat.le_of_eq rfl) (hb hby at_192) (by decide) (by decide) (by decide) (by decide) (fun T289 rv289 X289 eh289 qc289 => ?_)
    obtain ⟨got, rfl, hp⟩ := qc289
    show own_Go p.tables e below _ (T289.setTop (mkF m 195 (Array.mk [zL pk, zS, zI sz, zI bs, zI 8, zD v0, zS, zD v1, zS, zD v2, zS, zD v3, zS, zD v4, zS, zD v5, zS, zD v6, zS, zD v7, zS, zA va, zD xb, zS, zA ao, zU, zU]) [.int got]))
    have hq := own_first_8 v0 v1 v2 v3 v4 v5 v6 v7 r4 r5 r6 r7 r2 r3 r1 xb got Hr4 Hr5 Hr6 Hr7 Hr2 Hr3 Hr1 hI hp
    rcases hq with ⟨rfl, u0, u1, u2, u3, u4, u5, u6, u7⟩ | ⟨rfl, u0⟩ | ⟨rfl, u1, u0⟩ | ⟨rfl, u2, u0, u1⟩ | ⟨rfl, u3, u0, u1, u2⟩ | ⟨rfl, u4, u0, u1, u2, u3⟩ | ⟨rfl, u5, u0, u1, u2, u3, u4⟩ | ⟨rfl, u6, u0, u1, u2, u3, u4, u5⟩ | ⟨rfl, u7, u0, u1, u2, u3, u4, u5, u6⟩
    · skip
      show own_Go p.tables e below _ (T289.setTop (mkF m 195 (Array.mk [zL pk, zS, zI sz, zI bs, zI 8, zD v0, zS, zD v1, zS, zD v2, zS, zD v3, zS, zD v4, zS, zD v5, zS, zD v6, zS, zD v7, zS, zA va, zD xb, zS, zA ao, zU, zU]) [.int (-1)]))
      refine own_blk dec0 seq0 hby hx hZ hown hK hF 60 [false, true, false, true, false, true, false, true, false, true, false, true, false, true, false, true] [.int 7, .int 6] X289 eh289 ?_
      show ((Int8.ofInt 7).toInt32 = (7 : Int32)) ∧ (¬ (((8 : Int32)).toInt ≤ ((7 : Int32)).toInt)) ∧ (0 < (cmpValue (FP.dcmp v7 xb) .g).toInt) ∧ ((Int8.ofInt 6).toInt32 = (6 : Int32)) ∧ (¬ (((8 : Int32)).toInt ≤ ((6 : Int32)).toInt)) ∧ (0 < (cmpValue (FP.dcmp v6 xb) .g).toInt) ∧ (¬ (((8 : Int32)).toInt ≤ ((5 : Int32)).toInt)) ∧ (0 < (cmpValue (FP.dcmp v5 xb) .g).toInt) ∧ (¬ (((8 : Int32)).toInt ≤ ((4 : Int32)).toInt)) ∧ (0 < (cmpValue (FP.dcmp v4 xb) .g).toInt) ∧ (¬ (((8 : Int32)).toInt ≤ ((3 : Int32)).toInt)) ∧ (0 < (cmpValue (FP.dcmp v3 xb) .g).toInt) ∧ (¬ (((8 : Int32)).toInt ≤ ((2 : Int32)).toInt)) ∧ (0 < (cmpValue (FP.dcmp v2 xb) .g).toInt) ∧ (¬ (((8 : Int32)).toInt ≤ ((1 : Int32)).toInt)) ∧ (0 < (cmpValue (FP.dcmp v1 xb) .g).toInt) ∧ (¬ (((8 : Int32)).toInt ≤ 0)) ∧ (0 < (cmpValue (FP.dcmp v0 xb) .g).toInt) ∧ own_Aft X289 T287.heap _ 343 [zL pk, zS, zI sz, zI bs, zI 8, zD v0, zS, zD v1, zS, zD v2, zS, zD v3, zS, zD v4, zS, zD v5, zS, zD v6, zS, zD v7, zS, zA va, zD xb, zS, zA ao, zI (-1), zI (-1)] [.int (-1), .int (-1)]
      refine ⟨by decide +kernel, by decide, own_ggt Nv7 Nxb u7, by decide +kernel, by decide, own_ggt Nv6 Nxb u6, by decide, own_ggt Nv5 Nxb u5, by decide, own_ggt Nv4 Nxb u4, by decide, own_ggt Nv3 Nxb u3, by decide, own_ggt Nv2 Nxb u2, by decide, own_ggt Nv1 Nxb u1, by decide, own_ggt Nv0 Nxb u0, fun T290 X290 eh290 => ?_⟩
      refine own_blk dec0 seq0 hby hx hZ hown hK hF 3 [false] [] X290 eh290 ?_
      show (¬ (((-1 : Int32)).toInt ≠ ((-1 : Int32)).toInt)) ∧ own_Aft X290 T287.heap _ 351 [zL pk, zS, zI sz, zI bs, zI 8, zD v0, zS, zD v1, zS, zD v2, zS, zD v3, zS, zD v4, zS, zD v5, zS, zD v6, zS, zD v7, zS, zA va, zD xb, zS, zA ao, zI (-1), zI (-1)] [.int 1]
      refine ⟨by decide, fun T291 X291 eh291 => ?_⟩
      exact own_ret X291 hx hlk eh291 hret (by first | rfl | decide) (Or.inl ⟨rfl, by simp, _, rfl⟩) (hb hby at_351) (by decide) (by decide) (⟨rfl, N1_⟩)
    · skip
      show own_Go p.tables e below _ (T289.setTop (mkF m 195 (Array.mk [zL pk, zS, zI sz, zI bs, zI 8, zD v0, zS, zD v1, zS, zD v2, zS, zD v3, zS, zD v4, zS, zD v5, zS, zD v6, zS, zD v7, zS, zA va, zD xb, zS, zA ao, zU, zU]) [.int 0]))
      refine own_blk dec0 seq0 hby hx hZ hown hK hF 3 [] [] X289 eh289 ?_
      show own_Aft X289 T287.heap _ 200 [zL pk, zS, zI sz, zI bs, zI 8, zD v0, zS, zD v1, zS, zD v2, zS, zD v3, zS, zD v4, zS, zD v5, zS, zD v6, zS, zD v7, zS, zA va, zD xb, zS, zA ao, zI 0, zI (-1)] []
      refine fun T292 X292 eh292 => ?_
      refine skip_7 X292 hx hby hml hown hZ hK hF eh292 _ _ _ _ _ _ _ _ _ _ _ _ _ _ _ _ _ _ _ _ _ (8 : Int32) (-1 : Int32) v7 xb Nv7 Nxb (fun wn7 T293 X293 eh293 => ?_)
      refine skip_6 X293 hx hby hml hown hZ hK hF eh293 _ _ _ _ _ _ _ _ _ _ _ _ _ _ _ _ _ _ _ _ _ (8 : Int32) wn7 v6 xb Nv6 Nxb (fun wn6 T294 X294 eh294 => ?_)
      refine skip_5 X294 hx hby hml hown hZ hK hF eh294 _ _ _ _ _ _ _ _ _ _ _ _ _ _ _ _ _ _ _ _ _ (8 : Int32) wn6 v5 xb Nv5 Nxb (fun wn5 T295 X295 eh295 => ?_)
      refine skip_4 X295 hx hby hml hown hZ hK hF eh295 _ _ _ _ _ _ _ _ _ _ _ _ _ _ _ _ _ _ _ _ _ (8 : Int32) wn5 v4 xb Nv4 Nxb (fun wn4 T296 X296 eh296 => ?_)
      refine skip_3 X296 hx hby hml hown hZ hK hF eh296 _ _ _ _ _ _ _ _ _ _ _ _ _ _ _ _ _ _ _ _ _ (8 : Int32) wn4 v3 xb Nv3 Nxb (fun wn3 T297 X297 eh297 => ?_)
      refine skip_2 X297 hx hby hml hown hZ hK hF eh297 _ _ _ _ _ _ _ _ _ _ _ _ _ _ _ _ _ _ _ _ _ (8 : Int32) wn3 v2 xb Nv2 Nxb (fun wn2 T298 X298 eh298 => ?_)
      refine skip_1 X298 hx hby hml hown hZ hK hF eh298 _ _ _ _ _ _ _ _ _ _ _ _ _ _ _ _ _ _ _ _ _ (8 : Int32) wn2 v1 xb Nv1 Nxb (fun wn1 T299 X299 eh299 => ?_)
      refine own_blk dec0 seq0 hby hx hZ hown hK hF 13 [false, false, false] [] X299 eh299 ?_
      show (¬ (((8 : Int32)).toInt ≤ 0)) ∧ (¬ (0 < (cmpValue (FP.dcmp v0 xb) .g).toInt)) ∧ (¬ (((0 : Int32)).toInt ≠ ((0 : Int32)).toInt)) ∧ own_Aft X299 T287.heap _ 351 [zL pk, zS, zI sz, zI bs, zI 8, zD v0, zS, zD v1, zS, zD v2, zS, zD v3, zS, zD v4, zS, zD v5, zS, zD v6, zS, zD v7, zS, zA va, zD xb, zS, zA ao, zI 0, zI 0] [.int 1]
      refine ⟨by decide, by have := own_gle (k := .g) Nv0 Nxb u0; omega, by decide, fun T300 X300 eh300 => ?_⟩
      exact own_ret X300 hx hlk eh300 hret (by first | rfl | decide) (Or.inl ⟨rfl, by simp, _, rfl⟩) (hb hby at_351) (by decide) (by decide) (⟨rfl, N1_⟩)
    · skip
      show own_Go p.tables e below _ (T289.setTop (mkF m 195 (Array.mk [zL pk, zS, zI sz, zI bs, zI 8, zD v0, zS, zD v1, zS, zD v2, zS, zD v3, zS, zD v4, zS, zD v5, zS, zD v6, zS, zD v7, zS, zA va, zD xb, zS, zA ao, zU, zU]) [.int 1]))
      refine own_blk dec0 seq0 hby hx hZ hown hK hF 3 [] [] X289 eh289 ?_
      show own_Aft X289 T287.heap _ 200 [zL pk, zS, zI sz, zI bs, zI 8, zD v0, zS, zD v1, zS, zD v2, zS, zD v3, zS, zD v4, zS, zD v5, zS, zD v6, zS, zD v7, zS, zA va, zD xb, zS, zA ao, zI 1, zI (-1)] []
      refine fun T301 X301 eh301 => ?_
      refine skip_7 X301 hx hby hml hown hZ hK hF eh301 _ _ _ _ _ _ _ _ _ _ _ _ _ _ _ _ _ _ _ _ _ (8 : Int32) (-1 : Int32) v7 xb Nv7 Nxb (fun wn7 T302 X302 eh302 => ?_)
      refine skip_6 X302 hx hby hml hown hZ hK hF eh302 _ _ _ _ _ _ _ _ _ _ _ _ _ _ _ _ _ _ _ _ _ (8 : Int32) wn7 v6 xb Nv6 Nxb (fun wn6 T303 X303 eh303 => ?_)
      refine skip_5 X303 hx hby hml hown hZ hK hF eh303 _ _ _ _ _ _ _ _ _ _ _ _ _ _ _ _ _ _ _ _ _ (8 : Int32) wn6 v5 xb Nv5 Nxb (fun wn5 T304 X304 eh304 => ?_)
      refine skip_4 X304 hx hby hml hown hZ hK hF eh304 _ _ _ _ _ _ _ _ _ _ _ _ _ _ _ _ _ _ _ _ _ (8 : Int32) wn5 v4 xb Nv4 Nxb (fun wn4 T305 X305 eh305 => ?_)
      refine skip_3 X305 hx hby hml hown hZ hK hF eh305 _ _ _ _ _ _ _ _ _ _ _ _ _ _ _ _ _ _ _ _ _ (8 : Int32) wn4 v3 xb Nv3 Nxb (fun wn3 T306 X306 eh306 => ?_)
      refine skip_2 X306 hx hby hml hown hZ hK hF eh306 _ _ _ _ _ _ _ _ _ _ _ _ _ _ _ _ _ _ _ _ _ (8 : Int32) wn3 v2 xb Nv2 Nxb (fun wn2 T307 X307 eh307 => ?_)
      refine own_blk dec0 seq0 hby hx hZ hown hK hF 20 [false, false, false, true, false] [] X307 eh307 ?_
      show (¬ (((8 : Int32)).toInt ≤ ((1 : Int32)).toInt)) ∧ (¬ (0 < (cmpValue (FP.dcmp v1 xb) .g).toInt)) ∧ (¬ (((8 : Int32)).toInt ≤ 0)) ∧ (0 < (cmpValue (FP.dcmp v0 xb) .g).toInt) ∧ (¬ (((1 : Int32)).toInt ≠ ((1 : Int32)).toInt)) ∧ own_Aft X307 T287.heap _ 351 [zL pk, zS, zI sz, zI bs, zI 8, zD v0, zS, zD v1, zS, zD v2, zS, zD v3, zS, zD v4, zS, zD v5, zS, zD v6, zS, zD v7, zS, zA va, zD xb, zS, zA ao, zI 1, zI 1] [.int 1]
      refine ⟨by decide, by have := own_gle (k := .g) Nv1 Nxb u1; omega, by decide, own_ggt Nv0 Nxb u0, by decide, fun T308 X308 eh308 => ?_⟩
      exact own_ret X308 hx hlk eh308 hret (by first | rfl | decide) (Or.inl ⟨rfl, by simp, _, rfl⟩) (hb hby at_351) (by decide) (by decide) (⟨rfl, N1_⟩)
    · skip
      show own_Go p.tables e below _ (T289.setTop (mkF m 195 (Array.mk [zL pk, zS, zI sz, zI bs, zI 8, zD v0, zS, zD v1, zS, zD v2, zS, zD v3, zS, zD v4, zS, zD v5, zS, zD v6, zS, zD v7, zS, zA va, zD xb, zS, zA ao, zU, zU]) [.int 2]))
      refine own_blk dec0 seq0 hby hx hZ hown hK hF 3 [] [] X289 eh289 ?_
      show own_Aft X289 T287.heap _ 200 [zL pk, zS, zI sz, zI bs, zI 8, zD v0, zS, zD v1, zS, zD v2, zS, zD v3, zS, zD v4, zS, zD v5, zS, zD v6, zS, zD v7, zS, zA va, zD xb, zS, zA ao, zI 2, zI (-1)] []
      refine fun T309 X309 eh309 => ?_
      refine skip_7 X309 hx hby hml hown hZ hK hF eh309 _ _ _ _ _ _ _ _ _ _ _ _ _ _ _ _ _ _ _ _ _ (8 : Int32) (-1 : Int32) v7 xb Nv7 Nxb (fun wn7 T310 X310 eh310 => ?_)
      refine skip_6 X310 hx hby hml hown hZ hK hF eh310 _ _ _ _ _ _ _ _ _ _ _ _ _ _ _ _ _ _ _ _ _ (8 : Int32) wn7 v6 xb Nv6 Nxb (fun wn6 T311 X311 eh311 => ?_)
      refine skip_5 X311 hx hby hml hown hZ hK hF eh311 _ _ _ _ _ _ _ _ _ _ _ _ _ _ _ _ _ _ _ _ _ (8 : Int32) wn6 v5 xb Nv5 Nxb (fun wn5 T312 X312 eh312 => ?_)
      refine skip_4 X312 hx hby hml hown hZ hK hF eh312 _ _ _ _ _ _ _ _ _ _ _ _ _ _ _ _ _ _ _ _ _ (8 : Int32) wn5 v4 xb Nv4 Nxb (fun wn4 T313 X313 eh313 => ?_)
      refine skip_3 X313 hx hby hml hown hZ hK hF eh313 _ _ _ _ _ _ _ _ _ _ _ _ _ _ _ _ _ _ _ _ _ (8 : Int32) wn4 v3 xb Nv3 Nxb (fun wn3 T314 X314 eh314 => ?_)
      refine own_blk dec0 seq0 hby hx hZ hown hK hF 27 [false, false, false, true, false, true, false] [] X314 eh314 ?_
      show (¬ (((8 : Int32)).toInt ≤ ((2 : Int32)).toInt)) ∧ (¬ (0 < (cmpValue (FP.dcmp v2 xb) .g).toInt)) ∧ (¬ (((8 : Int32)).toInt ≤ ((1 : Int32)).toInt)) ∧ (0 < (cmpValue (FP.dcmp v1 xb) .g).toInt) ∧ (¬ (((8 : Int32)).toInt ≤ 0)) ∧ (0 < (cmpValue (FP.dcmp v0 xb) .g).toInt) ∧ (¬ (((2 : Int32)).toInt ≠ ((2 : Int32)).toInt)) ∧ own_Aft X314 T287.heap _ 351 [zL pk, zS, zI sz, zI bs, zI 8, zD v0, zS, zD v1, zS, zD v2, zS, zD v3, zS, zD v4, zS, zD v5, zS, zD v6, zS, zD v7, zS, zA va, zD xb, zS, zA ao, zI 2, zI 2] [.int 1]
      refine ⟨by decide, by have := own_gle (k := .g) Nv2 Nxb u2; omega, by decide, own_ggt Nv1 Nxb u1, by decide, own_ggt Nv0 Nxb u0, by decide, fun T315 X315 eh315 => ?_⟩
      exact own_ret X315 hx hlk eh315 hret (by first | rfl | decide) (Or.inl ⟨rfl, by simp, _, rfl⟩) (hb hby at_351) (by decide) (by decide) (⟨rfl, N1_⟩)
    · skip
      show own_Go p.tables e below _ (T289.setTop (mkF m 195 (Array.mk [zL pk, zS, zI sz, zI bs, zI 8, zD v0, zS, zD v1, zS, zD v2, zS, zD v3, zS, zD v4, zS, zD v5, zS, zD v6, zS, zD v7, zS, zA va, zD xb, zS, zA ao, zU, zU]) [.int 3]))
      refine own_blk dec0 seq0 hby hx hZ hown hK hF 3 [] [] X289 eh289 ?_
      show own_Aft X289 T287.heap _ 200 [zL pk, zS, zI sz, zI bs, zI 8, zD v0, zS, zD v1, zS, zD v2, zS, zD v3, zS, zD v4, zS, zD v5, zS, zD v6, zS, zD v7, zS, zA va, zD xb, zS, zA ao, zI 3, zI (-1)] []
      refine fun T316 X316 eh316 => ?_
      refine skip_7 X316 hx hby hml hown hZ hK hF eh316 _ _ _ _ _ _ _ _ _ _ _ _ _ _ _ _ _ _ _ _ _ (8 : Int32) (-1 : Int32) v7 xb Nv7 Nxb (fun wn7 T317 X317 eh317 => ?_)
      refine skip_6 X317 hx hby hml hown hZ hK hF eh317 _ _ _ _ _ _ _ _ _ _ _ _ _ _ _ _ _ _ _ _ _ (8 : Int32) wn7 v6 xb Nv6 Nxb (fun wn6 T318 X318 eh318 => ?_)
      refine skip_5 X318 hx hby hml hown hZ hK hF eh318 _ _ _ _ _ _ _ _ _ _ _ _ _ _ _ _ _ _ _ _ _ (8 : Int32) wn6 v5 xb Nv5 Nxb (fun wn5 T319 X319 eh319 => ?_)
      refine skip_4 X319 hx hby hml hown hZ hK hF eh319 _ _ _ _ _ _ _ _ _ _ _ _ _ _ _ _ _ _ _ _ _ (8 : Int32) wn5 v4 xb Nv4 Nxb (fun wn4 T320 X320 eh320 => ?_)
      refine own_blk dec0 seq0 hby hx hZ hown hK hF 34 [false, false, false, true, false, true, false, true, false] [] X320 eh320 ?_
      show (¬ (((8 : Int32)).toInt ≤ ((3 : Int32)).toInt)) ∧ (¬ (0 < (cmpValue (FP.dcmp v3 xb) .g).toInt)) ∧ (¬ (((8 : Int32)).toInt ≤ ((2 : Int32)).toInt)) ∧ (0 < (cmpValue (FP.dcmp v2 xb) .g).toInt) ∧ (¬ (((8 : Int32)).toInt ≤ ((1 : Int32)).toInt)) ∧ (0 < (cmpValue (FP.dcmp v1 xb) .g).toInt) ∧ (¬ (((8 : Int32)).toInt ≤ 0)) ∧ (0 < (cmpValue (FP.dcmp v0 xb) .g).toInt) ∧ (¬ (((3 : Int32)).toInt ≠ ((3 : Int32)).toInt)) ∧ own_Aft X320 T287.heap _ 351 [zL pk, zS, zI sz, zI bs, zI 8, zD v0, zS, zD v1, zS, zD v2, zS, zD v3, zS, zD v4, zS, zD v5, zS, zD v6, zS, zD v7, zS, zA va, zD xb, zS, zA ao, zI 3, zI 3] [.int 1]
      refine ⟨by decide, by have := own_gle (k := .g) Nv3 Nxb u3; omega, by decide, own_ggt Nv2 Nxb u2, by decide, own_ggt Nv1 Nxb u1, by decide, own_ggt Nv0 Nxb u0, by decide, fun T321 X321 eh321 => ?_⟩
      exact own_ret X321 hx hlk eh321 hret (by first | rfl | decide) (Or.inl ⟨rfl, by simp, _, rfl⟩) (hb hby at_351) (by decide) (by decide) (⟨rfl, N1_⟩)
    · skip
      show own_Go p.tables e below _ (T289.setTop (mkF m 195 (Array.mk [zL pk, zS, zI sz, zI bs, zI 8, zD v0, zS, zD v1, zS, zD v2, zS, zD v3, zS, zD v4, zS, zD v5, zS, zD v6, zS, zD v7, zS, zA va, zD xb, zS, zA ao, zU, zU]) [.int 4]))
      refine own_blk dec0 seq0 hby hx hZ hown hK hF 3 [] [] X289 eh289 ?_
      show own_Aft X289 T287.heap _ 200 [zL pk, zS, zI sz, zI bs, zI 8, zD v0, zS, zD v1, zS, zD v2, zS, zD v3, zS, zD v4, zS, zD v5, zS, zD v6, zS, zD v7, zS, zA va, zD xb, zS, zA ao, zI 4, zI (-1)] []
      refine fun T322 X322 eh322 => ?_
      refine skip_7 X322 hx hby hml hown hZ hK hF eh322 _ _ _ _ _ _ _ _ _ _ _ _ _ _ _ _ _ _ _ _ _ (8 : Int32) (-1 : Int32) v7 xb Nv7 Nxb (fun wn7 T323 X323 eh323 => ?_)
      refine skip_6 X323 hx hby hml hown hZ hK hF eh323 _ _ _ _ _ _ _ _ _ _ _ _ _ _ _ _ _ _ _ _ _ (8 : Int32) wn7 v6 xb Nv6 Nxb (fun wn6 T324 X324 eh324 => ?_)
      refine skip_5 X324 hx hby hml hown hZ hK hF eh324 _ _ _ _ _ _ _ _ _ _ _ _ _ _ _ _ _ _ _ _ _ (8 : Int32) wn6 v5 xb Nv5 Nxb (fun wn5 T325 X325 eh325 => ?_)
      refine own_blk dec0 seq0 hby hx hZ hown hK hF 41 [false, false, false, true, false, true, false, true, false, true, false] [] X325 eh325 ?_
      show (¬ (((8 : Int32)).toInt ≤ ((4 : Int32)).toInt)) ∧ (¬ (0 < (cmpValue (FP.dcmp v4 xb) .g).toInt)) ∧ (¬ (((8 : Int32)).toInt ≤ ((3 : Int32)).toInt)) ∧ (0 < (cmpValue (FP.dcmp v3 xb) .g).toInt) ∧ (¬ (((8 : Int32)).toInt ≤ ((2 : Int32)).toInt)) ∧ (0 < (cmpValue (FP.dcmp v2 xb) .g).toInt) ∧ (¬ (((8 : Int32)).toInt ≤ ((1 : Int32)).toInt)) ∧ (0 < (cmpValue (FP.dcmp v1 xb) .g).toInt) ∧ (¬ (((8 : Int32)).toInt ≤ 0)) ∧ (0 < (cmpValue (FP.dcmp v0 xb) .g).toInt) ∧ (¬ (((4 : Int32)).toInt ≠ ((4 : Int32)).toInt)) ∧ own_Aft X325 T287.heap _ 351 [zL pk, zS, zI sz, zI bs, zI 8, zD v0, zS, zD v1, zS, zD v2, zS, zD v3, zS, zD v4, zS, zD v5, zS, zD v6, zS, zD v7, zS, zA va, zD xb, zS, zA ao, zI 4, zI 4] [.int 1]
      refine ⟨by decide, by have := own_gle (k := .g) Nv4 Nxb u4; omega, by decide, own_ggt Nv3 Nxb u3, by decide, own_ggt Nv2 Nxb u2, by decide, own_ggt Nv1 Nxb u1, by decide, own_ggt Nv0 Nxb u0, by decide, fun T326 X326 eh326 => ?_⟩
      exact own_ret X326 hx hlk eh326 hret (by first | rfl | decide) (Or.inl ⟨rfl, by simp, _, rfl⟩) (hb hby at_351) (by decide) (by decide) (⟨rfl, N1_⟩)
    · skip
      show own_Go p.tables e below _ (T289.setTop (mkF m 195 (Array.mk [zL pk, zS, zI sz, zI bs, zI 8, zD v0, zS, zD v1, zS, zD v2, zS, zD v3, zS, zD v4, zS, zD v5, zS, zD v6, zS, zD v7, zS, zA va, zD xb, zS, zA ao, zU, zU]) [.int 5]))
      refine own_blk dec0 seq0 hby hx hZ hown hK hF 3 [] [] X289 eh289 ?_
      show own_Aft X289 T287.heap _ 200 [zL pk, zS, zI sz, zI bs, zI 8, zD v0, zS, zD v1, zS, zD v2, zS, zD v3, zS, zD v4, zS, zD v5, zS, zD v6, zS, zD v7, zS, zA va, zD xb, zS, zA ao, zI 5, zI (-1)] []
      refine fun T327 X327 eh327 => ?_
      refine skip_7 X327 hx hby hml hown hZ hK hF eh327 _ _ _ _ _ _ _ _ _ _ _ _ _ _ _ _ _ _ _ _ _ (8 : Int32) (-1 : Int32) v7 xb Nv7 Nxb (fun wn7 T328 X328 eh328 => ?_)
      refine skip_6 X328 hx hby hml hown hZ hK hF eh328 _ _ _ _ _ _ _ _ _ _ _ _ _ _ _ _ _ _ _ _ _ (8 : Int32) wn7 v6 xb Nv6 Nxb (fun wn6 T329 X329 eh329 => ?_)
      refine own_blk dec0 seq0 hby hx hZ hown hK hF 48 [false, false, false, true, false, true, false, true, false, true, false, true, false] [] X329 eh329 ?_
      show (¬ (((8 : Int32)).toInt ≤ ((5 : Int32)).toInt)) ∧ (¬ (0 < (cmpValue (FP.dcmp v5 xb) .g).toInt)) ∧ (¬ (((8 : Int32)).toInt ≤ ((4 : Int32)).toInt)) ∧ (0 < (cmpValue (FP.dcmp v4 xb) .g).toInt) ∧ (¬ (((8 : Int32)).toInt ≤ ((3 : Int32)).toInt)) ∧ (0 < (cmpValue (FP.dcmp v3 xb) .g).toInt) ∧ (¬ (((8 : Int32)).toInt ≤ ((2 : Int32)).toInt)) ∧ (0 < (cmpValue (FP.dcmp v2 xb) .g).toInt) ∧ (¬ (((8 : Int32)).toInt ≤ ((1 : Int32)).toInt)) ∧ (0 < (cmpValue (FP.dcmp v1 xb) .g).toInt) ∧ (¬ (((8 : Int32)).toInt ≤ 0)) ∧ (0 < (cmpValue (FP.dcmp v0 xb) .g).toInt) ∧ (¬ (((5 : Int32)).toInt ≠ ((5 : Int32)).toInt)) ∧ own_Aft X329 T287.heap _ 351 [zL pk, zS, zI sz, zI bs, zI 8, zD v0, zS, zD v1, zS, zD v2, zS, zD v3, zS, zD v4, zS, zD v5, zS, zD v6, zS, zD v7, zS, zA va, zD xb, zS, zA ao, zI 5, zI 5] [.int 1]
      refine ⟨by decide, by have := own_gle (k := .g) Nv5 Nxb u5; omega, by decide, own_ggt Nv4 Nxb u4, by decide, own_ggt Nv3 Nxb u3, by decide, own_ggt Nv2 Nxb u2, by decide, own_ggt Nv1 Nxb u1, by decide, own_ggt Nv0 Nxb u0, by decide, fun T330 X330 eh330 => ?_⟩
      exact own_ret X330 hx hlk eh330 hret (by first | rfl | decide) (Or.inl ⟨rfl, by simp, _, rfl⟩) (hb hby at_351) (by decide) (by decide) (⟨rfl, N1_⟩)
    · skip
      show own_Go p.tables e below _ (T289.setTop (mkF m 195 (Array.mk [zL pk, zS, zI sz, zI bs, zI 8, zD v0, zS, zD v1, zS, zD v2, zS, zD v3, zS, zD v4, zS, zD v5, zS, zD v6, zS, zD v7, zS, zA va, zD xb, zS, zA ao, zU, zU]) [.int 6]))
      refine own_blk dec0 seq0 hby hx hZ hown hK hF 3 [] [] X289 eh289 ?_
      show own_Aft X289 T287.heap _ 200 [zL pk, zS, zI sz, zI bs, zI 8, zD v0, zS, zD v1, zS, zD v2, zS, zD v3, zS, zD v4, zS, zD v5, zS, zD v6, zS, zD v7, zS, zA va, zD xb, zS, zA ao, zI 6, zI (-1)] []
      refine fun T331 X331 eh331 => ?_
      refine skip_7 X331 hx hby hml hown hZ hK hF eh331 _ _ _ _ _ _ _ _ _ _ _ _ _ _ _ _ _ _ _ _ _ (8 : Int32) (-1 : Int32) v7 xb Nv7 Nxb (fun wn7 T332 X332 eh332 => ?_)
      refine own_blk dec0 seq0 hby hx hZ hown hK hF 55 [false, false, false, true, false, true, false, true, false, true, false, true, false, true, false] [.int 6, .int 6] X332 eh332 ?_
      show ((Int8.ofInt 6).toInt32 = (6 : Int32)) ∧ (¬ (((8 : Int32)).toInt ≤ ((6 : Int32)).toInt)) ∧ (¬ (0 < (cmpValue (FP.dcmp v6 xb) .g).toInt)) ∧ ((Int8.ofInt 6).toInt32 = (6 : Int32)) ∧ (¬ (((8 : Int32)).toInt ≤ ((5 : Int32)).toInt)) ∧ (0 < (cmpValue (FP.dcmp v5 xb) .g).toInt) ∧ (¬ (((8 : Int32)).toInt ≤ ((4 : Int32)).toInt)) ∧ (0 < (cmpValue (FP.dcmp v4 xb) .g).toInt) ∧ (¬ (((8 : Int32)).toInt ≤ ((3 : Int32)).toInt)) ∧ (0 < (cmpValue (FP.dcmp v3 xb) .g).toInt) ∧ (¬ (((8 : Int32)).toInt ≤ ((2 : Int32)).toInt)) ∧ (0 < (cmpValue (FP.dcmp v2 xb) .g).toInt) ∧ (¬ (((8 : Int32)).toInt ≤ ((1 : Int32)).toInt)) ∧ (0 < (cmpValue (FP.dcmp v1 xb) .g).toInt) ∧ (¬ (((8 : Int32)).toInt ≤ 0)) ∧ (0 < (cmpValue (FP.dcmp v0 xb) .g).toInt) ∧ (¬ (((6 : Int32)).toInt ≠ ((6 : Int32)).toInt)) ∧ own_Aft X332 T287.heap _ 351 [zL pk, zS, zI sz, zI bs, zI 8, zD v0, zS, zD v1, zS, zD v2, zS, zD v3, zS, zD v4, zS, zD v5, zS, zD v6, zS, zD v7, zS, zA va, zD xb, zS, zA ao, zI 6, zI 6] [.int 1]
      refine ⟨by decide +kernel, by decide, by have := own_gle (k := .g) Nv6 Nxb u6; omega, by decide +kernel, by decide, own_ggt Nv5 Nxb u5, by decide, own_ggt Nv4 Nxb u4, by decide, own_ggt Nv3 Nxb u3, by decide, own_ggt Nv2 Nxb u2, by decide, own_ggt Nv1 Nxb u1, by decide, own_ggt Nv0 Nxb u0, by decide, fun T333 X333 eh333 => ?_⟩
      exact own_ret X333 hx hlk eh333 hret (by first | rfl | decide) (Or.inl ⟨rfl, by simp, _, rfl⟩) (hb hby at_351) (by decide) (by decide) (⟨rfl, N1_⟩)
    · skip
      show own_Go p.tables e below _ (T289.setTop (mkF m 195 (Array.mk [zL pk, zS, zI sz, zI bs, zI 8, zD v0, zS, zD v1, zS, zD v2, zS, zD v3, zS, zD v4, zS, zD v5, zS, zD v6, zS, zD v7, zS, zA va, zD xb, zS, zA ao, zU, zU]) [.int 7]))
      refine own_blk dec0 seq0 hby hx hZ hown hK hF 3 [] [] X289 eh289 ?_
      show own_Aft X289 T287.heap _ 200 [zL pk, zS, zI sz, zI bs, zI 8, zD v0, zS, zD v1, zS, zD v2, zS, zD v3, zS, zD v4, zS, zD v5, zS, zD v6, zS, zD v7, zS, zA va, zD xb, zS, zA ao, zI 7, zI (-1)] []
      refine fun T334 X334 eh334 => ?_
      refine own_blk dec0 seq0 hby hx hZ hown hK hF 60 [false, false, false, true, false, true, false, true, false, true, false, true, false, true, false, true, false] [.int 7, .int 7, .int 6] X334 eh334 ?_
      show ((Int8.ofInt 7).toInt32 = (7 : Int32)) ∧ (¬ (((8 : Int32)).toInt ≤ ((7 : Int32)).toInt)) ∧ (¬ (0 < (cmpValue (FP.dcmp v7 xb) .g).toInt)) ∧ ((Int8.ofInt 7).toInt32 = (7 : Int32)) ∧ ((Int8.ofInt 6).toInt32 = (6 : Int32)) ∧ (¬ (((8 : Int32)).toInt ≤ ((6 : Int32)).toInt)) ∧ (0 < (cmpValue (FP.dcmp v6 xb) .g).toInt) ∧ (¬ (((8 : Int32)).toInt ≤ ((5 : Int32)).toInt)) ∧ (0 < (cmpValue (FP.dcmp v5 xb) .g).toInt) ∧ (¬ (((8 : Int32)).toInt ≤ ((4 : Int32)).toInt)) ∧ (0 < (cmpValue (FP.dcmp v4 xb) .g).toInt) ∧ (¬ (((8 : Int32)).toInt ≤ ((3 : Int32)).toInt)) ∧ (0 < (cmpValue (FP.dcmp v3 xb) .g).toInt) ∧ (¬ (((8 : Int32)).toInt ≤ ((2 : Int32)).toInt)) ∧ (0 < (cmpValue (FP.dcmp v2 xb) .g).toInt) ∧ (¬ (((8 : Int32)).toInt ≤ ((1 : Int32)).toInt)) ∧ (0 < (cmpValue (FP.dcmp v1 xb) .g).toInt) ∧ (¬ (((8 : Int32)).toInt ≤ 0)) ∧ (0 < (cmpValue (FP.dcmp v0 xb) .g).toInt) ∧ (¬ (((7 : Int32)).toInt ≠ ((7 : Int32)).toInt)) ∧ own_Aft X334 T287.heap _ 346 [zL pk, zS, zI sz, zI bs, zI 8, zD v0, zS, zD v1, zS, zD v2, zS, zD v3, zS, zD v4, zS, zD v5, zS, zD v6, zS, zD v7, zS, zA va, zD xb, zS, zA ao, zI 7, zI 7] []
      refine ⟨by decide +kernel, by decide, by have := own_gle (k := .g) Nv7 Nxb u7; omega, by decide +kernel, by decide +kernel, by decide, own_ggt Nv6 Nxb u6, by decide, own_ggt Nv5 Nxb u5, by decide, own_ggt Nv4 Nxb u4, by decide, own_ggt Nv3 Nxb u3, by decide, own_ggt Nv2 Nxb u2, by decide, own_ggt Nv1 Nxb u1, by decide, own_ggt Nv0 Nxb u0, by decide, fun T335 X335 eh335 => ?_⟩
      refine own_blk dec0 seq0 hby hx hZ hown hK hF 2 [] [] X335 eh335 ?_
      show own_Aft X335 T287.heap _ 351 [zL pk, zS, zI sz, zI bs, zI 8, zD v0, zS, zD v1, zS, zD v2, zS, zD v3, zS, zD v4, zS, zD v5, zS, zD v6, zS, zD v7, zS, zA va, zD xb, zS, zA ao, zI 7, zI 7] [.int 1]
      refine fun T336 X336 eh336 => ?_
      exact own_ret X336 hx hlk eh336 hret (by first | rfl | decide) (Or.inl ⟨rfl, by simp, _, rfl⟩) (hb hby at_351) (by decide) (by decide) (⟨rfl, N1_⟩)
set_option maxRecDepth 65536 in
set_option maxHeartbeats 40000000 in
theorem comes_1 {Post : Tables → Env → Array Value → State → Outcome → State → Prop} (hpost : ∀ tb e args s v u, (limb_1_1.after args s (.returned v) u = true ∧ limb_1_2.after args s (.returned v) u = true ∧ True) → FrameEnd s (.returned v) u (Jvm.fieldLocs frame_1_writes args s ++ Jvm.arrayLocs frame_1_arrays args s ++ Jvm.staticLocs frame_1_statics s) 16 128 → Post tb e args s (.returned v) u) :
    ArmFor flags0 classFile x code maxLocals ret World_1 tables_1 room_1 Calls_1 rest_1 Pre_1 Post := by
  intro l hfl _ _ p e ha hc hk s m args below hf hA hF happ hP
  obtain ⟨hcalls, hrest, hpre⟩ := hP
  obtain ⟨-, -, -, hnamed, -, -, -, hat⟩ := (Spec.applies_iff hf).mp happ
  obtain ⟨hg, hn⟩ := and_e (Cond.before_iff.mp (show (Jvm.Cond.and given_1 narrow_1).before args s = true from hpre))
  obtain ⟨h1, g0⟩ := and_e hg
  obtain ⟨t0, g1⟩ := and_e g0
  obtain ⟨t1, g2⟩ := and_e g1
  obtain ⟨w0, w1, w2, rfl⟩ : ∃ w0 w1 w2 : Value, args = #[w0, w1, w2] := by
    have hs : args.size = 3 := by simpa [Cond.value, given_1] using h1
    obtain ⟨L⟩ := args
    match L, hs with
    | [w0, w1, w2], _ => exact ⟨w0, w1, w2, rfl⟩
  have hw := fun d (hd : d ∈ tables_1) => atoms_spec (ws := Jvm.Cond.code x code maxLocals ret :: tables_1) hat d (List.mem_cons_of_mem _ hd)
  obtain ⟨i0, e0⟩ := isL_v t0
  obtain rfl : w0 = (.long i0) := Option.some.inj e0
  obtain ⟨i1, e1⟩ := is_v t1
  obtain rfl : w1 = (.int i1) := Option.some.inj e1
  obtain ⟨i2, e2⟩ := is_v g2
  obtain rfl : w2 = (.int i2) := Option.some.inj e2
  obtain ⟨n, o, h1, h2, h3, hfin⟩ := rm0 l s _ hw tables_1 i0 i1 i2 s.heap s.heap.size (Nat.le_refl _)  p e ha hc hk s m _ below hf ((Spec.applies_iff_loose hf).mp happ).1 ⟨rfl, State.Warmed39.refl s, rfl⟩ trivial
  obtain ⟨_, L, rfl, ⟨rfl, N⟩, hq⟩ := hfin
  refine ⟨n, _, h1, h2, h3, hpost _ _ _ _ _ _ ⟨Cond.after_iff.mpr rfl, Cond.after_iff.mpr (eq_i res_at (Term.int_eval (1)) rfl), trivial⟩ ⟨hq.1, hq.2.1, (hq.2.2.sift fun y hy => Or.inr (N y hy)).mono (by decide) (by decide)⟩⟩
theorem main_1_1 : Claimed_1_1 := comes_1 fun _ _ _ _ _ _ h hF => ⟨h.1, hF⟩
theorem main_1_2 : Claimed_1_2 := comes_1 fun _ _ _ _ _ _ h hF => ⟨h.2.1, hF⟩
end Jvm.Pilot.@@N@@
namespace Jvm.Pilot.@@N@@
open Jvm Jvm.ClassFile Sem Op Lib Jvm.Free Jvm.Stand Jvm.Pilot.@@N@@.Jvm.D
/-! MADE BY PROGRAM (witnessworld.py) out of the Statement's table words and the real class files: 18 classes; the members and pool entries that the words name. The judged class is class 1, her method 2. -/
namespace start1
open Jvm.ClassFile
def u (s : String) : CpInfo := .utf8 (stringToUtf16 s)
/-- a pool by its gaps: so many unusable entries, then the entry; so many at the end -/
def gap : Nat → List CpInfo → List CpInfo
  | 0, r => r
  | n + 1, r => .unusable :: gap n r
def poolList (es : List (Nat × CpInfo)) (last : Nat) : List CpInfo := es.foldr (fun e r => gap e.1 (e.2 :: r)) (gap last [])
def pool (es : List (Nat × CpInfo)) (last : Nat) : Array CpInfo := ⟨poolList es last⟩
def fileOf (pool : Array CpInfo) (this : Nat) (attrs : Array Attribute := #[]) (ms : Array MethodInfo := #[]) (fl : Nat := 33) (sup : Nat := 0) (ifs : Array Nat := #[]) (fds : Array FieldInfo := #[]) : ClassFile where
  minorVersion := 0
  majorVersion := 65
  constantPool := pool
  accessFlags := fl
  thisClass := this
  superClass := sup
  interfaces := ifs
  fields := fds
  methods := ms
  attributes := attrs
def plain (name : String) (sup : Option ClassId) : Class where
  name := name
  kind := .ordinary
  loader := none
  accessFlags := 33
  super := sup
  interfaces := #[]
  cf := none
  fields := #[]
  methods := #[]
  instanceTypes := #[]
  staticTypes := #[]
  resolved := #[]
  callSites := []
  init := .initialized
  statics := none
  mirror := none

def pool0 : Array CpInfo := pool [(5, u "<init>"), (0, u "()V"), (1, .class_ 10), (1, u "java/lang/Object")] 113

def k0c0 : Code := { maxStack := 0, maxLocals := 1, code := object_method_1_code, exceptionTable := #[], attributes := #[] }
def k0m0 : Method := { name := "<init>", desc := "()V", sig := { parameters := [], returnType := none }, accessFlags := 1, code := some k0c0 }
/-- java/lang/Object -/
def k0 : Class := { plain "java/lang/Object" none with
  accessFlags := 33
  interfaces := #[]
  cf := some (fileOf pool0 8 #[] #[{ accessFlags := 1, nameIndex := 5, descriptorIndex := 6, attributes := #[] }] 33 0 #[] #[])
  fields := #[]
  methods := #[k0m0]
  instanceTypes := #[]
  staticTypes := #[]
  resolved := Array.replicate 124 none
  statics := none }

def pool1 : Array CpInfo := pool [(2, .class_ 4), (1, u "java/lang/Object"), (0, u "<init>"), (0, u "()V"), (0, .methodref 8 9), (0, .class_ 10), (0, .nameAndType 11 12), (0, u "com/example/binwright/binwright/binning/LeastTreeFirstAtMostPinLaw"), (0, u "byteAt"), (0, u "(JI)D"), (0, .class_ 14), (0, u "com/example/binwright/binwright/binning/LeastTree"), (0, .methodref 13 16), (0, .nameAndType 5 17), (0, u "([D)V"), (0, .methodref 13 19), (0, .nameAndType 20 21), (0, u "firstAtMost"), (0, u "(D)I"), (2, u "law"), (0, u "(JII)Z")] 5

def k1m0 : Method := { name := "<init>", desc := "()V", sig := { parameters := [], returnType := none }, accessFlags := 1, code := none }
def k1c1 : Code := { maxStack := 4, maxLocals := 3, code := method_2_code, exceptionTable := #[], attributes := #[] }
def k1m1 : Method := { name := "byteAt", desc := "(JI)D", sig := { parameters := [.long, .int], returnType := some .double }, accessFlags := 10, code := some k1c1 }
def k1c2 : Code := { maxStack := 4, maxLocals := 27, code := code, exceptionTable := #[], attributes := #[] }
def k1m2 : Method := { name := "law", desc := "(JII)Z", sig := { parameters := [.long, .int, .int], returnType := some .boolean }, accessFlags := 9, code := some k1c2 }
/-- com/example/binwright/binwright/binning/LeastTreeFirstAtMostPinLaw -/
def k1 : Class := { plain "com/example/binwright/binwright/binning/LeastTreeFirstAtMostPinLaw" (some 0) with
  accessFlags := 49
  interfaces := #[]
  cf := some (fileOf pool1 8 #[] #[{ accessFlags := 1, nameIndex := 5, descriptorIndex := 6, attributes := #[] }, { accessFlags := 10, nameIndex := 11, descriptorIndex := 12, attributes := #[] }, { accessFlags := 9, nameIndex := 24, descriptorIndex := 25, attributes := #[] }] 49 2 #[] #[])
  fields := #[]
  methods := #[k1m0, k1m1, k1m2]
  instanceTypes := #[]
  staticTypes := #[]
  resolved := Array.replicate 31 none
  statics := none }

def pool2 : Array CpInfo := pool [(1, .methodref 2 3), (0, .class_ 4), (0, .nameAndType 5 6), (0, u "java/lang/Object"), (0, u "<init>"), (0, u "()V"), (0, .fieldref 8 9), (0, .class_ 10), (0, .nameAndType 11 12), (0, u "com/example/binwright/binwright/binning/LeastTree"), (0, u "values"), (0, u "[D"), (0, .methodref 14 15), (0, .class_ 16), (0, .nameAndType 17 18), (0, u "java/lang/Math"), (0, u "max"), (0, u "(II)I"), (0, .methodref 20 21), (0, .class_ 22), (0, .nameAndType 23 24), (0, u "java/lang/Integer"), (0, u "highestOneBit"), (0, u "(I)I"), (0, .fieldref 8 26), (0, .nameAndType 27 28), (0, u "leaves"), (0, u "I"), (0, .fieldref 8 30), (0, .nameAndType 31 12), (0, u "least"), (2, .double 9218868437227405312), (1, .methodref 37 38), (0, .class_ 39), (0, .nameAndType 40 41), (0, u "java/util/Arrays"), (0, u "fill"), (0, u "([DD)V"), (0, .methodref 8 43), (0, .nameAndType 44 45), (0, u "changed"), (0, u "(II)V"), (0, .methodref 8 47), (0, .nameAndType 48 49), (0, u "at"), (0, u "(I)D"), (0, .methodref 14 51), (0, .nameAndType 52 53), (0, u "min"), (0, u "(DD)D"), (0, u "([D)V"), (4, u "firstAtMost"), (0, u "(D)I")] 2

def k2c0 : Code := { maxStack := 4, maxLocals := 2, code := prog_15_method_1_code, exceptionTable := #[], attributes := #[] }
def k2m0 : Method := { name := "<init>", desc := "([D)V", sig := { parameters := [(.array .double)], returnType := none }, accessFlags := 0, code := some k2c0 }
def k2c1 : Code := { maxStack := 7, maxLocals := 6, code := prog_15_method_2_code, exceptionTable := #[], attributes := #[] }
def k2m1 : Method := { name := "changed", desc := "(II)V", sig := { parameters := [.int, .int], returnType := none }, accessFlags := 0, code := some k2c1 }
def k2c2 : Code := { maxStack := 4, maxLocals := 4, code := prog_15_method_4_code, exceptionTable := #[], attributes := #[] }
def k2m2 : Method := { name := "firstAtMost", desc := "(D)I", sig := { parameters := [.double], returnType := some .int }, accessFlags := 0, code := some k2c2 }
def k2c3 : Code := { maxStack := 2, maxLocals := 5, code := prog_15_method_5_code, exceptionTable := #[], attributes := #[] }
def k2m3 : Method := { name := "at", desc := "(I)D", sig := { parameters := [.int], returnType := some .double }, accessFlags := 2, code := some k2c3 }
/-- com/example/binwright/binwright/binning/LeastTree -/
def k2 : Class := { plain "com/example/binwright/binwright/binning/LeastTree" (some 0) with
  accessFlags := 48
  interfaces := #[]
  cf := some (fileOf pool2 8 #[] #[{ accessFlags := 0, nameIndex := 5, descriptorIndex := 54, attributes := #[] }, { accessFlags := 0, nameIndex := 44, descriptorIndex := 45, attributes := #[] }, { accessFlags := 0, nameIndex := 59, descriptorIndex := 60, attributes := #[] }, { accessFlags := 2, nameIndex := 48, descriptorIndex := 49, attributes := #[] }] 48 2 #[] #[{ accessFlags := 18, nameIndex := 11, descriptorIndex := 12, attributes := #[] }, { accessFlags := 18, nameIndex := 27, descriptorIndex := 28, attributes := #[] }, { accessFlags := 18, nameIndex := 31, descriptorIndex := 12, attributes := #[] }])
  fields := #[{ name := "values", type := (.array .double), accessFlags := 18, slot := 0, constantValue := 0 }, { name := "leaves", type := .int, accessFlags := 18, slot := 1, constantValue := 0 }, { name := "least", type := (.array .double), accessFlags := 18, slot := 2, constantValue := 0 }]
  methods := #[k2m0, k2m1, k2m2, k2m3]
  instanceTypes := #[(.array .double), .int, (.array .double)]
  staticTypes := #[]
  resolved := Array.replicate 63 none
  statics := none }

def pool3 : Array CpInfo := pool [(1, .class_ 2), (0, u "java/lang/Math"), (1, .class_ 6), (1, u "java/lang/Object"), (0, u "<init>"), (0, u "()V"), (43, u "(DD)D"), (45, .class_ 100), (1, u "java/lang/Math$RandomNumberGeneratorHolder"), (71, u "negativeZeroFloatBits"), (0, u "J"), (2, u "negativeZeroDoubleBits"), (21, u "max"), (2, u "min"), (43, u "$assertionsDisabled"), (0, u "Z"), (88, u "(II)I"), (2, u "twoToTheDoubleScaleDown"), (0, u "D"), (4, u "twoToTheDoubleScaleUp"), (9, u "E"), (3, u "PI"), (2, u "TAU"), (2, u "DEGREES_TO_RADIANS"), (0, u "RADIANS_TO_DEGREES")] 94

def k3m0 : Method := { name := "<init>", desc := "()V", sig := { parameters := [], returnType := none }, accessFlags := 2, code := none }
def k3c1 : Code := { maxStack := 2, maxLocals := 2, code := jdk_29_method_65_code, exceptionTable := #[], attributes := #[] }
def k3m1 : Method := { name := "max", desc := "(II)I", sig := { parameters := [.int, .int], returnType := some .int }, accessFlags := 9, code := some k3c1 }
def k3c2 : Code := { maxStack := 4, maxLocals := 4, code := jdk_29_method_72_code, exceptionTable := #[], attributes := #[] }
def k3m2 : Method := { name := "min", desc := "(DD)D", sig := { parameters := [.double, .double], returnType := some .double }, accessFlags := 9, code := some k3c2 }
/-- java/lang/Math -/
def k3 : Class := { plain "java/lang/Math" (some 0) with
  accessFlags := 49
  interfaces := #[]
  cf := some (fileOf pool3 1 #[.nestMembers #[98]] #[{ accessFlags := 2, nameIndex := 7, descriptorIndex := 8, attributes := #[] }, { accessFlags := 9, nameIndex := 198, descriptorIndex := 335, attributes := #[] }, { accessFlags := 9, nameIndex := 201, descriptorIndex := 52, attributes := #[] }] 49 4 #[] #[{ accessFlags := 25, nameIndex := 354, descriptorIndex := 339, attributes := #[] }, { accessFlags := 25, nameIndex := 358, descriptorIndex := 339, attributes := #[] }, { accessFlags := 25, nameIndex := 361, descriptorIndex := 339, attributes := #[] }, { accessFlags := 26, nameIndex := 364, descriptorIndex := 339, attributes := #[] }, { accessFlags := 26, nameIndex := 365, descriptorIndex := 339, attributes := #[] }, { accessFlags := 26, nameIndex := 172, descriptorIndex := 173, attributes := #[] }, { accessFlags := 26, nameIndex := 176, descriptorIndex := 173, attributes := #[] }, { accessFlags := 8, nameIndex := 344, descriptorIndex := 339, attributes := #[] }, { accessFlags := 8, nameIndex := 338, descriptorIndex := 339, attributes := #[] }, { accessFlags := 4120, nameIndex := 245, descriptorIndex := 246, attributes := #[] }])
  fields := #[{ name := "E", type := .double, accessFlags := 25, slot := 0, constantValue := 0 }, { name := "PI", type := .double, accessFlags := 25, slot := 1, constantValue := 0 }, { name := "TAU", type := .double, accessFlags := 25, slot := 2, constantValue := 0 }, { name := "DEGREES_TO_RADIANS", type := .double, accessFlags := 26, slot := 3, constantValue := 0 }, { name := "RADIANS_TO_DEGREES", type := .double, accessFlags := 26, slot := 4, constantValue := 0 }, { name := "negativeZeroFloatBits", type := .long, accessFlags := 26, slot := 5, constantValue := 0 }, { name := "negativeZeroDoubleBits", type := .long, accessFlags := 26, slot := 6, constantValue := 0 }, { name := "twoToTheDoubleScaleUp", type := .double, accessFlags := 8, slot := 7, constantValue := 0 }, { name := "twoToTheDoubleScaleDown", type := .double, accessFlags := 8, slot := 8, constantValue := 0 }, { name := "$assertionsDisabled", type := .boolean, accessFlags := 4120, slot := 9, constantValue := 0 }]
  methods := #[k3m0, k3m1, k3m2]
  instanceTypes := #[]
  staticTypes := #[.double, .double, .double, .double, .double, .long, .long, .double, .double, .boolean]
  resolved := Array.replicate 460 none
  statics := none }

def pool4 : Array CpInfo := pool [(1, .class_ 2), (0, u "java/io/Serializable"), (0, .class_ 4), (0, u "java/lang/Object")] 2

/-- java/io/Serializable -/
def k4 : Class := { plain "java/io/Serializable" (some 0) with
  accessFlags := 1537
  interfaces := #[]
  cf := some (fileOf pool4 1 #[] #[] 1537 3 #[] #[])
  fields := #[]
  methods := #[]
  instanceTypes := #[]
  staticTypes := #[]
  resolved := Array.replicate 7 none
  statics := none }

def pool5 : Array CpInfo := pool [(2, .class_ 4), (1, u "java/lang/Object"), (0, u "<init>"), (0, u "()V"), (1, .class_ 10), (1, u "java/lang/Number"), (2, .class_ 14), (0, u "java/io/Serializable"), (0, u "serialVersionUID"), (0, u "J")] 20

def k5m0 : Method := { name := "<init>", desc := "()V", sig := { parameters := [], returnType := none }, accessFlags := 1, code := none }
/-- java/lang/Number -/
def k5 : Class := { plain "java/lang/Number" (some 0) with
  accessFlags := 1057
  interfaces := #[4]
  cf := some (fileOf pool5 8 #[] #[{ accessFlags := 1, nameIndex := 5, descriptorIndex := 6, attributes := #[] }] 1057 2 #[13] #[{ accessFlags := 26, nameIndex := 15, descriptorIndex := 16, attributes := #[] }])
  fields := #[{ name := "serialVersionUID", type := .long, accessFlags := 26, slot := 0, constantValue := 0 }]
  methods := #[k5m0]
  instanceTypes := #[]
  staticTypes := #[.long]
  resolved := Array.replicate 37 none
  statics := none }

def pool6 : Array CpInfo := pool [(1, .class_ 2), (0, u "java/lang/Comparable"), (0, .class_ 4), (0, u "java/lang/Object")] 7

/-- java/lang/Comparable -/
def k6 : Class := { plain "java/lang/Comparable" (some 0) with
  accessFlags := 1537
  interfaces := #[]
  cf := some (fileOf pool6 1 #[] #[] 1537 3 #[] #[])
  fields := #[]
  methods := #[]
  instanceTypes := #[]
  staticTypes := #[]
  resolved := Array.replicate 12 none
  statics := none }

def pool7 : Array CpInfo := pool [(1, .class_ 2), (0, u "java/lang/constant/Constable"), (0, .class_ 4), (0, u "java/lang/Object")] 6

/-- java/lang/constant/Constable -/
def k7 : Class := { plain "java/lang/constant/Constable" (some 0) with
  accessFlags := 1537
  interfaces := #[]
  cf := some (fileOf pool7 1 #[] #[] 1537 3 #[] #[])
  fields := #[]
  methods := #[]
  instanceTypes := #[]
  staticTypes := #[]
  resolved := Array.replicate 11 none
  statics := none }

def pool8 : Array CpInfo := pool [(1, .class_ 2), (0, u "java/lang/constant/ConstantDesc"), (0, .class_ 4), (0, u "java/lang/Object")] 32

/-- java/lang/constant/ConstantDesc -/
def k8 : Class := { plain "java/lang/constant/ConstantDesc" (some 0) with
  accessFlags := 1537
  interfaces := #[]
  cf := some (fileOf pool8 1 #[] #[] 1537 3 #[] #[])
  fields := #[]
  methods := #[]
  instanceTypes := #[]
  staticTypes := #[]
  resolved := Array.replicate 37 none
  statics := none }

def pool9 : Array CpInfo := pool [(1, .class_ 2), (0, u "java/lang/Integer"), (16, u "digits"), (0, u "[C"), (30, .methodref 1 52), (0, .nameAndType 53 54), (0, u "numberOfLeadingZeros"), (0, u "(I)I"), (30, u "DigitOnes"), (0, u "[B"), (2, u "DigitTens"), (37, .integer 2147483648), (61, .class_ 190), (0, u "java/lang/Integer$IntegerCache"), (3, u "I"), (8, .class_ 204), (0, u "java/lang/Number"), (2, u "value"), (56, .integer 65536), (37, u "TYPE"), (0, u "Ljava/lang/Class;"), (0, .class_ 305), (0, u "java/lang/Comparable"), (0, .class_ 307), (0, u "java/lang/constant/Constable"), (0, .class_ 309), (0, u "java/lang/constant/ConstantDesc"), (0, u "MIN_VALUE"), (1, u "MAX_VALUE"), (3, u "SIZE"), (1, u "BYTES"), (1, u "serialVersionUID"), (0, u "J"), (81, u "highestOneBit")] 49

def k9c0 : Code := { maxStack := 3, maxLocals := 1, code := jdk_33_method_45_code, exceptionTable := #[], attributes := #[] }
def k9m0 : Method := { name := "highestOneBit", desc := "(I)I", sig := { parameters := [.int], returnType := some .int }, accessFlags := 9, code := some k9c0 }
def k9c1 : Code := { maxStack := 3, maxLocals := 2, code := jdk_33_method_47_code, exceptionTable := #[], attributes := #[] }
def k9m1 : Method := { name := "numberOfLeadingZeros", desc := "(I)I", sig := { parameters := [.int], returnType := some .int }, accessFlags := 9, code := some k9c1 }
/-- java/lang/Integer -/
def k9 : Class := { plain "java/lang/Integer" (some 5) with
  accessFlags := 49
  interfaces := #[6, 7, 8]
  cf := some (fileOf pool9 1 #[.nestMembers #[189]] #[{ accessFlags := 9, nameIndex := 403, descriptorIndex := 54, attributes := #[] }, { accessFlags := 9, nameIndex := 53, descriptorIndex := 54, attributes := #[] }] 49 203 #[304, 306, 308] #[{ accessFlags := 25, nameIndex := 310, descriptorIndex := 194, attributes := #[] }, { accessFlags := 25, nameIndex := 312, descriptorIndex := 194, attributes := #[] }, { accessFlags := 25, nameIndex := 302, descriptorIndex := 303, attributes := #[] }, { accessFlags := 24, nameIndex := 19, descriptorIndex := 20, attributes := #[] }, { accessFlags := 24, nameIndex := 89, descriptorIndex := 86, attributes := #[] }, { accessFlags := 24, nameIndex := 85, descriptorIndex := 86, attributes := #[] }, { accessFlags := 18, nameIndex := 207, descriptorIndex := 194, attributes := #[] }, { accessFlags := 25, nameIndex := 316, descriptorIndex := 194, attributes := #[] }, { accessFlags := 25, nameIndex := 318, descriptorIndex := 194, attributes := #[] }, { accessFlags := 26, nameIndex := 320, descriptorIndex := 321, attributes := #[] }])
  fields := #[{ name := "MIN_VALUE", type := .int, accessFlags := 25, slot := 0, constantValue := 0 }, { name := "MAX_VALUE", type := .int, accessFlags := 25, slot := 1, constantValue := 0 }, { name := "TYPE", type := (.object "java/lang/Class"), accessFlags := 25, slot := 2, constantValue := 0 }, { name := "digits", type := (.array .char), accessFlags := 24, slot := 3, constantValue := 0 }, { name := "DigitTens", type := (.array .byte), accessFlags := 24, slot := 4, constantValue := 0 }, { name := "DigitOnes", type := (.array .byte), accessFlags := 24, slot := 5, constantValue := 0 }, { name := "value", type := .int, accessFlags := 18, slot := 0, constantValue := 0 }, { name := "SIZE", type := .int, accessFlags := 25, slot := 6, constantValue := 0 }, { name := "BYTES", type := .int, accessFlags := 25, slot := 7, constantValue := 0 }, { name := "serialVersionUID", type := .long, accessFlags := 26, slot := 8, constantValue := 0 }]
  methods := #[k9m0, k9m1]
  instanceTypes := #[.int]
  staticTypes := #[.int, .int, (.object "java/lang/Class"), (.array .char), (.array .byte), (.array .byte), .int, .int, .long]
  resolved := Array.replicate 453 none
  statics := none }

def pool10 : Array CpInfo := pool [(2, .class_ 4), (1, u "java/lang/Object"), (0, u "<init>"), (0, u "()V"), (7, .class_ 16), (1, u "java/util/Arrays"), (57, .class_ 76), (1, u "java/util/Arrays$NaturalOrder"), (36, .class_ 115), (1, u "java/util/Arrays$LegacyMergeSort"), (1, u "Z"), (257, .class_ 376), (0, u "java/util/Arrays$ArrayList"), (68, u "$assertionsDisabled"), (269, u "MIN_ARRAY_SORT_GRAN"), (0, u "I"), (2, u "INSERTIONSORT_THRESHOLD"), (120, u "fill"), (13, u "([DD)V"), (120, .class_ 976), (0, u "java/util/Arrays$ArrayItr")] 52

def k10m0 : Method := { name := "<init>", desc := "()V", sig := { parameters := [], returnType := none }, accessFlags := 2, code := none }
def k10c1 : Code := { maxStack := 4, maxLocals := 5, code := jdk_65_method_113_code, exceptionTable := #[], attributes := #[] }
def k10m1 : Method := { name := "fill", desc := "([DD)V", sig := { parameters := [(.array .double), .double], returnType := none }, accessFlags := 9, code := some k10c1 }
/-- java/util/Arrays -/
def k10 : Class := { plain "java/util/Arrays" (some 0) with
  accessFlags := 49
  interfaces := #[]
  cf := some (fileOf pool10 14 #[.nestMembers #[975, 375, 113, 74]] #[{ accessFlags := 2, nameIndex := 5, descriptorIndex := 6, attributes := #[] }, { accessFlags := 9, nameIndex := 840, descriptorIndex := 854, attributes := #[] }] 49 2 #[] #[{ accessFlags := 26, nameIndex := 715, descriptorIndex := 716, attributes := #[] }, { accessFlags := 26, nameIndex := 719, descriptorIndex := 716, attributes := #[] }, { accessFlags := 4120, nameIndex := 445, descriptorIndex := 117, attributes := #[] }])
  fields := #[{ name := "MIN_ARRAY_SORT_GRAN", type := .int, accessFlags := 26, slot := 0, constantValue := 0 }, { name := "INSERTIONSORT_THRESHOLD", type := .int, accessFlags := 26, slot := 1, constantValue := 0 }, { name := "$assertionsDisabled", type := .boolean, accessFlags := 4120, slot := 2, constantValue := 0 }]
  methods := #[k10m0, k10m1]
  instanceTypes := #[]
  staticTypes := #[.int, .int, .boolean]
  resolved := Array.replicate 1029 none
  statics := none }

def pool11 : Array CpInfo := pool [(1, u "java/lang/Cloneable"), (0, .class_ 1), (0, u "java/lang/Object"), (0, .class_ 3)] 3

/-- java/lang/Cloneable -/
def k11 : Class := { plain "java/lang/Cloneable" (some 0) with
  accessFlags := 1537
  interfaces := #[]
  cf := some (fileOf pool11 2 #[] #[] 1537 4 #[] #[])
  fields := #[]
  methods := #[]
  instanceTypes := #[]
  staticTypes := #[]
  resolved := Array.replicate 8 none
  statics := none }

/-- the primitive byte -/
def k12 : Class := { plain "byte" none with kind := .primitive 'B', accessFlags := 0x411 }
/-- [B -/
def k13 : Class := { plain "[B" (some 0) with kind := .array 12 .byte, interfaces := #[11, 4], accessFlags := 1041 }

/-- the primitive double -/
def k14 : Class := { plain "double" none with kind := .primitive 'D', accessFlags := 0x411 }
/-- [D -/
def k15 : Class := { plain "[D" (some 0) with kind := .array 14 .double, interfaces := #[11, 4], accessFlags := 1041 }

/-- the primitive int -/
def k16 : Class := { plain "int" none with kind := .primitive 'I', accessFlags := 0x411 }
/-- [I -/
def k17 : Class := { plain "[I" (some 0) with kind := .array 16 .int, interfaces := #[11, 4], accessFlags := 1041 }

def heap : Heap := #[]
def classes : Array Class := #[k0, k1, k2, k3, k4, k5, k6, k7, k8, k9, k10, k11, k12, k13, k14, k15, k16, k17]
def interned : List (Array UInt16 × Addr) := []
def slotsUsed : Nat := 0
def theMethod : MethodId := ⟨1, 2⟩
def args0 : Array Value := #[.long 5, .int 6, .int 7]
def aboutOver (below : List Frame) : State where
  vm := { classes := classes, interned := interned.toArray }
  heap := heap
  slotsUsed := slotsUsed
  threads := #[{ frames := .invoking theMethod args0 :: below }]
def below0 : List Frame := [.native { method := ⟨0, 0⟩, args := #[] }]
def about1 : State := aboutOver below0
def p0 : Program := .bare "" "" ""
def e0 : Env := launch0.env 0 0 0
theorem w_frames : about1.frames = Frame.invoking theMethod args0 :: below0 := rfl
set_option maxRecDepth 65536 in
theorem w_args : argsFit about1.vm theMethod args0 = true := by decide +kernel
set_option maxRecDepth 65536 in
theorem w_heap : heapFits about1 = true := by decide +kernel
set_option maxRecDepth 65536 in
theorem w_runnable : about1.curStatus? = some .runnable := by decide +kernel
set_option maxRecDepth 65536 in
theorem w_alone : about1.alone = true := by decide +kernel
set_option maxRecDepth 65536 in
theorem w_named : about1.methodNamed? x = some theMethod := by decide +kernel
set_option maxRecDepth 65536 in
theorem w_hears : about1.hears theMethod below0 = true := by decide +kernel
set_option maxRecDepth 65536 in
theorem w_ripe : about1.ripe theMethod args0 below0 = true := by decide +kernel
theorem w_running : about1.status = .running := rfl
set_option maxRecDepth 65536 in
theorem w_room : about1.hasRoom e0.platform room_1 = true :=
  launch0.hasRoom_least _ room_1 (by decide +kernel) (by decide +kernel) (by decide +kernel) (by decide +kernel) (by decide +kernel) (by decide +kernel)
theorem allAtoms_all (ts : List Jvm.Cond) (a : Array Jvm.Value) (st : Jvm.State) : (allAtoms ts).before a st = ts.all (fun c => c.before a st) := by
  induction ts with
  | nil => rfl
  | cons c t ih =>
    show (Jvm.Cond.and c (allAtoms t)).before a st = _
    rw [Jvm.Cond.before_and, ih, List.all_cons]
def words1 : List Jvm.Cond := Jvm.Cond.code x code maxLocals ret :: tables_1
/-- a 'code' word, met by the world's own term for the bytes: nothing is compared byte by byte -/
theorem code_word {y : MethodName} {bytes : ByteArray} {mx : Nat} {rt : Option FieldType} {a : Array Value} {s : State} {m : MethodId} {meth : Method} {c : Code} (h1 : s.methodNamed? y = some m) (h2 : s.vm.method? m = some meth) (h3 : meth.code = some c) (h4 : c.code = bytes)
    (h5 : (c.maxLocals == mx && c.exceptionTable.isEmpty && decide (c.maxStack ≤ mostOperands) && decide (meth.sig.returnType = rt) && !meth.locks && decide (parseMethodDescriptor y.desc = some meth.sig)) = true) : (Jvm.Cond.code y bytes mx rt).before a s = true := by
  simp only [Bool.and_eq_true, beq_iff_eq, Bool.not_eq_true', decide_eq_true_eq] at h5
  obtain ⟨⟨⟨⟨⟨g1, g2⟩, g3⟩, g4⟩, g5⟩, g6⟩ := h5
  simp [Cond.before, Cond.holds, Cond.value, h1, h2, h3, h4, g1, g2, g3, g4, g5, g6]
def isCode : Jvm.Cond → Bool
  | .code _ _ _ _ => true
  | _ => false
theorem all_split {L : List Jvm.Cond} {P : Jvm.Cond → Bool} (h1 : L.all (fun c => isCode c || P c) = true) (h2 : ∀ c ∈ L.filter isCode, P c = true) : L.all P = true := by
  refine List.all_eq_true.mpr fun c hc => ?_
  have h := List.all_eq_true.mp h1 c hc
  rcases Bool.eq_false_or_eq_true (isCode c) with hi | hi
  · exact h2 c (List.mem_filter.mpr ⟨hc, hi⟩)
  · simpa [hi] using h
set_option maxRecDepth 65536 in
theorem w_c0 : (Jvm.Cond.code x code maxLocals ret).before args0 about1 = true := code_word (m := ⟨1, 2⟩) (meth := k1m2) (c := k1c2) (by decide +kernel) rfl rfl rfl (by decide +kernel)
set_option maxRecDepth 65536 in
theorem w_c1 : (Jvm.Cond.code ({ cls := "com/example/binwright/binwright/binning/LeastTreeFirstAtMostPinLaw", name := "byteAt", desc := "(JI)D" } : Jvm.MethodName) method_2_code (3 : Nat) (Option.some Jvm.ClassFile.FieldType.double)).before args0 about1 = true := code_word (m := ⟨1, 1⟩) (meth := k1m1) (c := k1c1) (by decide +kernel) rfl rfl rfl (by decide +kernel)
set_option maxRecDepth 65536 in
theorem w_c2 : (Jvm.Cond.code ({ cls := "com/example/binwright/binwright/binning/LeastTree", name := "<init>", desc := "([D)V" } : Jvm.MethodName) prog_15_method_1_code (2 : Nat) (Option.none : Option Jvm.ClassFile.FieldType)).before args0 about1 = true := code_word (m := ⟨2, 0⟩) (meth := k2m0) (c := k2c0) (by decide +kernel) rfl rfl rfl (by decide +kernel)
set_option maxRecDepth 65536 in
theorem w_c3 : (Jvm.Cond.code ({ cls := "java/lang/Object", name := "<init>", desc := "()V" } : Jvm.MethodName) object_method_1_code (1 : Nat) (Option.none : Option Jvm.ClassFile.FieldType)).before args0 about1 = true := code_word (m := ⟨0, 0⟩) (meth := k0m0) (c := k0c0) (by decide +kernel) rfl rfl rfl (by decide +kernel)
set_option maxRecDepth 65536 in
theorem w_c4 : (Jvm.Cond.code ({ cls := "java/lang/Math", name := "max", desc := "(II)I" } : Jvm.MethodName) jdk_29_method_65_code (2 : Nat) (Option.some Jvm.ClassFile.FieldType.int)).before args0 about1 = true := code_word (m := ⟨3, 1⟩) (meth := k3m1) (c := k3c1) (by decide +kernel) rfl rfl rfl (by decide +kernel)
set_option maxRecDepth 65536 in
theorem w_c5 : (Jvm.Cond.code ({ cls := "java/lang/Integer", name := "highestOneBit", desc := "(I)I" } : Jvm.MethodName) jdk_33_method_45_code (1 : Nat) (Option.some Jvm.ClassFile.FieldType.int)).before args0 about1 = true := code_word (m := ⟨9, 0⟩) (meth := k9m0) (c := k9c0) (by decide +kernel) rfl rfl rfl (by decide +kernel)
set_option maxRecDepth 65536 in
theorem w_c6 : (Jvm.Cond.code ({ cls := "java/lang/Integer", name := "numberOfLeadingZeros", desc := "(I)I" } : Jvm.MethodName) jdk_33_method_47_code (2 : Nat) (Option.some Jvm.ClassFile.FieldType.int)).before args0 about1 = true := code_word (m := ⟨9, 1⟩) (meth := k9m1) (c := k9c1) (by decide +kernel) rfl rfl rfl (by decide +kernel)
set_option maxRecDepth 65536 in
theorem w_c7 : (Jvm.Cond.code ({ cls := "java/util/Arrays", name := "fill", desc := "([DD)V" } : Jvm.MethodName) jdk_65_method_113_code (5 : Nat) (Option.none : Option Jvm.ClassFile.FieldType)).before args0 about1 = true := code_word (m := ⟨10, 1⟩) (meth := k10m1) (c := k10c1) (by decide +kernel) rfl rfl rfl (by decide +kernel)
set_option maxRecDepth 65536 in
theorem w_c8 : (Jvm.Cond.code ({ cls := "com/example/binwright/binwright/binning/LeastTree", name := "changed", desc := "(II)V" } : Jvm.MethodName) prog_15_method_2_code (6 : Nat) (Option.none : Option Jvm.ClassFile.FieldType)).before args0 about1 = true := code_word (m := ⟨2, 1⟩) (meth := k2m1) (c := k2c1) (by decide +kernel) rfl rfl rfl (by decide +kernel)
set_option maxRecDepth 65536 in
theorem w_c9 : (Jvm.Cond.code ({ cls := "com/example/binwright/binwright/binning/LeastTree", name := "at", desc := "(I)D" } : Jvm.MethodName) prog_15_method_5_code (5 : Nat) (Option.some Jvm.ClassFile.FieldType.double)).before args0 about1 = true := code_word (m := ⟨2, 3⟩) (meth := k2m3) (c := k2c3) (by decide +kernel) rfl rfl rfl (by decide +kernel)
set_option maxRecDepth 65536 in
theorem w_c10 : (Jvm.Cond.code ({ cls := "java/lang/Math", name := "min", desc := "(DD)D" } : Jvm.MethodName) jdk_29_method_72_code (4 : Nat) (Option.some Jvm.ClassFile.FieldType.double)).before args0 about1 = true := code_word (m := ⟨3, 2⟩) (meth := k3m2) (c := k3c2) (by decide +kernel) rfl rfl rfl (by decide +kernel)
set_option maxRecDepth 65536 in
theorem w_c11 : (Jvm.Cond.code ({ cls := "com/example/binwright/binwright/binning/LeastTree", name := "firstAtMost", desc := "(D)I" } : Jvm.MethodName) prog_15_method_4_code (4 : Nat) (Option.some Jvm.ClassFile.FieldType.int)).before args0 about1 = true := code_word (m := ⟨2, 2⟩) (meth := k2m2) (c := k2c2) (by decide +kernel) rfl rfl rfl (by decide +kernel)
def codes1 : List Jvm.Cond := [Jvm.Cond.code x code maxLocals ret, Jvm.Cond.code ({ cls := "com/example/binwright/binwright/binning/LeastTreeFirstAtMostPinLaw", name := "byteAt", desc := "(JI)D" } : Jvm.MethodName) method_2_code (3 : Nat) (Option.some Jvm.ClassFile.FieldType.double), Jvm.Cond.code ({ cls := "com/example/binwright/binwright/binning/LeastTree", name := "<init>", desc := "([D)V" } : Jvm.MethodName) prog_15_method_1_code (2 : Nat) (Option.none : Option Jvm.ClassFile.FieldType), Jvm.Cond.code ({ cls := "java/lang/Object", name := "<init>", desc := "()V" } : Jvm.MethodName) object_method_1_code (1 : Nat) (Option.none : Option Jvm.ClassFile.FieldType), Jvm.Cond.code ({ cls := "java/lang/Math", name := "max", desc := "(II)I" } : Jvm.MethodName) jdk_29_method_65_code (2 : Nat) (Option.some Jvm.ClassFile.FieldType.int), Jvm.Cond.code ({ cls := "java/lang/Integer", name := "highestOneBit", desc := "(I)I" } : Jvm.MethodName) jdk_33_method_45_code (1 : Nat) (Option.some Jvm.ClassFile.FieldType.int), Jvm.Cond.code ({ cls := "java/lang/Integer", name := "numberOfLeadingZeros", desc := "(I)I" } : Jvm.MethodName) jdk_33_method_47_code (2 : Nat) (Option.some Jvm.ClassFile.FieldType.int), Jvm.Cond.code ({ cls := "java/util/Arrays", name := "fill", desc := "([DD)V" } : Jvm.MethodName) jdk_65_method_113_code (5 : Nat) (Option.none : Option Jvm.ClassFile.FieldType), Jvm.Cond.code ({ cls := "com/example/binwright/binwright/binning/LeastTree", name := "changed", desc := "(II)V" } : Jvm.MethodName) prog_15_method_2_code (6 : Nat) (Option.none : Option Jvm.ClassFile.FieldType), Jvm.Cond.code ({ cls := "com/example/binwright/binwright/binning/LeastTree", name := "at", desc := "(I)D" } : Jvm.MethodName) prog_15_method_5_code (5 : Nat) (Option.some Jvm.ClassFile.FieldType.double), Jvm.Cond.code ({ cls := "java/lang/Math", name := "min", desc := "(DD)D" } : Jvm.MethodName) jdk_29_method_72_code (4 : Nat) (Option.some Jvm.ClassFile.FieldType.double), Jvm.Cond.code ({ cls := "com/example/binwright/binwright/binning/LeastTree", name := "firstAtMost", desc := "(D)I" } : Jvm.MethodName) prog_15_method_4_code (4 : Nat) (Option.some Jvm.ClassFile.FieldType.int)]
set_option maxRecDepth 65536 in
theorem codes_eq : words1.filter isCode = codes1 := rfl
theorem w_codes : ∀ c ∈ words1.filter isCode, c.before args0 about1 = true := by
  rw [codes_eq]
  intro c hc
  simp only [codes1, List.mem_cons, List.not_mem_nil, or_false] at hc
  rcases hc with rfl | rfl | rfl | rfl | rfl | rfl | rfl | rfl | rfl | rfl | rfl | rfl
  · exact w_c0
  · exact w_c1
  · exact w_c2
  · exact w_c3
  · exact w_c4
  · exact w_c5
  · exact w_c6
  · exact w_c7
  · exact w_c8
  · exact w_c9
  · exact w_c10
  · exact w_c11
set_option maxRecDepth 65536 in
theorem w_t1 : (words1.take 24).all (fun c => isCode c || c.before args0 about1) = true := by decide +kernel
set_option maxRecDepth 65536 in
theorem w_t2 : ((words1.drop 24).take 24).all (fun c => isCode c || c.before args0 about1) = true := by decide +kernel
set_option maxRecDepth 65536 in
theorem w_t3 : ((words1.drop 24).drop 24).all (fun c => isCode c || c.before args0 about1) = true := by decide +kernel
theorem w_tables : (allAtoms (Jvm.Cond.code x code maxLocals ret :: tables_1)).before args0 about1 = true := by
  rw [allAtoms_all]
  show words1.all (fun c => c.before args0 about1) = true
  refine all_split ?_ w_codes
  rw [← List.take_append_drop 24 words1, List.all_append, w_t1, ← List.take_append_drop 24 (words1.drop 24), List.all_append, w_t2, w_t3]
  rfl
set_option maxRecDepth 65536 in
theorem w_case : (Jvm.Cond.and given_1 narrow_1).before args0 about1 = true := by decide +kernel
theorem w_applies : (headSpec (Jvm.Cond.code x code maxLocals ret :: tables_1) room_1).applies x e0.platform about1 = true :=
  (Spec.applies_iff w_frames).mpr ⟨w_running, w_runnable, w_alone, w_named, w_hears, w_ripe, w_room, w_tables⟩
theorem atStart : AtStart classFile x code maxLocals ret World_1 tables_1 room_1 Calls_1 rest_1 Pre_1 launch0 p0 e0 about1 theMethod args0 below0 :=
  ⟨lists_1, trivial, launch0.admits_env _ _ _, launch0.least_env, fairChoices_fair.cas, fairChoices_fair.clock, w_frames, w_args, w_heap, w_applies, trivial, trivial, w_case⟩
end start1
theorem witness_1 : WitnessClaimed_1 := ⟨start1.p0, start1.e0, start1.about1, start1.theMethod, start1.args0, start1.below0, start1.atStart⟩
end Jvm.Pilot.@@N@@
