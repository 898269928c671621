import JvmDerived
import JvmDerived.Pilot.@@N@@Statement
import JvmDerived.Pilot.@@N@@Code
set_option linter.unusedVariables false
set_option linter.unusedSimpArgs false
namespace Jvm.Pilot.@@N@@
open Jvm Jvm.ClassFile Sem Op Lib Jvm.Free Jvm.Stand Jvm.LawKit Jvm.RoadKit Bundle Jvm.Pilot.@@N@@.Jvm.D
/-! OWN KIT 1: a goal 'the run goes on to a good end', and a block of plain instructions taken in one step (own_blk) -/
abbrev zI (x : Int32) : Slot := .val (.int x)
abbrev zL (x : Int64) : Slot := .val (.long x)
abbrev zD (x : UInt64) : Slot := .val (.double x)
abbrev zA (x : Addr) : Slot := .val (.ref x)
abbrev zN : Slot := .val .null
abbrev zU : Slot := .unset
abbrev zS : Slot := .second
def own_Go (tb : Tables) (e : Env) (below : List Frame) (Q : Outcome → State → Prop) (S : State) : Prop :=
  ∃ s₂ o, Steps tb e below S s₂ ∧ s₂.status = .running ∧ Ended s₂ below o ∧ Q o s₂
theorem own_go {tb : Tables} {e : Env} {below : List Frame} {Q : Outcome → State → Prop} {S S' : State} (h : ∀ t, Steps tb e below S' t → Steps tb e below S t) (k : own_Go tb e below Q S') : own_Go tb e below Q S := by
  obtain ⟨s2, o, a, b, c, d⟩ := k
  exact ⟨s2, o, h _ a, b, c, d⟩
/-- what a contract asks of the end -/
def own_Fin (s : State) (C S : Nat) (q : Option Value → Heap → List Loc → Prop) (o : Outcome) (U : State) : Prop :=
  ∃ v L, o = .returned v ∧ q v U.heap L ∧ FrameEnd s o U L C S
/-! local variables as lists -/
def own_nth : List Slot → Nat → Option Slot
  | [], _ => none
  | a :: _, 0 => some a
  | _ :: r, n + 1 => own_nth r n
def own_put : List Slot → Nat → Slot → List Slot
  | [], _, _ => []
  | _ :: r, 0, x => x :: r
  | a :: r, n + 1, x => a :: own_put r n x
theorem own_nth_eq : ∀ (ls : List Slot) (k : Nat), (Array.mk ls)[k]? = own_nth ls k := by
  intro ls k
  show (Array.mk ls)[k]? = _
  rw [List.getElem?_toArray]
  induction ls generalizing k with
  | nil => rfl
  | cons a r ih => cases k with
    | zero => rfl
    | succ n => exact ih n
theorem own_put_eq : ∀ (ls : List Slot) (k : Nat) (x : Slot), (Array.mk ls).setIfInBounds k x = Array.mk (own_put ls k x) := by
  intro ls k x
  have h : ls.set k x = own_put ls k x := by
    induction ls generalizing k with
    | nil => rfl
    | cons a r ih => cases k with
      | zero => rfl
      | succ n => show a :: r.set n x = a :: own_put r n x; rw [ih]
  rw [← h]
  exact List.setIfInBounds_toArray _ _ _
theorem own_nth_lt {ls : List Slot} {k : Nat} {x : Slot} (h : own_nth ls k = some x) : k < (Array.mk ls).size := by
  rw [← own_nth_eq] at h
  exact (Array.getElem?_eq_some_iff.mp h).1
theorem own_size (ls : List Slot) (k : Nat) (x : Slot) : (Array.mk (own_put ls k x)).size = (Array.mk ls).size := by
  rw [← own_put_eq]; exact Array.size_setIfInBounds
theorem own_setAt {ls : List Slot} {k : Nat} (x : Slot) (h : k < (Array.mk ls).size) : setAt (Array.mk ls) k x = some (Array.mk (own_put ls k x)) := by
  rw [← own_put_eq]
  exact if_pos h
def own_self (ls : List Slot) (k : Nat) (v : Value) : Option (List Slot) :=
  match v.category with
  | 2 => match own_nth ls (k + 1) with
    | none => none
    | some .unset => some (own_put (own_put ls k (.val v)) (k + 1) .second)
    | some .second => some (own_put (own_put ls k (.val v)) (k + 1) .second)
    | some (.val w) => match w.category with
      | 2 => match own_nth ls (k + 2) with
        | none => none
        | some _ => some (own_put (own_put (own_put ls k (.val v)) (k + 2) .unset) (k + 1) .second)
      | _ => some (own_put (own_put ls k (.val v)) (k + 1) .second)
  | _ => some (own_put ls k (.val v))
def own_sto (ls : List Slot) (k : Nat) (v : Value) : Option (List Slot) :=
  match own_nth ls k with
  | none => none
  | some .unset => own_self ls k v
  | some .second => own_self (own_put ls (k - 1) .unset) k v
  | some (.val w) => match w.category with
    | 2 => match own_nth ls (k + 1) with
      | none => none
      | some _ => own_self (own_put ls (k + 1) .unset) k v
    | _ => own_self ls k v
theorem own_storeSelf (l : Array Slot) (i : Nat) (v : Value) : storeSelf l i v = (setAt l i (.val v)).bind fun l => if v.category = 2 then l[i + 1]?.bind fun o => (match o with
    | .val old => if old.category = 2 then (setAt l (i + 2) .unset).bind fun l2 => setAt l2 (i + 1) .second else setAt l (i + 1) .second
    | _ => setAt l (i + 1) .second) else some l := rfl
theorem own_storeLocals (l : Array Slot) (i : Nat) (v : Value) : storeLocals l i v = l[i]?.bind fun o => (match o with
    | .second => (setAt l (i - 1) .unset).bind fun l2 => storeSelf l2 i v
    | .val old => if old.category = 2 then (setAt l (i + 1) .unset).bind fun l2 => storeSelf l2 i v else storeSelf l i v
    | .unset => storeSelf l i v) := rfl
theorem own_nth_ne {ls : List Slot} {k j : Nat} {x : Slot} (h : j ≠ k) : own_nth (own_put ls k x) j = own_nth ls j := by
  rw [← own_nth_eq, ← own_nth_eq, ← own_put_eq]
  exact Array.getElem?_setIfInBounds_ne (Ne.symm h)
theorem own_self_ok {ls ls' : List Slot} {k : Nat} {v : Value} (hk : k < (Array.mk ls).size) (h : own_self ls k v = some ls') : storeSelf (Array.mk ls) k v = some (Array.mk ls') := by
  rw [own_storeSelf, own_setAt _ hk]
  show (if v.category = 2 then _ else _) = _
  unfold own_self at h
  split at h
  · rename_i hc
    rw [if_pos hc, own_nth_eq, own_nth_ne (by omega)]
    split at h
    · cases h
    · rename_i hn
      cases h
      rw [hn]
      exact own_setAt _ (by rw [own_size]; exact own_nth_lt hn)
    · rename_i hn
      cases h
      rw [hn]
      exact own_setAt _ (by rw [own_size]; exact own_nth_lt hn)
    · rename_i w hn
      rw [hn]
      show (if w.category = 2 then _ else _) = _
      split at h
      · rename_i hw
        rw [if_pos hw]
        split at h
        · cases h
        · rename_i y hy
          cases h
          rw [own_setAt _ (by rw [own_size]; exact own_nth_lt hy)]
          exact own_setAt _ (by rw [own_size, own_size]; exact own_nth_lt hn)
      · rename_i hw
        cases h
        rw [if_neg (fun q => hw q)]
        exact own_setAt _ (by rw [own_size]; exact own_nth_lt hn)
  · rename_i hc
    cases h
    rw [if_neg (fun q => hc q)]
theorem own_sto_ok {ls ls' : List Slot} {k : Nat} {v : Value} (h : own_sto ls k v = some ls') : storeLocals (Array.mk ls) k v = some (Array.mk ls') := by
  rw [own_storeLocals, own_nth_eq]
  unfold own_sto at h
  split at h
  · cases h
  · rename_i hn
    rw [hn]
    exact own_self_ok (own_nth_lt hn) h
  · rename_i hn
    rw [hn]
    have := own_nth_lt hn
    show ((setAt _ (k - 1) .unset).bind _) = _
    rw [own_setAt _ (by omega)]
    exact own_self_ok (by rw [own_size]; exact this) h
  · rename_i w hn
    rw [hn]
    have := own_nth_lt hn
    show (if w.category = 2 then _ else _) = _
    split at h
    · rename_i hw
      rw [if_pos hw]
      split at h
      · cases h
      · rename_i y hy
        rw [own_setAt _ (own_nth_lt hy)]
        exact own_self_ok (by rw [own_size]; exact this) h
    · rename_i hw
      rw [if_neg (fun q => hw q)]
      exact own_self_ok this h
/-! the conditions of a branch, said of whole numbers -/
def own_c0 : ClassFile.Cond → Int32 → Prop
  | .eq, a => a.toInt = 0
  | .ne, a => a.toInt ≠ 0
  | .lt, a => a.toInt < 0
  | .ge, a => 0 ≤ a.toInt
  | .gt, a => 0 < a.toInt
  | .le, a => a.toInt ≤ 0
def own_ic : ClassFile.Cond → Int32 → Int32 → Prop
  | .eq, a, b => a.toInt = b.toInt
  | .ne, a, b => a.toInt ≠ b.toInt
  | .lt, a, b => a.toInt < b.toInt
  | .ge, a, b => b.toInt ≤ a.toInt
  | .gt, a, b => b.toInt < a.toInt
  | .le, a, b => a.toInt ≤ b.toInt
theorem own_ic_ok (cd : ClassFile.Cond) (a b : Int32) : if_icmp.holds cd a b = true ↔ own_ic cd a b := by
  cases cd
  · show ((a == b) = true) ↔ a.toInt = b.toInt
    rw [beq_iff_eq, Int32.toInt_inj]
  · show ((a != b) = true) ↔ a.toInt ≠ b.toInt
    rw [bne_iff_ne, ne_eq, ne_eq, Int32.toInt_inj]
  · show (decide (a < b) = true) ↔ a.toInt < b.toInt
    rw [decide_eq_true_eq, Int32.lt_iff_toInt_lt]
  · show (decide (a ≥ b) = true) ↔ b.toInt ≤ a.toInt
    rw [decide_eq_true_eq, ge_iff_le, Int32.le_iff_toInt_le]
  · show (decide (a > b) = true) ↔ b.toInt < a.toInt
    rw [decide_eq_true_eq, gt_iff_lt, Int32.lt_iff_toInt_lt]
  · show (decide (a ≤ b) = true) ↔ a.toInt ≤ b.toInt
    rw [decide_eq_true_eq, Int32.le_iff_toInt_le]
theorem own_c0_ok (cd : ClassFile.Cond) (a : Int32) : ifCond.holds cd a = true ↔ own_c0 cd a := by
  have h : ifCond.holds cd a = if_icmp.holds cd a 0 := by cases cd <;> rfl
  rw [h, own_ic_ok]
  cases cd <;> exact Iff.rfl
/-! what is read of an array -/
def own_at (Z : State) (h : Heap) (a : Addr) (ty : FieldType) (j : Int32) (v : Value) : Prop := ∃ cl, Arr Z h a cl ty ∧ ¬ (j < 0 ∨ cl.slots.size ≤ j.toNatClampNeg) ∧ cl.slots[j.toNatClampNeg]? = some v
def own_ln (Z : State) (h : Heap) (a : Addr) (N : Int32) : Prop := ∃ cl ty, Arr Z h a cl ty ∧ cl.slots.size.toInt32 = N
/-! one plain instruction: what it asks (obligations) and where it goes on. ds: the branches' decisions; vs: the values that are read of the heap -/
def own_len : Instr → Nat
  | .iload _ => 2 | .lload _ => 2 | .fload _ => 2 | .dload _ => 2 | .aload _ => 2
  | .istore _ => 2 | .lstore _ => 2 | .fstore _ => 2 | .dstore _ => 2 | .astore _ => 2
  | .bipush _ => 2 | .ldc _ => 2 | .newarray _ => 2
  | .sipush _ => 3 | .ldc_w _ => 3 | .ldc2_w _ => 3 | .iinc _ _ => 3 | .goto _ => 3 | .ifCond _ _ => 3 | .if_icmp _ _ => 3 | .if_acmp _ _ => 3 | .ifnull _ => 3 | .ifnonnull _ => 3
  | .getfield _ => 3 | .putfield _ => 3 | .getstatic _ => 3 | .putstatic _ => 3 | .invokevirtual _ => 3 | .invokespecial _ => 3 | .invokestatic _ => 3 | .new _ => 3 | .anewarray _ => 3 | .checkcast _ => 3 | .instanceof _ => 3
  | .invokeinterface _ _ => 5 | .invokedynamic _ => 5
  | _ => 1
def own_tgt (pc : Nat) : Int → Option Nat
  | .ofNat n => some (pc + n)
  | .negSucc n => bif Nat.ble (n + 1) pc then some (pc - (n + 1)) else none
theorem own_tgt_ok {pc t : Nat} {o : Int} (h : own_tgt pc o = some t) : 0 ≤ (pc : Int) + o ∧ ((pc : Int) + o).toNat = t := by
  cases o with
  | ofNat n =>
    have h1 : pc + n = t := Option.some.inj h
    rw [Int.ofNat_eq_natCast]
    omega
  | negSucc n =>
    have h1 : (bif Nat.ble (n + 1) pc then some (pc - (n + 1)) else none) = some t := h
    cases hb : Nat.ble (n + 1) pc with
    | false => rw [hb] at h1; cases h1
    | true =>
      rw [hb] at h1
      have h2 : pc - (n + 1) = t := Option.some.inj h1
      have h3 := Nat.le_of_ble_eq_true hb
      rw [Int.negSucc_eq]
      omega
def own_key : List (Nat × Value) → Nat → Option Value
  | [], _ => none
  | (q, v) :: r, k => bif Nat.beq q k then some v else own_key r k
def own_fld : List (Nat × String × String × String) → Nat → Option (String × String × String)
  | [], _ => none
  | (q, v) :: r, k => bif Nat.beq q k then some v else own_fld r k
def own_ldI (ls : List Slot) (j : Nat) (k : Value → Prop) : Prop := match own_nth ls j with | some (.val (.int v)) => k (.int v) | _ => False
def own_ldL (ls : List Slot) (j : Nat) (k : Value → Prop) : Prop := match own_nth ls j with | some (.val (.long v)) => k (.long v) | _ => False
def own_ldD (ls : List Slot) (j : Nat) (k : Value → Prop) : Prop := match own_nth ls j with | some (.val (.double v)) => k (.double v) | _ => False
def own_ldA (ls : List Slot) (j : Nat) (k : Value → Prop) : Prop := match own_nth ls j with | some (.val (.ref a)) => k (.ref a) | some (.val .null) => k .null | _ => False
def own_stI (ls : List Slot) (st : List Value) (j : Nat) (k : List Slot → List Value → Prop) : Prop := match st with | .int x :: r => (match own_sto ls j (.int x) with | some l => k l r | none => False) | _ => False
def own_stL (ls : List Slot) (st : List Value) (j : Nat) (k : List Slot → List Value → Prop) : Prop := match st with | .long x :: r => (match own_sto ls j (.long x) with | some l => k l r | none => False) | _ => False
def own_stD (ls : List Slot) (st : List Value) (j : Nat) (k : List Slot → List Value → Prop) : Prop := match st with | .double x :: r => (match own_sto ls j (.double x) with | some l => k l r | none => False) | _ => False
def own_stA (ls : List Slot) (st : List Value) (j : Nat) (k : List Slot → List Value → Prop) : Prop := match st with | .ref x :: r => (match own_sto ls j (.ref x) with | some l => k l r | none => False) | .null :: r => (match own_sto ls j .null with | some l => k l r | none => False) | _ => False
def own_i1 (st : List Value) (f : Int32 → Value) (k : List Value → Prop) : Prop := match st with | .int x :: r => k (f x :: r) | _ => False
def own_l1 (st : List Value) (f : Int64 → Value) (k : List Value → Prop) : Prop := match st with | .long x :: r => k (f x :: r) | _ => False
def own_i2 (st : List Value) (g : Int32 → Int32 → Prop) (f : Int32 → Int32 → Value) (k : List Value → Prop) : Prop := match st with | .int y :: .int x :: r => g x y ∧ k (f x y :: r) | _ => False
def own_p2 (st : List Value) (f : Int32 → Int32 → Value) (k : List Value → Prop) : Prop := match st with | .int y :: .int x :: r => k (f x y :: r) | _ => False
def own_q2 (st : List Value) (f : Int64 → Int64 → Value) (k : List Value → Prop) : Prop := match st with | .long y :: .long x :: r => k (f x y :: r) | _ => False
def own_l2 (st : List Value) (g : Int64 → Int64 → Prop) (f : Int64 → Int64 → Value) (k : List Value → Prop) : Prop := match st with | .long y :: .long x :: r => g x y ∧ k (f x y :: r) | _ => False
def own_li (st : List Value) (f : Int64 → Int32 → Value) (k : List Value → Prop) : Prop := match st with | .int y :: .long x :: r => k (f x y :: r) | _ => False
def own_d2 (st : List Value) (f : UInt64 → UInt64 → UInt64) (k : List Value → Prop) : Prop := match st with | .double y :: .double x :: r => Jvm.Free.Fl.NoNaN64 (f x y) ∧ k (.double (f x y) :: r) | _ => False
def own_ca (st : List Value) (k : List Value → Prop) : Prop := match st with | x :: r => (match x.category with | 1 => k (x :: r) | _ => False) | _ => False
def own_al (Z : State) (h : Heap) (ty : FieldType) (st : List Value) (vs : List Value) (k : List Value → List Value → Prop) : Prop :=
  match st with | .int j :: .ref a :: r => (match vs with | v :: vs' => own_at Z h a ty j v ∧ k vs' (v :: r) | [] => False) | _ => False
def own_br (ds : List Bool) (C : Prop) (kt kn : List Bool → Prop) : Prop :=
  match ds with | true :: d => C ∧ kt d | false :: d => (¬ C) ∧ kn d | [] => False
def own_jp (pc : Nat) (o : Int) (k : Nat → Prop) : Prop := match own_tgt pc o with | some t => k t | none => False
def own_st (Kt : List (Nat × Value)) (Ft : List (Nat × String × String × String)) (Z : State) (h : Heap) (i : Instr) (pc : Nat) (ds : List Bool) (vs : List Value) (ls : List Slot) (st : List Value)
    (kf : List Bool → List Value → List Slot → List Value → Prop) (kj : Nat → List Bool → List Value → List Slot → List Value → Prop) : Prop :=
  match i with
  | .iload j => own_ldI ls j fun v => kf ds vs ls (v :: st)
  | .iload_n j => own_ldI ls j.val fun v => kf ds vs ls (v :: st)
  | .lload j => own_ldL ls j fun v => kf ds vs ls (v :: st)
  | .lload_n j => own_ldL ls j.val fun v => kf ds vs ls (v :: st)
  | .dload j => own_ldD ls j fun v => kf ds vs ls (v :: st)
  | .dload_n j => own_ldD ls j.val fun v => kf ds vs ls (v :: st)
  | .aload j => own_ldA ls j fun v => kf ds vs ls (v :: st)
  | .aload_n j => own_ldA ls j.val fun v => kf ds vs ls (v :: st)
  | .istore j => own_stI ls st j fun l r => kf ds vs l r
  | .istore_n j => own_stI ls st j.val fun l r => kf ds vs l r
  | .lstore j => own_stL ls st j fun l r => kf ds vs l r
  | .lstore_n j => own_stL ls st j.val fun l r => kf ds vs l r
  | .dstore j => own_stD ls st j fun l r => kf ds vs l r
  | .dstore_n j => own_stD ls st j.val fun l r => kf ds vs l r
  | .astore j => own_stA ls st j fun l r => kf ds vs l r
  | .astore_n j => own_stA ls st j.val fun l r => kf ds vs l r
  | .iconst n => kf ds vs ls (.int (Int32.ofInt n) :: st)
  | .bipush n => (match vs with | .int v :: vs' => (Int8.ofInt n).toInt32 = v ∧ kf ds vs' ls (.int v :: st) | _ => False)
  | .sipush n => (match vs with | .int v :: vs' => (Int16.ofInt n).toInt32 = v ∧ kf ds vs' ls (.int v :: st) | _ => False)
  | .lconst n => kf ds vs ls (.long (Int64.ofNat n) :: st)
  | .dconst n => kf ds vs ls (.double (match n.val with | 0 => 0 | _ => 4607182418800017408) :: st)
  | .aconst_null => kf ds vs ls (.null :: st)
  | .ldc n => (match own_key Kt n with | some (.int v) => kf ds vs ls (.int v :: st) | _ => False)
  | .ldc_w n => (match own_key Kt n with | some (.int v) => kf ds vs ls (.int v :: st) | _ => False)
  | .ldc2_w n => (match own_key Kt n with | some (.long v) => kf ds vs ls (.long v :: st) | some (.double v) => kf ds vs ls (.double v :: st) | _ => False)
  | .iadd => own_p2 st (fun x y => .int (x + y)) fun r => kf ds vs ls r
  | .isub => own_p2 st (fun x y => .int (x - y)) fun r => kf ds vs ls r
  | .imul => own_p2 st (fun x y => .int (x * y)) fun r => kf ds vs ls r
  | .idiv => own_i2 st (fun _ y => y ≠ 0) (fun x y => .int (x / y)) fun r => kf ds vs ls r
  | .irem => own_i2 st (fun _ y => y ≠ 0) (fun x y => .int (x % y)) fun r => kf ds vs ls r
  | .iand => own_p2 st (fun x y => .int (x &&& y)) fun r => kf ds vs ls r
  | .ior => own_p2 st (fun x y => .int (x ||| y)) fun r => kf ds vs ls r
  | .ixor => own_p2 st (fun x y => .int (x ^^^ y)) fun r => kf ds vs ls r
  | .ishl => own_p2 st (fun x y => .int (x <<< (y &&& 31))) fun r => kf ds vs ls r
  | .ishr => own_p2 st (fun x y => .int (x >>> (y &&& 31))) fun r => kf ds vs ls r
  | .iushr => own_p2 st (fun x y => .int (Jvm.Free.XT.ushr x y)) fun r => kf ds vs ls r
  | .ineg => own_i1 st (fun x => .int (-x)) fun r => kf ds vs ls r
  | .i2l => own_i1 st (fun x => .long x.toInt64) fun r => kf ds vs ls r
  | .i2b => own_i1 st (fun x => .int x.toInt8.toInt32) fun r => kf ds vs ls r
  | .i2s => own_i1 st (fun x => .int x.toInt16.toInt32) fun r => kf ds vs ls r
  | .i2c => own_i1 st (fun x => .int x.toUInt32.toUInt16.toUInt32.toInt32) fun r => kf ds vs ls r
  | .i2d => own_i1 st (fun x => .double (FP.i2d x)) fun r => kf ds vs ls r
  | .l2i => own_l1 st (fun x => .int x.toInt32) fun r => kf ds vs ls r
  | .l2d => own_l1 st (fun x => .double (FP.l2d x)) fun r => kf ds vs ls r
  | .ladd => own_q2 st (fun x y => .long (x + y)) fun r => kf ds vs ls r
  | .lsub => own_q2 st (fun x y => .long (x - y)) fun r => kf ds vs ls r
  | .lmul => own_q2 st (fun x y => .long (x * y)) fun r => kf ds vs ls r
  | .ldiv => own_l2 st (fun _ y => y ≠ 0) (fun x y => .long (x / y)) fun r => kf ds vs ls r
  | .land => own_q2 st (fun x y => .long (x &&& y)) fun r => kf ds vs ls r
  | .lneg => own_l1 st (fun x => .long (-x)) fun r => kf ds vs ls r
  | .lshr => own_li st (fun x y => .long (x >>> (y.toInt64 &&& 63))) fun r => kf ds vs ls r
  | .lushr => own_li st (fun x y => .long (Jvm.Free.XT.ushrL x y)) fun r => kf ds vs ls r
  | .lcmp => own_q2 st (fun x y => .int (Jvm.Free.XT.cmpL x y)) fun r => kf ds vs ls r
  | .dadd => own_d2 st FP.dadd fun r => kf ds vs ls r
  | .dsub => own_d2 st FP.dsub fun r => kf ds vs ls r
  | .dmul => own_d2 st FP.dmul fun r => kf ds vs ls r
  | .ddiv => own_d2 st FP.ddiv fun r => kf ds vs ls r
  | .dneg => (match st with | .double x :: r => kf ds vs ls (.double (FP.dneg x) :: r) | _ => False)
  | .dcmp o => (match st with | .double y :: .double x :: r => kf ds vs ls (.int (cmpValue (FP.dcmp x y) o) :: r) | _ => False)
  | .iinc j n => (match own_nth ls j with | some (.val (.int x)) => (match own_sto ls j (.int (x + Int32.ofInt n)) with | some l => kf ds vs l st | none => False) | _ => False)
  | .dup => own_ca st fun st => (match st with | x :: r => kf ds vs ls (x :: x :: r) | _ => False)
  | .pop => own_ca st fun st => (match st with | _ :: r => kf ds vs ls r | _ => False)
  | .dup2 => own_ca st fun st => (match st with | x :: r => own_ca r fun r => (match r with | y :: q => kf ds vs ls (x :: y :: x :: y :: q) | _ => False) | _ => False)
  | .dup_x1 => own_ca st fun st => (match st with | x :: r => own_ca r fun r => (match r with | y :: q => kf ds vs ls (x :: y :: x :: q) | _ => False) | _ => False)
  | .goto o => own_jp pc o fun t => kj t ds vs ls st
  | .ifCond cd o => (match st with | .int x :: r => own_br ds (own_c0 cd x) (fun d => own_jp pc o fun t => kj t d vs ls r) (fun d => kf d vs ls r) | _ => False)
  | .if_icmp cd o => (match st with | .int y :: .int x :: r => own_br ds (own_ic cd x y) (fun d => own_jp pc o fun t => kj t d vs ls r) (fun d => kf d vs ls r) | _ => False)
  | .ifnull o => (match st with | .null :: r => own_jp pc o fun t => kj t ds vs ls r | .ref _ :: r => kf ds vs ls r | _ => False)
  | .ifnonnull o => (match st with | .ref _ :: r => own_jp pc o fun t => kj t ds vs ls r | .null :: r => kf ds vs ls r | _ => False)
  | .arraylength => (match st with | .ref a :: r => (match vs with | .int N :: vs' => own_ln Z h a N ∧ kf ds vs' ls (.int N :: r) | _ => False) | _ => False)
  | .iaload => own_al Z h .int st vs fun vs' r => kf ds vs' ls r
  | .daload => own_al Z h .double st vs fun vs' r => kf ds vs' ls r
  | .laload => own_al Z h .long st vs fun vs' r => kf ds vs' ls r
  | .getfield n => (match st with | .ref a :: r => (match vs with | v :: vs' => (match own_fld Ft n with | some (C, f, d) => Fld Z h a C f d v ∧ kf ds vs' ls (v :: r) | none => False) | [] => False) | _ => False)
  | _ => False
theorem own_ldI_e {ls : List Slot} {j : Nat} {k : Value → Prop} (H : own_ldI ls j k) : ∃ v, own_nth ls j = some (.val (.int v)) ∧ k (.int v) := by
  unfold own_ldI at H
  split at H
  · exact ⟨_, by assumption, H⟩
  · exact H.elim
theorem own_ldL_e {ls : List Slot} {j : Nat} {k : Value → Prop} (H : own_ldL ls j k) : ∃ v, own_nth ls j = some (.val (.long v)) ∧ k (.long v) := by
  unfold own_ldL at H
  split at H
  · exact ⟨_, by assumption, H⟩
  · exact H.elim
theorem own_ldD_e {ls : List Slot} {j : Nat} {k : Value → Prop} (H : own_ldD ls j k) : ∃ v, own_nth ls j = some (.val (.double v)) ∧ k (.double v) := by
  unfold own_ldD at H
  split at H
  · exact ⟨_, by assumption, H⟩
  · exact H.elim
theorem own_ldA_e {ls : List Slot} {j : Nat} {k : Value → Prop} (H : own_ldA ls j k) : ∃ v, own_nth ls j = some (.val v) ∧ v.isRef = true ∧ k v := by
  unfold own_ldA at H
  split at H
  · exact ⟨_, by assumption, rfl, H⟩
  · exact ⟨_, by assumption, rfl, H⟩
  · exact H.elim
theorem own_stI_e {ls : List Slot} {st : List Value} {j : Nat} {k : List Slot → List Value → Prop} (H : own_stI ls st j k) : ∃ x r l, st = .int x :: r ∧ storeLocals (Array.mk ls) j (.int x) = some (Array.mk l) ∧ k l r := by
  unfold own_stI at H
  split at H
  · split at H
    · exact ⟨_, _, _, rfl, own_sto_ok (by assumption), H⟩
    · exact H.elim
  · exact H.elim
theorem own_stL_e {ls : List Slot} {st : List Value} {j : Nat} {k : List Slot → List Value → Prop} (H : own_stL ls st j k) : ∃ x r l, st = .long x :: r ∧ storeLocals (Array.mk ls) j (.long x) = some (Array.mk l) ∧ k l r := by
  unfold own_stL at H
  split at H
  · split at H
    · exact ⟨_, _, _, rfl, own_sto_ok (by assumption), H⟩
    · exact H.elim
  · exact H.elim
theorem own_stD_e {ls : List Slot} {st : List Value} {j : Nat} {k : List Slot → List Value → Prop} (H : own_stD ls st j k) : ∃ x r l, st = .double x :: r ∧ storeLocals (Array.mk ls) j (.double x) = some (Array.mk l) ∧ k l r := by
  unfold own_stD at H
  split at H
  · split at H
    · exact ⟨_, _, _, rfl, own_sto_ok (by assumption), H⟩
    · exact H.elim
  · exact H.elim
theorem own_stA_e {ls : List Slot} {st : List Value} {j : Nat} {k : List Slot → List Value → Prop} (H : own_stA ls st j k) : ∃ x r l, st = x :: r ∧ x.isRef = true ∧ storeLocals (Array.mk ls) j x = some (Array.mk l) ∧ k l r := by
  unfold own_stA at H
  split at H
  · split at H
    · exact ⟨_, _, _, rfl, rfl, own_sto_ok (by assumption), H⟩
    · exact H.elim
  · split at H
    · exact ⟨_, _, _, rfl, rfl, own_sto_ok (by assumption), H⟩
    · exact H.elim
  · exact H.elim
theorem own_i1_e {st : List Value} {f : Int32 → Value} {k : List Value → Prop} (H : own_i1 st f k) : ∃ x r, st = .int x :: r ∧ k (f x :: r) := by
  unfold own_i1 at H
  split at H
  · exact ⟨_, _, rfl, H⟩
  · exact H.elim
theorem own_l1_e {st : List Value} {f : Int64 → Value} {k : List Value → Prop} (H : own_l1 st f k) : ∃ x r, st = .long x :: r ∧ k (f x :: r) := by
  unfold own_l1 at H
  split at H
  · exact ⟨_, _, rfl, H⟩
  · exact H.elim
theorem own_i2_e {st : List Value} {g : Int32 → Int32 → Prop} {f : Int32 → Int32 → Value} {k : List Value → Prop} (H : own_i2 st g f k) : ∃ x y r, st = .int y :: .int x :: r ∧ g x y ∧ k (f x y :: r) := by
  unfold own_i2 at H
  split at H
  · exact ⟨_, _, _, rfl, H⟩
  · exact H.elim
theorem own_p2_e {st : List Value} {f : Int32 → Int32 → Value} {k : List Value → Prop} (H : own_p2 st f k) : ∃ x y r, st = .int y :: .int x :: r ∧ k (f x y :: r) := by
  unfold own_p2 at H
  split at H
  · exact ⟨_, _, _, rfl, H⟩
  · exact H.elim
theorem own_l2_e {st : List Value} {g : Int64 → Int64 → Prop} {f : Int64 → Int64 → Value} {k : List Value → Prop} (H : own_l2 st g f k) : ∃ x y r, st = .long y :: .long x :: r ∧ g x y ∧ k (f x y :: r) := by
  unfold own_l2 at H
  split at H
  · exact ⟨_, _, _, rfl, H⟩
  · exact H.elim
theorem own_q2_e {st : List Value} {f : Int64 → Int64 → Value} {k : List Value → Prop} (H : own_q2 st f k) : ∃ x y r, st = .long y :: .long x :: r ∧ k (f x y :: r) := by
  unfold own_q2 at H
  split at H
  · exact ⟨_, _, _, rfl, H⟩
  · exact H.elim
theorem own_li_e {st : List Value} {f : Int64 → Int32 → Value} {k : List Value → Prop} (H : own_li st f k) : ∃ x y r, st = .int y :: .long x :: r ∧ k (f x y :: r) := by
  unfold own_li at H
  split at H
  · exact ⟨_, _, _, rfl, H⟩
  · exact H.elim
theorem own_d2_e {st : List Value} {f : UInt64 → UInt64 → UInt64} {k : List Value → Prop} (H : own_d2 st f k) : ∃ x y r, st = .double y :: .double x :: r ∧ Jvm.Free.Fl.NoNaN64 (f x y) ∧ k (.double (f x y) :: r) := by
  unfold own_d2 at H
  split at H
  · exact ⟨_, _, _, rfl, H⟩
  · exact H.elim
theorem own_ca_e {st : List Value} {k : List Value → Prop} (H : own_ca st k) : ∃ x r, st = x :: r ∧ x.category = 1 ∧ k (x :: r) := by
  unfold own_ca at H
  split at H
  · split at H
    · exact ⟨_, _, rfl, by assumption, H⟩
    · exact H.elim
  · exact H.elim
theorem own_al_e {Z : State} {h : Heap} {ty : FieldType} {st vs : List Value} {k : List Value → List Value → Prop} (H : own_al Z h ty st vs k) : ∃ j a r v vs', st = .int j :: .ref a :: r ∧ vs = v :: vs' ∧ own_at Z h a ty j v ∧ k vs' (v :: r) := by
  unfold own_al at H
  split at H
  · split at H
    · exact ⟨_, _, _, _, _, rfl, rfl, H⟩
    · exact H.elim
  · exact H.elim
theorem own_br_e {ds : List Bool} {C : Prop} {kt kn : List Bool → Prop} (H : own_br ds C kt kn) : (C ∧ ∃ d, kt d) ∨ ((¬ C) ∧ ∃ d, kn d) := by
  unfold own_br at H
  split at H
  · exact Or.inl ⟨H.1, _, H.2⟩
  · exact Or.inr ⟨H.1, _, H.2⟩
  · exact H.elim
theorem own_jp_e {pc : Nat} {o : Int} {k : Nat → Prop} (H : own_jp pc o k) : ∃ t, 0 ≤ (pc : Int) + o ∧ ((pc : Int) + o).toNat = t ∧ k t := by
  unfold own_jp at H
  split at H
  · rename_i t ht
    exact ⟨t, (own_tgt_ok ht).1, (own_tgt_ok ht).2, H⟩
  · exact H.elim
def own_kw (own : String) (a0 : Array Value) (Z : State) : Nat × Value → Prop
  | (n, .int v) => (Jvm.Cond.constant own n v).before a0 Z = true
  | (n, .long v) => (Jvm.Cond.constantLong own n v).before a0 Z = true
  | (n, .double v) => (Jvm.Cond.constantDouble own n v).before a0 Z = true
  | _ => False
def own_ks (own : String) (a0 : Array Value) (Z : State) : List (Nat × Value) → Prop
  | [] => True
  | x :: r => own_kw own a0 Z x ∧ own_ks own a0 Z r
def own_fs (own : String) (a0 : Array Value) (Z : State) : List (Nat × String × String × String) → Prop
  | [] => True
  | (n, C, f, d) :: r => (Jvm.Cond.fieldLink own n C f d).before a0 Z = true ∧ own_fs own a0 Z r
theorem own_key_e {own : String} {a0 : Array Value} {Z : State} {n : Nat} {v : Value} : ∀ {Kt : List (Nat × Value)}, own_ks own a0 Z Kt → own_key Kt n = some v → own_kw own a0 Z (n, v)
  | [], _, h => by cases h
  | (q, w) :: r, hk, h => by
    have h' : (bif Nat.beq q n then some w else own_key r n) = some v := h
    cases hb : Nat.beq q n with
    | true =>
      rw [hb] at h'
      have e1 : w = v := Option.some.inj h'
      have e2 := Nat.eq_of_beq_eq_true hb
      subst e1 e2
      exact hk.1
    | false =>
      rw [hb] at h'
      exact own_key_e hk.2 h'
theorem own_fld_e {own : String} {a0 : Array Value} {Z : State} {n : Nat} {C f d : String} : ∀ {Ft : List (Nat × String × String × String)}, own_fs own a0 Z Ft → own_fld Ft n = some (C, f, d) → (Jvm.Cond.fieldLink own n C f d).before a0 Z = true
  | [], _, h => by cases h
  | (q, C', f', d') :: r, hk, h => by
    have h' : (bif Nat.beq q n then some (C', f', d') else own_fld r n) = some (C, f, d) := h
    cases hb : Nat.beq q n with
    | true =>
      rw [hb] at h'
      have e1 : (C', f', d') = (C, f, d) := Option.some.inj h'
      have e2 := Nat.eq_of_beq_eq_true hb
      cases e1
      subst e2
      exact hk.1
    | false =>
      rw [hb] at h'
      exact own_fld_e hk.2 h'
section OwnRun
variable {p : Program} {l : Launch} {e : Env} {R : Room} {s : State} {m : MethodId} {args : Array Value} {below : List Frame} {meth : Method} {c : Code} {T : State} {locs : List Loc} {cells slots : Nat} {Z : State} {a0 : Array Value} {h : Heap} {Q : Outcome → State → Prop} {own : String}
/-- the run goes on well from pc with these locals and this stack, at whatever state of the same heap -/
def own_Aft (X : Stand p l e R s m args below meth c T locs cells slots) (h : Heap) (Q : Outcome → State → Prop) (pc : Nat) (ls : List Slot) (st : List Value) : Prop :=
  ∀ T', Stand p l e R s m args below meth c T' locs cells slots → T'.heap = h → own_Go p.tables e below Q (T'.setTop (mkF m pc (Array.mk ls) st))
set_option maxHeartbeats 4000000 in
theorem own_st_ok (X : Stand p l e R s m args below meth c T locs cells slots) (hx : p.tables.exec = Jvm.exec) (hZ : Z.Warmed39 s.vm) (hown : s.vm.findClass own = some m.cls) (eT : T.heap = h) {Kt : List (Nat × Value)} {Ft : List (Nat × String × String × String)} (hK : own_ks own a0 Z Kt) (hF : own_fs own a0 Z Ft)
    {i : Instr} {pc : Nat} (hd : decode c.code pc = .ok (i, own_len i)) {ds : List Bool} {vs : List Value} {ls : List Slot} {st : List Value} {kf : List Bool → List Value → List Slot → List Value → Prop} {kj : Nat → List Bool → List Value → List Slot → List Value → Prop}
    (H : own_st Kt Ft Z h i pc ds vs ls st kf kj) (Hf : ∀ ds vs ls st, kf ds vs ls st → own_Aft X h Q (pc + own_len i) ls st) (Hj : ∀ t ds vs ls st, kj t ds vs ls st → own_Aft X h Q t ls st) :
    own_Go p.tables e below Q (T.setTop (mkF m pc (Array.mk ls) st)) := by
  cases i with
  | iload j =>
    have H : (own_ldI ls j fun v => kf ds vs ls (v :: st)) := H
    obtain ⟨v, hn, hk⟩ := own_ldI_e H
    exact own_go (fun t k => XS.iload X.here hx rfl hd ((own_nth_eq _ _).trans hn) k) (Hf _ _ _ _ hk T X eT)
  | iload_n j =>
    have H : (own_ldI ls j.val fun v => kf ds vs ls (v :: st)) := H
    obtain ⟨v, hn, hk⟩ := own_ldI_e H
    exact own_go (fun t k => XS.iloadN X.here hx rfl hd ((own_nth_eq _ _).trans hn) k) (Hf _ _ _ _ hk T X eT)
  | lload j =>
    have H : (own_ldL ls j fun v => kf ds vs ls (v :: st)) := H
    obtain ⟨v, hn, hk⟩ := own_ldL_e H
    exact own_go (fun t k => XT.lload X.here hx rfl hd ((own_nth_eq _ _).trans hn) k) (Hf _ _ _ _ hk T X eT)
  | lload_n j =>
    have H : (own_ldL ls j.val fun v => kf ds vs ls (v :: st)) := H
    obtain ⟨v, hn, hk⟩ := own_ldL_e H
    exact own_go (fun t k => XT.lloadN X.here hx rfl hd ((own_nth_eq _ _).trans hn) k) (Hf _ _ _ _ hk T X eT)
  | dload j =>
    have H : (own_ldD ls j fun v => kf ds vs ls (v :: st)) := H
    obtain ⟨v, hn, hk⟩ := own_ldD_e H
    exact own_go (fun t k => XS.dload X.here hx rfl hd ((own_nth_eq _ _).trans hn) k) (Hf _ _ _ _ hk T X eT)
  | dload_n j =>
    have H : (own_ldD ls j.val fun v => kf ds vs ls (v :: st)) := H
    obtain ⟨v, hn, hk⟩ := own_ldD_e H
    exact own_go (fun t k => XS.dloadN X.here hx rfl hd ((own_nth_eq _ _).trans hn) k) (Hf _ _ _ _ hk T X eT)
  | aload j =>
    have H : (own_ldA ls j fun v => kf ds vs ls (v :: st)) := H
    obtain ⟨v, hn, hv, hk⟩ := own_ldA_e H
    exact own_go (fun t k => XS.aload X.here hx rfl hd ((own_nth_eq _ _).trans hn) hv k) (Hf _ _ _ _ hk T X eT)
  | aload_n j =>
    have H : (own_ldA ls j.val fun v => kf ds vs ls (v :: st)) := H
    obtain ⟨v, hn, hv, hk⟩ := own_ldA_e H
    exact own_go (fun t k => XS.aloadN X.here hx rfl hd ((own_nth_eq _ _).trans hn) hv k) (Hf _ _ _ _ hk T X eT)
  | istore j =>
    have H : (own_stI ls st j fun l r => kf ds vs l r) := H
    obtain ⟨x, r, l', rfl, hl, hk⟩ := own_stI_e H
    exact own_go (fun t k => XS.istore X.here hx rfl hd rfl hl k) (Hf _ _ _ _ hk T X eT)
  | istore_n j =>
    have H : (own_stI ls st j.val fun l r => kf ds vs l r) := H
    obtain ⟨x, r, l', rfl, hl, hk⟩ := own_stI_e H
    exact own_go (fun t k => XS.istoreN X.here hx rfl hd rfl hl k) (Hf _ _ _ _ hk T X eT)
  | lstore j =>
    have H : (own_stL ls st j fun l r => kf ds vs l r) := H
    obtain ⟨x, r, l', rfl, hl, hk⟩ := own_stL_e H
    exact own_go (fun t k => XT.lstore X.here hx rfl hd rfl hl k) (Hf _ _ _ _ hk T X eT)
  | lstore_n j =>
    have H : (own_stL ls st j.val fun l r => kf ds vs l r) := H
    obtain ⟨x, r, l', rfl, hl, hk⟩ := own_stL_e H
    exact own_go (fun t k => XT.lstoreN X.here hx rfl hd rfl hl k) (Hf _ _ _ _ hk T X eT)
  | dstore j =>
    have H : (own_stD ls st j fun l r => kf ds vs l r) := H
    obtain ⟨x, r, l', rfl, hl, hk⟩ := own_stD_e H
    exact own_go (fun t k => XS.dstore X.here hx rfl hd rfl hl k) (Hf _ _ _ _ hk T X eT)
  | dstore_n j =>
    have H : (own_stD ls st j.val fun l r => kf ds vs l r) := H
    obtain ⟨x, r, l', rfl, hl, hk⟩ := own_stD_e H
    exact own_go (fun t k => XS.dstoreN X.here hx rfl hd rfl hl k) (Hf _ _ _ _ hk T X eT)
  | astore j =>
    have H : (own_stA ls st j fun l r => kf ds vs l r) := H
    obtain ⟨x, r, l', rfl, hv, hl, hk⟩ := own_stA_e H
    exact own_go (fun t k => XS.astore X.here hx rfl hd rfl hv hl k) (Hf _ _ _ _ hk T X eT)
  | astore_n j =>
    have H : (own_stA ls st j.val fun l r => kf ds vs l r) := H
    obtain ⟨x, r, l', rfl, hv, hl, hk⟩ := own_stA_e H
    exact own_go (fun t k => XS.astoreN X.here hx rfl hd rfl hv hl k) (Hf _ _ _ _ hk T X eT)
  | iconst n => exact own_go (fun t k => XS.iconst X.here hx rfl hd k) (Hf _ _ _ _ H T X eT)
  | bipush n =>
    have H' : (match (generalizing := false) vs with | .int v :: vs' => (Int8.ofInt n).toInt32 = v ∧ kf ds vs' ls (.int v :: st) | _ => False) := H
    split at H'
    · obtain ⟨hv, hk⟩ := H'
      subst hv
      exact own_go (fun t k => XS.bipush X.here hx rfl hd k) (Hf _ _ _ _ hk T X eT)
    · exact H'.elim
  | sipush n =>
    have H' : (match (generalizing := false) vs with | .int v :: vs' => (Int16.ofInt n).toInt32 = v ∧ kf ds vs' ls (.int v :: st) | _ => False) := H
    split at H'
    · obtain ⟨hv, hk⟩ := H'
      subst hv
      exact own_go (fun t k => XS.sipush X.here hx rfl hd k) (Hf _ _ _ _ hk T X eT)
    · exact H'.elim
  | lconst n => exact own_go (fun t k => XT.lconst X.here hx rfl hd k) (Hf _ _ _ _ H T X eT)
  | dconst n =>
    match n, hd, H, Hf with
    | ⟨0, _⟩, hd, H, Hf => exact own_go (fun t k => XS.dconst0 X.here hx rfl hd rfl k) (Hf _ _ _ _ H T X eT)
    | ⟨1, _⟩, hd, H, Hf => exact own_go (fun t k => XS.dconst1 X.here hx rfl hd rfl k) (Hf _ _ _ _ H T X eT)
  | aconst_null => exact own_go (fun t k => XS.aconstNull X.here hx rfl hd k) (Hf _ _ _ _ H T X eT)
  | ldc n =>
    have H' : (match (generalizing := false) own_key Kt n with | some (.int v) => kf ds vs ls (.int v :: st) | _ => False) := H
    split at H'
    · rename_i v hv
      exact own_go (X.ldcInt hx hown (mv hZ (own_key_e hK hv)) (g := mkF m pc (Array.mk ls) st) rfl hd) (Hf _ _ _ _ H' T X eT)
    · exact H'.elim
  | ldc_w n =>
    have H' : (match (generalizing := false) own_key Kt n with | some (.int v) => kf ds vs ls (.int v :: st) | _ => False) := H
    split at H'
    · rename_i v hv
      exact own_go (X.ldcWInt hx hown (mv hZ (own_key_e hK hv)) (g := mkF m pc (Array.mk ls) st) rfl hd) (Hf _ _ _ _ H' T X eT)
    · exact H'.elim
  | ldc2_w n =>
    have H' : (match (generalizing := false) own_key Kt n with | some (.long v) => kf ds vs ls (.long v :: st) | some (.double v) => kf ds vs ls (.double v :: st) | _ => False) := H
    split at H'
    · rename_i v hv
      exact own_go (X.ldc2Long hx hown (mv hZ (own_key_e hK hv)) (g := mkF m pc (Array.mk ls) st) rfl hd) (Hf _ _ _ _ H' T X eT)
    · rename_i v hv
      exact own_go (X.ldc2DoubleC hx hown (mv hZ (own_key_e hK hv)) (g := mkF m pc (Array.mk ls) st) rfl hd) (Hf _ _ _ _ H' T X eT)
    · exact H'.elim
  | iadd =>
    have H : (own_p2 st (fun x y => .int (x + y)) fun r => kf ds vs ls r) := H
    obtain ⟨x, y, r, rfl, hk⟩ := own_p2_e H
    exact own_go (fun t k => XS.iadd X.here hx rfl hd rfl k) (Hf _ _ _ _ hk T X eT)
  | isub =>
    have H : (own_p2 st (fun x y => .int (x - y)) fun r => kf ds vs ls r) := H
    obtain ⟨x, y, r, rfl, hk⟩ := own_p2_e H
    exact own_go (fun t k => XS.isub X.here hx rfl hd rfl k) (Hf _ _ _ _ hk T X eT)
  | imul =>
    have H : (own_p2 st (fun x y => .int (x * y)) fun r => kf ds vs ls r) := H
    obtain ⟨x, y, r, rfl, hk⟩ := own_p2_e H
    exact own_go (fun t k => XS.imul X.here hx rfl hd rfl k) (Hf _ _ _ _ hk T X eT)
  | idiv =>
    have H : (own_i2 st (fun _ y => y ≠ 0) (fun x y => .int (x / y)) fun r => kf ds vs ls r) := H
    obtain ⟨x, y, r, rfl, hg, hk⟩ := own_i2_e H
    exact own_go (fun t k => XS.idiv X.here hx rfl hd rfl hg k) (Hf _ _ _ _ hk T X eT)
  | irem =>
    have H : (own_i2 st (fun _ y => y ≠ 0) (fun x y => .int (x % y)) fun r => kf ds vs ls r) := H
    obtain ⟨x, y, r, rfl, hg, hk⟩ := own_i2_e H
    exact own_go (fun t k => iremM X hx (g := mkF m pc (Array.mk ls) _) rfl hd rfl hg k) (Hf _ _ _ _ hk T X eT)
  | iand =>
    have H : (own_p2 st (fun x y => .int (x &&& y)) fun r => kf ds vs ls r) := H
    obtain ⟨x, y, r, rfl, hk⟩ := own_p2_e H
    exact own_go (fun t k => XS.iand X.here hx rfl hd rfl k) (Hf _ _ _ _ hk T X eT)
  | ior =>
    have H : (own_p2 st (fun x y => .int (x ||| y)) fun r => kf ds vs ls r) := H
    obtain ⟨x, y, r, rfl, hk⟩ := own_p2_e H
    exact own_go (fun t k => XT.ior X.here hx rfl hd rfl k) (Hf _ _ _ _ hk T X eT)
  | ixor =>
    have H : (own_p2 st (fun x y => .int (x ^^^ y)) fun r => kf ds vs ls r) := H
    obtain ⟨x, y, r, rfl, hk⟩ := own_p2_e H
    exact own_go (fun t k => XT.ixor X.here hx rfl hd rfl k) (Hf _ _ _ _ hk T X eT)
  | ishl =>
    have H : (own_p2 st (fun x y => .int (x <<< (y &&& 31))) fun r => kf ds vs ls r) := H
    obtain ⟨x, y, r, rfl, hk⟩ := own_p2_e H
    exact own_go (fun t k => XT.ishl X.here hx rfl hd rfl k) (Hf _ _ _ _ hk T X eT)
  | ishr =>
    have H : (own_p2 st (fun x y => .int (x >>> (y &&& 31))) fun r => kf ds vs ls r) := H
    obtain ⟨x, y, r, rfl, hk⟩ := own_p2_e H
    exact own_go (fun t k => XT.ishr X.here hx rfl hd rfl k) (Hf _ _ _ _ hk T X eT)
  | iushr =>
    have H : (own_p2 st (fun x y => .int (Jvm.Free.XT.ushr x y)) fun r => kf ds vs ls r) := H
    obtain ⟨x, y, r, rfl, hk⟩ := own_p2_e H
    exact own_go (fun t k => XT.iushr X.here hx rfl hd rfl k) (Hf _ _ _ _ hk T X eT)
  | ineg =>
    have H : (own_i1 st (fun x => .int (-x)) fun r => kf ds vs ls r) := H
    obtain ⟨x, r, rfl, hk⟩ := own_i1_e H
    exact own_go (fun t k => XS.ineg X.here hx rfl hd rfl k) (Hf _ _ _ _ hk T X eT)
  | i2l =>
    have H : (own_i1 st (fun x => .long x.toInt64) fun r => kf ds vs ls r) := H
    obtain ⟨x, r, rfl, hk⟩ := own_i1_e H
    exact own_go (fun t k => XT.i2l X.here hx rfl hd rfl k) (Hf _ _ _ _ hk T X eT)
  | i2b =>
    have H : (own_i1 st (fun x => .int x.toInt8.toInt32) fun r => kf ds vs ls r) := H
    obtain ⟨x, r, rfl, hk⟩ := own_i1_e H
    exact own_go (fun t k => XT.i2b X.here hx rfl hd rfl k) (Hf _ _ _ _ hk T X eT)
  | i2s =>
    have H : (own_i1 st (fun x => .int x.toInt16.toInt32) fun r => kf ds vs ls r) := H
    obtain ⟨x, r, rfl, hk⟩ := own_i1_e H
    exact own_go (fun t k => XT.i2s X.here hx rfl hd rfl k) (Hf _ _ _ _ hk T X eT)
  | i2c =>
    have H : (own_i1 st (fun x => .int x.toUInt32.toUInt16.toUInt32.toInt32) fun r => kf ds vs ls r) := H
    obtain ⟨x, r, rfl, hk⟩ := own_i1_e H
    exact own_go (fun t k => XT.i2c X.here hx rfl hd rfl k) (Hf _ _ _ _ hk T X eT)
  | i2d =>
    have H : (own_i1 st (fun x => .double (FP.i2d x)) fun r => kf ds vs ls r) := H
    obtain ⟨x, r, rfl, hk⟩ := own_i1_e H
    exact own_go (fun t k => XS.i2dS X.here hx rfl hd rfl rfl k) (Hf _ _ _ _ hk T X eT)
  | l2i =>
    have H : (own_l1 st (fun x => .int x.toInt32) fun r => kf ds vs ls r) := H
    obtain ⟨x, r, rfl, hk⟩ := own_l1_e H
    exact own_go (fun t k => XT.l2i X.here hx rfl hd rfl k) (Hf _ _ _ _ hk T X eT)
  | l2d =>
    have H : (own_l1 st (fun x => .double (FP.l2d x)) fun r => kf ds vs ls r) := H
    obtain ⟨x, r, rfl, hk⟩ := own_l1_e H
    exact own_go (fun t k => XS.l2dS X.here hx rfl hd rfl rfl k) (Hf _ _ _ _ hk T X eT)
  | ladd =>
    have H : (own_q2 st (fun x y => .long (x + y)) fun r => kf ds vs ls r) := H
    obtain ⟨x, y, r, rfl, hk⟩ := own_q2_e H
    exact own_go (fun t k => XT.ladd X.here hx rfl hd rfl k) (Hf _ _ _ _ hk T X eT)
  | lsub =>
    have H : (own_q2 st (fun x y => .long (x - y)) fun r => kf ds vs ls r) := H
    obtain ⟨x, y, r, rfl, hk⟩ := own_q2_e H
    exact own_go (fun t k => XT.lsub X.here hx rfl hd rfl k) (Hf _ _ _ _ hk T X eT)
  | lmul =>
    have H : (own_q2 st (fun x y => .long (x * y)) fun r => kf ds vs ls r) := H
    obtain ⟨x, y, r, rfl, hk⟩ := own_q2_e H
    exact own_go (fun t k => XT.lmul X.here hx rfl hd rfl k) (Hf _ _ _ _ hk T X eT)
  | ldiv =>
    have H : (own_l2 st (fun _ y => y ≠ 0) (fun x y => .long (x / y)) fun r => kf ds vs ls r) := H
    obtain ⟨x, y, r, rfl, hg, hk⟩ := own_l2_e H
    exact own_go (fun t k => XT.ldiv X.here hx rfl hd rfl hg k) (Hf _ _ _ _ hk T X eT)
  | land =>
    have H : (own_q2 st (fun x y => .long (x &&& y)) fun r => kf ds vs ls r) := H
    obtain ⟨x, y, r, rfl, hk⟩ := own_q2_e H
    exact own_go (fun t k => XT.land X.here hx rfl hd rfl k) (Hf _ _ _ _ hk T X eT)
  | lneg =>
    have H : (own_l1 st (fun x => .long (-x)) fun r => kf ds vs ls r) := H
    obtain ⟨x, r, rfl, hk⟩ := own_l1_e H
    exact own_go (fun t k => XT.lneg X.here hx rfl hd rfl k) (Hf _ _ _ _ hk T X eT)
  | lshr =>
    have H : (own_li st (fun x y => .long (x >>> (y.toInt64 &&& 63))) fun r => kf ds vs ls r) := H
    obtain ⟨x, y, r, rfl, hk⟩ := own_li_e H
    exact own_go (fun t k => XT.lshr X.here hx rfl hd rfl k) (Hf _ _ _ _ hk T X eT)
  | lushr =>
    have H : (own_li st (fun x y => .long (Jvm.Free.XT.ushrL x y)) fun r => kf ds vs ls r) := H
    obtain ⟨x, y, r, rfl, hk⟩ := own_li_e H
    exact own_go (fun t k => XT.lushr X.here hx rfl hd rfl k) (Hf _ _ _ _ hk T X eT)
  | lcmp =>
    have H : (own_q2 st (fun x y => .int (Jvm.Free.XT.cmpL x y)) fun r => kf ds vs ls r) := H
    obtain ⟨x, y, r, rfl, hk⟩ := own_q2_e H
    exact own_go (fun t k => XT.lcmp X.here hx rfl hd rfl k) (Hf _ _ _ _ hk T X eT)
  | dadd =>
    have H : (own_d2 st FP.dadd fun r => kf ds vs ls r) := H
    obtain ⟨x, y, r, rfl, hg, hk⟩ := own_d2_e H
    exact own_go (fun t k => XS.daddS X.here hx rfl hd rfl hg rfl k) (Hf _ _ _ _ hk T X eT)
  | dsub =>
    have H : (own_d2 st FP.dsub fun r => kf ds vs ls r) := H
    obtain ⟨x, y, r, rfl, hg, hk⟩ := own_d2_e H
    exact own_go (fun t k => XS.dsubS X.here hx rfl hd rfl hg rfl k) (Hf _ _ _ _ hk T X eT)
  | dmul =>
    have H : (own_d2 st FP.dmul fun r => kf ds vs ls r) := H
    obtain ⟨x, y, r, rfl, hg, hk⟩ := own_d2_e H
    exact own_go (fun t k => XS.dmulS X.here hx rfl hd rfl hg rfl k) (Hf _ _ _ _ hk T X eT)
  | ddiv =>
    have H : (own_d2 st FP.ddiv fun r => kf ds vs ls r) := H
    obtain ⟨x, y, r, rfl, hg, hk⟩ := own_d2_e H
    exact own_go (fun t k => XS.ddivS X.here hx rfl hd rfl hg rfl k) (Hf _ _ _ _ hk T X eT)
  | dneg =>
    have H' : (match (generalizing := false) st with | .double x :: r => kf ds vs ls (.double (FP.dneg x) :: r) | _ => False) := H
    split at H'
    · exact own_go (fun t k => XS.dnegS X.here hx rfl hd rfl rfl k) (Hf _ _ _ _ H' T X eT)
    · exact H'.elim
  | dcmp o =>
    have H' : (match (generalizing := false) st with | .double y :: .double x :: r => kf ds vs ls (.int (cmpValue (FP.dcmp x y) o) :: r) | _ => False) := H
    split at H'
    · exact own_go (fun t k => XS.dcmpS X.here hx rfl hd rfl rfl k) (Hf _ _ _ _ H' T X eT)
    · exact H'.elim
  | iinc j n =>
    have H' : (match (generalizing := false) own_nth ls j with | some (.val (.int x)) => (match (generalizing := false) own_sto ls j (.int (x + Int32.ofInt n)) with | some l => kf ds vs l st | none => False) | _ => False) := H
    split at H'
    · rename_i x hn
      split at H'
      · rename_i l' hl
        exact own_go (fun t k => XS.iinc X.here hx rfl hd ((own_nth_eq _ _).trans hn) (own_sto_ok hl) k) (Hf _ _ _ _ H' T X eT)
      · exact H'.elim
    · exact H'.elim
  | dup =>
    have H : (own_ca st fun st => (match st with | x :: r => kf ds vs ls (x :: x :: r) | _ => False)) := H
    obtain ⟨x, r, rfl, hc, hk⟩ := own_ca_e H
    exact own_go (fun t k => XS.dup X.here hx rfl hd rfl hc k) (Hf _ _ _ _ hk T X eT)
  | pop =>
    have H : (own_ca st fun st => (match st with | _ :: r => kf ds vs ls r | _ => False)) := H
    obtain ⟨x, r, rfl, hc, hk⟩ := own_ca_e H
    exact own_go (fun t k => XT.pop X.here hx rfl hd rfl hc k) (Hf _ _ _ _ hk T X eT)
  | dup2 =>
    have H : (own_ca st fun st => (match st with | x :: r => own_ca r fun r => (match r with | y :: q => kf ds vs ls (x :: y :: x :: y :: q) | _ => False) | _ => False)) := H
    obtain ⟨x, r, rfl, hc, hk⟩ := own_ca_e H
    obtain ⟨y, q, rfl, hc', hk'⟩ := own_ca_e hk
    exact own_go (fun t k => XT.dup2 X.here hx rfl hd rfl hc hc' k) (Hf _ _ _ _ hk' T X eT)
  | dup_x1 =>
    have H : (own_ca st fun st => (match st with | x :: r => own_ca r fun r => (match r with | y :: q => kf ds vs ls (x :: y :: x :: q) | _ => False) | _ => False)) := H
    obtain ⟨x, r, rfl, hc, hk⟩ := own_ca_e H
    obtain ⟨y, q, rfl, hc', hk'⟩ := own_ca_e hk
    exact own_go (fun t k => XT.dupX1 X.here hx rfl hd rfl hc hc' k) (Hf _ _ _ _ hk' T X eT)
  | goto o =>
    have H : (own_jp pc o fun t => kj t ds vs ls st) := H
    obtain ⟨t', h1, h2, hk⟩ := own_jp_e H
    exact own_go (fun t k => XS.goto X.here hx rfl rfl hd h1 h2 k) (Hj _ _ _ _ _ hk T X eT)
  | ifCond cd o =>
    have H' : (match (generalizing := false) st with | .int x :: r => own_br ds (own_c0 cd x) (fun d => own_jp pc o fun t => kj t d vs ls r) (fun d => kf d vs ls r) | _ => False) := H
    split at H'
    · rename_i x r
      rcases own_br_e H' with ⟨hC, d, hk⟩ | ⟨hC, d, hk⟩
      · obtain ⟨t', h1, h2, hk⟩ := own_jp_e hk
        exact own_go (fun t k => XS.ifYes X.here hx rfl rfl hd rfl ((own_c0_ok _ _).mpr hC) h1 h2 k) (Hj _ _ _ _ _ hk T X eT)
      · have hc : ifCond.holds cd x = false := by
          cases hb : ifCond.holds cd x with
          | false => rfl
          | true => exact absurd ((own_c0_ok _ _).mp hb) hC
        exact own_go (fun t k => XS.ifNo X.here hx rfl hd rfl hc k) (Hf _ _ _ _ hk T X eT)
    · exact H'.elim
  | if_icmp cd o =>
    have H' : (match (generalizing := false) st with | .int y :: .int x :: r => own_br ds (own_ic cd x y) (fun d => own_jp pc o fun t => kj t d vs ls r) (fun d => kf d vs ls r) | _ => False) := H
    split at H'
    · rename_i y x r
      rcases own_br_e H' with ⟨hC, d, hk⟩ | ⟨hC, d, hk⟩
      · obtain ⟨t', h1, h2, hk⟩ := own_jp_e hk
        exact own_go (fun t k => XS.icmpYes X.here hx rfl rfl hd rfl ((own_ic_ok _ _ _).mpr hC) h1 h2 k) (Hj _ _ _ _ _ hk T X eT)
      · have hc : if_icmp.holds cd x y = false := by
          cases hb : if_icmp.holds cd x y with
          | false => rfl
          | true => exact absurd ((own_ic_ok _ _ _).mp hb) hC
        exact own_go (fun t k => XS.icmpNo X.here hx rfl hd rfl hc k) (Hf _ _ _ _ hk T X eT)
    · exact H'.elim
  | ifnull o =>
    have H' : (match (generalizing := false) st with | .null :: r => own_jp pc o fun t => kj t ds vs ls r | .ref _ :: r => kf ds vs ls r | _ => False) := H
    split at H'
    · obtain ⟨t', h1, h2, hk⟩ := own_jp_e H'
      exact own_go (fun t k => XS.ifnullYes X.here hx rfl rfl hd rfl h1 h2 k) (Hj _ _ _ _ _ hk T X eT)
    · exact own_go (fun t k => XS.ifnullNo X.here hx rfl hd rfl k) (Hf _ _ _ _ H' T X eT)
    · exact H'.elim
  | ifnonnull o =>
    have H' : (match (generalizing := false) st with | .ref _ :: r => own_jp pc o fun t => kj t ds vs ls r | .null :: r => kf ds vs ls r | _ => False) := H
    split at H'
    · obtain ⟨t', h1, h2, hk⟩ := own_jp_e H'
      exact own_go (fun t k => XT.ifnonnullYes X.here hx rfl rfl hd rfl h1 h2 k) (Hj _ _ _ _ _ hk T X eT)
    · exact own_go (fun t k => XT.ifnonnullNo X.here hx rfl hd rfl k) (Hf _ _ _ _ H' T X eT)
    · exact H'.elim
  | arraylength =>
    have H' : (match (generalizing := false) st with | .ref a :: r => (match (generalizing := false) vs with | .int N :: vs' => own_ln Z h a N ∧ kf ds vs' ls (.int N :: r) | _ => False) | _ => False) := H
    split at H'
    · split at H'
      · rename_i a r N vs'
        obtain ⟨⟨cl, ty, A, hN⟩, hk⟩ := H'
        subst hN
        exact own_go (X.arraylength hx (by rw [eT]; exact A.1) (State.isArrayOf_alike hZ.alike A.2.1) (g := mkF m pc (Array.mk ls) _) rfl rfl hd) (Hf _ _ _ _ hk T X eT)
      · exact H'.elim
    · exact H'.elim
  | iaload =>
    have H : (own_al Z h .int st vs fun vs' r => kf ds vs' ls r) := H
    obtain ⟨j, a, r, v, vs', rfl, rfl, ⟨cl, A, hin, hv⟩, hk⟩ := own_al_e H
    exact own_go (X.iaload hx (by rw [eT]; exact A.1) (State.isArrayOf_alike hZ.alike A.2.1) A.2.2 hin hv (g := mkF m pc (Array.mk ls) _) rfl rfl hd) (Hf _ _ _ _ hk T X eT)
  | daload =>
    have H : (own_al Z h .double st vs fun vs' r => kf ds vs' ls r) := H
    obtain ⟨j, a, r, v, vs', rfl, rfl, ⟨cl, A, hin, hv⟩, hk⟩ := own_al_e H
    exact own_go (X.daload hx (by rw [eT]; exact A.1) (State.isArrayOf_alike hZ.alike A.2.1) A.2.2 hin hv (g := mkF m pc (Array.mk ls) _) rfl rfl hd) (Hf _ _ _ _ hk T X eT)
  | laload =>
    have H : (own_al Z h .long st vs fun vs' r => kf ds vs' ls r) := H
    obtain ⟨j, a, r, v, vs', rfl, rfl, ⟨cl, A, hin, hv⟩, hk⟩ := own_al_e H
    exact own_go (X.laload hx (by rw [eT]; exact A.1) (State.isArrayOf_alike hZ.alike A.2.1) A.2.2 hin hv (g := mkF m pc (Array.mk ls) _) rfl rfl hd) (Hf _ _ _ _ hk T X eT)
  | getfield n =>
    have H' : (match (generalizing := false) st with | .ref a :: r => (match (generalizing := false) vs with | v :: vs' => (match (generalizing := false) own_fld Ft n with | some (C, f, d) => Fld Z h a C f d v ∧ kf ds vs' ls (v :: r) | none => False) | [] => False) | _ => False) := H
    split at H'
    · split at H'
      · split at H'
        · rename_i a r v vs' o C f d hf
          obtain ⟨T', X', e', st'⟩ := getF X hx hZ hown (host := "") (Or.inl (own_fld_e hF hf)) Via.refl eT H'.1 (g := mkF m pc (Array.mk ls) _) rfl rfl hd
          exact own_go st' (Hf _ _ _ _ H'.2 T' X' e')
        · exact H'.elim
      · exact H'.elim
    · exact H'.elim
  | _ => exact H.elim
def own_from : List (Nat × Instr) → Nat → List (Nat × Instr)
  | [], _ => []
  | (q, i) :: r, pc => bif Nat.beq q pc then (q, i) :: r else own_from r pc
def own_dec (code : ByteArray) (tab : List (Nat × Instr)) : Prop := ∀ e ∈ tab, decode code e.1 = .ok (e.2, own_len e.2)
def own_seq : List (Nat × Instr) → Bool
  | (q, i) :: (q', i') :: r => Nat.beq q' (q + own_len i) && own_seq ((q', i') :: r)
  | _ => true
theorem own_from_sub : ∀ {full : List (Nat × Instr)} {t : Nat}, (∀ e ∈ own_from full t, e ∈ full) ∧ (own_seq full = true → own_seq (own_from full t) = true) ∧ (∀ q i r, own_from full t = (q, i) :: r → q = t)
  | [], t => ⟨fun e h => h, fun h => h, fun q i r h => by cases h⟩
  | (q, i) :: r, t => by
    have ih := own_from_sub (full := r) (t := t)
    cases hb : Nat.beq q t with
    | true =>
      have e : own_from ((q, i) :: r) t = (q, i) :: r := by show (bif Nat.beq q t then _ else _) = _; rw [hb]; rfl
      rw [e]
      refine ⟨fun e h => h, fun h => h, fun q' i' r' h => ?_⟩
      cases h
      exact Nat.eq_of_beq_eq_true hb
    | false =>
      have e : own_from ((q, i) :: r) t = own_from r t := by show (bif Nat.beq q t then _ else _) = _; rw [hb]; rfl
      rw [e]
      refine ⟨fun e h => List.mem_cons_of_mem _ (ih.1 e h), fun h => ih.2.1 ?_, ih.2.2⟩
      cases r with
      | nil => rfl
      | cons a r' =>
        obtain ⟨q', i'⟩ := a
        have h' : (Nat.beq q' (q + own_len i) && own_seq ((q', i') :: r')) = true := h
        exact (Bool.and_eq_true_iff.mp h').2
/-! a block: n plain instructions from the table's row at hand on -/
def own_wp (Kt : List (Nat × Value)) (Ft : List (Nat × String × String × String)) (Z : State) (h : Heap) (full : List (Nat × Instr)) (P : Nat → List Slot → List Value → Prop) : Nat → List (Nat × Instr) → List Bool → List Value → List Slot → List Value → Prop
  | _, [], _, _, _, _ => False
  | 0, (q, _) :: _, _, _, ls, st => P q ls st
  | n + 1, (q, i) :: r, ds, vs, ls, st => own_st Kt Ft Z h i q ds vs ls st (fun ds vs ls st => own_wp Kt Ft Z h full P n r ds vs ls st) (fun t ds vs ls st => own_wp Kt Ft Z h full P n (own_from full t) ds vs ls st)
theorem own_wp_ok {code : ByteArray} {full : List (Nat × Instr)} (hdec : own_dec code full) (hseq : own_seq full = true) (hby : c.code = code) (hx : p.tables.exec = Jvm.exec) (hZ : Z.Warmed39 s.vm) (hown : s.vm.findClass own = some m.cls) {Kt : List (Nat × Value)} {Ft : List (Nat × String × String × String)} (hK : own_ks own a0 Z Kt) (hF : own_fs own a0 Z Ft) (X : Stand p l e R s m args below meth c T locs cells slots) :
    ∀ (n : Nat) (tab : List (Nat × Instr)) (ds : List Bool) (vs : List Value) (ls : List Slot) (st : List Value), (∀ e ∈ tab, e ∈ full) → own_seq tab = true → own_wp Kt Ft Z h full (own_Aft X h Q) n tab ds vs ls st →
      ∃ q i r, tab = (q, i) :: r ∧ own_Aft X h Q q ls st
  | _, [], _, _, _, _, _, _, H => by cases ‹Nat› <;> exact H.elim
  | 0, (q, i) :: r, ds, vs, ls, st, _, _, H => ⟨q, i, r, rfl, H⟩
  | n + 1, (q, i) :: r, ds, vs, ls, st, hsub, hs, H => by
    refine ⟨q, i, r, rfl, fun T' X' e' => ?_⟩
    have hd : decode c.code q = .ok (i, own_len i) := by rw [hby]; exact hdec (q, i) (hsub (q, i) (List.mem_cons_self ..))
    have H1 : own_st Kt Ft Z h i q ds vs ls st (fun ds vs ls st => own_wp Kt Ft Z h full (own_Aft X h Q) n r ds vs ls st) (fun t ds vs ls st => own_wp Kt Ft Z h full (own_Aft X h Q) n (own_from full t) ds vs ls st) := H
    clear H
    refine own_st_ok X' hx hZ hown e' hK hF hd H1 (fun ds vs ls st hk => ?_) (fun t ds vs ls st hk => ?_)
    · cases r with
      | nil =>
        obtain ⟨q', i', r', e1, -⟩ := own_wp_ok hdec hseq hby hx hZ hown hK hF X n [] ds vs ls st (fun e he => absurd he (List.not_mem_nil)) rfl hk
        cases e1
      | cons a r' =>
        obtain ⟨q1, i1⟩ := a
        have h' : (Nat.beq q1 (q + own_len i) && own_seq ((q1, i1) :: r')) = true := hs
        obtain ⟨g1, g2⟩ := Bool.and_eq_true_iff.mp h'
        obtain ⟨q', i', r'', e1, e2⟩ := own_wp_ok hdec hseq hby hx hZ hown hK hF X n ((q1, i1) :: r') ds vs ls st (fun e he => hsub e (List.mem_cons_of_mem _ he)) g2 hk
        cases e1
        rw [← Nat.eq_of_beq_eq_true g1]
        exact e2
    · obtain ⟨q', i', r'', e1, e2⟩ := own_wp_ok hdec hseq hby hx hZ hown hK hF X n (own_from full t) ds vs ls st (own_from_sub.1) (own_from_sub.2.1 hseq) hk
      rw [← own_from_sub.2.2 _ _ _ e1]
      exact e2
/-- **A BLOCK**: n plain instructions from pc on, in one step -/
theorem own_blk {code : ByteArray} {full : List (Nat × Instr)} (hdec : own_dec code full) (hseq : own_seq full = true) (hby : c.code = code) (hx : p.tables.exec = Jvm.exec) (hZ : Z.Warmed39 s.vm) (hown : s.vm.findClass own = some m.cls) {Kt : List (Nat × Value)} {Ft : List (Nat × String × String × String)} (hK : own_ks own a0 Z Kt) (hF : own_fs own a0 Z Ft)
    (n : Nat) (ds : List Bool) (vs : List Value) (X : Stand p l e R s m args below meth c T locs cells slots) (eT : T.heap = h) {pc : Nat} {ls : List Slot} {st : List Value} (H : own_wp Kt Ft Z h full (own_Aft X h Q) n (own_from full pc) ds vs ls st) : own_Go p.tables e below Q (T.setTop (mkF m pc (Array.mk ls) st)) := by
  obtain ⟨q, i, r, e1, e2⟩ := own_wp_ok hdec hseq hby hx hZ hown hK hF X n (own_from full pc) ds vs ls st (own_from_sub.1) (own_from_sub.2.1 hseq) H
  rw [← own_from_sub.2.2 _ _ _ e1]
  exact e2 T X eT
/-- **A RETURN** of a value -/
theorem own_ret (X : Stand p l e R s m args below meth c T locs cells slots) (hx : p.tables.exec = Jvm.exec) (hlocks : meth.locks = false) (eT : T.heap = h) {C S : Nat} {q : Option Value → Heap → List Loc → Prop} {pc : Nat} {ls : List Slot} {w : Value} {rest : List Value} {t : FieldType} {i : Instr} (hret : meth.sig.returnType = some t) (hn : narrow t w = w)
    (hi : (i = .ireturn ∧ (t = .int ∨ t = .boolean ∨ t = .byte ∨ t = .char ∨ t = .short) ∧ ∃ z, w = .int z) ∨ (i = .lreturn ∧ t = .long ∧ ∃ z, w = .long z) ∨ (i = .dreturn ∧ t = .double ∧ ∃ z, w = .double z) ∨ (i = .freturn ∧ t = .float ∧ ∃ z, w = .float z) ∨ (i = .areturn ∧ t.isReference = true ∧ w.isRef = true))
    (hd : decode c.code pc = .ok (i, 1)) (hC : cells ≤ C) (hS : slots ≤ S) (hq : q (some w) h locs) : own_Go p.tables e below (own_Fin s C S q) (T.setTop (mkF m pc (Array.mk ls) (w :: rest))) := by
  obtain ⟨fs, hr, hrun, hended, hW, hsame⟩ := X.leave (v := some w) (fun h => by rw [hret] at h; cases h) hlocks
  refine ⟨_, _, retOut X hx hret hn hi hd hr, hrun, hended, some w, locs, rfl, ?_, ⟨_, rfl⟩, hW, hsame.mono hC hS⟩
  show q (some w) T.heap locs
  rw [eT]; exact hq
/-- **A RETURN** of nothing -/
theorem own_retV (X : Stand p l e R s m args below meth c T locs cells slots) (hx : p.tables.exec = Jvm.exec) (hlocks : meth.locks = false) (eT : T.heap = h) {C S : Nat} {q : Option Value → Heap → List Loc → Prop} {pc : Nat} {ls : List Slot} (hret : meth.sig.returnType = none)
    (hd : decode c.code pc = .ok (.return_, 1)) (hC : cells ≤ C) (hS : slots ≤ S) (hq : q none h locs) : own_Go p.tables e below (own_Fin s C S q) (T.setTop (mkF m pc (Array.mk ls) [])) := by
  obtain ⟨fs, hr, hrun, hended, hW, hsame⟩ := X.leave (v := none) (fun _ => rfl) hlocks
  refine ⟨_, _, X.returnOut hx hret hd hr, hrun, hended, none, locs, rfl, ?_, ⟨_, rfl⟩, hW, hsame.mono hC hS⟩
  show q none T.heap locs
  rw [eT]; exact hq
end OwnRun
/-! OWN KIT 2: steps that change the heap, and calls, as steps of own_Go -/
section OwnHeap
variable {p : Program} {l : Launch} {e : Env} {R : Room} {s : State} {m : MethodId} {args : Array Value} {below : List Frame} {meth : Method} {c : Code} {T : State} {locs : List Loc} {cells slots : Nat} {Z : State} {a0 : Array Value} {h h' : Heap} {Q : Outcome → State → Prop} {own : String} {pc : Nat} {ls : List Slot} {st : List Value}
/-- an array with just these values -/
def own_A (Z : State) (h : Heap) (a : Addr) (ty : FieldType) (vs : List Value) : Prop := ∃ cl : Cell, Arr Z h a cl ty ∧ cl.slots.toList = vs
theorem own_A.ext {a : Addr} {ty : FieldType} {vs : List Value} (A : own_A Z h a ty vs) (E : Ext h h') : own_A Z h' a ty vs := by
  obtain ⟨cl, A, q⟩ := A
  exact ⟨cl, A.ext E, q⟩
theorem own_A.keep {a : Addr} {ty : FieldType} {vs : List Value} {ws : List Addr} (A : own_A Z h a ty vs) (K : Keep h h' ws) (q : a ∉ ws) : own_A Z h' a ty vs := by
  obtain ⟨cl, A, r⟩ := A
  exact ⟨cl, ⟨K.2.1 a cl A.1 q, A.2⟩, r⟩
theorem own_A.other {a b : Addr} {ty : FieldType} {vs : List Value} {sl : Nat} {v : Value} (A : own_A Z h b ty vs) (W : Wr h h' a sl v) (hne : b ≠ a) : own_A Z h' b ty vs := by
  obtain ⟨cl, A, r⟩ := A
  exact ⟨cl, A.other W hne, r⟩
theorem own_A.same {a : Addr} {ty : FieldType} {vs : List Value} {sl : Nat} {v : Value} (A : own_A Z h a ty vs) (W : Wr h h' a sl v) : own_A Z h' a ty (vs.set sl v) := by
  obtain ⟨cl, A, r⟩ := A
  refine ⟨_, A.same W, ?_⟩
  subst r
  exact Array.toList_setIfInBounds
theorem own_A.lt {a : Addr} {ty : FieldType} {vs : List Value} (A : own_A Z h a ty vs) : a < h.size := by
  obtain ⟨cl, A, -⟩ := A
  exact A.lt
theorem own_A.at {a : Addr} {ty : FieldType} {vs : List Value} {v : Value} (A : own_A Z h a ty vs) (j : Int32) (k : Nat) (h0 : j.toInt = k) (hv : vs[k]? = some v) : own_at Z h a ty j v := by
  obtain ⟨cl, A, r⟩ := A
  have e1 : j.toNatClampNeg = k := by rw [Int32.toNatClampNeg, h0]; rfl
  have e2 : cl.slots[k]? = some v := by rw [← Array.getElem?_toList, r]; exact hv
  refine ⟨cl, A, ?_, by rw [e1]; exact e2⟩
  rintro (q | q)
  · rw [Int32.lt_iff_toInt_lt, h0] at q
    have : (0 : Int32).toInt = 0 := rfl
    omega
  · rw [e1] at q
    exact absurd (Array.getElem?_eq_some_iff.mp e2).1 (by omega)
theorem own_A.ln {a : Addr} {ty : FieldType} {vs : List Value} (A : own_A Z h a ty vs) (N : Int32) (hN : vs.length.toInt32 = N) : own_ln Z h a N := by
  obtain ⟨cl, A, r⟩ := A
  refine ⟨cl, ty, A, ?_⟩
  rw [← hN, ← r, Array.length_toList]
theorem own_A.inb {a : Addr} {ty : FieldType} {vs : List Value} (A : own_A Z h a ty vs) : ∃ cl : Cell, Arr Z h a cl ty ∧ cl.slots.size = vs.length := by
  obtain ⟨cl, A, r⟩ := A
  exact ⟨cl, A, by rw [← r, Array.length_toList]⟩
theorem own_idx {j : Int32} {k n : Nat} (h0 : j.toInt = k) (hk : k < n) : ¬ (j < 0 ∨ n ≤ j.toNatClampNeg) := by
  have e1 : j.toNatClampNeg = k := by rw [Int32.toNatClampNeg, h0]; rfl
  rintro (q | q)
  · rw [Int32.lt_iff_toInt_lt, h0] at q
    have : (0 : Int32).toInt = 0 := rfl
    omega
  · omega
/-- new C -/
theorem own_new (X : Stand p l e R s m args below meth c T locs cells slots) (hx : p.tables.exec = Jvm.exec) (hZ : Z.Warmed39 s.vm) {C : String} {index n : Nat} (hown : s.vm.findClass own = some m.cls) (w : (Cond.classLink own index C).before a0 Z = true) (wi : (Cond.instantiable C n).before a0 Z = true) (wz : (Cond.initialized C).before a0 Z = true) (eT : T.heap = h)
    (hd : decode c.code pc = .ok (.new index, 3)) (hc : cells + 1 ≤ R.cells) (hl : slots + n ≤ R.slots)
    (k : ∀ T' h' a, a = h.size → Stand p l e R s m args below meth c T' locs (cells + 1) (slots + n) → T'.heap = h' → Ext h h' → Exa Z h' a C → (∀ {O nm d : String} {ty : FieldType}, Laid Z a0 C O nm d → parseFieldDescriptor d = some ty → Fld Z h' a O nm d (defaultValue ty)) →
      own_Go p.tables e below Q (T'.setTop (mkF m (pc + 3) (Array.mk ls) (.ref a :: st)))) : own_Go p.tables e below Q (T.setTop (mkF m pc (Array.mk ls) st)) := by
  obtain ⟨T', h', X', e', E, A, D, -, st'⟩ := newO X hx hZ hown w wi wz eT (g := mkF m pc (Array.mk ls) st) rfl hd hc hl
  exact own_go st' (k T' h' _ rfl X' e' E A D)
/-- newarray of a plain kind, of a length that is known -/
theorem own_newP (X : Stand p l e R s m args below meth c T locs cells slots) (hx : p.tables.exec = Jvm.exec) (hZ : Z.Warmed39 s.vm) {aty : ArrayType} (w : (Cond.arrayClass (newarray.typeOf aty)).before a0 Z = true) (eT : T.heap = h)
    {n : Int32} (N : Nat) (hN : n.toInt = N) {cap : Nat} (hcap : N ≤ cap) (hb : cap * 8 ≤ 536870912) (hd : decode c.code pc = .ok (.newarray aty, 2)) (hc : cells + 1 ≤ R.cells) (hl : slots + cap ≤ R.slots)
    (k : ∀ T' h' a, a = h.size → Stand p l e R s m args below meth c T' locs (cells + 1) (slots + cap) → T'.heap = h' → Ext h h' → own_A Z h' a (newarray.typeOf aty) (List.replicate N (defaultValue (newarray.typeOf aty))) →
      own_Go p.tables e below Q (T'.setTop (mkF m (pc + 2) (Array.mk ls) (.ref a :: st)))) : own_Go p.tables e below Q (T.setTop (mkF m pc (Array.mk ls) (.int n :: st))) := by
  have e1 : n.toNatClampNeg = N := by rw [Int32.toNatClampNeg, hN]; rfl
  have hn : ¬ n < 0 := by
    rw [Int32.lt_iff_toInt_lt, hN]
    have : (0 : Int32).toInt = 0 := rfl
    omega
  obtain ⟨T', h', cA, X', e', E, A, st'⟩ := newP X hx hZ w eT (g := mkF m pc (Array.mk ls) (.int n :: st)) rfl hd rfl hn (cap := cap) (by rw [e1]; exact hcap) hb hc hl
  refine own_go st' (k T' h' _ rfl X' e' E ⟨_, A, ?_⟩)
  show (Array.replicate n.toNatClampNeg _).toList = _
  rw [e1]; exact Array.toList_replicate
/-- dastore -/
theorem own_sD (X : Stand p l e R s m args below meth c T locs cells slots) (hx : p.tables.exec = Jvm.exec) (hZ : Z.Warmed39 s.vm) (eT : T.heap = h) {a : Addr} {vs : List Value} (A : own_A Z h a .double vs) {j : Int32} (kk : Nat) (hj : j.toInt = kk) (hk : kk < vs.length) {x : UInt64} (hd : decode c.code pc = .ok (.dastore, 1))
    (k : ∀ T' h', Stand p l e R s m args below meth c T' (locs ++ [⟨a, kk⟩]) cells slots → T'.heap = h' → Wr h h' a kk (.double x) → own_A Z h' a .double (vs.set kk (.double x)) → own_Go p.tables e below Q (T'.setTop (mkF m (pc + 1) (Array.mk ls) st))) :
    own_Go p.tables e below Q (T.setTop (mkF m pc (Array.mk ls) (.double x :: .int j :: .ref a :: st))) := by
  have e1 : j.toNatClampNeg = kk := by rw [Int32.toNatClampNeg, hj]; rfl
  have A' := A
  obtain ⟨cl, Ar, hs⟩ := A.inb
  obtain ⟨T', h', X', e', W, st'⟩ := stD X hx hZ eT Ar (j := j) (x := x) (by rw [hs]; exact own_idx hj hk) (g := mkF m pc (Array.mk ls) (.double x :: .int j :: .ref a :: st)) rfl rfl hd
  rw [e1] at X' W
  exact own_go st' (k T' h' X' e' W (A'.same W))
/-- iastore -/
theorem own_sI (X : Stand p l e R s m args below meth c T locs cells slots) (hx : p.tables.exec = Jvm.exec) (hZ : Z.Warmed39 s.vm) (eT : T.heap = h) {a : Addr} {vs : List Value} (A : own_A Z h a .int vs) {j : Int32} (kk : Nat) (hj : j.toInt = kk) (hk : kk < vs.length) {x : Int32} (hd : decode c.code pc = .ok (.iastore, 1))
    (k : ∀ T' h', Stand p l e R s m args below meth c T' (locs ++ [⟨a, kk⟩]) cells slots → T'.heap = h' → Wr h h' a kk (.int x) → own_A Z h' a .int (vs.set kk (.int x)) → own_Go p.tables e below Q (T'.setTop (mkF m (pc + 1) (Array.mk ls) st))) :
    own_Go p.tables e below Q (T.setTop (mkF m pc (Array.mk ls) (.int x :: .int j :: .ref a :: st))) := by
  have e1 : j.toNatClampNeg = kk := by rw [Int32.toNatClampNeg, hj]; rfl
  have A' := A
  obtain ⟨cl, Ar, hs⟩ := A.inb
  obtain ⟨T', h', X', e', W, st'⟩ := stI X hx hZ eT Ar (j := j) (x := x) (by rw [hs]; exact own_idx hj hk) (g := mkF m pc (Array.mk ls) (.int x :: .int j :: .ref a :: st)) rfl rfl hd
  rw [e1] at X' W
  exact own_go st' (k T' h' X' e' W (A'.same W))
/-- putfield -/
theorem own_putF (X : Stand p l e R s m args below meth c T locs cells slots) (hx : p.tables.exec = Jvm.exec) (hZ : Z.Warmed39 s.vm) {O n d C : String} {index kk : Nat} {ty : FieldType} (hown : s.vm.findClass own = some m.cls) (w : (Cond.fieldLink own index O n d).before a0 Z = true)
    (eT : T.heap = h) {a : Addr} {v old : Value} (F : Fld Z h a O n d old) (E : Exa Z h a C) (L : (Cond.lays C O n d).before a0 Z = true ∨ ((Cond.laysFinal C O n d).before a0 Z = true ∧ own = O ∧ meth.name = "<init>")) (wi : (Cond.instantiable C kk).before a0 Z = true)
    (hty : parseFieldDescriptor d = some ty) (hn : narrow ty v = v) (hf : fits ty v = true) (hd : decode c.code pc = .ok (.putfield index, 3))
    (k : ∀ T' h', Stand p l e R s m args below meth c T' (locs ++ [⟨a, Jvm.RoadKit.slotOf Z O n d⟩]) cells slots → T'.heap = h' → Wr h h' a (Jvm.RoadKit.slotOf Z O n d) v → Fld Z h' a O n d v → Exa Z h' a C → own_Go p.tables e below Q (T'.setTop (mkF m (pc + 3) (Array.mk ls) st))) :
    own_Go p.tables e below Q (T.setTop (mkF m pc (Array.mk ls) (v :: .ref a :: st))) := by
  obtain ⟨T', h', X', e', W, st'⟩ := putF X hx hZ hown (host := "") (Or.inl w) Via.refl eT F E L wi hty hn hf (g := mkF m pc (Array.mk ls) (v :: .ref a :: st)) rfl rfl hd
  exact own_go st' (k T' h' X' e' W (F.same W) (E.wr W))
/-- Object.<init> -/
theorem own_initO (X : Stand p l e R s m args below meth c T locs cells slots) (hx : p.tables.exec = Jvm.exec) (hZ : Z.Warmed39 s.vm) {idx : Nat} (hown : s.vm.findClass own = some m.cls) (w1 : (Cond.methodLink own idx Lib.objectInit).before a0 Z = true) (w2 : (Cond.instanceMethod Lib.objectInit).before a0 Z = true)
    (w3 : (Cond.code Lib.objectInit ⟨#[0xb1]⟩ 1 none).before a0 Z = true) (eT : T.heap = h) (hsize : ls.length = c.maxLocals) {a : Addr} (hd : decode c.code pc = .ok (.invokespecial idx, 3))
    (hf : 1 ≤ R.frames) (W : Nat) (hW : (st.map fun v => v.category).sum ≤ W) (hl : W + 12 ≤ R.locals)
    (k : ∀ T', Stand p l e R s m args below meth c T' locs cells slots → T'.heap = h → own_Go p.tables e below Q (T'.setTop (mkF m (pc + 3) (Array.mk ls) st))) :
    own_Go p.tables e below Q (T.setTop (mkF m pc (Array.mk ls) (.ref a :: st))) := by
  obtain ⟨T', X', e', st'⟩ := initO X hx hZ hown w1 w2 w3 eT (g := mkF m pc (Array.mk ls) (.ref a :: st)) rfl hsize rfl hd hf (W := W) (by show 2 * 0 + _ ≤ _; omega) hl
  exact own_go st' (k T' X' e')
/-- a static call, by the callee's contract -/
theorem own_callS (X : Stand p l e R s m args below meth c T locs cells slots) (hx : p.tables.exec = Jvm.exec) (hZ : Z.Warmed39 s.vm) (hown : s.vm.findClass own = some m.cls) {index : Nat} {y : MethodName} {bytes : ByteArray} {maxL : Nat} {ret : Option FieldType} {rm : Room}
    (w1 : (Cond.methodLink own index y).before a0 Z = true) (w2 : (Cond.static y).before a0 Z = true) (w3 : (Cond.initialized y.cls).before a0 Z = true) (w4 : (Cond.code y bytes maxL ret).before a0 Z = true) (hy : y.cls ≠ "java/lang/invoke/MethodHandle" ∧ y.cls ≠ "java/lang/invoke/VarHandle")
    (eT : T.heap = h) (argsL : List Value) {ps : List FieldType} {r : Option FieldType} (hpd : parseMethodDescriptor y.desc = some ⟨ps, r⟩) (hlen : argsL.length = ps.length) {q : Option Value → Heap → List Loc → Prop}
    (hM : MetFree l y (head1 [Cond.code y bytes maxL ret] rm) (fun a U => a = argsL.toArray ∧ Z.Warmed39 U.vm ∧ U.heap = h) (fun _ _ _ _ _ => True) (fun _ U o U' => own_Fin U rm.cells rm.slots q o U'))
    (hsize : ls.length = c.maxLocals) (W : Nat) {full : List Value} (hst : full = argsL.reverse ++ st) (hW : (st.map fun v => v.category).sum ≤ W) (hd : decode c.code pc = .ok (.invokestatic index, 3)) (hf : rm.frames + 1 ≤ R.frames) (hl : W + (maxL + 11) + rm.locals ≤ R.locals) (hcc : cells + rm.cells ≤ R.cells) (hss : slots + rm.slots ≤ R.slots)
    (k : ∀ T' v L, Stand p l e R s m args below meth c T' (locs ++ L) (cells + rm.cells) (slots + rm.slots) → q v T'.heap L → own_Go p.tables e below Q (T'.setTop (mkF m (pc + 3) (Array.mk ls) (v.toList ++ st)))) :
    own_Go p.tables e below Q (T.setTop (mkF m pc (Array.mk ls) full)) := by
  subst hst
  obtain ⟨v, vm1, ⟨T', L', k', n'⟩, -, X', ⟨Lc, hq, l1, y1, z1⟩, st'⟩ := Jvm.LawKit.callS X hx hown (mvT hZ w1) (mvT hZ w2) (mvT hZ w3) (mvT hZ w4) hy (backOf (W := W) (Q := q) hM hZ w4 w3 hf hl) (g := mkF m pc (Array.mk ls) (argsL.reverse ++ st)) rfl hsize (argsL := argsL) (rest := st) (lenOf hpd hlen) rfl (by show 2 * 0 + _ ≤ _; omega) hd (fun _ _ => ⟨rfl, eT, hcc, hss⟩)
  dsimp only [Pt.U, Pt.locs, Pt.cells, Pt.slots] at X' l1 y1 z1 st' hq
  subst l1 y1 z1
  exact own_go st' (k T' v Lc X' hq)
/-- a static call that leaves all as it was -/
theorem own_callSP (X : Stand p l e R s m args below meth c T locs cells slots) (hx : p.tables.exec = Jvm.exec) (hZ : Z.Warmed39 s.vm) (hown : s.vm.findClass own = some m.cls) {index : Nat} {y : MethodName} {bytes : ByteArray} {maxL : Nat} {ret : Option FieldType} {fr lo : Nat}
    (w1 : (Cond.methodLink own index y).before a0 Z = true) (w2 : (Cond.static y).before a0 Z = true) (w3 : (Cond.initialized y.cls).before a0 Z = true) (w4 : (Cond.code y bytes maxL ret).before a0 Z = true) (hy : y.cls ≠ "java/lang/invoke/MethodHandle" ∧ y.cls ≠ "java/lang/invoke/VarHandle")
    (eT : T.heap = h) (argsL : List Value) {ps : List FieldType} {r : Option FieldType} (hpd : parseMethodDescriptor y.desc = some ⟨ps, r⟩) (hlen : argsL.length = ps.length) {q : Option Value → Prop}
    (hM : MetFree l y (head1 [Cond.code y bytes maxL ret] { frames := fr, cells := 0, slots := 0, locals := lo }) (fun a U => a = argsL.toArray ∧ Z.Warmed39 U.vm ∧ U.heap = h) (fun _ _ _ _ _ => True) (fun _ U o U' => own_Fin U 0 0 (fun v h' L => q v ∧ L = [] ∧ h' = h) o U'))
    (hsize : ls.length = c.maxLocals) (W : Nat) {full : List Value} (hst : full = argsL.reverse ++ st) (hW : (st.map fun v => v.category).sum ≤ W) (hd : decode c.code pc = .ok (.invokestatic index, 3)) (hf : fr + 1 ≤ R.frames) (hl : W + (maxL + 11) + lo ≤ R.locals)
    (hcc : cells ≤ R.cells) (hss : slots ≤ R.slots)
    (k : ∀ T' v, Stand p l e R s m args below meth c T' locs cells slots → T'.heap = h → q v → own_Go p.tables e below Q (T'.setTop (mkF m (pc + 3) (Array.mk ls) (v.toList ++ st)))) :
    own_Go p.tables e below Q (T.setTop (mkF m pc (Array.mk ls) full)) := by
  refine own_callS X hx hZ hown w1 w2 w3 w4 hy eT argsL hpd hlen (rm := { frames := fr, cells := 0, slots := 0, locals := lo }) hM hsize W hst hW hd hf hl hcc hss (fun T' v L X' hq => ?_)
  obtain ⟨h1, rfl, h3⟩ := hq
  rw [List.append_nil] at X'
  exact k T' v X' h3 h1
/-- an instance call that leaves all as it was -/
theorem own_callVP (X : Stand p l e R s m args below meth c T locs cells slots) (hx : p.tables.exec = Jvm.exec) (hZ : Z.Warmed39 s.vm) (hown : s.vm.findClass own = some m.cls) {index : Nat} {C : String} {y : MethodName} {bytes : ByteArray} {maxL : Nat} {ret : Option FieldType} {fr lo : Nat}
    (w1 : (Cond.methodLink own index y).before a0 Z = true) (w2 : (Cond.declares y).before a0 Z = true) (w5 : (Cond.selects C y y).before a0 Z = true) (w6 : (Cond.instanceMethod y).before a0 Z = true) (w3 : (Cond.initialized y.cls).before a0 Z = true) (w4 : (Cond.code y bytes maxL ret).before a0 Z = true) (hy : y.cls ≠ "java/lang/invoke/MethodHandle" ∧ y.cls ≠ "java/lang/invoke/VarHandle")
    (eT : T.heap = h) {a : Addr} (E : Exa Z h a C) (argsL : List Value) {ps : List FieldType} {r : Option FieldType} (hpd : parseMethodDescriptor y.desc = some ⟨ps, r⟩) (hlen : argsL.length = ps.length) {q : Option Value → Prop}
    (hM : MetFree l y (head1 [Cond.code y bytes maxL ret] { frames := fr, cells := 0, slots := 0, locals := lo }) (fun b U => b = (.ref a :: argsL).toArray ∧ Z.Warmed39 U.vm ∧ U.heap = h) (fun _ _ _ _ _ => True) (fun _ U o U' => own_Fin U 0 0 (fun v h' L => q v ∧ L = [] ∧ h' = h) o U'))
    (hsize : ls.length = c.maxLocals) (W : Nat) {full : List Value} (hst : full = argsL.reverse ++ .ref a :: st) (hW : (st.map fun v => v.category).sum ≤ W) (hd : decode c.code pc = .ok (.invokevirtual index, 3)) (hf : fr + 1 ≤ R.frames) (hl : W + (maxL + 11) + lo ≤ R.locals)
    (hcc : cells ≤ R.cells) (hss : slots ≤ R.slots)
    (k : ∀ T' v, Stand p l e R s m args below meth c T' locs cells slots → T'.heap = h → q v → own_Go p.tables e below Q (T'.setTop (mkF m (pc + 3) (Array.mk ls) (v.toList ++ st)))) :
    own_Go p.tables e below Q (T.setTop (mkF m pc (Array.mk ls) full)) := by
  obtain ⟨cB, kB, i1, i2, i3⟩ := isOf (T := T) hZ eT E
  subst hst
  obtain ⟨v, vm1, ⟨T', L', k', n'⟩, -, X', ⟨Lc, hq, l1, y1, z1⟩, st'⟩ := X.virtualBack hx (y := y) (z := y) hown (mvT hZ w1) (mvT hZ w2) (notFace_of_selects (args := #[]) (mvT hZ w5)) (mvT hZ w5) (mvT hZ w6) hy (backOf (W := W) (Q := fun v h' L => q v ∧ L = [] ∧ h' = h) hM hZ w4 w3 hf hl) i1 i3 (g := mkF m pc (Array.mk ls) (argsL.reverse ++ .ref a :: st)) rfl hsize (Steps.refl _) (argsL := argsL) (rest := st) (lenOf hpd hlen) rfl (by show 2 * 0 + _ ≤ _; omega) hd (fun _ _ => ⟨rfl, eT, hcc, hss⟩)
  dsimp only [Pt.U, Pt.locs, Pt.cells, Pt.slots] at X' l1 y1 z1 st' hq
  subst l1 y1 z1
  obtain ⟨h1, rfl, h3⟩ := hq
  rw [List.append_nil] at X'
  exact own_go (fun t k => st'.trans k) (k T' v X' h3 h1)
/-- a constructor, by its contract -/
theorem own_callI (X : Stand p l e R s m args below meth c T locs cells slots) (hx : p.tables.exec = Jvm.exec) (hZ : Z.Warmed39 s.vm) (hown : s.vm.findClass own = some m.cls) {index : Nat} {y : MethodName} (hy1 : y.name = "<init>") {bytes : ByteArray} {maxL : Nat} {rm : Room}
    (w1 : (Cond.methodLink own index y).before a0 Z = true) (w2 : (Cond.instanceMethod y).before a0 Z = true) (w3 : (Cond.initialized y.cls).before a0 Z = true) (w4 : (Cond.code y bytes maxL none).before a0 Z = true) (hy : y.cls ≠ "java/lang/invoke/MethodHandle" ∧ y.cls ≠ "java/lang/invoke/VarHandle")
    (eT : T.heap = h) (a : Addr) (argsL : List Value) {ps : List FieldType} {r : Option FieldType} (hpd : parseMethodDescriptor y.desc = some ⟨ps, r⟩) (hlen : argsL.length = ps.length) {q : Option Value → Heap → List Loc → Prop}
    (hM : MetFree l y (head1 [Cond.code y bytes maxL none] rm) (fun b U => b = (.ref a :: argsL).toArray ∧ Z.Warmed39 U.vm ∧ U.heap = h) (fun _ _ _ _ _ => True) (fun _ U o U' => own_Fin U rm.cells rm.slots q o U'))
    (hsize : ls.length = c.maxLocals) (W : Nat) {full : List Value} (hst : full = argsL.reverse ++ .ref a :: st) (hW : (st.map fun v => v.category).sum ≤ W) (hd : decode c.code pc = .ok (.invokespecial index, 3)) (hf : rm.frames + 1 ≤ R.frames) (hl : W + (maxL + 11) + rm.locals ≤ R.locals) (hcc : cells + rm.cells ≤ R.cells) (hss : slots + rm.slots ≤ R.slots)
    (k : ∀ T' v L, Stand p l e R s m args below meth c T' (locs ++ L) (cells + rm.cells) (slots + rm.slots) → q v T'.heap L → own_Go p.tables e below Q (T'.setTop (mkF m (pc + 3) (Array.mk ls) (v.toList ++ st)))) :
    own_Go p.tables e below Q (T.setTop (mkF m pc (Array.mk ls) full)) := by
  subst hst
  obtain ⟨v, vm1, ⟨T', L', k', n'⟩, -, X', ⟨Lc, hq, l1, y1, z1⟩, st'⟩ := X.specialBack hx hy1 hown (mvT hZ w1) (mvT hZ w2) (mvT hZ w4) hy (backOf (W := W) (Q := q) hM hZ w4 w3 hf hl) (g := mkF m pc (Array.mk ls) (argsL.reverse ++ .ref a :: st)) rfl hsize (Steps.refl _) (a := a) (argsL := argsL) (rest := st) (lenOf hpd hlen) rfl (by show 2 * 0 + _ ≤ _; omega) hd (fun _ _ => ⟨rfl, eT, hcc, hss⟩)
  dsimp only [Pt.U, Pt.locs, Pt.cells, Pt.slots] at X' l1 y1 z1 st' hq
  subst l1 y1 z1
  exact own_go (fun t k => st'.trans k) (k T' v Lc X' hq)
/-- an instance method, by its contract -/
theorem own_callV (X : Stand p l e R s m args below meth c T locs cells slots) (hx : p.tables.exec = Jvm.exec) (hZ : Z.Warmed39 s.vm) (hown : s.vm.findClass own = some m.cls) {index : Nat} {C : String} {y : MethodName} {bytes : ByteArray} {maxL : Nat} {ret : Option FieldType} {rm : Room}
    (w1 : (Cond.methodLink own index y).before a0 Z = true) (w2 : (Cond.declares y).before a0 Z = true) (w5 : (Cond.selects C y y).before a0 Z = true) (w6 : (Cond.instanceMethod y).before a0 Z = true) (w3 : (Cond.initialized y.cls).before a0 Z = true) (w4 : (Cond.code y bytes maxL ret).before a0 Z = true) (hy : y.cls ≠ "java/lang/invoke/MethodHandle" ∧ y.cls ≠ "java/lang/invoke/VarHandle")
    (eT : T.heap = h) {a : Addr} (E : Exa Z h a C) (argsL : List Value) {ps : List FieldType} {r : Option FieldType} (hpd : parseMethodDescriptor y.desc = some ⟨ps, r⟩) (hlen : argsL.length = ps.length) {q : Option Value → Heap → List Loc → Prop}
    (hM : MetFree l y (head1 [Cond.code y bytes maxL ret] rm) (fun b U => b = (.ref a :: argsL).toArray ∧ Z.Warmed39 U.vm ∧ U.heap = h) (fun _ _ _ _ _ => True) (fun _ U o U' => own_Fin U rm.cells rm.slots q o U'))
    (hsize : ls.length = c.maxLocals) (W : Nat) {full : List Value} (hst : full = argsL.reverse ++ .ref a :: st) (hW : (st.map fun v => v.category).sum ≤ W) (hd : decode c.code pc = .ok (.invokevirtual index, 3)) (hf : rm.frames + 1 ≤ R.frames) (hl : W + (maxL + 11) + rm.locals ≤ R.locals) (hcc : cells + rm.cells ≤ R.cells) (hss : slots + rm.slots ≤ R.slots)
    (k : ∀ T' v L, Stand p l e R s m args below meth c T' (locs ++ L) (cells + rm.cells) (slots + rm.slots) → q v T'.heap L → own_Go p.tables e below Q (T'.setTop (mkF m (pc + 3) (Array.mk ls) (v.toList ++ st)))) :
    own_Go p.tables e below Q (T.setTop (mkF m pc (Array.mk ls) full)) := by
  subst hst
  obtain ⟨cB, kB, i1, i2, i3⟩ := isOf (T := T) hZ eT E
  obtain ⟨v, vm1, ⟨T', L', k', n'⟩, -, X', ⟨Lc, hq, l1, y1, z1⟩, st'⟩ := X.virtualBack hx (y := y) (z := y) hown (mvT hZ w1) (mvT hZ w2) (notFace_of_selects (args := #[]) (mvT hZ w5)) (mvT hZ w5) (mvT hZ w6) hy (backOf (W := W) (Q := q) hM hZ w4 w3 hf hl) i1 i3 (g := mkF m pc (Array.mk ls) (argsL.reverse ++ .ref a :: st)) rfl hsize (Steps.refl _) (argsL := argsL) (rest := st) (lenOf hpd hlen) rfl (by show 2 * 0 + _ ≤ _; omega) hd (fun _ _ => ⟨rfl, eT, hcc, hss⟩)
  dsimp only [Pt.U, Pt.locs, Pt.cells, Pt.slots] at X' l1 y1 z1 st' hq
  subst l1 y1 z1
  exact own_go (fun t k => st'.trans k) (k T' v Lc X' hq)
end OwnHeap
/-- a body's contract -/
abbrev own_MF (l : Launch) (y : MethodName) (bytes : ByteArray) (maxL : Nat) (ret : Option FieldType) (ws : List Jvm.Cond) (rm : Room) (as' : Array Value) (Z : State) (h0 : Heap) (q : Option Value → Heap → List Loc → Prop) : Prop :=
  MetFree l y (head1 (Jvm.Cond.code y bytes maxL ret :: ws) rm) (fun a U => a = as' ∧ Z.Warmed39 U.vm ∧ U.heap = h0) (fun _ _ _ _ _ => True) (fun _ U o U' => own_Fin U rm.cells rm.slots q o U')
/-- another field of the object that is written -/
theorem own_so {Z : State} {a0 : Array Value} {h h' : Heap} {a : Addr} {C O n d O' n' d' : String} {v w : Value} (W : Wr h h' a (Jvm.RoadKit.slotOf Z O' n' d') v) (F : Fld Z h a O n d w) (L : Laid Z a0 C O n d) (L' : Laid Z a0 C O' n' d') (hn : n ≠ n' := by decide) (h1 : (parseFieldDescriptor d).isSome = true := by decide) (h2 : (parseFieldDescriptor d').isSome = true := by decide) : Fld Z h' a O n d w := by
  obtain ⟨t, ht⟩ := Option.isSome_iff_exists.mp h1
  obtain ⟨t', ht'⟩ := Option.isSome_iff_exists.mp h2
  exact Fld.other W F (Or.inr (slot_ne L L' hn ht ht'))
/-- a body's contract, entered: the walk begins at pc 0 -/
theorem own_body {l : Launch} {x : MethodName} {bytes : ByteArray} {maxL : Nat} {ret : Option FieldType} {ws : List Jvm.Cond} {rm : Room} {C S : Nat} {Z : State} {as' : Array Value} {h0 : Heap} {q : Option Value → Heap → List Loc → Prop} (hx : plainFor x = true)
    {ls0 : List Slot} (hent : ∀ m : MethodId, entryFrame m as' maxL = mkF m 0 (Array.mk ls0) [])
    (body : ∀ (p : Program) (e : Env) (s : State) (m : MethodId) (below : List Frame) (meth : Method) (c : Code) (T : State), p.tables.exec = Jvm.exec → c.code = bytes → c.maxLocals = maxL → s.vm.findClass x.cls = some m.cls → meth.name = x.name → meth.locks = false → meth.sig.returnType = ret → Z.Warmed39 s.vm → Stand p l e rm s m as' below meth c T [] 0 0 → T.heap = h0 →
      own_Go p.tables e below (own_Fin s C S q) (T.setTop (mkF m 0 (Array.mk ls0) []))) :
    MetFree l x (head1 (Jvm.Cond.code x bytes maxL ret :: ws) rm) (fun a U => a = as' ∧ Z.Warmed39 U.vm ∧ U.heap = h0) (fun _ _ _ _ _ => True) (fun _ U o U' => own_Fin U C S q o U') := by
  refine MetFree.of_bodySF hx hisR ?_
  intro p e s m args below meth c s₁ Bd hml0 hP hK
  obtain ⟨rfl, hZ, hh⟩ := hP
  have e0 : s₁.heap = h0 := by rw [← hh, Bd.state]; rfl
  rw [hent m]
  exact body p e s m below meth c s₁ Bd.exec Bd.bytes hml0 (findClass_of_methodNamed Bd.named) (name_of_methodNamed Bd.named Bd.method).1 Bd.notSynchronized Bd.returns hZ (Stand.of_body Bd) e0
/-! OWN KIT 3: private instance calls; Math.min / max of doubles -/
section OwnHeap3
variable {p : Program} {l : Launch} {e : Env} {R : Room} {s : State} {m : MethodId} {args : Array Value} {below : List Frame} {meth : Method} {c : Code} {T : State} {locs : List Loc} {cells slots : Nat} {Z : State} {a0 : Array Value} {h h' : Heap} {Q : Outcome → State → Prop} {own : String} {pc : Nat} {ls : List Slot} {st : List Value}
/-- an invokevirtual of a private method, by a Back -/
theorem own_privB (X : Stand p l e R s m args below meth c T locs cells slots) (hexec : p.tables.exec = Jvm.exec) {own : String} {index : Nat} {y : MethodName} {bytes : ByteArray} {maxL : Nat} {ret : Option FieldType}
    (hown : s.vm.findClass own = some m.cls) (hlink : (Cond.methodLink own index y).before args s = true) (hinst : (Cond.instanceMethod y).before args s = true) {ns : Nat} (hsel : (Cond.instantiable y.cls ns).before args s = true)
    (hpriv : s.PrivateAt y) (hcode : (Cond.code y bytes maxL ret).before args s = true) (hy : y.cls ≠ "java/lang/invoke/MethodHandle" ∧ y.cls ≠ "java/lang/invoke/VarHandle")
    {W : Nat} {Pre : Free.Pt → Array Value → Prop} {Post : Free.Pt → Array Value → Option Value → Free.Pt → Prop} (hK : Free.Back l R p e below s args y 3 W Pre Post)
    {g : JFrame} (hg : g.method = m) (hsize : g.locals.size = c.maxLocals) {a : Addr} {cell : Cell} (hcell : T.heap[a]? = some cell) (hobj : ∀ q, cell.vm ≠ .statics q)
    {argsL rest : List Value} (hlen : ∀ sig, parseMethodDescriptor y.desc = some sig → argsL.length = sig.parameters.length)
    (hstack : g.stack = argsL.reverse ++ .ref a :: rest) (hW : 2 * g.monitorRoom + (rest.map fun v => v.category).sum ≤ W) (hdg : decode c.code g.pc = .ok (.invokevirtual index, 3))
    (hpre : ∀ vm₁, s.WarmedH vm₁ → Pre ⟨T.setVm vm₁, locs, cells, slots⟩ (.ref a :: argsL).toArray) :
    ∃ (v : Option Value) (vm₁ : Vm) (B : Free.Pt), Stand p l e R s m args below meth c B.U B.locs B.cells B.slots ∧ Post ⟨T.setVm vm₁, locs, cells, slots⟩ (.ref a :: argsL).toArray v B ∧
      Steps p.tables e below (T.setTop g) (B.U.setTop { g with pc := g.pc + 3, stack := v.toList ++ rest }) := by
  obtain ⟨mk, methM, hnamed, hmethM, hstM, habM⟩ := Cond.instanceMethod_spec hinst
  obtain ⟨methM', cM, hmethM', -, -, -, -, -, -, hsigM⟩ := Cond.code_spec hnamed hcode
  cases hmethM.symm.trans hmethM'
  obtain ⟨c2, kP, q1, hkP, -, q4, -⟩ := Cond.instantiable_spec hsel
  cases (findClass_of_methodNamed hnamed).symm.trans q1
  have hkPi : kP.isInterface = false := (Bool.or_eq_false_iff.mp q4).1
  have hselP : selectMethod e.platform s.vm cell.cls mk = .method mk := selectMethod_private hmethM (hpriv mk methM hnamed hmethM)
  obtain ⟨vm₁, X₁, hstep₁⟩ := X.invokevirtual hexec hown hlink hnamed hmethM hstM hkP hkPi hy (a := a) (cell := cell) hcell hobj hselP hmethM habM hkP hkPi (g := g) hg (argsL := argsL) (rest := rest) (hlen _ hsigM) hstack hdg
  obtain ⟨v, B, X', hpost, hsteps⟩ := hK m meth c ⟨T.setVm vm₁, locs, cells, slots⟩ { g with stack := rest } (.invokevirtual index) mk (.ref a :: argsL).toArray X₁ hg hsize hdg hW (X₁.named hnamed) (hpre vm₁ X₁.warmed)
  exact ⟨v, vm₁, B, X', hpost, (hstep₁ _ fun acts => by rw [doInvoke_state]; exact Steps.refl _).trans hsteps⟩
/-- a private instance call that leaves all as it was -/
theorem own_callPP (X : Stand p l e R s m args below meth c T locs cells slots) (hx : p.tables.exec = Jvm.exec) (hZ : Z.Warmed39 s.vm) (hown : s.vm.findClass own = some m.cls) {index : Nat} {C : String} {y : MethodName} {bytes : ByteArray} {maxL : Nat} {ret : Option FieldType} {fr lo ns : Nat}
    (w1 : (Cond.methodLink own index y).before a0 Z = true) (w2 : (Cond.privateMethod y).before a0 Z = true) (w5 : (Cond.instantiable y.cls ns).before a0 Z = true) (w6 : (Cond.instanceMethod y).before a0 Z = true) (w3 : (Cond.initialized y.cls).before a0 Z = true) (w4 : (Cond.code y bytes maxL ret).before a0 Z = true) (hy : y.cls ≠ "java/lang/invoke/MethodHandle" ∧ y.cls ≠ "java/lang/invoke/VarHandle")
    (eT : T.heap = h) {a : Addr} (E : Exa Z h a C) (argsL : List Value) {ps : List FieldType} {r : Option FieldType} (hpd : parseMethodDescriptor y.desc = some ⟨ps, r⟩) (hlen : argsL.length = ps.length) {q : Option Value → Prop}
    (hM : MetFree l y (head1 [Cond.code y bytes maxL ret] { frames := fr, cells := 0, slots := 0, locals := lo }) (fun b U => b = (.ref a :: argsL).toArray ∧ Z.Warmed39 U.vm ∧ U.heap = h) (fun _ _ _ _ _ => True) (fun _ U o U' => own_Fin U 0 0 (fun v h' L => q v ∧ L = [] ∧ h' = h) o U'))
    (hsize : ls.length = c.maxLocals) (W : Nat) {full : List Value} (hst : full = argsL.reverse ++ .ref a :: st) (hW : (st.map fun v => v.category).sum ≤ W) (hd : decode c.code pc = .ok (.invokevirtual index, 3)) (hf : fr + 1 ≤ R.frames) (hl : W + (maxL + 11) + lo ≤ R.locals)
    (hcc : cells ≤ R.cells) (hss : slots ≤ R.slots)
    (k : ∀ T' v, Stand p l e R s m args below meth c T' locs cells slots → T'.heap = h → q v → own_Go p.tables e below Q (T'.setTop (mkF m (pc + 3) (Array.mk ls) (v.toList ++ st)))) :
    own_Go p.tables e below Q (T.setTop (mkF m pc (Array.mk ls) full)) := by
  subst hst
  obtain ⟨cell, k0, e1, e2, e3, e4, -⟩ := E
  obtain ⟨v, vm1, ⟨T', L', k', n'⟩, X', ⟨Lc, hq, l1, y1, z1⟩, st'⟩ := own_privB X hx (y := y) hown (mvT hZ w1) (mvT hZ w6) (mvT hZ w5) (Cond.privateMethod_at (args := #[]) (mvT hZ w2)) (mvT hZ w4) hy (backOf (W := W) (Q := fun v h' L => q v ∧ L = [] ∧ h' = h) hM hZ w4 w3 hf hl) (g := mkF m pc (Array.mk ls) (argsL.reverse ++ .ref a :: st)) rfl hsize (a := a) (cell := cell) (by rw [eT]; exact e1) (fun q hq => by rw [hq] at e4; cases e4) (argsL := argsL) (rest := st) (lenOf hpd hlen) rfl (by show 2 * 0 + _ ≤ _; omega) hd (fun _ _ => ⟨rfl, eT, hcc, hss⟩)
  dsimp only [Pt.U, Pt.locs, Pt.cells, Pt.slots] at X' l1 y1 z1 st' hq
  subst l1 y1 z1
  obtain ⟨h1, rfl, h3⟩ := hq
  rw [List.append_nil] at X'
  exact own_go (fun t k => st'.trans k) (k T' v X' h3 h1)
/-- Math.min of doubles that are no NaNs -/
theorem own_minDD (X : Stand p l e R s m args below meth c T locs cells slots) (hx : p.tables.exec = Jvm.exec) (hZ : Z.Warmed39 s.vm) (hown : s.vm.findClass own = some m.cls) {index : Nat} {by0 : ByteArray} (hby0 : by0 = Jvm.Free.Fl.Abs.minDCode)
    (w1 : (Cond.methodLink own index ⟨"java/lang/Math", "min", "(DD)D"⟩).before a0 Z = true) (w2 : (Cond.static ⟨"java/lang/Math", "min", "(DD)D"⟩).before a0 Z = true) (w3 : (Cond.initialized "java/lang/Math").before a0 Z = true) (w4 : (Cond.code ⟨"java/lang/Math", "min", "(DD)D"⟩ by0 4 (some .double)).before a0 Z = true)
    (eT : T.heap = h) {x y : UInt64} (nx : Jvm.Free.Fl.NoNaN64 x) (ny : Jvm.Free.Fl.NoNaN64 y) (hsize : ls.length = c.maxLocals) (W : Nat) (hW : (st.map fun v => v.category).sum ≤ W) (hd : decode c.code pc = .ok (.invokestatic index, 3)) (hf : 1 ≤ R.frames) (hl : W + 15 ≤ R.locals) (hcc : cells ≤ R.cells) (hss : slots ≤ R.slots)
    (k : ∀ T', Stand p l e R s m args below meth c T' locs cells slots → T'.heap = h → own_Go p.tables e below Q (T'.setTop (mkF m (pc + 3) (Array.mk ls) (.double (Native.java_lang_Math.nans.pick64 false x y) :: st)))) :
    own_Go p.tables e below Q (T.setTop (mkF m pc (Array.mk ls) (.double y :: .double x :: st))) := by
  subst hby0
  obtain ⟨T', X', e', st'⟩ := natS X hx hZ hown w1 w2 w3 w4 (by decide) eT (W := W) (fun hc => Jvm.Free.Fl.Abs.minD_pays x y hc hf hl) (g := mkF m pc (Array.mk ls) (.double y :: .double x :: st)) rfl hsize (argsL := [.double x, .double y]) (rest := st) (lenOf (ps := [.double, .double]) (r := some .double) (by decide +kernel) rfl) rfl (by show 2 * 0 + _ ≤ _; omega) hd hcc hss ⟨rfl, nx, ny⟩ rfl
  exact own_go st' (k T' X' e')
end OwnHeap3
/-! OWN KIT 3: doubles by their value in units of 2^-1074; rounding is monotone; what is a whole number of 2^-g and small is exact -/
def own_z (a : UInt64) : Int := FP.Core.zval FP.Core.b64 (FP.Core.val64 a)
def own_num (a : UInt64) : Prop := FP.Core.val64 a ≠ .nan
theorem own_fin_num {a : UInt64} (h : FP.Core.DFin a) : own_num a := FP.Core.DFin.ne_nan h
theorem own_nn {a : UInt64} (h : own_num a) : Jvm.Free.Fl.NoNaN64 a := Jvm.Free.Fl.val64_no.mpr h
theorem own_cmp {a b : UInt64} (ha : own_num a) (hb : own_num b) : FP.dcmp a b = some (compare (own_z a) (own_z b)) := FP.Core.dcmp_zval ha hb
theorem own_lt {a b : UInt64} (ha : own_num a) (hb : own_num b) (h : own_z a < own_z b) : FP.dcmp a b = some .lt := FP.Core.dcmp_lt.mpr ⟨ha, hb, h⟩
theorem own_gt {a b : UInt64} (ha : own_num a) (hb : own_num b) (h : own_z b < own_z a) : FP.dcmp a b = some .gt := FP.Core.dcmp_gt.mpr ⟨ha, hb, h⟩
theorem own_eq {a b : UInt64} (ha : own_num a) (hb : own_num b) (h : own_z a = own_z b) : FP.dcmp a b = some .eq := FP.Core.dcmp_eq.mpr ⟨ha, hb, h⟩
theorem own_num_add {a b : UInt64} (ha : FP.Core.DFin a) (hb : FP.Core.DFin b) : own_num (FP.dadd a b) :=
  Jvm.Free.Fl.val64_no.mp (Jvm.Free.Fl.dadd_out (own_nn (own_fin_num ha)) (Jvm.Free.Fl.fin64_core.mpr hb))
theorem own_num_sub {a b : UInt64} (ha : FP.Core.DFin a) (hb : FP.Core.DFin b) : own_num (FP.dsub a b) :=
  Jvm.Free.Fl.val64_no.mp (Jvm.Free.Fl.dsub_out (own_nn (own_fin_num ha)) (Jvm.Free.Fl.fin64_core.mpr hb))
theorem own_num_mul {a b : UInt64} (ha : FP.Core.DFin a) (hb : FP.Core.DFin b) : own_num (FP.dmul a b) :=
  Jvm.Free.Fl.val64_no.mp (Jvm.Free.Fl.dmul_out (Jvm.Free.Fl.fin64_core.mpr ha) (Jvm.Free.Fl.fin64_core.mpr hb))
theorem own_num_div {a b : UInt64} (ha : own_num a) (hb : FP.Core.DFin b) (hz : own_z b ≠ 0) : own_num (FP.ddiv a b) := by
  refine Jvm.Free.Fl.val64_no.mp (Jvm.Free.Fl.ddiv_out (own_nn ha) (Jvm.Free.Fl.fin64_core.mpr hb) ((Jvm.Free.Fl.nz64_iff b).mpr fun q => hz ?_))
  exact (FP.Core.zval_eq_zero (own_fin_num hb)).mpr q
theorem own_add_le {a b v : UInt64} (ha : FP.Core.DFin a) (hb : FP.Core.DFin b) (hv : own_num v) (h : own_z a + own_z b ≤ own_z v) : own_z (FP.dadd a b) ≤ own_z v := by
  show FP.Core.zval FP.Core.b64 (FP.Core.val64 (FP.Core.dadd a b)) ≤ _
  rw [FP.Core.val64_dadd]
  exact FP.Core.sum_le FP.Core.good_b64 ha hb (FP.Core.val64_fits _) (FP.Core.val64_fits _) (FP.Core.val64_fits _) hv h
theorem own_add_ge {a b v : UInt64} (ha : FP.Core.DFin a) (hb : FP.Core.DFin b) (hv : own_num v) (h : own_z v ≤ own_z a + own_z b) : own_z v ≤ own_z (FP.dadd a b) := by
  show _ ≤ FP.Core.zval FP.Core.b64 (FP.Core.val64 (FP.Core.dadd a b))
  rw [FP.Core.val64_dadd]
  exact FP.Core.sum_ge FP.Core.good_b64 ha hb (FP.Core.val64_fits _) (FP.Core.val64_fits _) (FP.Core.val64_fits _) hv h
theorem own_neg_fin {b : UInt64} (hb : FP.Core.DFin b) : ∃ s c q, FP.Core.negate (FP.Core.val64 b) = .fin s c q := by
  obtain ⟨s, c, q, e⟩ := hb
  exact ⟨!s, c, q, by rw [e]; rfl⟩
theorem own_sub_le {a b v : UInt64} (ha : FP.Core.DFin a) (hb : FP.Core.DFin b) (hv : own_num v) (h : own_z a - own_z b ≤ own_z v) : own_z (FP.dsub a b) ≤ own_z v := by
  show FP.Core.zval FP.Core.b64 (FP.Core.val64 (FP.Core.dsub a b)) ≤ _
  rw [FP.Core.val64_dsub]
  exact FP.Core.sum_le FP.Core.good_b64 ha (own_neg_fin hb) (FP.Core.val64_fits _) (FP.Core.negate_fits (FP.Core.val64_fits _)) (FP.Core.val64_fits _) hv (by rw [FP.Core.zval_negate]; exact h)
theorem own_sub_ge {a b v : UInt64} (ha : FP.Core.DFin a) (hb : FP.Core.DFin b) (hv : own_num v) (h : own_z v ≤ own_z a - own_z b) : own_z v ≤ own_z (FP.dsub a b) := by
  show _ ≤ FP.Core.zval FP.Core.b64 (FP.Core.val64 (FP.Core.dsub a b))
  rw [FP.Core.val64_dsub]
  exact FP.Core.sum_ge FP.Core.good_b64 ha (own_neg_fin hb) (FP.Core.val64_fits _) (FP.Core.negate_fits (FP.Core.val64_fits _)) (FP.Core.val64_fits _) hv (by rw [FP.Core.zval_negate]; exact h)
theorem own_pow1 : 2 ^ (FP.Core.b64.qmin - 2 * FP.Core.b64.qmin).toNat = FP.Core.one64 := by
  rw [← FP.Core.pow_qmin64, FP.Core.qmin_b64]; rfl
theorem own_mul_le {a b v : UInt64} (ha : FP.Core.DFin a) (hb : FP.Core.DFin b) (hv : own_num v) (h : own_z a * own_z b ≤ own_z v * (FP.Core.one64 : Int)) : own_z (FP.dmul a b) ≤ own_z v := by
  obtain ⟨s, c, q, e1⟩ := ha
  obtain ⟨t, d, r, e2⟩ := hb
  have f1 : FP.Core.fits FP.Core.b64 (.fin s c q) := e1 ▸ FP.Core.val64_fits a
  have f2 : FP.Core.fits FP.Core.b64 (.fin t d r) := e2 ▸ FP.Core.val64_fits b
  obtain ⟨g1, g2, g3⟩ := FP.Core.product_units f1 f2
  show FP.Core.zval FP.Core.b64 (FP.Core.val64 (FP.Core.dmul a b)) ≤ FP.Core.zval FP.Core.b64 (FP.Core.val64 v)
  unfold own_z at h
  rw [FP.Core.val64_dmul, e1, e2, g1]
  rw [e1, e2] at h
  have hq := FP.Core.qmin_neg FP.Core.good_b64
  refine FP.Core.zval_round_le FP.Core.good_b64 (e0 := 2 * FP.Core.b64.qmin) (FP.Core.val64_fits v) hv (by omega) g2 ?_
  rw [g3, own_pow1, FP.Core.signed_xor]
  exact h
theorem own_mul_ge {a b v : UInt64} (ha : FP.Core.DFin a) (hb : FP.Core.DFin b) (hv : own_num v) (h : own_z v * (FP.Core.one64 : Int) ≤ own_z a * own_z b) : own_z v ≤ own_z (FP.dmul a b) := by
  obtain ⟨s, c, q, e1⟩ := ha
  obtain ⟨t, d, r, e2⟩ := hb
  have f1 : FP.Core.fits FP.Core.b64 (.fin s c q) := e1 ▸ FP.Core.val64_fits a
  have f2 : FP.Core.fits FP.Core.b64 (.fin t d r) := e2 ▸ FP.Core.val64_fits b
  obtain ⟨g1, g2, g3⟩ := FP.Core.product_units f1 f2
  show FP.Core.zval FP.Core.b64 (FP.Core.val64 v) ≤ FP.Core.zval FP.Core.b64 (FP.Core.val64 (FP.Core.dmul a b))
  unfold own_z at h
  rw [FP.Core.val64_dmul, e1, e2, g1]
  rw [e1, e2] at h
  have hq := FP.Core.qmin_neg FP.Core.good_b64
  refine FP.Core.zval_round_ge FP.Core.good_b64 (e0 := 2 * FP.Core.b64.qmin) (FP.Core.val64_fits v) hv (by omega) g2 ?_
  rw [g3, own_pow1, FP.Core.signed_xor]
  exact h
/-- the quotient's magnitude against a double's -/
theorem own_div_mag {a b v : UInt64} {s t : Bool} {c d : Nat} {q r : Int} (e1 : FP.Core.val64 a = .fin s c q) (e2 : FP.Core.val64 b = .fin t d r) (hd : 0 < d) (hv : own_num v) :
    FP.Core.val64 (FP.ddiv a b) = FP.Core.roundRatio FP.Core.b64 (s != t) c d (q - r) ∧
    (FP.Core.zmag FP.Core.b64 (FP.Core.val64 a) * FP.Core.one64 ≤ FP.Core.zmag FP.Core.b64 (FP.Core.val64 v) * FP.Core.zmag FP.Core.b64 (FP.Core.val64 b) → FP.Core.zmag FP.Core.b64 (FP.Core.val64 (FP.ddiv a b)) ≤ FP.Core.zmag FP.Core.b64 (FP.Core.val64 v)) ∧
    (FP.Core.zmag FP.Core.b64 (FP.Core.val64 v) * FP.Core.zmag FP.Core.b64 (FP.Core.val64 b) ≤ FP.Core.zmag FP.Core.b64 (FP.Core.val64 a) * FP.Core.one64 → FP.Core.zmag FP.Core.b64 (FP.Core.val64 v) ≤ FP.Core.zmag FP.Core.b64 (FP.Core.val64 (FP.ddiv a b))) := by
  have f1 : FP.Core.fits FP.Core.b64 (.fin s c q) := e1 ▸ FP.Core.val64_fits a
  have f2 : FP.Core.fits FP.Core.b64 (.fin t d r) := e2 ▸ FP.Core.val64_fits b
  have hq := FP.Core.qmin_b64
  have k1 := f1.2.1
  have k2 := f2.2.1
  have E : FP.Core.val64 (FP.ddiv a b) = FP.Core.roundRatio FP.Core.b64 (s != t) c d (q - r) := by
    show FP.Core.val64 (FP.Core.ddiv a b) = _
    rw [FP.Core.val64_ddiv, e1, e2]
    show (if d = 0 then _ else _) = _
    rw [if_neg (by omega)]
  have A1 : FP.Core.inUnits c (q - r) (FP.Core.b64.qmin - (r - FP.Core.b64.qmin)) = FP.Core.zmag FP.Core.b64 (FP.Core.val64 a) * FP.Core.one64 := by
    rw [e1]
    show c * 2 ^ _ = c * 2 ^ _ * 2 ^ 1074
    rw [Nat.mul_assoc, ← Nat.pow_add]
    congr 2
    omega
  have A2 : 2 ^ (FP.Core.b64.qmin - (FP.Core.b64.qmin - (r - FP.Core.b64.qmin))).toNat * d = FP.Core.zmag FP.Core.b64 (FP.Core.val64 b) := by
    rw [e2]
    show _ = d * 2 ^ _
    rw [Nat.mul_comm]
    congr 2
    omega
  refine ⟨E, fun h => ?_, fun h => ?_⟩
  · rw [E]
    refine FP.Core.zmag_roundRatio_le FP.Core.good_b64 (e0 := FP.Core.b64.qmin - (r - FP.Core.b64.qmin)) hd (FP.Core.val64_fits v) hv (by omega) (by omega) ?_
    rw [A1, Nat.mul_assoc, A2]; exact h
  · rw [E]
    refine FP.Core.zmag_roundRatio_ge FP.Core.good_b64 (e0 := FP.Core.b64.qmin - (r - FP.Core.b64.qmin)) hd (FP.Core.val64_fits v) (by omega) (by omega) ?_
    rw [A1, Nat.mul_assoc, A2]; exact h
theorem own_signed_cases (s : Bool) (m : Nat) : (s = false ∧ FP.Core.signed s m = (m : Int)) ∨ (s = true ∧ FP.Core.signed s m = -(m : Int)) := by
  cases s
  · exact Or.inl ⟨rfl, rfl⟩
  · exact Or.inr ⟨rfl, rfl⟩
theorem own_div_le {a b v : UInt64} (ha : FP.Core.DFin a) (hb : FP.Core.DFin b) (hv : own_num v) (hp : 0 < own_z b) (h : own_z a * (FP.Core.one64 : Int) ≤ own_z v * own_z b) : own_z (FP.ddiv a b) ≤ own_z v := by
  obtain ⟨s, c, q, e1⟩ := ha
  obtain ⟨t, d, r, e2⟩ := hb
  have hz : own_z b = FP.Core.signed t (FP.Core.zmag FP.Core.b64 (FP.Core.val64 b)) := by unfold own_z FP.Core.zval; rw [e2]; rfl
  have ht : t = false := by
    rcases own_signed_cases t (FP.Core.zmag FP.Core.b64 (FP.Core.val64 b)) with q | q
    · exact q.1
    · rw [hz, q.2] at hp; omega
  subst ht
  have hz' : own_z b = (FP.Core.zmag FP.Core.b64 (FP.Core.val64 b) : Int) := hz
  have hd : 0 < d := by
    rcases Nat.eq_zero_or_pos d with q0 | q0
    · subst q0
      rw [hz', e2] at hp
      have : FP.Core.zmag FP.Core.b64 (.fin false 0 r) = 0 := Nat.zero_mul _
      rw [this] at hp; omega
    · exact q0
  obtain ⟨E, L, G⟩ := own_div_mag (v := v) e1 e2 hd hv
  have hsr : FP.Core.sgn (FP.Core.val64 (FP.ddiv a b)) = s := by rw [E, FP.Core.sgn_roundRatio]; cases s <;> rfl
  have za : own_z a = FP.Core.signed s (FP.Core.zmag FP.Core.b64 (FP.Core.val64 a)) := by unfold own_z FP.Core.zval; rw [e1]; rfl
  have zr : own_z (FP.ddiv a b) = FP.Core.signed s (FP.Core.zmag FP.Core.b64 (FP.Core.val64 (FP.ddiv a b))) := by unfold own_z FP.Core.zval; rw [hsr]
  have zv : own_z v = FP.Core.signed (FP.Core.sgn (FP.Core.val64 v)) (FP.Core.zmag FP.Core.b64 (FP.Core.val64 v)) := rfl
  rw [za, hz'] at h
  rw [hz'] at hp
  rw [zr]
  generalize FP.Core.zmag FP.Core.b64 (FP.Core.val64 (FP.ddiv a b)) = R at *
  generalize FP.Core.zmag FP.Core.b64 (FP.Core.val64 a) = A at *
  generalize FP.Core.zmag FP.Core.b64 (FP.Core.val64 b) = B at *
  generalize FP.Core.zmag FP.Core.b64 (FP.Core.val64 v) = V at *
  have hU := FP.Core.one64_pos
  generalize FP.Core.one64 = U at *
  rcases own_signed_cases s A with ⟨rfl, h1⟩ | ⟨rfl, h1⟩
  · rw [h1] at h
    have hn : 0 ≤ own_z v := by
      rcases Int.lt_or_le (own_z v) 0 with q | q
      · have := Int.mul_neg_of_neg_of_pos q hp
        have := Int.mul_nonneg (Int.natCast_nonneg A) (Int.natCast_nonneg U)
        omega
      · exact q
    have hvV : own_z v = (V : Int) := by
      rcases own_signed_cases (FP.Core.sgn (FP.Core.val64 v)) V with q | q
      · rw [zv]; exact q.2
      · rw [zv, q.2] at hn; rw [zv, q.2]; omega
    rw [hvV] at h ⊢
    have := L (by exact_mod_cast h)
    show (R : Int) ≤ V
    omega
  · rw [h1] at h
    show -(R : Int) ≤ own_z v
    rcases Int.lt_or_le (own_z v) 0 with q | q
    · have hvV : own_z v = -(V : Int) := by
        rcases own_signed_cases (FP.Core.sgn (FP.Core.val64 v)) V with q' | q'
        · rw [zv, q'.2] at q; omega
        · rw [zv]; exact q'.2
      rw [hvV] at h ⊢
      rw [Int.neg_mul, Int.neg_mul] at h
      have := G (by exact_mod_cast (by omega : (V : Int) * B ≤ A * U))
      omega
    · omega
theorem own_div_ge {a b v : UInt64} (ha : FP.Core.DFin a) (hb : FP.Core.DFin b) (hv : own_num v) (hp : 0 < own_z b) (h : own_z v * own_z b ≤ own_z a * (FP.Core.one64 : Int)) : own_z v ≤ own_z (FP.ddiv a b) := by
  have nz : ∀ x : UInt64, own_z (FP.Core.dneg x) = -own_z x := fun x => by
    unfold own_z
    rw [FP.Core.val64_dneg, FP.Core.zval_negate]
  have nf : FP.Core.DFin (FP.Core.dneg a) := by
    obtain ⟨s, c, q, e⟩ := ha
    exact ⟨!s, c, q, by rw [FP.Core.val64_dneg, e]; rfl⟩
  have nn : own_num (FP.Core.dneg v) := by
    unfold own_num
    rw [FP.Core.val64_dneg]
    exact FP.Core.negate_ne_nan hv
  have q := own_div_le (a := FP.Core.dneg a) (v := FP.Core.dneg v) nf hb nn hp (by rw [nz, nz, Int.neg_mul, Int.neg_mul]; omega)
  have e : FP.ddiv (FP.Core.dneg a) b = FP.Core.dneg (FP.ddiv a b) := FP.Core.ddiv_dneg a b
  rw [e, nz, nz] at q
  omega
/-- a is the number N / 2^g -/
def own_D (g : Nat) (N : Int) (a : UInt64) : Prop := FP.Core.DFin a ∧ own_z a = N * ((2 ^ (1074 - g) : Nat) : Int)
theorem own_rep (g : Nat) (hg : g ≤ 1074) (N : Int) (hN : N.natAbs < 9007199254740992) : ∃ v, own_D g N v := by
  have hq := FP.Core.qmin_b64
  obtain ⟨c', q', e1, e2⟩ := FP.Core.round_exact FP.Core.good_b64 (decide (N < 0)) (c := N.natAbs) (q := -(g : Int)) (by rw [show (2 : Nat) ^ FP.Core.b64.p = 9007199254740992 from by decide]; exact hN) (by omega) (by rw [show FP.Core.b64.qmax = 971 from by decide]; omega)
  have e3 : FP.Core.val64 (FP.Core.of64 (FP.Core.round FP.Core.b64 (.fin (decide (N < 0)) N.natAbs (-(g : Int))))) = .fin (decide (N < 0)) c' q' := by
    rw [FP.Core.val64_of64 (FP.Core.round_fits FP.Core.good_b64 _), e1]
  refine ⟨_, ⟨_, _, _, e3⟩, ?_⟩
  unfold own_z
  rw [e3]
  show FP.Core.signed (decide (N < 0)) (FP.Core.inUnits c' q' FP.Core.b64.qmin) = _
  rw [e2]
  have e4 : FP.Core.inUnits N.natAbs (-(g : Int)) FP.Core.b64.qmin = N.natAbs * 2 ^ (1074 - g) := by
    show _ * 2 ^ _ = _
    rw [hq, show (-(g : Int) - -1074).toNat = 1074 - g by omega]
  rw [e4, FP.Core.signed_mul]
  congr 1
  rcases own_signed_cases (decide (N < 0)) N.natAbs with ⟨h1, h2⟩ | ⟨h1, h2⟩
  · rw [h2]
    have := of_decide_eq_false h1
    omega
  · rw [h2]
    have := of_decide_eq_true h1
    omega
theorem own_D.num {g : Nat} {N : Int} {a : UInt64} (h : own_D g N a) : own_num a := own_fin_num h.1
theorem own_u_pos (g : Nat) : (0 : Int) < ((2 ^ (1074 - g) : Nat) : Int) := by
  have := Nat.two_pow_pos (1074 - g)
  omega
theorem own_one (g : Nat) (hg : g ≤ 1074) : (FP.Core.one64 : Int) = ((2 ^ g : Nat) : Int) * ((2 ^ (1074 - g) : Nat) : Int) := by
  rw [← Int.natCast_mul, ← Nat.pow_add, show g + (1074 - g) = 1074 by omega]
  rfl
theorem own_fin_of {r c : UInt64} (hr : own_num r) (hc : FP.Core.DFin c) (h : own_z r = own_z c) : FP.Core.DFin r := by
  have h1 := FP.Core.DFin.zval_lt hc
  cases hv : FP.Core.val64 r with
  | nan => exact absurd hv hr
  | fin s c q => exact ⟨s, c, q, hv⟩
  | inf s =>
    exfalso
    unfold own_z FP.Core.zval at h
    rw [hv] at h
    have h2 := congrArg Int.natAbs h
    rw [FP.Core.natAbs_signed, FP.Core.natAbs_signed] at h2
    rw [← h2] at h1
    exact Nat.lt_irrefl _ h1
theorem own_D.of_le_ge {g : Nat} {N : Int} {r v : UInt64} (hr : own_num r) (hv : own_D g N v) (h1 : own_z r ≤ own_z v) (h2 : own_z v ≤ own_z r) : own_D g N r := by
  have e : own_z r = own_z v := by omega
  exact ⟨own_fin_of hr hv.1 e, e.trans hv.2⟩
theorem own_D.add {g : Nat} (hg : g ≤ 1074) {N M : Int} {a b : UInt64} (ha : own_D g N a) (hb : own_D g M b) (h : (N + M).natAbs < 9007199254740992) : own_D g (N + M) (FP.dadd a b) := by
  obtain ⟨v, hv⟩ := own_rep g hg _ h
  have e : own_z a + own_z b = own_z v := by rw [ha.2, hb.2, hv.2, Int.add_mul]
  exact own_D.of_le_ge (own_num_add ha.1 hb.1) hv (own_add_le ha.1 hb.1 hv.num (by omega)) (own_add_ge ha.1 hb.1 hv.num (by omega))
theorem own_D.sub {g : Nat} (hg : g ≤ 1074) {N M : Int} {a b : UInt64} (ha : own_D g N a) (hb : own_D g M b) (h : (N - M).natAbs < 9007199254740992) : own_D g (N - M) (FP.dsub a b) := by
  obtain ⟨v, hv⟩ := own_rep g hg _ h
  have e : own_z a - own_z b = own_z v := by rw [ha.2, hb.2, hv.2, Int.sub_mul]
  exact own_D.of_le_ge (own_num_sub ha.1 hb.1) hv (own_sub_le ha.1 hb.1 hv.num (by omega)) (own_sub_ge ha.1 hb.1 hv.num (by omega))
/-- the value of a product against K / 2^g -/
theorem own_mul_z {g : Nat} (hg : g ≤ 1074) {N M K : Int} {a b v : UInt64} (ha : own_D g N a) (hb : own_D g M b) (hv : own_D g K v) :
    (N * M ≤ K * ((2 ^ g : Nat) : Int) → own_z a * own_z b ≤ own_z v * (FP.Core.one64 : Int)) ∧ (K * ((2 ^ g : Nat) : Int) ≤ N * M → own_z v * (FP.Core.one64 : Int) ≤ own_z a * own_z b) := by
  rw [ha.2, hb.2, hv.2, own_one g hg]
  have hu := own_u_pos g
  generalize ((2 ^ (1074 - g) : Nat) : Int) = u at *
  generalize ((2 ^ g : Nat) : Int) = G at *
  have e1 : N * u * (M * u) = (N * M) * (u * u) := by rw [Int.mul_assoc, Int.mul_left_comm u M u, ← Int.mul_assoc N M]
  have e2 : K * u * (G * u) = (K * G) * (u * u) := by rw [Int.mul_assoc, Int.mul_left_comm u G u, ← Int.mul_assoc K G]
  rw [e1, e2]
  have hp : 0 ≤ u * u := Int.mul_nonneg (by omega) (by omega)
  exact ⟨fun h => Int.mul_le_mul_of_nonneg_right h hp, fun h => Int.mul_le_mul_of_nonneg_right h hp⟩
theorem own_D.mul {g : Nat} (hg : g ≤ 1074) {N M K : Int} {a b : UInt64} (ha : own_D g N a) (hb : own_D g M b) (e : N * M = K * ((2 ^ g : Nat) : Int)) (h : K.natAbs < 9007199254740992) : own_D g K (FP.dmul a b) := by
  obtain ⟨v, hv⟩ := own_rep g hg _ h
  have q := own_mul_z hg ha hb hv
  exact own_D.of_le_ge (own_num_mul ha.1 hb.1) hv (own_mul_le ha.1 hb.1 hv.num (q.1 (by omega))) (own_mul_ge ha.1 hb.1 hv.num (q.2 (by omega)))
theorem own_div_z {g : Nat} (hg : g ≤ 1074) {N M K : Int} {a b v : UInt64} (ha : own_D g N a) (hb : own_D g M b) (hv : own_D g K v) :
    (N * ((2 ^ g : Nat) : Int) ≤ K * M → own_z a * (FP.Core.one64 : Int) ≤ own_z v * own_z b) ∧ (K * M ≤ N * ((2 ^ g : Nat) : Int) → own_z v * own_z b ≤ own_z a * (FP.Core.one64 : Int)) := by
  rw [ha.2, hb.2, hv.2, own_one g hg]
  have hu := own_u_pos g
  generalize ((2 ^ (1074 - g) : Nat) : Int) = u at *
  generalize ((2 ^ g : Nat) : Int) = G at *
  have e1 : N * u * (G * u) = (N * G) * (u * u) := by rw [Int.mul_assoc, Int.mul_left_comm u G u, ← Int.mul_assoc N G]
  have e2 : K * u * (M * u) = (K * M) * (u * u) := by rw [Int.mul_assoc, Int.mul_left_comm u M u, ← Int.mul_assoc K M]
  rw [e1, e2]
  have hp : 0 ≤ u * u := Int.mul_nonneg (by omega) (by omega)
  exact ⟨fun h => Int.mul_le_mul_of_nonneg_right h hp, fun h => Int.mul_le_mul_of_nonneg_right h hp⟩
theorem own_D.pos {g : Nat} {M : Int} {b : UInt64} (hb : own_D g M b) (h : 0 < M) : 0 < own_z b := by
  rw [hb.2]
  exact Int.mul_pos h (own_u_pos g)
theorem own_D.ne {g : Nat} {M : Int} {b : UInt64} (hb : own_D g M b) (h : M ≠ 0) : own_z b ≠ 0 := by
  rw [hb.2]
  exact Int.mul_ne_zero h (by have := own_u_pos g; omega)
theorem own_D.div {g : Nat} (hg : g ≤ 1074) {N M K : Int} {a b : UInt64} (ha : own_D g N a) (hb : own_D g M b) (hM : 0 < M) (e : N * ((2 ^ g : Nat) : Int) = K * M) (h : K.natAbs < 9007199254740992) : own_D g K (FP.ddiv a b) := by
  obtain ⟨v, hv⟩ := own_rep g hg _ h
  have q := own_div_z hg ha hb hv
  exact own_D.of_le_ge (own_num_div ha.num hb.1 (hb.ne (by omega))) hv (own_div_le ha.1 hb.1 hv.num (hb.pos hM) (q.1 (by omega))) (own_div_ge ha.1 hb.1 hv.num (hb.pos hM) (q.2 (by omega)))
/-- bounds on a rounded quotient, by numbers K / 2^g -/
theorem own_div_hi {g : Nat} (hg : g ≤ 1074) {N M K : Int} {a b : UInt64} (ha : own_D g N a) (hb : own_D g M b) (hM : 0 < M) (h : N * ((2 ^ g : Nat) : Int) ≤ K * M) (hK : K.natAbs < 9007199254740992) : own_z (FP.ddiv a b) ≤ K * ((2 ^ (1074 - g) : Nat) : Int) := by
  obtain ⟨v, hv⟩ := own_rep g hg _ hK
  rw [← hv.2]
  exact own_div_le ha.1 hb.1 hv.num (hb.pos hM) ((own_div_z hg ha hb hv).1 h)
theorem own_div_lo {g : Nat} (hg : g ≤ 1074) {N M K : Int} {a b : UInt64} (ha : own_D g N a) (hb : own_D g M b) (hM : 0 < M) (h : K * M ≤ N * ((2 ^ g : Nat) : Int)) (hK : K.natAbs < 9007199254740992) : K * ((2 ^ (1074 - g) : Nat) : Int) ≤ own_z (FP.ddiv a b) := by
  obtain ⟨v, hv⟩ := own_rep g hg _ hK
  rw [← hv.2]
  exact own_div_ge ha.1 hb.1 hv.num (hb.pos hM) ((own_div_z hg ha hb hv).2 h)
/-- a number between two doubles' values is finite -/
theorem own_fin_btw {g : Nat} (hg : g ≤ 1074) {A B : Int} {r : UInt64} (hr : own_num r) (h1 : A * ((2 ^ (1074 - g) : Nat) : Int) ≤ own_z r) (h2 : own_z r ≤ B * ((2 ^ (1074 - g) : Nat) : Int)) (hA : A.natAbs < 9007199254740992) (hB : B.natAbs < 9007199254740992) : FP.Core.DFin r := by
  obtain ⟨va, ha⟩ := own_rep g hg _ hA
  obtain ⟨vb, hb⟩ := own_rep g hg _ hB
  rw [← ha.2] at h1
  rw [← hb.2] at h2
  cases hv : FP.Core.val64 r with
  | nan => exact absurd hv hr
  | fin s c q => exact ⟨s, c, q, hv⟩
  | inf s =>
    exfalso
    have la := FP.Core.DFin.zval_lt ha.1
    have lb := FP.Core.DFin.zval_lt hb.1
    have e : own_z r = FP.Core.signed s (FP.Core.b64.tails * 2 ^ (FP.Core.b64.exps - 2)) := by unfold own_z FP.Core.zval; rw [hv]; rfl
    have na : (own_z va).natAbs = FP.Core.zmag FP.Core.b64 (FP.Core.val64 va) := FP.Core.natAbs_signed _ _
    have nb : (own_z vb).natAbs = FP.Core.zmag FP.Core.b64 (FP.Core.val64 vb) := FP.Core.natAbs_signed _ _
    rw [← na] at la
    rw [← nb] at lb
    generalize FP.Core.b64.tails * 2 ^ (FP.Core.b64.exps - 2) = top at *
    rcases own_signed_cases s top with ⟨-, q⟩ | ⟨-, q⟩ <;> rw [q] at e <;> omega
theorem own_D.up {g : Nat} {N : Int} {a : UInt64} (h : own_D g N a) (j : Nat) (hj : g + j ≤ 1074) : own_D (g + j) (N * ((2 ^ j : Nat) : Int)) a := by
  refine ⟨h.1, ?_⟩
  rw [h.2, Int.mul_assoc, ← Int.natCast_mul, ← Nat.pow_add, show j + (1074 - (g + j)) = 1074 - g by omega]
theorem own_D.int {i : Int} {a : UInt64} (h : FP.Core.DInt i a) : own_D 0 i a := by
  refine ⟨?_, ?_⟩
  · have h' : FP.Core.Whole i (FP.Core.val64 a) := h
    cases hv : FP.Core.val64 a with
    | nan => rw [hv] at h'; exact h'.elim
    | inf s => rw [hv] at h'; exact h'.elim
    | fin s c q => exact ⟨s, c, q, hv⟩
  · exact FP.Core.DInt_zval h
theorem own_D.i2d (x : Int32) : own_D 0 x.toInt (FP.i2d x) := own_D.int (FP.Core.i2d_int x)
theorem own_D.l2d {x : Int64} (h : x.toInt.natAbs ≤ 9007199254740992) : own_D 0 x.toInt (FP.l2d x) := own_D.int (FP.Core.l2d_int h)
/-- an int at the granularity g -/
theorem own_D.i2dg (g : Nat) (hg : g ≤ 1074) (x : Int32) : own_D g (x.toInt * ((2 ^ g : Nat) : Int)) (FP.i2d x) := by
  have := (own_D.i2d x).up g (by omega)
  rw [Nat.zero_add] at this
  exact this
theorem own_D.l2dg (g : Nat) (hg : g ≤ 1074) {x : Int64} (h : x.toInt.natAbs ≤ 9007199254740992) : own_D g (x.toInt * ((2 ^ g : Nat) : Int)) (FP.l2d x) := by
  have := (own_D.l2d h).up g (by omega)
  rw [Nat.zero_add] at this
  exact this
theorem own_D.lt {g : Nat} {N M : Int} {a b : UInt64} (ha : own_D g N a) (hb : own_D g M b) (h : N < M) : FP.dcmp a b = some .lt := own_lt ha.num hb.num (by rw [ha.2, hb.2]; exact Int.mul_lt_mul_of_pos_right h (own_u_pos g))
theorem own_D.gt {g : Nat} {N M : Int} {a b : UInt64} (ha : own_D g N a) (hb : own_D g M b) (h : M < N) : FP.dcmp a b = some .gt := own_gt ha.num hb.num (by rw [ha.2, hb.2]; exact Int.mul_lt_mul_of_pos_right h (own_u_pos g))
theorem own_D.eq {g : Nat} {N M : Int} {a b : UInt64} (ha : own_D g N a) (hb : own_D g M b) (h : N = M) : FP.dcmp a b = some .eq := own_eq ha.num hb.num (by rw [ha.2, hb.2, h])
theorem own_z_neg (a : UInt64) : own_z (FP.dneg a) = -own_z a := by
  unfold own_z
  rw [FP.val64_dneg, FP.Core.zval_negate]
theorem own_D.neg {g : Nat} {N : Int} {a : UInt64} (h : own_D g N a) : own_D g (-N) (FP.dneg a) := by
  refine ⟨?_, by rw [own_z_neg, h.2, Int.neg_mul]⟩
  obtain ⟨s, c, q, e⟩ := h.1
  exact ⟨!s, c, q, by rw [FP.val64_dneg, e]; rfl⟩
/-- (k t + r) / t, rounded, against k + c / 2^g -/
theorem own_quot {g : Nat} (hg : g ≤ 1074) {k r : Int} {T : Int64} {t : Int32} (hT : T.toInt = k * t.toInt + r) (hb : T.toInt.natAbs ≤ 9007199254740992) (ht : 0 < t.toInt) :
    own_num (FP.ddiv (FP.l2d T) (FP.i2d t)) ∧
    (r = 0 → (k * ((2 ^ g : Nat) : Int)).natAbs < 9007199254740992 → own_D g (k * ((2 ^ g : Nat) : Int)) (FP.ddiv (FP.l2d T) (FP.i2d t))) ∧
    (∀ c : Int, c * t.toInt ≤ r * ((2 ^ g : Nat) : Int) → (k * ((2 ^ g : Nat) : Int) + c).natAbs < 9007199254740992 → (k * ((2 ^ g : Nat) : Int) + c) * ((2 ^ (1074 - g) : Nat) : Int) ≤ own_z (FP.ddiv (FP.l2d T) (FP.i2d t))) ∧
    (∀ c : Int, r * ((2 ^ g : Nat) : Int) ≤ c * t.toInt → (k * ((2 ^ g : Nat) : Int) + c).natAbs < 9007199254740992 → own_z (FP.ddiv (FP.l2d T) (FP.i2d t)) ≤ (k * ((2 ^ g : Nat) : Int) + c) * ((2 ^ (1074 - g) : Nat) : Int)) ∧
    (∀ c : Int, r * ((2 ^ g : Nat) : Int) = c * t.toInt → (k * ((2 ^ g : Nat) : Int) + c).natAbs < 9007199254740992 → own_D g (k * ((2 ^ g : Nat) : Int) + c) (FP.ddiv (FP.l2d T) (FP.i2d t))) := by
  have d1 := own_D.l2dg g hg hb
  have d2 := own_D.i2dg g hg t
  have hG : (0 : Int) < ((2 ^ g : Nat) : Int) := by have := Nat.two_pow_pos g; omega
  have hM : 0 < t.toInt * ((2 ^ g : Nat) : Int) := Int.mul_pos ht hG
  have key : ∀ c : Int, (k * ((2 ^ g : Nat) : Int) + c) * (t.toInt * ((2 ^ g : Nat) : Int)) = (k * t.toInt * ((2 ^ g : Nat) : Int) + c * t.toInt) * ((2 ^ g : Nat) : Int) := by
    intro c
    rw [← Int.mul_assoc, Int.add_mul, Int.mul_right_comm]
  have key2 : T.toInt * ((2 ^ g : Nat) : Int) * ((2 ^ g : Nat) : Int) = (k * t.toInt * ((2 ^ g : Nat) : Int) + r * ((2 ^ g : Nat) : Int)) * ((2 ^ g : Nat) : Int) := by
    rw [hT, Int.add_mul (k * t.toInt)]
  have hn : own_num (FP.ddiv (FP.l2d T) (FP.i2d t)) := own_num_div d1.num d2.1 (d2.ne (by omega))
  have ex : ∀ c : Int, r * ((2 ^ g : Nat) : Int) = c * t.toInt → (k * ((2 ^ g : Nat) : Int) + c).natAbs < 9007199254740992 → own_D g (k * ((2 ^ g : Nat) : Int) + c) (FP.ddiv (FP.l2d T) (FP.i2d t)) :=
    fun c h hc => d1.div hg d2 hM (by rw [key, key2, h]) hc
  refine ⟨hn, fun h0 hc => ?_, fun c h hc => ?_, fun c h hc => ?_, ex⟩
  · have := ex 0 (by rw [h0]; omega) (by rw [Int.add_zero]; exact hc)
    rwa [Int.add_zero] at this
  · refine own_div_lo hg d1 d2 hM ?_ hc
    rw [key, key2]
    exact Int.mul_le_mul_of_nonneg_right (by omega) (by omega)
  · refine own_div_hi hg d1 d2 hM ?_ hc
    rw [key, key2]
    exact Int.mul_le_mul_of_nonneg_right (by omega) (by omega)
theorem own_D.uniq {g : Nat} {N M : Int} {a b : UInt64} (ha : own_D g N a) (hb : own_D g M b) (e : N = M) (h : M ≠ 0) : a = b :=
  FP.Core.eq_bits (fun z => hb.ne h (FP.Core.DZero.zval z)) (ha.eq hb e)
/-! OWN KIT 4: ints and longs by their whole numbers -/
theorem own_and32 (x m : Int32) (h : 0 ≤ m.toInt) : 0 ≤ (x &&& m).toInt ∧ (x &&& m).toInt ≤ m.toInt := by
  have e : (x &&& m).toBitVec.toNat = x.toBitVec.toNat &&& m.toBitVec.toNat := by
    show (x.toBitVec &&& m.toBitVec).toNat = _
    rw [BitVec.toNat_and]
  have h1 : x.toBitVec.toNat &&& m.toBitVec.toNat ≤ m.toBitVec.toNat := Nat.and_le_right
  have h2 := m.toBitVec.isLt
  have h3 : 0 ≤ m.toBitVec.toInt := h
  show 0 ≤ (x &&& m).toBitVec.toInt ∧ (x &&& m).toBitVec.toInt ≤ m.toBitVec.toInt
  rw [BitVec.toInt_eq_toNat_cond] at h3 ⊢
  rw [BitVec.toInt_eq_toNat_cond, e]
  split at h3
  · rw [if_pos (by omega), if_pos (by omega)]; omega
  · omega
theorem own_and64 (x m : Int64) (h : 0 ≤ m.toInt) : 0 ≤ (x &&& m).toInt ∧ (x &&& m).toInt ≤ m.toInt := by
  have e : (x &&& m).toBitVec.toNat = x.toBitVec.toNat &&& m.toBitVec.toNat := by
    show (x.toBitVec &&& m.toBitVec).toNat = _
    rw [BitVec.toNat_and]
  have h1 : x.toBitVec.toNat &&& m.toBitVec.toNat ≤ m.toBitVec.toNat := Nat.and_le_right
  have h2 := m.toBitVec.isLt
  have h3 : 0 ≤ m.toBitVec.toInt := h
  show 0 ≤ (x &&& m).toBitVec.toInt ∧ (x &&& m).toBitVec.toInt ≤ m.toBitVec.toInt
  rw [BitVec.toInt_eq_toNat_cond] at h3 ⊢
  rw [BitVec.toInt_eq_toNat_cond, e]
  split at h3
  · rw [if_pos (by omega), if_pos (by omega)]; omega
  · omega
theorem own_rng32 (x : Int32) : -2147483648 ≤ x.toInt ∧ x.toInt < 2147483648 := ⟨Int32.le_toInt x, Int32.toInt_lt x⟩
theorem own_rng64 (x : Int64) : -9223372036854775808 ≤ x.toInt ∧ x.toInt < 9223372036854775808 := ⟨Int64.le_toInt x, Int64.toInt_lt x⟩
theorem own_i2l (x : Int32) : x.toInt64.toInt = x.toInt := Int32.toInt_toInt64 x
theorem own_add64 {a b : Int64} (h : -9223372036854775808 ≤ a.toInt + b.toInt) (h' : a.toInt + b.toInt < 9223372036854775808) : (a + b).toInt = a.toInt + b.toInt := FP.Core.int64_add h h'
theorem own_sub64 {a b : Int64} (h : -9223372036854775808 ≤ a.toInt - b.toInt) (h' : a.toInt - b.toInt < 9223372036854775808) : (a - b).toInt = a.toInt - b.toInt := FP.Core.int64_sub h h'
theorem own_mul64 {a b : Int64} (h : -9223372036854775808 ≤ a.toInt * b.toInt) (h' : a.toInt * b.toInt < 9223372036854775808) : (a * b).toInt = a.toInt * b.toInt := FP.Core.int64_mul h h'
theorem own_add32 {a b : Int32} (h : -2147483648 ≤ a.toInt + b.toInt) (h' : a.toInt + b.toInt < 2147483648) : (a + b).toInt = a.toInt + b.toInt := by
  rw [Int32.toInt_add, Int.bmod_eq_of_le (by omega) (by omega)]
theorem own_sub32 {a b : Int32} (h : -2147483648 ≤ a.toInt - b.toInt) (h' : a.toInt - b.toInt < 2147483648) : (a - b).toInt = a.toInt - b.toInt := by
  rw [Int32.toInt_sub, Int.bmod_eq_of_le (by omega) (by omega)]
theorem own_mul32 {a b : Int32} (h : -2147483648 ≤ a.toInt * b.toInt) (h' : a.toInt * b.toInt < 2147483648) : (a * b).toInt = a.toInt * b.toInt := by
  rw [Int32.toInt_mul, Int.bmod_eq_of_le (by omega) (by omega)]
theorem own_rem32 (a b : Int32) : (a % b).toInt = a.toInt.tmod b.toInt := Int32.toInt_mod a b
theorem own_rem_pos {a b : Int32} (ha : 0 ≤ a.toInt) (hb : 0 < b.toInt) : 0 ≤ (a % b).toInt ∧ (a % b).toInt < b.toInt := by
  rw [own_rem32, Int.tmod_eq_emod_of_nonneg ha]
  exact ⟨Int.emod_nonneg _ (by omega), Int.emod_lt_of_pos _ hb⟩
/-- what a comparison of doubles pushes -/
theorem own_cv_lt {a b : UInt64} (h : FP.dcmp a b = some .lt) (o : CmpOp) : (cmpValue (FP.dcmp a b) o).toInt = -1 := by rw [h]; rfl
theorem own_cv_eq {a b : UInt64} (h : FP.dcmp a b = some .eq) (o : CmpOp) : (cmpValue (FP.dcmp a b) o).toInt = 0 := by rw [h]; rfl
theorem own_cv_gt {a b : UInt64} (h : FP.dcmp a b = some .gt) (o : CmpOp) : (cmpValue (FP.dcmp a b) o).toInt = 1 := by rw [h]; rfl
/-! OWN KIT 4 (behind MathD, MathI): the lesser of two doubles, comparisons by own_z -/
def own_mn (r x y : UInt64) : Prop := own_num r ∧ own_z r ≤ own_z x ∧ own_z r ≤ own_z y ∧ (own_z r = own_z x ∨ own_z r = own_z y)
theorem own_pick {x y : UInt64} (nx : own_num x) (ny : own_num y) : own_mn (Native.java_lang_Math.nans.pick64 false x y) x y := by
  rcases Int.lt_trichotomy (own_z x) (own_z y) with q | q | q
  · have e : Native.java_lang_Math.nans.pick64 false x y = x := by unfold Native.java_lang_Math.nans.pick64; rw [own_lt nx ny q]; rfl
    rw [e]; exact ⟨nx, by omega, by omega, Or.inl rfl⟩
  · rcases Jvm.Free.Fl.pick64_or false x y with e | e <;> rw [e]
    · exact ⟨nx, by omega, by omega, Or.inl rfl⟩
    · exact ⟨ny, by omega, by omega, Or.inr rfl⟩
  · have e : Native.java_lang_Math.nans.pick64 false x y = y := by unfold Native.java_lang_Math.nans.pick64; rw [own_gt nx ny q]; rfl
    rw [e]; exact ⟨ny, by omega, by omega, Or.inr rfl⟩
theorem own_gle {x y : UInt64} {k : CmpOp} (nx : own_num x) (ny : own_num y) (h : own_z x ≤ own_z y) : (cmpValue (FP.dcmp x y) k).toInt ≤ 0 := by
  rcases Int.lt_or_eq_of_le h with q | q
  · rw [own_cv_lt (own_lt nx ny q)]; omega
  · rw [own_cv_eq (own_eq nx ny q)]; omega
theorem own_ggt {x y : UInt64} {k : CmpOp} (nx : own_num x) (ny : own_num y) (h : own_z y < own_z x) : 0 < (cmpValue (FP.dcmp x y) k).toInt := by
  rw [own_cv_gt (own_gt nx ny h)]; omega
theorem own_infn : own_num 9218868437227405312 := by unfold own_num; decide +kernel
theorem own_i2d_inf (x : Int32) : own_z (FP.i2d x) < own_z 9218868437227405312 := by
  have h := (own_D.i2d x).2
  rw [h]
  have h1 := Int32.toInt_lt x
  have h2 : x.toInt * ((2 ^ (1074 - 0) : Nat) : Int) ≤ 2147483648 * ((2 ^ (1074 - 0) : Nat) : Int) := Int.mul_le_mul_of_nonneg_right (by omega) (by decide +kernel)
  have h3 : 2147483648 * ((2 ^ (1074 - 0) : Nat) : Int) < own_z 9218868437227405312 := by decide +kernel
  exact Int.lt_of_le_of_lt h2 h3
theorem wm (i : Nat) {d : Jvm.Cond} (h : tables_1[i]? = some d) : d ∈ tables_1 := List.mem_of_getElem? h
def tab0 : List (Nat × Instr) := [(0, .iload 4), (2, .ldc 15), (4, .iand), (5, .bipush 6), (7, .irem), (8, .istore 6), (10, .iload 4), (12, .bipush 8), (14, .iushr), (15, .ldc 15), (17, .iand), (18, .bipush 6), (20, .irem), (21, .istore 7), (23, .iconst 5), (24, .newarray .double), (26, .astore 8), (28, .aload 8), (30, .iconst 0), (31, .lload_n 0), (32, .iconst 0), (33, .invokestatic 9), (36, .i2d), (37, .dastore), (38, .aload 8), (40, .iconst 1), (41, .lload_n 0), (42, .iconst 1), (43, .invokestatic 9), (46, .i2d), (47, .dastore), (48, .aload 8), (50, .iconst 2), (51, .lload_n 0), (52, .iconst 2), (53, .invokestatic 9), (56, .i2d), (57, .dastore), (58, .aload 8), (60, .iconst 3), (61, .lload_n 0), (62, .iconst 3), (63, .invokestatic 9), (66, .i2d), (67, .dastore), (68, .aload 8), (70, .iconst 4), (71, .lload_n 0), (72, .iconst 4), (73, .invokestatic 9), (76, .i2d), (77, .dastore), (78, .new 16), (81, .dup), (82, .aload 8), (84, .invokespecial 18), (87, .astore 9), (89, .iconst 0), (90, .iload 6), (92, .iload 7), (94, .lload_n 0), (95, .lload_n 2), (96, .invokestatic 21), (99, .istore 10), (101, .iconst 1), (102, .iload 6), (104, .iload 7), (106, .lload_n 0), (107, .lload_n 2), (108, .invokestatic 21), (111, .istore 11), (113, .iconst 2), (114, .iload 6), (116, .iload 7), (118, .lload_n 0), (119, .lload_n 2), (120, .invokestatic 21), (123, .istore 12), (125, .iconst 3), (126, .iload 6), (128, .iload 7), (130, .lload_n 0), (131, .lload_n 2), (132, .invokestatic 21), (135, .istore 13), (137, .iconst 4), (138, .iload 6), (140, .iload 7), (142, .lload_n 0), (143, .lload_n 2), (144, .invokestatic 21), (147, .istore 14), (149, .aload 8), (151, .iconst 0), (152, .iload 10), (154, .i2d), (155, .dastore), (156, .aload 8), (158, .iconst 1), (159, .iload 11), (161, .i2d), (162, .dastore), (163, .aload 8), (165, .iconst 2), (166, .iload 12), (168, .i2d), (169, .dastore), (170, .aload 8), (172, .iconst 3), (173, .iload 13), (175, .i2d), (176, .dastore), (177, .aload 8), (179, .iconst 4), (180, .iload 14), (182, .i2d), (183, .dastore), (184, .aload 9), (186, .iload 6), (188, .iload 7), (190, .invokevirtual 25), (193, .iload 10), (195, .iload 11), (197, .invokestatic 29), (200, .iload 12), (202, .iload 13), (204, .invokestatic 29), (207, .invokestatic 29), (210, .iload 14), (212, .invokestatic 29), (215, .istore 15), (217, .iload 5), (219, .bipush 10), (221, .irem), (222, .istore 16), (224, .iload 10), (226, .iload 16), (228, .if_icmp .gt 9), (231, .iconst 0), (232, .istore 17), (234, .goto 58), (237, .iload 11), (239, .iload 16), (241, .if_icmp .gt 9), (244, .iconst 1), (245, .istore 17), (247, .goto 45), (250, .iload 12), (252, .iload 16), (254, .if_icmp .gt 9), (257, .iconst 2), (258, .istore 17), (260, .goto 32), (263, .iload 13), (265, .iload 16), (267, .if_icmp .gt 9), (270, .iconst 3), (271, .istore 17), (273, .goto 19), (276, .iload 14), (278, .iload 16), (280, .if_icmp .gt 9), (283, .iconst 4), (284, .istore 17), (286, .goto 6), (289, .iconst (-1)), (290, .istore 17), (292, .aload 9), (294, .invokevirtual 35), (297, .iload 15), (299, .i2d), (300, .dcmp .l), (301, .ifCond .ne 20), (304, .aload 9), (306, .iload 16), (308, .i2d), (309, .invokevirtual 39), (312, .iload 17), (314, .if_icmp .ne 7), (317, .iconst 1), (318, .goto 4), (321, .iconst 0), (322, .ireturn)]
set_option maxRecDepth 65536 in
theorem dec0 : own_dec code tab0 := by
  show ∀ e ∈ tab0, decode code e.1 = .ok (e.2, own_len e.2)
  decide +kernel
theorem seq0 : own_seq tab0 = true := by decide +kernel
def kt0 : List (Nat × Value) := [(15, .int 2147483647), (7, .long 15)]
def ft0 : List (Nat × String × String × String) := []
theorem hKt0 {a0 : Array Value} {Z : State} (hw : ∀ d ∈ tables_1, d.before a0 Z = true) : own_ks "com/example/binwright/binwright/binning/LeastTreeChangedPinLaw" a0 Z kt0 := ⟨hw _ (wm 0 rfl), hw _ (wm 6 rfl), trivial⟩
theorem hFt0 {a0 : Array Value} {Z : State} (hw : ∀ d ∈ tables_1, d.before a0 Z = true) : own_fs "com/example/binwright/binwright/binning/LeastTreeChangedPinLaw" a0 Z ft0 := trivial
theorem pn0 : plainName "com/example/binwright/binwright/binning/LeastTreeChangedPinLaw" = true := by first | (simp [plainName, overriddenIn]; done) | decide +kernel
theorem pf0 : plainFor x = true := plainFor_of_name pn0
theorem pd0 : parseMethodDescriptor "(JJII)Z" = some ⟨[.long, .long, .int, .int], some .boolean⟩ := by decide +kernel
def tab1 : List (Nat × Instr) := [(0, .lload_n 0), (1, .bipush 8), (3, .iload_n 2), (4, .imul), (5, .lushr), (6, .ldc2_w 7), (9, .land), (10, .l2i), (11, .bipush 8), (13, .isub), (14, .ireturn)]
set_option maxRecDepth 65536 in
theorem dec1 : own_dec method_2_code tab1 := by
  show ∀ e ∈ tab1, decode method_2_code e.1 = .ok (e.2, own_len e.2)
  decide +kernel
theorem seq1 : own_seq tab1 = true := by decide +kernel
theorem d1_14 : decode method_2_code 14 = .ok (.ireturn, 1) := by decide +kernel
theorem pn1 : plainName "com/example/binwright/binwright/binning/LeastTreeChangedPinLaw" = true := by first | (simp [plainName, overriddenIn]; done) | decide +kernel
theorem pf1 : plainFor (⟨"com/example/binwright/binwright/binning/LeastTreeChangedPinLaw", "val", "(JI)I"⟩ : MethodName) = true := plainFor_of_name pn1
theorem pd1 : parseMethodDescriptor "(JI)I" = some ⟨[.long, .int], some .int⟩ := by decide +kernel
def tab2 : List (Nat × Instr) := [(0, .aload_n 0), (1, .invokespecial 1), (4, .aload_n 0), (5, .aload_n 1), (6, .putfield 7), (9, .aload_n 0), (10, .iconst 1), (11, .aload_n 1), (12, .arraylength), (13, .iconst 1), (14, .isub), (15, .invokestatic 13), (18, .invokestatic 19), (21, .iconst 1), (22, .ishl), (23, .putfield 25), (26, .aload_n 0), (27, .aload_n 0), (28, .getfield 25), (31, .newarray .double), (33, .putfield 29), (36, .aload_n 0), (37, .getfield 29), (40, .ldc2_w 34), (43, .invokestatic 36), (46, .aload_n 0), (47, .iconst 0), (48, .aload_n 1), (49, .arraylength), (50, .invokevirtual 42), (53, .return_)]
set_option maxRecDepth 65536 in
theorem dec2 : own_dec prog_15_method_1_code tab2 := by
  show ∀ e ∈ tab2, decode prog_15_method_1_code e.1 = .ok (e.2, own_len e.2)
  decide +kernel
theorem seq2 : own_seq tab2 = true := by decide +kernel
theorem d2_1 : decode prog_15_method_1_code 1 = .ok (.invokespecial 1, 3) := by decide +kernel
theorem d2_6 : decode prog_15_method_1_code 6 = .ok (.putfield 7, 3) := by decide +kernel
theorem d2_15 : decode prog_15_method_1_code 15 = .ok (.invokestatic 13, 3) := by decide +kernel
theorem d2_18 : decode prog_15_method_1_code 18 = .ok (.invokestatic 19, 3) := by decide +kernel
theorem d2_23 : decode prog_15_method_1_code 23 = .ok (.putfield 25, 3) := by decide +kernel
theorem d2_31 : decode prog_15_method_1_code 31 = .ok (.newarray .double, 2) := by decide +kernel
theorem d2_33 : decode prog_15_method_1_code 33 = .ok (.putfield 29, 3) := by decide +kernel
theorem d2_43 : decode prog_15_method_1_code 43 = .ok (.invokestatic 36, 3) := by decide +kernel
theorem d2_50 : decode prog_15_method_1_code 50 = .ok (.invokevirtual 42, 3) := by decide +kernel
theorem d2_53 : decode prog_15_method_1_code 53 = .ok (.return_, 1) := by decide +kernel
def kt2 : List (Nat × Value) := [(34, .double 9218868437227405312)]
def ft2 : List (Nat × String × String × String) := [(7, "com/example/binwright/binwright/binning/LeastTree", "values", "[D"), (25, "com/example/binwright/binwright/binning/LeastTree", "leaves", "I"), (29, "com/example/binwright/binwright/binning/LeastTree", "least", "[D")]
theorem hKt2 {a0 : Array Value} {Z : State} (hw : ∀ d ∈ tables_1, d.before a0 Z = true) : own_ks "com/example/binwright/binwright/binning/LeastTree" a0 Z kt2 := ⟨hw _ (wm 35 rfl), trivial⟩
theorem hFt2 {a0 : Array Value} {Z : State} (hw : ∀ d ∈ tables_1, d.before a0 Z = true) : own_fs "com/example/binwright/binwright/binning/LeastTree" a0 Z ft2 := ⟨hw _ (wm 16 rfl), hw _ (wm 31 rfl), hw _ (wm 33 rfl), trivial⟩
theorem pn2 : plainName "com/example/binwright/binwright/binning/LeastTree" = true := by first | (simp [plainName, overriddenIn]; done) | decide +kernel
theorem pf2 : plainFor (⟨"com/example/binwright/binwright/binning/LeastTree", "<init>", "([D)V"⟩ : MethodName) = true := plainFor_of_name pn2
theorem pd2 : parseMethodDescriptor "([D)V" = some ⟨[(.array .double)], none⟩ := by decide +kernel
def tab4 : List (Nat × Instr) := [(0, .iload_n 0), (1, .iload_n 1), (2, .if_icmp .lt 7), (5, .iload_n 0), (6, .goto 4), (9, .iload_n 1), (10, .ireturn)]
set_option maxRecDepth 65536 in
theorem dec4 : own_dec jdk_29_method_65_code tab4 := by
  show ∀ e ∈ tab4, decode jdk_29_method_65_code e.1 = .ok (e.2, own_len e.2)
  decide +kernel
theorem seq4 : own_seq tab4 = true := by decide +kernel
theorem d4_10 : decode jdk_29_method_65_code 10 = .ok (.ireturn, 1) := by decide +kernel
def kt4 : List (Nat × Value) := []
def ft4 : List (Nat × String × String × String) := []
theorem hKt4 {a0 : Array Value} {Z : State} (hw : ∀ d ∈ tables_1, d.before a0 Z = true) : own_ks "java/lang/Math" a0 Z kt4 := trivial
theorem hFt4 {a0 : Array Value} {Z : State} (hw : ∀ d ∈ tables_1, d.before a0 Z = true) : own_fs "java/lang/Math" a0 Z ft4 := trivial
theorem pf4 : plainFor (⟨"java/lang/Math", "max", "(II)I"⟩ : MethodName) = true := by decide +kernel
theorem pd4 : parseMethodDescriptor "(II)I" = some ⟨[.int, .int], some .int⟩ := by decide +kernel
def tab5 : List (Nat × Instr) := [(0, .iload_n 0), (1, .ldc 127), (3, .iload_n 0), (4, .invokestatic 51), (7, .iushr), (8, .iand), (9, .ireturn)]
set_option maxRecDepth 65536 in
theorem dec5 : own_dec jdk_33_method_45_code tab5 := by
  show ∀ e ∈ tab5, decode jdk_33_method_45_code e.1 = .ok (e.2, own_len e.2)
  decide +kernel
theorem seq5 : own_seq tab5 = true := by decide +kernel
theorem d5_4 : decode jdk_33_method_45_code 4 = .ok (.invokestatic 51, 3) := by decide +kernel
theorem d5_9 : decode jdk_33_method_45_code 9 = .ok (.ireturn, 1) := by decide +kernel
def kt5 : List (Nat × Value) := [(127, .int (-2147483648)), (264, .int 65536)]
def ft5 : List (Nat × String × String × String) := []
theorem hKt5 {a0 : Array Value} {Z : State} (hw : ∀ d ∈ tables_1, d.before a0 Z = true) : own_ks "java/lang/Integer" a0 Z kt5 := ⟨hw _ (wm 26 rfl), hw _ (wm 30 rfl), trivial⟩
theorem hFt5 {a0 : Array Value} {Z : State} (hw : ∀ d ∈ tables_1, d.before a0 Z = true) : own_fs "java/lang/Integer" a0 Z ft5 := trivial
theorem pn5 : plainName "java/lang/Integer" = true := by first | (simp [plainName, overriddenIn]; done) | decide +kernel
theorem pf5 : plainFor (⟨"java/lang/Integer", "highestOneBit", "(I)I"⟩ : MethodName) = true := plainFor_of_name pn5
theorem pd5 : parseMethodDescriptor "(I)I" = some ⟨[.int], some .int⟩ := by decide +kernel
def tab6 : List (Nat × Instr) := [(0, .iload_n 0), (1, .ifCond .gt 14), (4, .iload_n 0), (5, .ifCond .ne 8), (8, .bipush 32), (10, .goto 4), (13, .iconst 0), (14, .ireturn), (15, .bipush 31), (17, .istore_n 1), (18, .iload_n 0), (19, .ldc_w 264), (22, .if_icmp .lt 11), (25, .iinc 1 (-16)), (28, .iload_n 0), (29, .bipush 16), (31, .iushr), (32, .istore_n 0), (33, .iload_n 0), (34, .sipush 256), (37, .if_icmp .lt 11), (40, .iinc 1 (-8)), (43, .iload_n 0), (44, .bipush 8), (46, .iushr), (47, .istore_n 0), (48, .iload_n 0), (49, .bipush 16), (51, .if_icmp .lt 10), (54, .iinc 1 (-4)), (57, .iload_n 0), (58, .iconst 4), (59, .iushr), (60, .istore_n 0), (61, .iload_n 0), (62, .iconst 4), (63, .if_icmp .lt 10), (66, .iinc 1 (-2)), (69, .iload_n 0), (70, .iconst 2), (71, .iushr), (72, .istore_n 0), (73, .iload_n 1), (74, .iload_n 0), (75, .iconst 1), (76, .iushr), (77, .isub), (78, .ireturn)]
set_option maxRecDepth 65536 in
theorem dec6 : own_dec jdk_33_method_47_code tab6 := by
  show ∀ e ∈ tab6, decode jdk_33_method_47_code e.1 = .ok (e.2, own_len e.2)
  decide +kernel
theorem seq6 : own_seq tab6 = true := by decide +kernel
theorem d6_14 : decode jdk_33_method_47_code 14 = .ok (.ireturn, 1) := by decide +kernel
theorem d6_78 : decode jdk_33_method_47_code 78 = .ok (.ireturn, 1) := by decide +kernel
theorem pn6 : plainName "java/lang/Integer" = true := by first | (simp [plainName, overriddenIn]; done) | decide +kernel
theorem pf6 : plainFor (⟨"java/lang/Integer", "numberOfLeadingZeros", "(I)I"⟩ : MethodName) = true := plainFor_of_name pn6
theorem pd6 : parseMethodDescriptor "(I)I" = some ⟨[.int], some .int⟩ := by decide +kernel
def tab7 : List (Nat × Instr) := [(0, .iconst 0), (1, .istore_n 3), (2, .aload_n 0), (3, .arraylength), (4, .istore 4), (6, .iload_n 3), (7, .iload 4), (9, .if_icmp .ge 13), (12, .aload_n 0), (13, .iload_n 3), (14, .dload_n 1), (15, .dastore), (16, .iinc 3 1), (19, .goto (-13)), (22, .return_)]
set_option maxRecDepth 65536 in
theorem dec7 : own_dec jdk_65_method_113_code tab7 := by
  show ∀ e ∈ tab7, decode jdk_65_method_113_code e.1 = .ok (e.2, own_len e.2)
  decide +kernel
theorem seq7 : own_seq tab7 = true := by decide +kernel
theorem d7_15 : decode jdk_65_method_113_code 15 = .ok (.dastore, 1) := by decide +kernel
theorem d7_22 : decode jdk_65_method_113_code 22 = .ok (.return_, 1) := by decide +kernel
def kt7 : List (Nat × Value) := []
def ft7 : List (Nat × String × String × String) := []
theorem hKt7 {a0 : Array Value} {Z : State} (hw : ∀ d ∈ tables_1, d.before a0 Z = true) : own_ks "java/util/Arrays" a0 Z kt7 := trivial
theorem hFt7 {a0 : Array Value} {Z : State} (hw : ∀ d ∈ tables_1, d.before a0 Z = true) : own_fs "java/util/Arrays" a0 Z ft7 := trivial
theorem pn7 : plainName "java/util/Arrays" = true := by first | (simp [plainName, overriddenIn]; done) | decide +kernel
theorem pf7 : plainFor (⟨"java/util/Arrays", "fill", "([DD)V"⟩ : MethodName) = true := plainFor_of_name pn7
theorem pd7 : parseMethodDescriptor "([DD)V" = some ⟨[(.array .double), .double], none⟩ := by decide +kernel
def tab8 : List (Nat × Instr) := [(0, .iload_n 1), (1, .iload_n 2), (2, .if_icmp .lt 4), (5, .return_), (6, .aload_n 0), (7, .getfield 25), (10, .iload_n 1), (11, .iadd), (12, .iconst 2), (13, .idiv), (14, .istore_n 3), (15, .aload_n 0), (16, .getfield 25), (19, .iload_n 2), (20, .iadd), (21, .iconst 1), (22, .isub), (23, .iconst 2), (24, .idiv), (25, .istore 4), (27, .iload_n 3), (28, .iconst 1), (29, .if_icmp .lt 60), (32, .iload_n 3), (33, .istore 5), (35, .iload 5), (37, .iload 4), (39, .if_icmp .gt 37), (42, .aload_n 0), (43, .getfield 29), (46, .iload 5), (48, .aload_n 0), (49, .iconst 2), (50, .iload 5), (52, .imul), (53, .invokevirtual 46), (56, .aload_n 0), (57, .iconst 2), (58, .iload 5), (60, .imul), (61, .iconst 1), (62, .iadd), (63, .invokevirtual 46), (66, .invokestatic 50), (69, .dastore), (70, .iinc 5 1), (73, .goto (-38)), (76, .iload_n 3), (77, .iconst 2), (78, .idiv), (79, .istore_n 3), (80, .iload 4), (82, .iconst 2), (83, .idiv), (84, .istore 4), (86, .goto (-59)), (89, .return_)]
set_option maxRecDepth 65536 in
theorem dec8 : own_dec prog_15_method_2_code tab8 := by
  show ∀ e ∈ tab8, decode prog_15_method_2_code e.1 = .ok (e.2, own_len e.2)
  decide +kernel
theorem seq8 : own_seq tab8 = true := by decide +kernel
theorem d8_5 : decode prog_15_method_2_code 5 = .ok (.return_, 1) := by decide +kernel
theorem d8_53 : decode prog_15_method_2_code 53 = .ok (.invokevirtual 46, 3) := by decide +kernel
theorem d8_63 : decode prog_15_method_2_code 63 = .ok (.invokevirtual 46, 3) := by decide +kernel
theorem d8_66 : decode prog_15_method_2_code 66 = .ok (.invokestatic 50, 3) := by decide +kernel
theorem d8_69 : decode prog_15_method_2_code 69 = .ok (.dastore, 1) := by decide +kernel
theorem d8_89 : decode prog_15_method_2_code 89 = .ok (.return_, 1) := by decide +kernel
theorem pn8 : plainName "com/example/binwright/binwright/binning/LeastTree" = true := by first | (simp [plainName, overriddenIn]; done) | decide +kernel
theorem pf8 : plainFor (⟨"com/example/binwright/binwright/binning/LeastTree", "changed", "(II)V"⟩ : MethodName) = true := plainFor_of_name pn8
theorem pd8 : parseMethodDescriptor "(II)V" = some ⟨[.int, .int], none⟩ := by decide +kernel
def tab9 : List (Nat × Instr) := [(0, .iload_n 1), (1, .aload_n 0), (2, .getfield 25), (5, .isub), (6, .istore_n 2), (7, .iload_n 2), (8, .ifCond .ge 13), (11, .aload_n 0), (12, .getfield 29), (15, .iload_n 1), (16, .daload), (17, .dstore_n 3), (18, .goto 26), (21, .iload_n 2), (22, .aload_n 0), (23, .getfield 7), (26, .arraylength), (27, .if_icmp .ge 13), (30, .aload_n 0), (31, .getfield 7), (34, .iload_n 2), (35, .daload), (36, .dstore_n 3), (37, .goto 7), (40, .ldc2_w 34), (43, .dstore_n 3), (44, .dload_n 3), (45, .dreturn)]
set_option maxRecDepth 65536 in
theorem dec9 : own_dec prog_15_method_5_code tab9 := by
  show ∀ e ∈ tab9, decode prog_15_method_5_code e.1 = .ok (e.2, own_len e.2)
  decide +kernel
theorem seq9 : own_seq tab9 = true := by decide +kernel
theorem d9_45 : decode prog_15_method_5_code 45 = .ok (.dreturn, 1) := by decide +kernel
theorem pn9 : plainName "com/example/binwright/binwright/binning/LeastTree" = true := by first | (simp [plainName, overriddenIn]; done) | decide +kernel
theorem pf9 : plainFor (⟨"com/example/binwright/binwright/binning/LeastTree", "at", "(I)D"⟩ : MethodName) = true := plainFor_of_name pn9
theorem pd9 : parseMethodDescriptor "(I)D" = some ⟨[.int], some .double⟩ := by decide +kernel
def tab11 : List (Nat × Instr) := [(0, .iload_n 1), (1, .iload_n 0), (2, .if_icmp .gt 17), (5, .iload_n 0), (6, .iload_n 2), (7, .if_icmp .ge 12), (10, .lload 5), (12, .iload_n 0), (13, .invokestatic 9), (16, .goto 8), (19, .lload_n 3), (20, .iload_n 0), (21, .invokestatic 9), (24, .ireturn)]
set_option maxRecDepth 65536 in
theorem dec11 : own_dec method_3_code tab11 := by
  show ∀ e ∈ tab11, decode method_3_code e.1 = .ok (e.2, own_len e.2)
  decide +kernel
theorem seq11 : own_seq tab11 = true := by decide +kernel
theorem d11_13 : decode method_3_code 13 = .ok (.invokestatic 9, 3) := by decide +kernel
theorem d11_21 : decode method_3_code 21 = .ok (.invokestatic 9, 3) := by decide +kernel
theorem d11_24 : decode method_3_code 24 = .ok (.ireturn, 1) := by decide +kernel
theorem pn11 : plainName "com/example/binwright/binwright/binning/LeastTreeChangedPinLaw" = true := by first | (simp [plainName, overriddenIn]; done) | decide +kernel
theorem pf11 : plainFor (⟨"com/example/binwright/binwright/binning/LeastTreeChangedPinLaw", "pick", "(IIIJJ)I"⟩ : MethodName) = true := plainFor_of_name pn11
theorem pd11 : parseMethodDescriptor "(IIIJJ)I" = some ⟨[.int, .int, .int, .long, .long], some .int⟩ := by decide +kernel
def tab12 : List (Nat × Instr) := [(0, .iload_n 0), (1, .iload_n 1), (2, .if_icmp .gt 7), (5, .iload_n 0), (6, .goto 4), (9, .iload_n 1), (10, .ireturn)]
set_option maxRecDepth 65536 in
theorem dec12 : own_dec jdk_29_method_69_code tab12 := by
  show ∀ e ∈ tab12, decode jdk_29_method_69_code e.1 = .ok (e.2, own_len e.2)
  decide +kernel
theorem seq12 : own_seq tab12 = true := by decide +kernel
theorem d12_10 : decode jdk_29_method_69_code 10 = .ok (.ireturn, 1) := by decide +kernel
theorem pf12 : plainFor (⟨"java/lang/Math", "min", "(II)I"⟩ : MethodName) = true := by decide +kernel
theorem pd12 : parseMethodDescriptor "(II)I" = some ⟨[.int, .int], some .int⟩ := by decide +kernel
def tab13 : List (Nat × Instr) := [(0, .aload_n 0), (1, .getfield 29), (4, .iconst 1), (5, .daload), (6, .dreturn)]
set_option maxRecDepth 65536 in
theorem dec13 : own_dec prog_15_method_3_code tab13 := by
  show ∀ e ∈ tab13, decode prog_15_method_3_code e.1 = .ok (e.2, own_len e.2)
  decide +kernel
theorem seq13 : own_seq tab13 = true := by decide +kernel
theorem d13_6 : decode prog_15_method_3_code 6 = .ok (.dreturn, 1) := by decide +kernel
theorem pn13 : plainName "com/example/binwright/binwright/binning/LeastTree" = true := by first | (simp [plainName, overriddenIn]; done) | decide +kernel
theorem pf13 : plainFor (⟨"com/example/binwright/binwright/binning/LeastTree", "least", "()D"⟩ : MethodName) = true := plainFor_of_name pn13
theorem pd13 : parseMethodDescriptor "()D" = some ⟨[], some .double⟩ := by decide +kernel
def tab14 : List (Nat × Instr) := [(0, .aload_n 0), (1, .getfield 29), (4, .iconst 1), (5, .daload), (6, .dload_n 1), (7, .dcmp .g), (8, .ifCond .le 5), (11, .iconst (-1)), (12, .ireturn), (13, .iconst 1), (14, .istore_n 3), (15, .iload_n 3), (16, .aload_n 0), (17, .getfield 25), (20, .if_icmp .ge 30), (23, .aload_n 0), (24, .iconst 2), (25, .iload_n 3), (26, .imul), (27, .invokevirtual 46), (30, .dload_n 1), (31, .dcmp .g), (32, .ifCond .gt 9), (35, .iconst 2), (36, .iload_n 3), (37, .imul), (38, .goto 8), (41, .iconst 2), (42, .iload_n 3), (43, .imul), (44, .iconst 1), (45, .iadd), (46, .istore_n 3), (47, .goto (-32)), (50, .iload_n 3), (51, .aload_n 0), (52, .getfield 25), (55, .isub), (56, .ireturn)]
set_option maxRecDepth 65536 in
theorem dec14 : own_dec prog_15_method_4_code tab14 := by
  show ∀ e ∈ tab14, decode prog_15_method_4_code e.1 = .ok (e.2, own_len e.2)
  decide +kernel
theorem seq14 : own_seq tab14 = true := by decide +kernel
theorem d14_12 : decode prog_15_method_4_code 12 = .ok (.ireturn, 1) := by decide +kernel
theorem d14_27 : decode prog_15_method_4_code 27 = .ok (.invokevirtual 46, 3) := by decide +kernel
theorem d14_56 : decode prog_15_method_4_code 56 = .ok (.ireturn, 1) := by decide +kernel
theorem pn14 : plainName "com/example/binwright/binwright/binning/LeastTree" = true := by first | (simp [plainName, overriddenIn]; done) | decide +kernel
theorem pf14 : plainFor (⟨"com/example/binwright/binwright/binning/LeastTree", "firstAtMost", "(D)I"⟩ : MethodName) = true := plainFor_of_name pn14
theorem pd14 : parseMethodDescriptor "(D)I" = some ⟨[.double], some .int⟩ := by decide +kernel
def own_val (pk : Int64) (i : Int32) : Int32 := (((Jvm.Free.XT.ushrL pk ((8 : Int32) * i)) &&& (15 : Int64)).toInt32) - (8 : Int32)
set_option maxRecDepth 65536 in
set_option maxHeartbeats 40000000 in
theorem rm1 (l : Launch) (Z : State) (a0 : Array Value) (hw : ∀ d ∈ tables_1, d.before a0 Z = true) (ws : List Jvm.Cond) (pk : Int64) (i : Int32) (h0 : Heap) (n0 : Nat) (Z0 : n0 ≤ h0.size)  :
    own_MF l (⟨"com/example/binwright/binwright/binning/LeastTreeChangedPinLaw", "val", "(JI)I"⟩ : MethodName) method_2_code 3 (some .int) ws ({ frames := 0, cells := 0, slots := 0, locals := 0 } : Room) #[.long pk, .int i] Z h0 (fun v h L => (v = some (.int (own_val pk i))) ∧ L = [] ∧ h = h0) := by
  refine own_body pf1 (ls0 := [.val (.long pk), .second, .val (.int i)]) (fun m => by first | (simp [entryFrame, mkF, argsToLocals, Value.category, maxLocals]; done) | rfl) ?_
  intro p e s m below meth c T0 hx hby hml hown hnm hlk hret hZ X0 e0
  have hK := hKt0 hw; have hF := hFt0 hw
  have N0 := Fr.nil n0
  refine own_blk dec1 seq1 hby hx hZ hown hK hF 10 [] [.int 8, .int 8] X0 e0 ?_
  show ((Int8.ofInt 8).toInt32 = (8 : Int32)) ∧ ((Int8.ofInt 8).toInt32 = (8 : Int32)) ∧ own_Aft X0 h0 _ 14 [zL pk, zS, zI i] [.int ((((Jvm.Free.XT.ushrL pk ((8 : Int32) * i)) &&& (15 : Int64)).toInt32) - (8 : Int32))]
  refine ⟨by decide +kernel, by decide +kernel, fun T1 X1 eh1 => ?_⟩
  exact own_ret X1 hx hlk eh1 hret (by first | rfl | decide) (Or.inl ⟨rfl, by simp, _, rfl⟩) (hb hby d1_14) (by decide) (by decide) (⟨rfl, rfl, rfl⟩)
set_option maxRecDepth 65536 in
set_option maxHeartbeats 40000000 in
theorem rm11 (l : Launch) (Z : State) (a0 : Array Value) (hw : ∀ d ∈ tables_1, d.before a0 Z = true) (ws : List Jvm.Cond) (i f t : Int32) (pk qk : Int64) (h0 : Heap) (n0 : Nat) (Z0 : n0 ≤ h0.size)  :
    own_MF l (⟨"com/example/binwright/binwright/binning/LeastTreeChangedPinLaw", "pick", "(IIIJJ)I"⟩ : MethodName) method_3_code 7 (some .int) ws ({ frames := 1, cells := 0, slots := 0, locals := 16 } : Room) #[.int i, .int f, .int t, .long pk, .long qk] Z h0 (fun v h L => (∃ r : Int32, v = some (.int r) ∧ (¬ (f.toInt ≤ i.toInt ∧ i.toInt < t.toInt) → r = own_val pk i)) ∧ L = [] ∧ h = h0) := by
  refine own_body pf11 (ls0 := [.val (.int i), .val (.int f), .val (.int t), .val (.long pk), .second, .val (.long qk), .second]) (fun m => by first | (simp [entryFrame, mkF, argsToLocals, Value.category, maxLocals]; done) | rfl) ?_
  intro p e s m below meth c T0 hx hby hml hown hnm hlk hret hZ X0 e0
  have hK := hKt0 hw; have hF := hFt0 hw
  have N0 := Fr.nil n0
  by_cases q1 : i.toInt < f.toInt
  · skip
    refine own_blk dec11 seq11 hby hx hZ hown hK hF 5 [true] [] X0 e0 ?_
    show ((i).toInt < (f).toInt) ∧ own_Aft X0 h0 _ 21 [zI i, zI f, zI t, zL pk, zS, zL qk, zS] [.int i, .long pk]
    refine ⟨q1, fun T1 X1 eh1 => ?_⟩
    refine own_callSP X1 hx hZ hown (hw _ (wm 2 rfl)) (hw _ (wm 3 rfl)) (hw _ (wm 4 rfl)) (hw _ (wm 5 rfl)) (by decide) eh1 [.long pk, .int i] pd1 rfl (fr := 0) (lo := 0) (rm1 l Z a0 hw [] pk i h0 n0 Z0) (by rw [hml]; rfl) 0 rfl (Nat.le_of_eq rfl) (hb hby d11_21) (by decide) (by decide) (by decide) (by decide) (fun T2 rv2 X2 eh2 qc2 => ?_)
    obtain rfl := qc2
    show own_Go p.tables e below _ (T2.setTop (mkF m 24 (Array.mk [zI i, zI f, zI t, zL pk, zS, zL qk, zS]) [.int (own_val pk i)]))
    exact own_ret X2 hx hlk eh2 hret (by first | rfl | decide) (Or.inl ⟨rfl, by simp, _, rfl⟩) (hb hby d11_24) (by decide) (by decide) (⟨⟨_, rfl, fun _ => rfl⟩, rfl, rfl⟩)
  · skip
    by_cases q2 : t.toInt ≤ i.toInt
    · skip
      refine own_blk dec11 seq11 hby hx hZ hown hK hF 8 [false, true] [] X0 e0 ?_
      show (¬ ((i).toInt < (f).toInt)) ∧ ((t).toInt ≤ (i).toInt) ∧ own_Aft X0 h0 _ 21 [zI i, zI f, zI t, zL pk, zS, zL qk, zS] [.int i, .long pk]
      refine ⟨q1, q2, fun T3 X3 eh3 => ?_⟩
      refine own_callSP X3 hx hZ hown (hw _ (wm 2 rfl)) (hw _ (wm 3 rfl)) (hw _ (wm 4 rfl)) (hw _ (wm 5 rfl)) (by decide) eh3 [.long pk, .int i] pd1 rfl (fr := 0) (lo := 0) (rm1 l Z a0 hw [] pk i h0 n0 Z0) (by rw [hml]; rfl) 0 rfl (Nat.le_of_eq rfl) (hb hby d11_21) (by decide) (by decide) (by decide) (by decide) (fun T4 rv4 X4 eh4 qc4 => ?_)
      obtain rfl := qc4
      show own_Go p.tables e below _ (T4.setTop (mkF m 24 (Array.mk [zI i, zI f, zI t, zL pk, zS, zL qk, zS]) [.int (own_val pk i)]))
      exact own_ret X4 hx hlk eh4 hret (by first | rfl | decide) (Or.inl ⟨rfl, by simp, _, rfl⟩) (hb hby d11_24) (by decide) (by decide) (⟨⟨_, rfl, fun _ => rfl⟩, rfl, rfl⟩)
    · skip
      refine own_blk dec11 seq11 hby hx hZ hown hK hF 8 [false, false] [] X0 e0 ?_
      show (¬ ((i).toInt < (f).toInt)) ∧ (¬ ((t).toInt ≤ (i).toInt)) ∧ own_Aft X0 h0 _ 13 [zI i, zI f, zI t, zL pk, zS, zL qk, zS] [.int i, .long qk]
      refine ⟨q1, q2, fun T5 X5 eh5 => ?_⟩
      refine own_callSP X5 hx hZ hown (hw _ (wm 2 rfl)) (hw _ (wm 3 rfl)) (hw _ (wm 4 rfl)) (hw _ (wm 5 rfl)) (by decide) eh5 [.long qk, .int i] pd1 rfl (fr := 0) (lo := 0) (rm1 l Z a0 hw [] qk i h0 n0 Z0) (by rw [hml]; rfl) 0 rfl (Nat.le_of_eq rfl) (hb hby d11_13) (by decide) (by decide) (by decide) (by decide) (fun T6 rv6 X6 eh6 qc6 => ?_)
      obtain rfl := qc6
      show own_Go p.tables e below _ (T6.setTop (mkF m 16 (Array.mk [zI i, zI f, zI t, zL pk, zS, zL qk, zS]) [.int (own_val qk i)]))
      refine own_blk dec11 seq11 hby hx hZ hown hK hF 1 [] [] X6 eh6 ?_
      show own_Aft X6 h0 _ 24 [zI i, zI f, zI t, zL pk, zS, zL qk, zS] [.int (own_val qk i)]
      refine fun T7 X7 eh7 => ?_
      exact own_ret X7 hx hlk eh7 hret (by first | rfl | decide) (Or.inl ⟨rfl, by simp, _, rfl⟩) (hb hby d11_24) (by decide) (by decide) (⟨⟨_, rfl, fun q => absurd ⟨by omega, by omega⟩ q⟩, rfl, rfl⟩)
set_option maxRecDepth 65536 in
set_option maxHeartbeats 40000000 in
theorem rm12 (l : Launch) (Z : State) (a0 : Array Value) (hw : ∀ d ∈ tables_1, d.before a0 Z = true) (ws : List Jvm.Cond) (xa xb : Int32) (h0 : Heap) (n0 : Nat) (Z0 : n0 ≤ h0.size)  :
    own_MF l (⟨"java/lang/Math", "min", "(II)I"⟩ : MethodName) jdk_29_method_69_code 2 (some .int) ws ({ frames := 0, cells := 0, slots := 0, locals := 0 } : Room) #[.int xa, .int xb] Z h0 (fun v h L => (∃ r : Int32, v = some (.int r) ∧ r.toInt ≤ xa.toInt ∧ r.toInt ≤ xb.toInt ∧ (r = xa ∨ r = xb)) ∧ L = [] ∧ h = h0) := by
  refine own_body pf12 (ls0 := [.val (.int xa), .val (.int xb)]) (fun m => by first | (simp [entryFrame, mkF, argsToLocals, Value.category, maxLocals]; done) | rfl) ?_
  intro p e s m below meth c T0 hx hby hml hown hnm hlk hret hZ X0 e0
  have hK := hKt4 hw; have hF := hFt4 hw
  have N0 := Fr.nil n0
  by_cases q1 : xb.toInt < xa.toInt
  · skip
    refine own_blk dec12 seq12 hby hx hZ hown hK hF 4 [true] [] X0 e0 ?_
    show ((xb).toInt < (xa).toInt) ∧ own_Aft X0 h0 _ 10 [zI xa, zI xb] [.int xb]
    refine ⟨q1, fun T1 X1 eh1 => ?_⟩
    exact own_ret X1 hx hlk eh1 hret (by first | rfl | decide) (Or.inl ⟨rfl, by simp, _, rfl⟩) (hb hby d12_10) (by decide) (by decide) (⟨⟨_, rfl, by omega, by omega, Or.inr rfl⟩, rfl, rfl⟩)
  · skip
    refine own_blk dec12 seq12 hby hx hZ hown hK hF 5 [false] [] X0 e0 ?_
    show (¬ ((xb).toInt < (xa).toInt)) ∧ own_Aft X0 h0 _ 10 [zI xa, zI xb] [.int xa]
    refine ⟨q1, fun T2 X2 eh2 => ?_⟩
    exact own_ret X2 hx hlk eh2 hret (by first | rfl | decide) (Or.inl ⟨rfl, by simp, _, rfl⟩) (hb hby d12_10) (by decide) (by decide) (⟨⟨_, rfl, by omega, by omega, Or.inl rfl⟩, rfl, rfl⟩)
set_option maxRecDepth 65536 in
set_option maxHeartbeats 40000000 in
theorem rm4_5 (l : Launch) (Z : State) (a0 : Array Value) (hw : ∀ d ∈ tables_1, d.before a0 Z = true) (ws : List Jvm.Cond)  (h0 : Heap) (n0 : Nat) (Z0 : n0 ≤ h0.size)  :
    own_MF l (⟨"java/lang/Math", "max", "(II)I"⟩ : MethodName) jdk_29_method_65_code 2 (some .int) ws ({ frames := 0, cells := 0, slots := 0, locals := 0 } : Room) #[.int 1, .int 4] Z h0 (fun v h L => (v = some (.int 4)) ∧ L = [] ∧ h = h0) := by
  refine own_body pf4 (ls0 := [.val (.int 1), .val (.int 4)]) (fun m => by first | (simp [entryFrame, mkF, argsToLocals, Value.category, maxLocals]; done) | rfl) ?_
  intro p e s m below meth c T0 hx hby hml hown hnm hlk hret hZ X0 e0
  have hK := hKt4 hw; have hF := hFt4 hw
  have N0 := Fr.nil n0
  refine own_blk dec4 seq4 hby hx hZ hown hK hF 4 [true] [] X0 e0 ?_
  show (((1 : Int32)).toInt < ((4 : Int32)).toInt) ∧ own_Aft X0 h0 _ 10 [zI 1, zI 4] [.int 4]
  refine ⟨by decide, fun T1 X1 eh1 => ?_⟩
  exact own_ret X1 hx hlk eh1 hret (by first | rfl | decide) (Or.inl ⟨rfl, by simp, _, rfl⟩) (hb hby d4_10) (by decide) (by decide) (⟨rfl, rfl, rfl⟩)
set_option maxRecDepth 65536 in
set_option maxHeartbeats 40000000 in
theorem rm6_4 (l : Launch) (Z : State) (a0 : Array Value) (hw : ∀ d ∈ tables_1, d.before a0 Z = true) (ws : List Jvm.Cond)  (h0 : Heap) (n0 : Nat) (Z0 : n0 ≤ h0.size)  :
    own_MF l (⟨"java/lang/Integer", "numberOfLeadingZeros", "(I)I"⟩ : MethodName) jdk_33_method_47_code 2 (some .int) ws ({ frames := 0, cells := 0, slots := 0, locals := 0 } : Room) #[.int 4] Z h0 (fun v h L => (v = some (.int 29)) ∧ L = [] ∧ h = h0) := by
  refine own_body pf6 (ls0 := [.val (.int 4), .unset]) (fun m => by first | (simp [entryFrame, mkF, argsToLocals, Value.category, maxLocals]; done) | rfl) ?_
  intro p e s m below meth c T0 hx hby hml hown hnm hlk hret hZ X0 e0
  have hK := hKt5 hw; have hF := hFt5 hw
  have N0 := Fr.nil n0
  refine own_blk dec6 seq6 hby hx hZ hown hK hF 24 [true, true, true, true, false] [.int 31, .int 256, .int 16] X0 e0 ?_
  show (0 < ((4 : Int32)).toInt) ∧ ((Int8.ofInt 31).toInt32 = (31 : Int32)) ∧ (((4 : Int32)).toInt < ((65536 : Int32)).toInt) ∧ ((Int16.ofInt 256).toInt32 = (256 : Int32)) ∧ (((4 : Int32)).toInt < ((256 : Int32)).toInt) ∧ ((Int8.ofInt 16).toInt32 = (16 : Int32)) ∧ (((4 : Int32)).toInt < ((16 : Int32)).toInt) ∧ (¬ (((4 : Int32)).toInt < ((4 : Int32)).toInt)) ∧ own_Aft X0 h0 _ 76 [zI 1, zI 29] [.int 1, .int 1, .int 29]
  refine ⟨by decide, by decide +kernel, by decide, by decide +kernel, by decide, by decide +kernel, by decide, by decide, fun T1 X1 eh1 => ?_⟩
  refine own_blk dec6 seq6 hby hx hZ hown hK hF 2 [] [] X1 eh1 ?_
  show own_Aft X1 h0 _ 78 [zI 1, zI 29] [.int 29]
  refine fun T2 X2 eh2 => ?_
  exact own_ret X2 hx hlk eh2 hret (by first | rfl | decide) (Or.inl ⟨rfl, by simp, _, rfl⟩) (hb hby d6_78) (by decide) (by decide) (⟨rfl, rfl, rfl⟩)
set_option maxRecDepth 65536 in
set_option maxHeartbeats 40000000 in
theorem rm5_4 (l : Launch) (Z : State) (a0 : Array Value) (hw : ∀ d ∈ tables_1, d.before a0 Z = true) (ws : List Jvm.Cond)  (h0 : Heap) (n0 : Nat) (Z0 : n0 ≤ h0.size)  :
    own_MF l (⟨"java/lang/Integer", "highestOneBit", "(I)I"⟩ : MethodName) jdk_33_method_45_code 1 (some .int) ws ({ frames := 1, cells := 0, slots := 0, locals := 16 } : Room) #[.int 4] Z h0 (fun v h L => (v = some (.int 4)) ∧ L = [] ∧ h = h0) := by
  refine own_body pf5 (ls0 := [.val (.int 4)]) (fun m => by first | (simp [entryFrame, mkF, argsToLocals, Value.category, maxLocals]; done) | rfl) ?_
  intro p e s m below meth c T0 hx hby hml hown hnm hlk hret hZ X0 e0
  have hK := hKt5 hw; have hF := hFt5 hw
  have N0 := Fr.nil n0
  refine own_blk dec5 seq5 hby hx hZ hown hK hF 3 [] [] X0 e0 ?_
  show own_Aft X0 h0 _ 4 [zI 4] [.int 4, .int (-2147483648), .int 4]
  refine fun T1 X1 eh1 => ?_
  refine own_callSP X1 hx hZ hown (hw _ (wm 27 rfl)) (hw _ (wm 28 rfl)) (hw _ (wm 24 rfl)) (hw _ (wm 29 rfl)) (by decide) eh1 [.int 4] pd6 rfl (fr := 0) (lo := 0) (rm6_4 l Z a0 hw [] h0 n0 Z0) (by rw [hml]; rfl) 2 rfl (Nat.le_of_eq rfl) (hb hby d5_4) (by decide) (by decide) (by decide) (by decide) (fun T2 rv2 X2 eh2 qc2 => ?_)
  obtain rfl := qc2
  show own_Go p.tables e below _ (T2.setTop (mkF m 7 (Array.mk [zI 4]) [.int 29, .int (-2147483648), .int 4]))
  refine own_blk dec5 seq5 hby hx hZ hown hK hF 2 [] [] X2 eh2 ?_
  show own_Aft X2 h0 _ 9 [zI 4] [.int 4]
  refine fun T3 X3 eh3 => ?_
  exact own_ret X3 hx hlk eh3 hret (by first | rfl | decide) (Or.inl ⟨rfl, by simp, _, rfl⟩) (hb hby d5_9) (by decide) (by decide) (⟨rfl, rfl, rfl⟩)
set_option maxRecDepth 65536 in
set_option maxHeartbeats 40000000 in
theorem rm7_8 (l : Launch) (Z : State) (a0 : Array Value) (hw : ∀ d ∈ tables_1, d.before a0 Z = true) (ws : List Jvm.Cond) (la : Addr) (h0 : Heap) (n0 : Nat) (Z0 : n0 ≤ h0.size) (nl : n0 ≤ la) (A1 : own_A Z h0 la .double [.double 0, .double 0, .double 0, .double 0, .double 0, .double 0, .double 0, .double 0]) :
    own_MF l (⟨"java/util/Arrays", "fill", "([DD)V"⟩ : MethodName) jdk_65_method_113_code 5 none ws ({ frames := 0, cells := 0, slots := 0, locals := 0 } : Room) #[.ref la, .double 9218868437227405312] Z h0 (fun v h L => v = none ∧ Fr n0 L ∧ Keep h0 h [la] ∧ own_A Z h la .double [.double 9218868437227405312, .double 9218868437227405312, .double 9218868437227405312, .double 9218868437227405312, .double 9218868437227405312, .double 9218868437227405312, .double 9218868437227405312, .double 9218868437227405312]) := by
  refine own_body pf7 (ls0 := [.val (.ref la), .val (.double 9218868437227405312), .second, .unset, .unset]) (fun m => by first | (simp [entryFrame, mkF, argsToLocals, Value.category, maxLocals]; done) | rfl) ?_
  intro p e s m below meth c T0 hx hby hml hown hnm hlk hret hZ X0 e0
  have hK := hKt7 hw; have hF := hFt7 hw
  have N0 := Fr.nil n0
  have K0 := Keep.refl h0 [la]
  refine own_blk dec7 seq7 hby hx hZ hown hK hF 11 [false] [.int 8] X0 e0 ?_
  show (own_ln Z h0 la (8 : Int32)) ∧ (¬ (((8 : Int32)).toInt ≤ ((0 : Int32)).toInt)) ∧ own_Aft X0 h0 _ 15 [zA la, zD 9218868437227405312, zS, zI 0, zI 8] [.double 9218868437227405312, .int 0, .ref la]
  refine ⟨A1.ln (8 : Int32) rfl, by decide, fun T1 X1 eh1 => ?_⟩
  refine own_sD X1 hx hZ eh1 A1 0 rfl (by show 0 < 8; decide) (hb hby d7_15) (fun T2 hp2 X2 eh2 Wr2 Ar2 => ?_)
  have Ar2' : own_A Z hp2 la .double [.double 9218868437227405312, .double 0, .double 0, .double 0, .double 0, .double 0, .double 0, .double 0] := Ar2
  have Nf2 := Fr.snoc X2 N0 nl
  have Z_2 : n0 ≤ hp2.size := by rw [Wr.size Wr2]; exact Z0
  have K_2 := Keep.wr K0 Wr2 (Or.inl (List.mem_of_getElem? (i := 0) rfl))
  refine own_blk dec7 seq7 hby hx hZ hown hK hF 8 [false] [] X2 eh2 ?_
  show (¬ (((8 : Int32)).toInt ≤ ((1 : Int32)).toInt)) ∧ own_Aft X2 hp2 _ 15 [zA la, zD 9218868437227405312, zS, zI 1, zI 8] [.double 9218868437227405312, .int 1, .ref la]
  refine ⟨by decide, fun T3 X3 eh3 => ?_⟩
  refine own_sD X3 hx hZ eh3 Ar2' 1 rfl (by show 1 < 8; decide) (hb hby d7_15) (fun T4 hp4 X4 eh4 Wr4 Ar4 => ?_)
  have Ar4' : own_A Z hp4 la .double [.double 9218868437227405312, .double 9218868437227405312, .double 0, .double 0, .double 0, .double 0, .double 0, .double 0] := Ar4
  have Nf4 := Fr.snoc X4 Nf2 nl
  have Z_4 : n0 ≤ hp4.size := by rw [Wr.size Wr4]; exact Z_2
  have K_4 := Keep.wr K_2 Wr4 (Or.inl (List.mem_of_getElem? (i := 0) rfl))
  refine own_blk dec7 seq7 hby hx hZ hown hK hF 8 [false] [] X4 eh4 ?_
  show (¬ (((8 : Int32)).toInt ≤ ((2 : Int32)).toInt)) ∧ own_Aft X4 hp4 _ 15 [zA la, zD 9218868437227405312, zS, zI 2, zI 8] [.double 9218868437227405312, .int 2, .ref la]
  refine ⟨by decide, fun T5 X5 eh5 => ?_⟩
  refine own_sD X5 hx hZ eh5 Ar4' 2 rfl (by show 2 < 8; decide) (hb hby d7_15) (fun T6 hp6 X6 eh6 Wr6 Ar6 => ?_)
  have Ar6' : own_A Z hp6 la .double [.double 9218868437227405312, .double 9218868437227405312, .double 9218868437227405312, .double 0, .double 0, .double 0, .double 0, .double 0] := Ar6
  have Nf6 := Fr.snoc X6 Nf4 nl
  have Z_6 : n0 ≤ hp6.size := by rw [Wr.size Wr6]; exact Z_4
  have K_6 := Keep.wr K_4 Wr6 (Or.inl (List.mem_of_getElem? (i := 0) rfl))
  refine own_blk dec7 seq7 hby hx hZ hown hK hF 8 [false] [] X6 eh6 ?_
  show (¬ (((8 : Int32)).toInt ≤ ((3 : Int32)).toInt)) ∧ own_Aft X6 hp6 _ 15 [zA la, zD 9218868437227405312, zS, zI 3, zI 8] [.double 9218868437227405312, .int 3, .ref la]
  refine ⟨by decide, fun T7 X7 eh7 => ?_⟩
  refine own_sD X7 hx hZ eh7 Ar6' 3 rfl (by show 3 < 8; decide) (hb hby d7_15) (fun T8 hp8 X8 eh8 Wr8 Ar8 => ?_)
  have Ar8' : own_A Z hp8 la .double [.double 9218868437227405312, .double 9218868437227405312, .double 9218868437227405312, .double 9218868437227405312, .double 0, .double 0, .double 0, .double 0] := Ar8
  have Nf8 := Fr.snoc X8 Nf6 nl
  have Z_8 : n0 ≤ hp8.size := by rw [Wr.size Wr8]; exact Z_6
  have K_8 := Keep.wr K_6 Wr8 (Or.inl (List.mem_of_getElem? (i := 0) rfl))
  refine own_blk dec7 seq7 hby hx hZ hown hK hF 8 [false] [] X8 eh8 ?_
  show (¬ (((8 : Int32)).toInt ≤ ((4 : Int32)).toInt)) ∧ own_Aft X8 hp8 _ 15 [zA la, zD 9218868437227405312, zS, zI 4, zI 8] [.double 9218868437227405312, .int 4, .ref la]
  refine ⟨by decide, fun T9 X9 eh9 => ?_⟩
  refine own_sD X9 hx hZ eh9 Ar8' 4 rfl (by show 4 < 8; decide) (hb hby d7_15) (fun T10 hp10 X10 eh10 Wr10 Ar10 => ?_)
  have Ar10' : own_A Z hp10 la .double [.double 9218868437227405312, .double 9218868437227405312, .double 9218868437227405312, .double 9218868437227405312, .double 9218868437227405312, .double 0, .double 0, .double 0] := Ar10
  have Nf10 := Fr.snoc X10 Nf8 nl
  have Z_10 : n0 ≤ hp10.size := by rw [Wr.size Wr10]; exact Z_8
  have K_10 := Keep.wr K_8 Wr10 (Or.inl (List.mem_of_getElem? (i := 0) rfl))
  refine own_blk dec7 seq7 hby hx hZ hown hK hF 8 [false] [] X10 eh10 ?_
  show (¬ (((8 : Int32)).toInt ≤ ((5 : Int32)).toInt)) ∧ own_Aft X10 hp10 _ 15 [zA la, zD 9218868437227405312, zS, zI 5, zI 8] [.double 9218868437227405312, .int 5, .ref la]
  refine ⟨by decide, fun T11 X11 eh11 => ?_⟩
  refine own_sD X11 hx hZ eh11 Ar10' 5 rfl (by show 5 < 8; decide) (hb hby d7_15) (fun T12 hp12 X12 eh12 Wr12 Ar12 => ?_)
  have Ar12' : own_A Z hp12 la .double [.double 9218868437227405312, .double 9218868437227405312, .double 9218868437227405312, .double 9218868437227405312, .double 9218868437227405312, .double 9218868437227405312, .double 0, .double 0] := Ar12
  have Nf12 := Fr.snoc X12 Nf10 nl
  have Z_12 : n0 ≤ hp12.size := by rw [Wr.size Wr12]; exact Z_10
  have K_12 := Keep.wr K_10 Wr12 (Or.inl (List.mem_of_getElem? (i := 0) rfl))
  refine own_blk dec7 seq7 hby hx hZ hown hK hF 8 [false] [] X12 eh12 ?_
  show (¬ (((8 : Int32)).toInt ≤ ((6 : Int32)).toInt)) ∧ own_Aft X12 hp12 _ 15 [zA la, zD 9218868437227405312, zS, zI 6, zI 8] [.double 9218868437227405312, .int 6, .ref la]
  refine ⟨by decide, fun T13 X13 eh13 => ?_⟩
  refine own_sD X13 hx hZ eh13 Ar12' 6 rfl (by show 6 < 8; decide) (hb hby d7_15) (fun T14 hp14 X14 eh14 Wr14 Ar14 => ?_)
  have Ar14' : own_A Z hp14 la .double [.double 9218868437227405312, .double 9218868437227405312, .double 9218868437227405312, .double 9218868437227405312, .double 9218868437227405312, .double 9218868437227405312, .double 9218868437227405312, .double 0] := Ar14
  have Nf14 := Fr.snoc X14 Nf12 nl
  have Z_14 : n0 ≤ hp14.size := by rw [Wr.size Wr14]; exact Z_12
  have K_14 := Keep.wr K_12 Wr14 (Or.inl (List.mem_of_getElem? (i := 0) rfl))
  refine own_blk dec7 seq7 hby hx hZ hown hK hF 8 [false] [] X14 eh14 ?_
  show (¬ (((8 : Int32)).toInt ≤ ((7 : Int32)).toInt)) ∧ own_Aft X14 hp14 _ 15 [zA la, zD 9218868437227405312, zS, zI 7, zI 8] [.double 9218868437227405312, .int 7, .ref la]
  refine ⟨by decide, fun T15 X15 eh15 => ?_⟩
  refine own_sD X15 hx hZ eh15 Ar14' 7 rfl (by show 7 < 8; decide) (hb hby d7_15) (fun T16 hp16 X16 eh16 Wr16 Ar16 => ?_)
  have Ar16' : own_A Z hp16 la .double [.double 9218868437227405312, .double 9218868437227405312, .double 9218868437227405312, .double 9218868437227405312, .double 9218868437227405312, .double 9218868437227405312, .double 9218868437227405312, .double 9218868437227405312] := Ar16
  have Nf16 := Fr.snoc X16 Nf14 nl
  have Z_16 : n0 ≤ hp16.size := by rw [Wr.size Wr16]; exact Z_14
  have K_16 := Keep.wr K_14 Wr16 (Or.inl (List.mem_of_getElem? (i := 0) rfl))
  refine own_blk dec7 seq7 hby hx hZ hown hK hF 5 [true] [] X16 eh16 ?_
  show (((8 : Int32)).toInt ≤ ((8 : Int32)).toInt) ∧ own_Aft X16 hp16 _ 22 [zA la, zD 9218868437227405312, zS, zI 8, zI 8] []
  refine ⟨by decide, fun T17 X17 eh17 => ?_⟩
  exact own_retV X17 hx hlk eh17 hret (hb hby d7_22) (by decide) (by decide) (⟨rfl, Nf16, K_16, Ar16'⟩)
set_option maxRecDepth 65536 in
set_option maxHeartbeats 40000000 in
theorem rm9_l (l : Launch) (Z : State) (a0 : Array Value) (hw : ∀ d ∈ tables_1, d.before a0 Z = true) (ws : List Jvm.Cond) (a la va : Addr) (i lv ln : Int32) (r : UInt64) (h0 : Heap) (n0 : Nat) (Z0 : n0 ≤ h0.size) (F1 : Fld Z h0 a "com/example/binwright/binwright/binning/LeastTree" "leaves" "I" (.int lv)) (F2 : Fld Z h0 a "com/example/binwright/binwright/binning/LeastTree" "least" "[D" (.ref la)) (F3 : Fld Z h0 a "com/example/binwright/binwright/binning/LeastTree" "values" "[D" (.ref va)) (G2 : own_ln Z h0 va ln) (c1 : (i - lv).toInt < 0) (G1 : own_at Z h0 la .double i (.double r)) :
    own_MF l (⟨"com/example/binwright/binwright/binning/LeastTree", "at", "(I)D"⟩ : MethodName) prog_15_method_5_code 5 (some .double) ws ({ frames := 0, cells := 0, slots := 0, locals := 0 } : Room) #[.ref a, .int i] Z h0 (fun v h L => (v = some (.double r)) ∧ L = [] ∧ h = h0) := by
  refine own_body pf9 (ls0 := [.val (.ref a), .val (.int i), .unset, .unset, .unset]) (fun m => by first | (simp [entryFrame, mkF, argsToLocals, Value.category, maxLocals]; done) | rfl) ?_
  intro p e s m below meth c T0 hx hby hml hown hnm hlk hret hZ X0 e0
  have hK := hKt2 hw; have hF := hFt2 hw
  have N0 := Fr.nil n0
  refine own_blk dec9 seq9 hby hx hZ hown hK hF 14 [false] [.int lv, .ref la, .double r] X0 e0 ?_
  show (Fld Z h0 a "com/example/binwright/binwright/binning/LeastTree" "leaves" "I" (.int lv)) ∧ (¬ (0 ≤ (i - lv).toInt)) ∧ (Fld Z h0 a "com/example/binwright/binwright/binning/LeastTree" "least" "[D" (.ref la)) ∧ (own_at Z h0 la .double i (.double r)) ∧ own_Aft X0 h0 _ 45 [zA a, zI i, zI (i - lv), zD r, zS] [.double r]
  refine ⟨F1, by omega, F2, G1, fun T1 X1 eh1 => ?_⟩
  try subst er
  exact own_ret X1 hx hlk eh1 hret (by first | rfl | decide) (Or.inr (Or.inr (Or.inl ⟨rfl, rfl, _, rfl⟩))) (hb hby d9_45) (by decide) (by decide) (⟨rfl, rfl, rfl⟩)
set_option maxRecDepth 65536 in
set_option maxHeartbeats 40000000 in
theorem rm9_v (l : Launch) (Z : State) (a0 : Array Value) (hw : ∀ d ∈ tables_1, d.before a0 Z = true) (ws : List Jvm.Cond) (a la va : Addr) (i lv ln : Int32) (r : UInt64) (h0 : Heap) (n0 : Nat) (Z0 : n0 ≤ h0.size) (F1 : Fld Z h0 a "com/example/binwright/binwright/binning/LeastTree" "leaves" "I" (.int lv)) (F2 : Fld Z h0 a "com/example/binwright/binwright/binning/LeastTree" "least" "[D" (.ref la)) (F3 : Fld Z h0 a "com/example/binwright/binwright/binning/LeastTree" "values" "[D" (.ref va)) (G2 : own_ln Z h0 va ln) (c1 : 0 ≤ (i - lv).toInt) (c2 : (i - lv).toInt < ln.toInt) (G1 : own_at Z h0 va .double (i - lv) (.double r)) :
    own_MF l (⟨"com/example/binwright/binwright/binning/LeastTree", "at", "(I)D"⟩ : MethodName) prog_15_method_5_code 5 (some .double) ws ({ frames := 0, cells := 0, slots := 0, locals := 0 } : Room) #[.ref a, .int i] Z h0 (fun v h L => (v = some (.double r)) ∧ L = [] ∧ h = h0) := by
  refine own_body pf9 (ls0 := [.val (.ref a), .val (.int i), .unset, .unset, .unset]) (fun m => by first | (simp [entryFrame, mkF, argsToLocals, Value.category, maxLocals]; done) | rfl) ?_
  intro p e s m below meth c T0 hx hby hml hown hnm hlk hret hZ X0 e0
  have hK := hKt2 hw; have hF := hFt2 hw
  have N0 := Fr.nil n0
  refine own_blk dec9 seq9 hby hx hZ hown hK hF 19 [true, false] [.int lv, .ref va, .int ln, .ref va, .double r] X0 e0 ?_
  show (Fld Z h0 a "com/example/binwright/binwright/binning/LeastTree" "leaves" "I" (.int lv)) ∧ (0 ≤ (i - lv).toInt) ∧ (Fld Z h0 a "com/example/binwright/binwright/binning/LeastTree" "values" "[D" (.ref va)) ∧ (own_ln Z h0 va ln) ∧ (¬ ((ln).toInt ≤ (i - lv).toInt)) ∧ (Fld Z h0 a "com/example/binwright/binwright/binning/LeastTree" "values" "[D" (.ref va)) ∧ (own_at Z h0 va .double (i - lv) (.double r)) ∧ own_Aft X0 h0 _ 45 [zA a, zI i, zI (i - lv), zD r, zS] [.double r]
  refine ⟨F1, by omega, F3, G2, by omega, F3, G1, fun T1 X1 eh1 => ?_⟩
  try subst er
  exact own_ret X1 hx hlk eh1 hret (by first | rfl | decide) (Or.inr (Or.inr (Or.inl ⟨rfl, rfl, _, rfl⟩))) (hb hby d9_45) (by decide) (by decide) (⟨rfl, rfl, rfl⟩)
set_option maxRecDepth 65536 in
set_option maxHeartbeats 40000000 in
theorem rm9_o (l : Launch) (Z : State) (a0 : Array Value) (hw : ∀ d ∈ tables_1, d.before a0 Z = true) (ws : List Jvm.Cond) (a la va : Addr) (i lv ln : Int32) (r : UInt64) (h0 : Heap) (n0 : Nat) (Z0 : n0 ≤ h0.size) (F1 : Fld Z h0 a "com/example/binwright/binwright/binning/LeastTree" "leaves" "I" (.int lv)) (F2 : Fld Z h0 a "com/example/binwright/binwright/binning/LeastTree" "least" "[D" (.ref la)) (F3 : Fld Z h0 a "com/example/binwright/binwright/binning/LeastTree" "values" "[D" (.ref va)) (G2 : own_ln Z h0 va ln) (c1 : 0 ≤ (i - lv).toInt) (c2 : ln.toInt ≤ (i - lv).toInt) (er : r = 9218868437227405312) :
    own_MF l (⟨"com/example/binwright/binwright/binning/LeastTree", "at", "(I)D"⟩ : MethodName) prog_15_method_5_code 5 (some .double) ws ({ frames := 0, cells := 0, slots := 0, locals := 0 } : Room) #[.ref a, .int i] Z h0 (fun v h L => (v = some (.double r)) ∧ L = [] ∧ h = h0) := by
  refine own_body pf9 (ls0 := [.val (.ref a), .val (.int i), .unset, .unset, .unset]) (fun m => by first | (simp [entryFrame, mkF, argsToLocals, Value.category, maxLocals]; done) | rfl) ?_
  intro p e s m below meth c T0 hx hby hml hown hnm hlk hret hZ X0 e0
  have hK := hKt2 hw; have hF := hFt2 hw
  have N0 := Fr.nil n0
  refine own_blk dec9 seq9 hby hx hZ hown hK hF 15 [true, true] [.int lv, .ref va, .int ln] X0 e0 ?_
  show (Fld Z h0 a "com/example/binwright/binwright/binning/LeastTree" "leaves" "I" (.int lv)) ∧ (0 ≤ (i - lv).toInt) ∧ (Fld Z h0 a "com/example/binwright/binwright/binning/LeastTree" "values" "[D" (.ref va)) ∧ (own_ln Z h0 va ln) ∧ ((ln).toInt ≤ (i - lv).toInt) ∧ own_Aft X0 h0 _ 45 [zA a, zI i, zI (i - lv), zD 9218868437227405312, zS] [.double 9218868437227405312]
  refine ⟨F1, by omega, F3, G2, by omega, fun T1 X1 eh1 => ?_⟩
  try subst er
  exact own_ret X1 hx hlk eh1 hret (by first | rfl | decide) (Or.inr (Or.inr (Or.inl ⟨rfl, rfl, _, rfl⟩))) (hb hby d9_45) (by decide) (by decide) (⟨rfl, rfl, rfl⟩)
set_option maxRecDepth 65536 in
set_option maxHeartbeats 40000000 in
theorem rm8_5 (l : Launch) (Z : State) (a0 : Array Value) (hw : ∀ d ∈ tables_1, d.before a0 Z = true) (ws : List Jvm.Cond) (a la va : Addr) (v0 v1 v2 v3 v4 : UInt64) (h0 : Heap) (n0 : Nat) (Z0 : n0 ≤ h0.size) (EX : Exa Z h0 a "com/example/binwright/binwright/binning/LeastTree") (nl : n0 ≤ la) (nav : va ≠ la) (nal : a ≠ la) (F1 : Fld Z h0 a "com/example/binwright/binwright/binning/LeastTree" "leaves" "I" (.int (8 : Int32))) (F2 : Fld Z h0 a "com/example/binwright/binwright/binning/LeastTree" "least" "[D" (.ref la)) (F3 : Fld Z h0 a "com/example/binwright/binwright/binning/LeastTree" "values" "[D" (.ref va)) (Al : own_A Z h0 la .double [.double 9218868437227405312, .double 9218868437227405312, .double 9218868437227405312, .double 9218868437227405312, .double 9218868437227405312, .double 9218868437227405312, .double 9218868437227405312, .double 9218868437227405312]) (Av : own_A Z h0 va .double [.double v0, .double v1, .double v2, .double v3, .double v4]) (Nv0 : own_num v0) (Nv1 : own_num v1) (Nv2 : own_num v2) (Nv3 : own_num v3) (Nv4 : own_num v4) :
    own_MF l (⟨"com/example/binwright/binwright/binning/LeastTree", "changed", "(II)V"⟩ : MethodName) prog_15_method_2_code 6 none ws ({ frames := 1, cells := 0, slots := 0, locals := 24 } : Room) #[.ref a, .int 0, .int 5] Z h0 (fun v h L => v = none ∧ Fr n0 L ∧ Keep h0 h [la] ∧ ∃ (r4 r5 r6 r2 r3 r1 : UInt64), own_A Z h la .double [.double 9218868437227405312, .double r1, .double r2, .double r3, .double r4, .double r5, .double r6, .double 9218868437227405312] ∧ own_mn r4 v0 v1 ∧ own_mn r5 v2 v3 ∧ own_mn r6 v4 9218868437227405312 ∧ own_mn r2 r4 r5 ∧ own_mn r3 r6 9218868437227405312 ∧ own_mn r1 r2 r3) := by
  refine own_body pf8 (ls0 := [.val (.ref a), .val (.int 0), .val (.int 5), .unset, .unset, .unset]) (fun m => by first | (simp [entryFrame, mkF, argsToLocals, Value.category, maxLocals]; done) | rfl) ?_
  intro p e s m below meth c T0 hx hby hml hown hnm hlk hret hZ X0 e0
  have hK := hKt2 hw; have hF := hFt2 hw
  have N0 := Fr.nil n0
  have K0 := Keep.refl h0 [la]
  refine own_blk dec8 seq8 hby hx hZ hown hK hF 24 [true, false] [.int 8, .int 8] X0 e0 ?_
  show (((0 : Int32)).toInt < ((5 : Int32)).toInt) ∧ (Fld Z h0 a "com/example/binwright/binwright/binning/LeastTree" "leaves" "I" (.int 8)) ∧ ((2 : Int32) ≠ 0) ∧ (Fld Z h0 a "com/example/binwright/binwright/binning/LeastTree" "leaves" "I" (.int 8)) ∧ ((2 : Int32) ≠ 0) ∧ (¬ (((4 : Int32)).toInt < ((1 : Int32)).toInt)) ∧ own_Aft X0 h0 _ 35 [zA a, zI 0, zI 5, zI 4, zI 6, zI 4] []
  refine ⟨by decide, F1, by decide, F1, by decide, by decide, fun T1 X1 eh1 => ?_⟩
  refine own_blk dec8 seq8 hby hx hZ hown hK hF 10 [false] [.ref la] X1 eh1 ?_
  show (¬ (((6 : Int32)).toInt < ((4 : Int32)).toInt)) ∧ (Fld Z h0 a "com/example/binwright/binwright/binning/LeastTree" "least" "[D" (.ref la)) ∧ own_Aft X1 h0 _ 53 [zA a, zI 0, zI 5, zI 4, zI 6, zI 4] [.int 8, .ref a, .int 4, .ref la]
  refine ⟨by decide, F2, fun T2 X2 eh2 => ?_⟩
  refine own_callPP X2 hx hZ hown (hw _ (wm 45 rfl)) (hw _ (wm 47 rfl)) (hw _ (wm 8 rfl)) (hw _ (wm 46 rfl)) (hw _ (wm 9 rfl)) (hw _ (wm 48 rfl)) (by decide) eh2 EX [.int 8] pd9 rfl (fr := 0) (lo := 0) (rm9_v l Z a0 hw [] a la va (8 : Int32) (8 : Int32) (5 : Int32) v0 h0 n0 Z0 F1 F2 F3 (Av.ln (5 : Int32) rfl) (by decide) (by decide) (Av.at ((8 : Int32) - (8 : Int32)) 0 rfl rfl)) (by rw [hml]; rfl) 2 rfl (Nat.le_of_eq rfl) (hb hby d8_53) (by decide) (by decide) (by decide) (by decide) (fun T3 rv3 X3 eh3 qc3 => ?_)
  obtain rfl := qc3
  show own_Go p.tables e below _ (T3.setTop (mkF m 56 (Array.mk [zA a, zI 0, zI 5, zI 4, zI 6, zI 4]) [.double v0, .int 4, .ref la]))
  refine own_blk dec8 seq8 hby hx hZ hown hK hF 6 [] [] X3 eh3 ?_
  show own_Aft X3 h0 _ 63 [zA a, zI 0, zI 5, zI 4, zI 6, zI 4] [.int 9, .ref a, .double v0, .int 4, .ref la]
  refine fun T4 X4 eh4 => ?_
  refine own_callPP X4 hx hZ hown (hw _ (wm 45 rfl)) (hw _ (wm 47 rfl)) (hw _ (wm 8 rfl)) (hw _ (wm 46 rfl)) (hw _ (wm 9 rfl)) (hw _ (wm 48 rfl)) (by decide) eh4 EX [.int 9] pd9 rfl (fr := 0) (lo := 0) (rm9_v l Z a0 hw [] a la va (9 : Int32) (8 : Int32) (5 : Int32) v1 h0 n0 Z0 F1 F2 F3 (Av.ln (5 : Int32) rfl) (by decide) (by decide) (Av.at ((9 : Int32) - (8 : Int32)) 1 rfl rfl)) (by rw [hml]; rfl) 4 rfl (Nat.le_of_eq rfl) (hb hby d8_63) (by decide) (by decide) (by decide) (by decide) (fun T5 rv5 X5 eh5 qc5 => ?_)
  obtain rfl := qc5
  show own_Go p.tables e below _ (T5.setTop (mkF m 66 (Array.mk [zA a, zI 0, zI 5, zI 4, zI 6, zI 4]) [.double v1, .double v0, .int 4, .ref la]))
  refine own_minDD X5 hx hZ hown (by decide +kernel) (hw _ (wm 49 rfl)) (hw _ (wm 50 rfl)) (hw _ (wm 20 rfl)) (hw _ (wm 51 rfl)) eh5 (own_nn Nv0) (own_nn Nv1) (by rw [hml]; rfl) 2 (Nat.le_of_eq rfl) (hb hby d8_66) (by decide) (by decide) (by decide) (by decide) (fun T6 X6 eh6 => ?_)
  have Hr4 := own_pick Nv0 Nv1
  generalize Native.java_lang_Math.nans.pick64 false v0 v1 = r4 at Hr4 ⊢
  show own_Go p.tables e below _ (T6.setTop (mkF m 69 (Array.mk [zA a, zI 0, zI 5, zI 4, zI 6, zI 4]) [.double r4, .int 4, .ref la]))
  refine own_sD X6 hx hZ eh6 Al 4 rfl (by show 4 < 8; decide) (hb hby d8_69) (fun T7 hp7 X7 eh7 Wr7 Ar7 => ?_)
  have Ar7' : own_A Z hp7 la .double [.double 9218868437227405312, .double 9218868437227405312, .double 9218868437227405312, .double 9218868437227405312, .double r4, .double 9218868437227405312, .double 9218868437227405312, .double 9218868437227405312] := Ar7
  have Av_7 := Av.other Wr7 nav
  have EX_7 := Exa.wr Wr7 EX
  have F1_7 := Fld.other Wr7 F1 (Or.inl nal)
  have F2_7 := Fld.other Wr7 F2 (Or.inl nal)
  have F3_7 := Fld.other Wr7 F3 (Or.inl nal)
  have Nf7 := Fr.snoc X7 N0 nl
  have Z_7 : n0 ≤ hp7.size := by rw [Wr.size Wr7]; exact Z0
  have K_7 := Keep.wr K0 Wr7 (Or.inl (List.mem_of_getElem? (i := 0) rfl))
  refine own_blk dec8 seq8 hby hx hZ hown hK hF 12 [false] [.ref la] X7 eh7 ?_
  show (¬ (((6 : Int32)).toInt < ((5 : Int32)).toInt)) ∧ (Fld Z hp7 a "com/example/binwright/binwright/binning/LeastTree" "least" "[D" (.ref la)) ∧ own_Aft X7 hp7 _ 53 [zA a, zI 0, zI 5, zI 4, zI 6, zI 5] [.int 10, .ref a, .int 5, .ref la]
  refine ⟨by decide, F2_7, fun T8 X8 eh8 => ?_⟩
  refine own_callPP X8 hx hZ hown (hw _ (wm 45 rfl)) (hw _ (wm 47 rfl)) (hw _ (wm 8 rfl)) (hw _ (wm 46 rfl)) (hw _ (wm 9 rfl)) (hw _ (wm 48 rfl)) (by decide) eh8 EX_7 [.int 10] pd9 rfl (fr := 0) (lo := 0) (rm9_v l Z a0 hw [] a la va (10 : Int32) (8 : Int32) (5 : Int32) v2 hp7 n0 Z_7 F1_7 F2_7 F3_7 (Av_7.ln (5 : Int32) rfl) (by decide) (by decide) (Av_7.at ((10 : Int32) - (8 : Int32)) 2 rfl rfl)) (by rw [hml]; rfl) 2 rfl (Nat.le_of_eq rfl) (hb hby d8_53) (by decide) (by decide) (by decide) (by decide) (fun T9 rv9 X9 eh9 qc9 => ?_)
  obtain rfl := qc9
  show own_Go p.tables e below _ (T9.setTop (mkF m 56 (Array.mk [zA a, zI 0, zI 5, zI 4, zI 6, zI 5]) [.double v2, .int 5, .ref la]))
  refine own_blk dec8 seq8 hby hx hZ hown hK hF 6 [] [] X9 eh9 ?_
  show own_Aft X9 hp7 _ 63 [zA a, zI 0, zI 5, zI 4, zI 6, zI 5] [.int 11, .ref a, .double v2, .int 5, .ref la]
  refine fun T10 X10 eh10 => ?_
  refine own_callPP X10 hx hZ hown (hw _ (wm 45 rfl)) (hw _ (wm 47 rfl)) (hw _ (wm 8 rfl)) (hw _ (wm 46 rfl)) (hw _ (wm 9 rfl)) (hw _ (wm 48 rfl)) (by decide) eh10 EX_7 [.int 11] pd9 rfl (fr := 0) (lo := 0) (rm9_v l Z a0 hw [] a la va (11 : Int32) (8 : Int32) (5 : Int32) v3 hp7 n0 Z_7 F1_7 F2_7 F3_7 (Av_7.ln (5 : Int32) rfl) (by decide) (by decide) (Av_7.at ((11 : Int32) - (8 : Int32)) 3 rfl rfl)) (by rw [hml]; rfl) 4 rfl (Nat.le_of_eq rfl) (hb hby d8_63) (by decide) (by decide) (by decide) (by decide) (fun T11 rv11 X11 eh11 qc11 => ?_)
  obtain rfl := qc11
  show own_Go p.tables e below _ (T11.setTop (mkF m 66 (Array.mk [zA a, zI 0, zI 5, zI 4, zI 6, zI 5]) [.double v3, .double v2, .int 5, .ref la]))
  refine own_minDD X11 hx hZ hown (by decide +kernel) (hw _ (wm 49 rfl)) (hw _ (wm 50 rfl)) (hw _ (wm 20 rfl)) (hw _ (wm 51 rfl)) eh11 (own_nn Nv2) (own_nn Nv3) (by rw [hml]; rfl) 2 (Nat.le_of_eq rfl) (hb hby d8_66) (by decide) (by decide) (by decide) (by decide) (fun T12 X12 eh12 => ?_)
  have Hr5 := own_pick Nv2 Nv3
  generalize Native.java_lang_Math.nans.pick64 false v2 v3 = r5 at Hr5 ⊢
  show own_Go p.tables e below _ (T12.setTop (mkF m 69 (Array.mk [zA a, zI 0, zI 5, zI 4, zI 6, zI 5]) [.double r5, .int 5, .ref la]))
  refine own_sD X12 hx hZ eh12 Ar7' 5 rfl (by show 5 < 8; decide) (hb hby d8_69) (fun T13 hp13 X13 eh13 Wr13 Ar13 => ?_)
  have Ar13' : own_A Z hp13 la .double [.double 9218868437227405312, .double 9218868437227405312, .double 9218868437227405312, .double 9218868437227405312, .double r4, .double r5, .double 9218868437227405312, .double 9218868437227405312] := Ar13
  have Av_13 := Av_7.other Wr13 nav
  have EX_13 := Exa.wr Wr13 EX_7
  have F1_13 := Fld.other Wr13 F1_7 (Or.inl nal)
  have F2_13 := Fld.other Wr13 F2_7 (Or.inl nal)
  have F3_13 := Fld.other Wr13 F3_7 (Or.inl nal)
  have Nf13 := Fr.snoc X13 Nf7 nl
  have Z_13 : n0 ≤ hp13.size := by rw [Wr.size Wr13]; exact Z_7
  have K_13 := Keep.wr K_7 Wr13 (Or.inl (List.mem_of_getElem? (i := 0) rfl))
  refine own_blk dec8 seq8 hby hx hZ hown hK hF 12 [false] [.ref la] X13 eh13 ?_
  show (¬ (((6 : Int32)).toInt < ((6 : Int32)).toInt)) ∧ (Fld Z hp13 a "com/example/binwright/binwright/binning/LeastTree" "least" "[D" (.ref la)) ∧ own_Aft X13 hp13 _ 53 [zA a, zI 0, zI 5, zI 4, zI 6, zI 6] [.int 12, .ref a, .int 6, .ref la]
  refine ⟨by decide, F2_13, fun T14 X14 eh14 => ?_⟩
  refine own_callPP X14 hx hZ hown (hw _ (wm 45 rfl)) (hw _ (wm 47 rfl)) (hw _ (wm 8 rfl)) (hw _ (wm 46 rfl)) (hw _ (wm 9 rfl)) (hw _ (wm 48 rfl)) (by decide) eh14 EX_13 [.int 12] pd9 rfl (fr := 0) (lo := 0) (rm9_v l Z a0 hw [] a la va (12 : Int32) (8 : Int32) (5 : Int32) v4 hp13 n0 Z_13 F1_13 F2_13 F3_13 (Av_13.ln (5 : Int32) rfl) (by decide) (by decide) (Av_13.at ((12 : Int32) - (8 : Int32)) 4 rfl rfl)) (by rw [hml]; rfl) 2 rfl (Nat.le_of_eq rfl) (hb hby d8_53) (by decide) (by decide) (by decide) (by decide) (fun T15 rv15 X15 eh15 qc15 => ?_)
  obtain rfl := qc15
  show own_Go p.tables e below _ (T15.setTop (mkF m 56 (Array.mk [zA a, zI 0, zI 5, zI 4, zI 6, zI 6]) [.double v4, .int 6, .ref la]))
  refine own_blk dec8 seq8 hby hx hZ hown hK hF 6 [] [] X15 eh15 ?_
  show own_Aft X15 hp13 _ 63 [zA a, zI 0, zI 5, zI 4, zI 6, zI 6] [.int 13, .ref a, .double v4, .int 6, .ref la]
  refine fun T16 X16 eh16 => ?_
  refine own_callPP X16 hx hZ hown (hw _ (wm 45 rfl)) (hw _ (wm 47 rfl)) (hw _ (wm 8 rfl)) (hw _ (wm 46 rfl)) (hw _ (wm 9 rfl)) (hw _ (wm 48 rfl)) (by decide) eh16 EX_13 [.int 13] pd9 rfl (fr := 0) (lo := 0) (rm9_o l Z a0 hw [] a la va (13 : Int32) (8 : Int32) (5 : Int32) 9218868437227405312 hp13 n0 Z_13 F1_13 F2_13 F3_13 (Av_13.ln (5 : Int32) rfl) (by decide) (by decide) rfl) (by rw [hml]; rfl) 4 rfl (Nat.le_of_eq rfl) (hb hby d8_63) (by decide) (by decide) (by decide) (by decide) (fun T17 rv17 X17 eh17 qc17 => ?_)
  obtain rfl := qc17
  show own_Go p.tables e below _ (T17.setTop (mkF m 66 (Array.mk [zA a, zI 0, zI 5, zI 4, zI 6, zI 6]) [.double 9218868437227405312, .double v4, .int 6, .ref la]))
  refine own_minDD X17 hx hZ hown (by decide +kernel) (hw _ (wm 49 rfl)) (hw _ (wm 50 rfl)) (hw _ (wm 20 rfl)) (hw _ (wm 51 rfl)) eh17 (own_nn Nv4) (own_nn own_infn) (by rw [hml]; rfl) 2 (Nat.le_of_eq rfl) (hb hby d8_66) (by decide) (by decide) (by decide) (by decide) (fun T18 X18 eh18 => ?_)
  have Hr6 := own_pick Nv4 own_infn
  generalize Native.java_lang_Math.nans.pick64 false v4 9218868437227405312 = r6 at Hr6 ⊢
  show own_Go p.tables e below _ (T18.setTop (mkF m 69 (Array.mk [zA a, zI 0, zI 5, zI 4, zI 6, zI 6]) [.double r6, .int 6, .ref la]))
  refine own_sD X18 hx hZ eh18 Ar13' 6 rfl (by show 6 < 8; decide) (hb hby d8_69) (fun T19 hp19 X19 eh19 Wr19 Ar19 => ?_)
  have Ar19' : own_A Z hp19 la .double [.double 9218868437227405312, .double 9218868437227405312, .double 9218868437227405312, .double 9218868437227405312, .double r4, .double r5, .double r6, .double 9218868437227405312] := Ar19
  have Av_19 := Av_13.other Wr19 nav
  have EX_19 := Exa.wr Wr19 EX_13
  have F1_19 := Fld.other Wr19 F1_13 (Or.inl nal)
  have F2_19 := Fld.other Wr19 F2_13 (Or.inl nal)
  have F3_19 := Fld.other Wr19 F3_13 (Or.inl nal)
  have Nf19 := Fr.snoc X19 Nf13 nl
  have Z_19 : n0 ≤ hp19.size := by rw [Wr.size Wr19]; exact Z_13
  have K_19 := Keep.wr K_13 Wr19 (Or.inl (List.mem_of_getElem? (i := 0) rfl))
  refine own_blk dec8 seq8 hby hx hZ hown hK hF 24 [true, false, false] [.ref la] X19 eh19 ?_
  show (((6 : Int32)).toInt < ((7 : Int32)).toInt) ∧ ((2 : Int32) ≠ 0) ∧ ((2 : Int32) ≠ 0) ∧ (¬ (((2 : Int32)).toInt < ((1 : Int32)).toInt)) ∧ (¬ (((3 : Int32)).toInt < ((2 : Int32)).toInt)) ∧ (Fld Z hp19 a "com/example/binwright/binwright/binning/LeastTree" "least" "[D" (.ref la)) ∧ own_Aft X19 hp19 _ 46 [zA a, zI 0, zI 5, zI 2, zI 3, zI 2] [.ref la]
  refine ⟨by decide, by decide, by decide, by decide, by decide, F2_19, fun T20 X20 eh20 => ?_⟩
  refine own_blk dec8 seq8 hby hx hZ hown hK hF 5 [] [] X20 eh20 ?_
  show own_Aft X20 hp19 _ 53 [zA a, zI 0, zI 5, zI 2, zI 3, zI 2] [.int 4, .ref a, .int 2, .ref la]
  refine fun T21 X21 eh21 => ?_
  refine own_callPP X21 hx hZ hown (hw _ (wm 45 rfl)) (hw _ (wm 47 rfl)) (hw _ (wm 8 rfl)) (hw _ (wm 46 rfl)) (hw _ (wm 9 rfl)) (hw _ (wm 48 rfl)) (by decide) eh21 EX_19 [.int 4] pd9 rfl (fr := 0) (lo := 0) (rm9_l l Z a0 hw [] a la va (4 : Int32) (8 : Int32) (5 : Int32) r4 hp19 n0 Z_19 F1_19 F2_19 F3_19 (Av_19.ln (5 : Int32) rfl) (by decide) (Ar19'.at (4 : Int32) 4 rfl rfl)) (by rw [hml]; rfl) 2 rfl (Nat.le_of_eq rfl) (hb hby d8_53) (by decide) (by decide) (by decide) (by decide) (fun T22 rv22 X22 eh22 qc22 => ?_)
  obtain rfl := qc22
  show own_Go p.tables e below _ (T22.setTop (mkF m 56 (Array.mk [zA a, zI 0, zI 5, zI 2, zI 3, zI 2]) [.double r4, .int 2, .ref la]))
  refine own_blk dec8 seq8 hby hx hZ hown hK hF 6 [] [] X22 eh22 ?_
  show own_Aft X22 hp19 _ 63 [zA a, zI 0, zI 5, zI 2, zI 3, zI 2] [.int 5, .ref a, .double r4, .int 2, .ref la]
  refine fun T23 X23 eh23 => ?_
  refine own_callPP X23 hx hZ hown (hw _ (wm 45 rfl)) (hw _ (wm 47 rfl)) (hw _ (wm 8 rfl)) (hw _ (wm 46 rfl)) (hw _ (wm 9 rfl)) (hw _ (wm 48 rfl)) (by decide) eh23 EX_19 [.int 5] pd9 rfl (fr := 0) (lo := 0) (rm9_l l Z a0 hw [] a la va (5 : Int32) (8 : Int32) (5 : Int32) r5 hp19 n0 Z_19 F1_19 F2_19 F3_19 (Av_19.ln (5 : Int32) rfl) (by decide) (Ar19'.at (5 : Int32) 5 rfl rfl)) (by rw [hml]; rfl) 4 rfl (Nat.le_of_eq rfl) (hb hby d8_63) (by decide) (by decide) (by decide) (by decide) (fun T24 rv24 X24 eh24 qc24 => ?_)
  obtain rfl := qc24
  show own_Go p.tables e below _ (T24.setTop (mkF m 66 (Array.mk [zA a, zI 0, zI 5, zI 2, zI 3, zI 2]) [.double r5, .double r4, .int 2, .ref la]))
  refine own_minDD X24 hx hZ hown (by decide +kernel) (hw _ (wm 49 rfl)) (hw _ (wm 50 rfl)) (hw _ (wm 20 rfl)) (hw _ (wm 51 rfl)) eh24 (own_nn Hr4.1) (own_nn Hr5.1) (by rw [hml]; rfl) 2 (Nat.le_of_eq rfl) (hb hby d8_66) (by decide) (by decide) (by decide) (by decide) (fun T25 X25 eh25 => ?_)
  have Hr2 := own_pick Hr4.1 Hr5.1
  generalize Native.java_lang_Math.nans.pick64 false r4 r5 = r2 at Hr2 ⊢
  show own_Go p.tables e below _ (T25.setTop (mkF m 69 (Array.mk [zA a, zI 0, zI 5, zI 2, zI 3, zI 2]) [.double r2, .int 2, .ref la]))
  refine own_sD X25 hx hZ eh25 Ar19' 2 rfl (by show 2 < 8; decide) (hb hby d8_69) (fun T26 hp26 X26 eh26 Wr26 Ar26 => ?_)
  have Ar26' : own_A Z hp26 la .double [.double 9218868437227405312, .double 9218868437227405312, .double r2, .double 9218868437227405312, .double r4, .double r5, .double r6, .double 9218868437227405312] := Ar26
  have Av_26 := Av_19.other Wr26 nav
  have EX_26 := Exa.wr Wr26 EX_19
  have F1_26 := Fld.other Wr26 F1_19 (Or.inl nal)
  have F2_26 := Fld.other Wr26 F2_19 (Or.inl nal)
  have F3_26 := Fld.other Wr26 F3_19 (Or.inl nal)
  have Nf26 := Fr.snoc X26 Nf19 nl
  have Z_26 : n0 ≤ hp26.size := by rw [Wr.size Wr26]; exact Z_19
  have K_26 := Keep.wr K_19 Wr26 (Or.inl (List.mem_of_getElem? (i := 0) rfl))
  refine own_blk dec8 seq8 hby hx hZ hown hK hF 12 [false] [.ref la] X26 eh26 ?_
  show (¬ (((3 : Int32)).toInt < ((3 : Int32)).toInt)) ∧ (Fld Z hp26 a "com/example/binwright/binwright/binning/LeastTree" "least" "[D" (.ref la)) ∧ own_Aft X26 hp26 _ 53 [zA a, zI 0, zI 5, zI 2, zI 3, zI 3] [.int 6, .ref a, .int 3, .ref la]
  refine ⟨by decide, F2_26, fun T27 X27 eh27 => ?_⟩
  refine own_callPP X27 hx hZ hown (hw _ (wm 45 rfl)) (hw _ (wm 47 rfl)) (hw _ (wm 8 rfl)) (hw _ (wm 46 rfl)) (hw _ (wm 9 rfl)) (hw _ (wm 48 rfl)) (by decide) eh27 EX_26 [.int 6] pd9 rfl (fr := 0) (lo := 0) (rm9_l l Z a0 hw [] a la va (6 : Int32) (8 : Int32) (5 : Int32) r6 hp26 n0 Z_26 F1_26 F2_26 F3_26 (Av_26.ln (5 : Int32) rfl) (by decide) (Ar26'.at (6 : Int32) 6 rfl rfl)) (by rw [hml]; rfl) 2 rfl (Nat.le_of_eq rfl) (hb hby d8_53) (by decide) (by decide) (by decide) (by decide) (fun T28 rv28 X28 eh28 qc28 => ?_)
  obtain rfl := qc28
  show own_Go p.tables e below _ (T28.setTop (mkF m 56 (Array.mk [zA a, zI 0, zI 5, zI 2, zI 3, zI 3]) [.double r6, .int 3, .ref la]))
  refine own_blk dec8 seq8 hby hx hZ hown hK hF 6 [] [] X28 eh28 ?_
  show own_Aft X28 hp26 _ 63 [zA a, zI 0, zI 5, zI 2, zI 3, zI 3] [.int 7, .ref a, .double r6, .int 3, .ref la]
  refine fun T29 X29 eh29 => ?_
  refine own_callPP X29 hx hZ hown (hw _ (wm 45 rfl)) (hw _ (wm 47 rfl)) (hw _ (wm 8 rfl)) (hw _ (wm 46 rfl)) (hw _ (wm 9 rfl)) (hw _ (wm 48 rfl)) (by decide) eh29 EX_26 [.int 7] pd9 rfl (fr := 0) (lo := 0) (rm9_l l Z a0 hw [] a la va (7 : Int32) (8 : Int32) (5 : Int32) 9218868437227405312 hp26 n0 Z_26 F1_26 F2_26 F3_26 (Av_26.ln (5 : Int32) rfl) (by decide) (Ar26'.at (7 : Int32) 7 rfl rfl)) (by rw [hml]; rfl) 4 rfl (Nat.le_of_eq rfl) (hb hby d8_63) (by decide) (by decide) (by decide) (by decide) (fun T30 rv30 X30 eh30 qc30 => ?_)
  obtain rfl := qc30
  show own_Go p.tables e below _ (T30.setTop (mkF m 66 (Array.mk [zA a, zI 0, zI 5, zI 2, zI 3, zI 3]) [.double 9218868437227405312, .double r6, .int 3, .ref la]))
  refine own_minDD X30 hx hZ hown (by decide +kernel) (hw _ (wm 49 rfl)) (hw _ (wm 50 rfl)) (hw _ (wm 20 rfl)) (hw _ (wm 51 rfl)) eh30 (own_nn Hr6.1) (own_nn own_infn) (by rw [hml]; rfl) 2 (Nat.le_of_eq rfl) (hb hby d8_66) (by decide) (by decide) (by decide) (by decide) (fun T31 X31 eh31 => ?_)
  have Hr3 := own_pick Hr6.1 own_infn
  generalize Native.java_lang_Math.nans.pick64 false r6 9218868437227405312 = r3 at Hr3 ⊢
  show own_Go p.tables e below _ (T31.setTop (mkF m 69 (Array.mk [zA a, zI 0, zI 5, zI 2, zI 3, zI 3]) [.double r3, .int 3, .ref la]))
  refine own_sD X31 hx hZ eh31 Ar26' 3 rfl (by show 3 < 8; decide) (hb hby d8_69) (fun T32 hp32 X32 eh32 Wr32 Ar32 => ?_)
  have Ar32' : own_A Z hp32 la .double [.double 9218868437227405312, .double 9218868437227405312, .double r2, .double r3, .double r4, .double r5, .double r6, .double 9218868437227405312] := Ar32
  have Av_32 := Av_26.other Wr32 nav
  have EX_32 := Exa.wr Wr32 EX_26
  have F1_32 := Fld.other Wr32 F1_26 (Or.inl nal)
  have F2_32 := Fld.other Wr32 F2_26 (Or.inl nal)
  have F3_32 := Fld.other Wr32 F3_26 (Or.inl nal)
  have Nf32 := Fr.snoc X32 Nf26 nl
  have Z_32 : n0 ≤ hp32.size := by rw [Wr.size Wr32]; exact Z_26
  have K_32 := Keep.wr K_26 Wr32 (Or.inl (List.mem_of_getElem? (i := 0) rfl))
  refine own_blk dec8 seq8 hby hx hZ hown hK hF 24 [true, false, false] [.ref la] X32 eh32 ?_
  show (((3 : Int32)).toInt < ((4 : Int32)).toInt) ∧ ((2 : Int32) ≠ 0) ∧ ((2 : Int32) ≠ 0) ∧ (¬ (((1 : Int32)).toInt < ((1 : Int32)).toInt)) ∧ (¬ (((1 : Int32)).toInt < ((1 : Int32)).toInt)) ∧ (Fld Z hp32 a "com/example/binwright/binwright/binning/LeastTree" "least" "[D" (.ref la)) ∧ own_Aft X32 hp32 _ 46 [zA a, zI 0, zI 5, zI 1, zI 1, zI 1] [.ref la]
  refine ⟨by decide, by decide, by decide, by decide, by decide, F2_32, fun T33 X33 eh33 => ?_⟩
  refine own_blk dec8 seq8 hby hx hZ hown hK hF 5 [] [] X33 eh33 ?_
  show own_Aft X33 hp32 _ 53 [zA a, zI 0, zI 5, zI 1, zI 1, zI 1] [.int 2, .ref a, .int 1, .ref la]
  refine fun T34 X34 eh34 => ?_
  refine own_callPP X34 hx hZ hown (hw _ (wm 45 rfl)) (hw _ (wm 47 rfl)) (hw _ (wm 8 rfl)) (hw _ (wm 46 rfl)) (hw _ (wm 9 rfl)) (hw _ (wm 48 rfl)) (by decide) eh34 EX_32 [.int 2] pd9 rfl (fr := 0) (lo := 0) (rm9_l l Z a0 hw [] a la va (2 : Int32) (8 : Int32) (5 : Int32) r2 hp32 n0 Z_32 F1_32 F2_32 F3_32 (Av_32.ln (5 : Int32) rfl) (by decide) (Ar32'.at (2 : Int32) 2 rfl rfl)) (by rw [hml]; rfl) 2 rfl (Nat.le_of_eq rfl) (hb hby d8_53) (by decide) (by decide) (by decide) (by decide) (fun T35 rv35 X35 eh35 qc35 => ?_)
  obtain rfl := qc35
  show own_Go p.tables e below _ (T35.setTop (mkF m 56 (Array.mk [zA a, zI 0, zI 5, zI 1, zI 1, zI 1]) [.double r2, .int 1, .ref la]))
  refine own_blk dec8 seq8 hby hx hZ hown hK hF 6 [] [] X35 eh35 ?_
  show own_Aft X35 hp32 _ 63 [zA a, zI 0, zI 5, zI 1, zI 1, zI 1] [.int 3, .ref a, .double r2, .int 1, .ref la]
  refine fun T36 X36 eh36 => ?_
  refine own_callPP X36 hx hZ hown (hw _ (wm 45 rfl)) (hw _ (wm 47 rfl)) (hw _ (wm 8 rfl)) (hw _ (wm 46 rfl)) (hw _ (wm 9 rfl)) (hw _ (wm 48 rfl)) (by decide) eh36 EX_32 [.int 3] pd9 rfl (fr := 0) (lo := 0) (rm9_l l Z a0 hw [] a la va (3 : Int32) (8 : Int32) (5 : Int32) r3 hp32 n0 Z_32 F1_32 F2_32 F3_32 (Av_32.ln (5 : Int32) rfl) (by decide) (Ar32'.at (3 : Int32) 3 rfl rfl)) (by rw [hml]; rfl) 4 rfl (Nat.le_of_eq rfl) (hb hby d8_63) (by decide) (by decide) (by decide) (by decide) (fun T37 rv37 X37 eh37 qc37 => ?_)
  obtain rfl := qc37
  show own_Go p.tables e below _ (T37.setTop (mkF m 66 (Array.mk [zA a, zI 0, zI 5, zI 1, zI 1, zI 1]) [.double r3, .double r2, .int 1, .ref la]))
  refine own_minDD X37 hx hZ hown (by decide +kernel) (hw _ (wm 49 rfl)) (hw _ (wm 50 rfl)) (hw _ (wm 20 rfl)) (hw _ (wm 51 rfl)) eh37 (own_nn Hr2.1) (own_nn Hr3.1) (by rw [hml]; rfl) 2 (Nat.le_of_eq rfl) (hb hby d8_66) (by decide) (by decide) (by decide) (by decide) (fun T38 X38 eh38 => ?_)
  have Hr1 := own_pick Hr2.1 Hr3.1
  generalize Native.java_lang_Math.nans.pick64 false r2 r3 = r1 at Hr1 ⊢
  show own_Go p.tables e below _ (T38.setTop (mkF m 69 (Array.mk [zA a, zI 0, zI 5, zI 1, zI 1, zI 1]) [.double r1, .int 1, .ref la]))
  refine own_sD X38 hx hZ eh38 Ar32' 1 rfl (by show 1 < 8; decide) (hb hby d8_69) (fun T39 hp39 X39 eh39 Wr39 Ar39 => ?_)
  have Ar39' : own_A Z hp39 la .double [.double 9218868437227405312, .double r1, .double r2, .double r3, .double r4, .double r5, .double r6, .double 9218868437227405312] := Ar39
  have Av_39 := Av_32.other Wr39 nav
  have EX_39 := Exa.wr Wr39 EX_32
  have F1_39 := Fld.other Wr39 F1_32 (Or.inl nal)
  have F2_39 := Fld.other Wr39 F2_32 (Or.inl nal)
  have F3_39 := Fld.other Wr39 F3_32 (Or.inl nal)
  have Nf39 := Fr.snoc X39 Nf32 nl
  have Z_39 : n0 ≤ hp39.size := by rw [Wr.size Wr39]; exact Z_32
  have K_39 := Keep.wr K_32 Wr39 (Or.inl (List.mem_of_getElem? (i := 0) rfl))
  refine own_blk dec8 seq8 hby hx hZ hown hK hF 17 [true, true] [] X39 eh39 ?_
  show (((1 : Int32)).toInt < ((2 : Int32)).toInt) ∧ ((2 : Int32) ≠ 0) ∧ ((2 : Int32) ≠ 0) ∧ (((0 : Int32)).toInt < ((1 : Int32)).toInt) ∧ own_Aft X39 hp39 _ 89 [zA a, zI 0, zI 5, zI 0, zI 0, zI 2] []
  refine ⟨by decide, by decide, by decide, by decide, fun T40 X40 eh40 => ?_⟩
  exact own_retV X40 hx hlk eh40 hret (hb hby d8_89) (by decide) (by decide) (⟨rfl, Nf39, K_39, r4, r5, r6, r2, r3, r1, Ar39', Hr4, Hr5, Hr6, Hr2, Hr3, Hr1⟩)
set_option maxRecDepth 65536 in
set_option maxHeartbeats 40000000 in
theorem rm14_5 (l : Launch) (Z : State) (a0 : Array Value) (hw : ∀ d ∈ tables_1, d.before a0 Z = true) (ws : List Jvm.Cond) (a la va : Addr) (v0 v1 v2 v3 v4 r1 r2 r3 r4 r5 r6 x : UInt64) (h0 : Heap) (n0 : Nat) (Z0 : n0 ≤ h0.size) (EX : Exa Z h0 a "com/example/binwright/binwright/binning/LeastTree") (F1 : Fld Z h0 a "com/example/binwright/binwright/binning/LeastTree" "leaves" "I" (.int (8 : Int32))) (F2 : Fld Z h0 a "com/example/binwright/binwright/binning/LeastTree" "least" "[D" (.ref la)) (F3 : Fld Z h0 a "com/example/binwright/binwright/binning/LeastTree" "values" "[D" (.ref va)) (Al : own_A Z h0 la .double [.double 9218868437227405312, .double r1, .double r2, .double r3, .double r4, .double r5, .double r6, .double 9218868437227405312]) (Av : own_A Z h0 va .double [.double v0, .double v1, .double v2, .double v3, .double v4]) (Nv0 : own_num v0) (Nv1 : own_num v1) (Nv2 : own_num v2) (Nv3 : own_num v3) (Nv4 : own_num v4) (Nr1 : own_num r1) (Nr2 : own_num r2) (Nr3 : own_num r3) (Nr4 : own_num r4) (Nr5 : own_num r5) (Nr6 : own_num r6) (Nx : own_num x) :
    own_MF l (⟨"com/example/binwright/binwright/binning/LeastTree", "firstAtMost", "(D)I"⟩ : MethodName) prog_15_method_4_code 4 (some .int) ws ({ frames := 1, cells := 0, slots := 0, locals := 24 } : Room) #[.ref a, .double x] Z h0 (fun v h L => (∃ r : Int32, v = some (.int r) ∧ ((r = -1 ∧ own_z x < own_z r1) ∨ (r = 0 ∧ own_z r1 ≤ own_z x ∧ own_z r2 ≤ own_z x ∧ own_z r4 ≤ own_z x ∧ own_z v0 ≤ own_z x) ∨ (r = 1 ∧ own_z r1 ≤ own_z x ∧ own_z r2 ≤ own_z x ∧ own_z r4 ≤ own_z x ∧ own_z x < own_z v0) ∨ (r = 2 ∧ own_z r1 ≤ own_z x ∧ own_z r2 ≤ own_z x ∧ own_z x < own_z r4 ∧ own_z v2 ≤ own_z x) ∨ (r = 3 ∧ own_z r1 ≤ own_z x ∧ own_z r2 ≤ own_z x ∧ own_z x < own_z r4 ∧ own_z x < own_z v2) ∨ (r = 4 ∧ own_z r1 ≤ own_z x ∧ own_z x < own_z r2 ∧ own_z r6 ≤ own_z x ∧ own_z v4 ≤ own_z x) ∨ (r = 5 ∧ own_z r1 ≤ own_z x ∧ own_z x < own_z r2 ∧ own_z r6 ≤ own_z x ∧ own_z x < own_z v4) ∨ (r = 6 ∧ own_z r1 ≤ own_z x ∧ own_z x < own_z r2 ∧ own_z x < own_z r6 ∧ own_z 9218868437227405312 ≤ own_z x) ∨ (r = 7 ∧ own_z r1 ≤ own_z x ∧ own_z x < own_z r2 ∧ own_z x < own_z r6 ∧ own_z x < own_z 9218868437227405312))) ∧ L = [] ∧ h = h0) := by
  refine own_body pf14 (ls0 := [.val (.ref a), .val (.double x), .second, .unset]) (fun m => by first | (simp [entryFrame, mkF, argsToLocals, Value.category, maxLocals]; done) | rfl) ?_
  intro p e s m below meth c T0 hx hby hml hown hnm hlk hret hZ X0 e0
  have hK := hKt2 hw; have hF := hFt2 hw
  have N0 := Fr.nil n0
  rcases Int.lt_or_le (own_z x) (own_z r1) with q0 | q0
  · skip
    refine own_blk dec14 seq14 hby hx hZ hown hK hF 8 [false] [.ref la, .double r1] X0 e0 ?_
    show (Fld Z h0 a "com/example/binwright/binwright/binning/LeastTree" "least" "[D" (.ref la)) ∧ (own_at Z h0 la .double (1 : Int32) (.double r1)) ∧ (¬ ((cmpValue (FP.dcmp r1 x) .g).toInt ≤ 0)) ∧ own_Aft X0 h0 _ 12 [zA a, zD x, zS, zU] [.int (-1)]
    refine ⟨F2, Al.at (1 : Int32) 1 rfl rfl, by have := own_ggt (k := .g) Nr1 Nx q0; omega, fun T1 X1 eh1 => ?_⟩
    exact own_ret X1 hx hlk eh1 hret (by first | rfl | decide) (Or.inl ⟨rfl, by simp, _, rfl⟩) (hb hby d14_12) (by decide) (by decide) (⟨⟨_, rfl, Or.inl (⟨rfl, q0⟩)⟩, rfl, rfl⟩)
  · skip
    refine own_blk dec14 seq14 hby hx hZ hown hK hF 9 [true] [.ref la, .double r1] X0 e0 ?_
    show (Fld Z h0 a "com/example/binwright/binwright/binning/LeastTree" "least" "[D" (.ref la)) ∧ (own_at Z h0 la .double (1 : Int32) (.double r1)) ∧ ((cmpValue (FP.dcmp r1 x) .g).toInt ≤ 0) ∧ own_Aft X0 h0 _ 15 [zA a, zD x, zS, zI 1] []
    refine ⟨F2, Al.at (1 : Int32) 1 rfl rfl, own_gle Nr1 Nx q0, fun T2 X2 eh2 => ?_⟩
    refine own_blk dec14 seq14 hby hx hZ hown hK hF 8 [false] [.int 8] X2 eh2 ?_
    show (Fld Z h0 a "com/example/binwright/binwright/binning/LeastTree" "leaves" "I" (.int 8)) ∧ (¬ (((8 : Int32)).toInt ≤ ((1 : Int32)).toInt)) ∧ own_Aft X2 h0 _ 27 [zA a, zD x, zS, zI 1] [.int 2, .ref a]
    refine ⟨F1, by decide, fun T3 X3 eh3 => ?_⟩
    refine own_callPP X3 hx hZ hown (hw _ (wm 45 rfl)) (hw _ (wm 47 rfl)) (hw _ (wm 8 rfl)) (hw _ (wm 46 rfl)) (hw _ (wm 9 rfl)) (hw _ (wm 48 rfl)) (by decide) eh3 EX [.int 2] pd9 rfl (fr := 0) (lo := 0) (rm9_l l Z a0 hw [] a la va (2 : Int32) (8 : Int32) (5 : Int32) r2 h0 n0 Z0 F1 F2 F3 (Av.ln (5 : Int32) rfl) (by decide) (Al.at (2 : Int32) 2 rfl rfl)) (by rw [hml]; rfl) 0 rfl (Nat.le_of_eq rfl) (hb hby d14_27) (by decide) (by decide) (by decide) (by decide) (fun T4 rv4 X4 eh4 qc4 => ?_)
    obtain rfl := qc4
    show own_Go p.tables e below _ (T4.setTop (mkF m 30 (Array.mk [zA a, zD x, zS, zI 1]) [.double r2]))
    rcases Int.lt_or_le (own_z x) (own_z r2) with q1 | q1
    · skip
      refine own_blk dec14 seq14 hby hx hZ hown hK hF 10 [true] [] X4 eh4 ?_
      show (0 < (cmpValue (FP.dcmp r2 x) .g).toInt) ∧ own_Aft X4 h0 _ 15 [zA a, zD x, zS, zI 3] []
      refine ⟨own_ggt Nr2 Nx q1, fun T5 X5 eh5 => ?_⟩
      refine own_blk dec14 seq14 hby hx hZ hown hK hF 8 [false] [.int 8] X5 eh5 ?_
      show (Fld Z h0 a "com/example/binwright/binwright/binning/LeastTree" "leaves" "I" (.int 8)) ∧ (¬ (((8 : Int32)).toInt ≤ ((3 : Int32)).toInt)) ∧ own_Aft X5 h0 _ 27 [zA a, zD x, zS, zI 3] [.int 6, .ref a]
      refine ⟨F1, by decide, fun T6 X6 eh6 => ?_⟩
      refine own_callPP X6 hx hZ hown (hw _ (wm 45 rfl)) (hw _ (wm 47 rfl)) (hw _ (wm 8 rfl)) (hw _ (wm 46 rfl)) (hw _ (wm 9 rfl)) (hw _ (wm 48 rfl)) (by decide) eh6 EX [.int 6] pd9 rfl (fr := 0) (lo := 0) (rm9_l l Z a0 hw [] a la va (6 : Int32) (8 : Int32) (5 : Int32) r6 h0 n0 Z0 F1 F2 F3 (Av.ln (5 : Int32) rfl) (by decide) (Al.at (6 : Int32) 6 rfl rfl)) (by rw [hml]; rfl) 0 rfl (Nat.le_of_eq rfl) (hb hby d14_27) (by decide) (by decide) (by decide) (by decide) (fun T7 rv7 X7 eh7 qc7 => ?_)
      obtain rfl := qc7
      show own_Go p.tables e below _ (T7.setTop (mkF m 30 (Array.mk [zA a, zD x, zS, zI 3]) [.double r6]))
      rcases Int.lt_or_le (own_z x) (own_z r6) with q3 | q3
      · skip
        refine own_blk dec14 seq14 hby hx hZ hown hK hF 10 [true] [] X7 eh7 ?_
        show (0 < (cmpValue (FP.dcmp r6 x) .g).toInt) ∧ own_Aft X7 h0 _ 15 [zA a, zD x, zS, zI 7] []
        refine ⟨own_ggt Nr6 Nx q3, fun T8 X8 eh8 => ?_⟩
        refine own_blk dec14 seq14 hby hx hZ hown hK hF 8 [false] [.int 8] X8 eh8 ?_
        show (Fld Z h0 a "com/example/binwright/binwright/binning/LeastTree" "leaves" "I" (.int 8)) ∧ (¬ (((8 : Int32)).toInt ≤ ((7 : Int32)).toInt)) ∧ own_Aft X8 h0 _ 27 [zA a, zD x, zS, zI 7] [.int 14, .ref a]
        refine ⟨F1, by decide, fun T9 X9 eh9 => ?_⟩
        refine own_callPP X9 hx hZ hown (hw _ (wm 45 rfl)) (hw _ (wm 47 rfl)) (hw _ (wm 8 rfl)) (hw _ (wm 46 rfl)) (hw _ (wm 9 rfl)) (hw _ (wm 48 rfl)) (by decide) eh9 EX [.int 14] pd9 rfl (fr := 0) (lo := 0) (rm9_o l Z a0 hw [] a la va (14 : Int32) (8 : Int32) (5 : Int32) 9218868437227405312 h0 n0 Z0 F1 F2 F3 (Av.ln (5 : Int32) rfl) (by decide) (by decide) rfl) (by rw [hml]; rfl) 0 rfl (Nat.le_of_eq rfl) (hb hby d14_27) (by decide) (by decide) (by decide) (by decide) (fun T10 rv10 X10 eh10 qc10 => ?_)
        obtain rfl := qc10
        show own_Go p.tables e below _ (T10.setTop (mkF m 30 (Array.mk [zA a, zD x, zS, zI 7]) [.double 9218868437227405312]))
        rcases Int.lt_or_le (own_z x) (own_z 9218868437227405312) with q7 | q7
        · skip
          refine own_blk dec14 seq14 hby hx hZ hown hK hF 10 [true] [] X10 eh10 ?_
          show (0 < (cmpValue (FP.dcmp 9218868437227405312 x) .g).toInt) ∧ own_Aft X10 h0 _ 15 [zA a, zD x, zS, zI 15] []
          refine ⟨own_ggt own_infn Nx q7, fun T11 X11 eh11 => ?_⟩
          refine own_blk dec14 seq14 hby hx hZ hown hK hF 8 [true] [.int 8, .int 8] X11 eh11 ?_
          show (Fld Z h0 a "com/example/binwright/binwright/binning/LeastTree" "leaves" "I" (.int 8)) ∧ (((8 : Int32)).toInt ≤ ((15 : Int32)).toInt) ∧ (Fld Z h0 a "com/example/binwright/binwright/binning/LeastTree" "leaves" "I" (.int 8)) ∧ own_Aft X11 h0 _ 56 [zA a, zD x, zS, zI 15] [.int 7]
          refine ⟨F1, by decide, F1, fun T12 X12 eh12 => ?_⟩
          exact own_ret X12 hx hlk eh12 hret (by first | rfl | decide) (Or.inl ⟨rfl, by simp, _, rfl⟩) (hb hby d14_56) (by decide) (by decide) (⟨⟨_, rfl, Or.inr (Or.inr (Or.inr (Or.inr (Or.inr (Or.inr (Or.inr (Or.inr (⟨rfl, q0, q1, q3, q7⟩))))))))⟩, rfl, rfl⟩)
        · skip
          refine own_blk dec14 seq14 hby hx hZ hown hK hF 9 [false] [] X10 eh10 ?_
          show (¬ (0 < (cmpValue (FP.dcmp 9218868437227405312 x) .g).toInt)) ∧ own_Aft X10 h0 _ 15 [zA a, zD x, zS, zI 14] []
          refine ⟨by have := own_gle (k := .g) own_infn Nx q7; omega, fun T13 X13 eh13 => ?_⟩
          refine own_blk dec14 seq14 hby hx hZ hown hK hF 8 [true] [.int 8, .int 8] X13 eh13 ?_
          show (Fld Z h0 a "com/example/binwright/binwright/binning/LeastTree" "leaves" "I" (.int 8)) ∧ (((8 : Int32)).toInt ≤ ((14 : Int32)).toInt) ∧ (Fld Z h0 a "com/example/binwright/binwright/binning/LeastTree" "leaves" "I" (.int 8)) ∧ own_Aft X13 h0 _ 56 [zA a, zD x, zS, zI 14] [.int 6]
          refine ⟨F1, by decide, F1, fun T14 X14 eh14 => ?_⟩
          exact own_ret X14 hx hlk eh14 hret (by first | rfl | decide) (Or.inl ⟨rfl, by simp, _, rfl⟩) (hb hby d14_56) (by decide) (by decide) (⟨⟨_, rfl, Or.inr (Or.inr (Or.inr (Or.inr (Or.inr (Or.inr (Or.inr (Or.inl (⟨rfl, q0, q1, q3, q7⟩))))))))⟩, rfl, rfl⟩)
      · skip
        refine own_blk dec14 seq14 hby hx hZ hown hK hF 9 [false] [] X7 eh7 ?_
        show (¬ (0 < (cmpValue (FP.dcmp r6 x) .g).toInt)) ∧ own_Aft X7 h0 _ 15 [zA a, zD x, zS, zI 6] []
        refine ⟨by have := own_gle (k := .g) Nr6 Nx q3; omega, fun T15 X15 eh15 => ?_⟩
        refine own_blk dec14 seq14 hby hx hZ hown hK hF 8 [false] [.int 8] X15 eh15 ?_
        show (Fld Z h0 a "com/example/binwright/binwright/binning/LeastTree" "leaves" "I" (.int 8)) ∧ (¬ (((8 : Int32)).toInt ≤ ((6 : Int32)).toInt)) ∧ own_Aft X15 h0 _ 27 [zA a, zD x, zS, zI 6] [.int 12, .ref a]
        refine ⟨F1, by decide, fun T16 X16 eh16 => ?_⟩
        refine own_callPP X16 hx hZ hown (hw _ (wm 45 rfl)) (hw _ (wm 47 rfl)) (hw _ (wm 8 rfl)) (hw _ (wm 46 rfl)) (hw _ (wm 9 rfl)) (hw _ (wm 48 rfl)) (by decide) eh16 EX [.int 12] pd9 rfl (fr := 0) (lo := 0) (rm9_v l Z a0 hw [] a la va (12 : Int32) (8 : Int32) (5 : Int32) v4 h0 n0 Z0 F1 F2 F3 (Av.ln (5 : Int32) rfl) (by decide) (by decide) (Av.at ((12 : Int32) - (8 : Int32)) 4 rfl rfl)) (by rw [hml]; rfl) 0 rfl (Nat.le_of_eq rfl) (hb hby d14_27) (by decide) (by decide) (by decide) (by decide) (fun T17 rv17 X17 eh17 qc17 => ?_)
        obtain rfl := qc17
        show own_Go p.tables e below _ (T17.setTop (mkF m 30 (Array.mk [zA a, zD x, zS, zI 6]) [.double v4]))
        rcases Int.lt_or_le (own_z x) (own_z v4) with q6 | q6
        · skip
          refine own_blk dec14 seq14 hby hx hZ hown hK hF 10 [true] [] X17 eh17 ?_
          show (0 < (cmpValue (FP.dcmp v4 x) .g).toInt) ∧ own_Aft X17 h0 _ 15 [zA a, zD x, zS, zI 13] []
          refine ⟨own_ggt Nv4 Nx q6, fun T18 X18 eh18 => ?_⟩
          refine own_blk dec14 seq14 hby hx hZ hown hK hF 8 [true] [.int 8, .int 8] X18 eh18 ?_
          show (Fld Z h0 a "com/example/binwright/binwright/binning/LeastTree" "leaves" "I" (.int 8)) ∧ (((8 : Int32)).toInt ≤ ((13 : Int32)).toInt) ∧ (Fld Z h0 a "com/example/binwright/binwright/binning/LeastTree" "leaves" "I" (.int 8)) ∧ own_Aft X18 h0 _ 56 [zA a, zD x, zS, zI 13] [.int 5]
          refine ⟨F1, by decide, F1, fun T19 X19 eh19 => ?_⟩
          exact own_ret X19 hx hlk eh19 hret (by first | rfl | decide) (Or.inl ⟨rfl, by simp, _, rfl⟩) (hb hby d14_56) (by decide) (by decide) (⟨⟨_, rfl, Or.inr (Or.inr (Or.inr (Or.inr (Or.inr (Or.inr (Or.inl (⟨rfl, q0, q1, q3, q6⟩)))))))⟩, rfl, rfl⟩)
        · skip
          refine own_blk dec14 seq14 hby hx hZ hown hK hF 9 [false] [] X17 eh17 ?_
          show (¬ (0 < (cmpValue (FP.dcmp v4 x) .g).toInt)) ∧ own_Aft X17 h0 _ 15 [zA a, zD x, zS, zI 12] []
          refine ⟨by have := own_gle (k := .g) Nv4 Nx q6; omega, fun T20 X20 eh20 => ?_⟩
          refine own_blk dec14 seq14 hby hx hZ hown hK hF 8 [true] [.int 8, .int 8] X20 eh20 ?_
          show (Fld Z h0 a "com/example/binwright/binwright/binning/LeastTree" "leaves" "I" (.int 8)) ∧ (((8 : Int32)).toInt ≤ ((12 : Int32)).toInt) ∧ (Fld Z h0 a "com/example/binwright/binwright/binning/LeastTree" "leaves" "I" (.int 8)) ∧ own_Aft X20 h0 _ 56 [zA a, zD x, zS, zI 12] [.int 4]
          refine ⟨F1, by decide, F1, fun T21 X21 eh21 => ?_⟩
          exact own_ret X21 hx hlk eh21 hret (by first | rfl | decide) (Or.inl ⟨rfl, by simp, _, rfl⟩) (hb hby d14_56) (by decide) (by decide) (⟨⟨_, rfl, Or.inr (Or.inr (Or.inr (Or.inr (Or.inr (Or.inl (⟨rfl, q0, q1, q3, q6⟩))))))⟩, rfl, rfl⟩)
    · skip
      refine own_blk dec14 seq14 hby hx hZ hown hK hF 9 [false] [] X4 eh4 ?_
      show (¬ (0 < (cmpValue (FP.dcmp r2 x) .g).toInt)) ∧ own_Aft X4 h0 _ 15 [zA a, zD x, zS, zI 2] []
      refine ⟨by have := own_gle (k := .g) Nr2 Nx q1; omega, fun T22 X22 eh22 => ?_⟩
      refine own_blk dec14 seq14 hby hx hZ hown hK hF 8 [false] [.int 8] X22 eh22 ?_
      show (Fld Z h0 a "com/example/binwright/binwright/binning/LeastTree" "leaves" "I" (.int 8)) ∧ (¬ (((8 : Int32)).toInt ≤ ((2 : Int32)).toInt)) ∧ own_Aft X22 h0 _ 27 [zA a, zD x, zS, zI 2] [.int 4, .ref a]
      refine ⟨F1, by decide, fun T23 X23 eh23 => ?_⟩
      refine own_callPP X23 hx hZ hown (hw _ (wm 45 rfl)) (hw _ (wm 47 rfl)) (hw _ (wm 8 rfl)) (hw _ (wm 46 rfl)) (hw _ (wm 9 rfl)) (hw _ (wm 48 rfl)) (by decide) eh23 EX [.int 4] pd9 rfl (fr := 0) (lo := 0) (rm9_l l Z a0 hw [] a la va (4 : Int32) (8 : Int32) (5 : Int32) r4 h0 n0 Z0 F1 F2 F3 (Av.ln (5 : Int32) rfl) (by decide) (Al.at (4 : Int32) 4 rfl rfl)) (by rw [hml]; rfl) 0 rfl (Nat.le_of_eq rfl) (hb hby d14_27) (by decide) (by decide) (by decide) (by decide) (fun T24 rv24 X24 eh24 qc24 => ?_)
      obtain rfl := qc24
      show own_Go p.tables e below _ (T24.setTop (mkF m 30 (Array.mk [zA a, zD x, zS, zI 2]) [.double r4]))
      rcases Int.lt_or_le (own_z x) (own_z r4) with q2 | q2
      · skip
        refine own_blk dec14 seq14 hby hx hZ hown hK hF 10 [true] [] X24 eh24 ?_
        show (0 < (cmpValue (FP.dcmp r4 x) .g).toInt) ∧ own_Aft X24 h0 _ 15 [zA a, zD x, zS, zI 5] []
        refine ⟨own_ggt Nr4 Nx q2, fun T25 X25 eh25 => ?_⟩
        refine own_blk dec14 seq14 hby hx hZ hown hK hF 8 [false] [.int 8] X25 eh25 ?_
        show (Fld Z h0 a "com/example/binwright/binwright/binning/LeastTree" "leaves" "I" (.int 8)) ∧ (¬ (((8 : Int32)).toInt ≤ ((5 : Int32)).toInt)) ∧ own_Aft X25 h0 _ 27 [zA a, zD x, zS, zI 5] [.int 10, .ref a]
        refine ⟨F1, by decide, fun T26 X26 eh26 => ?_⟩
        refine own_callPP X26 hx hZ hown (hw _ (wm 45 rfl)) (hw _ (wm 47 rfl)) (hw _ (wm 8 rfl)) (hw _ (wm 46 rfl)) (hw _ (wm 9 rfl)) (hw _ (wm 48 rfl)) (by decide) eh26 EX [.int 10] pd9 rfl (fr := 0) (lo := 0) (rm9_v l Z a0 hw [] a la va (10 : Int32) (8 : Int32) (5 : Int32) v2 h0 n0 Z0 F1 F2 F3 (Av.ln (5 : Int32) rfl) (by decide) (by decide) (Av.at ((10 : Int32) - (8 : Int32)) 2 rfl rfl)) (by rw [hml]; rfl) 0 rfl (Nat.le_of_eq rfl) (hb hby d14_27) (by decide) (by decide) (by decide) (by decide) (fun T27 rv27 X27 eh27 qc27 => ?_)
        obtain rfl := qc27
        show own_Go p.tables e below _ (T27.setTop (mkF m 30 (Array.mk [zA a, zD x, zS, zI 5]) [.double v2]))
        rcases Int.lt_or_le (own_z x) (own_z v2) with q5 | q5
        · skip
          refine own_blk dec14 seq14 hby hx hZ hown hK hF 10 [true] [] X27 eh27 ?_
          show (0 < (cmpValue (FP.dcmp v2 x) .g).toInt) ∧ own_Aft X27 h0 _ 15 [zA a, zD x, zS, zI 11] []
          refine ⟨own_ggt Nv2 Nx q5, fun T28 X28 eh28 => ?_⟩
          refine own_blk dec14 seq14 hby hx hZ hown hK hF 8 [true] [.int 8, .int 8] X28 eh28 ?_
          show (Fld Z h0 a "com/example/binwright/binwright/binning/LeastTree" "leaves" "I" (.int 8)) ∧ (((8 : Int32)).toInt ≤ ((11 : Int32)).toInt) ∧ (Fld Z h0 a "com/example/binwright/binwright/binning/LeastTree" "leaves" "I" (.int 8)) ∧ own_Aft X28 h0 _ 56 [zA a, zD x, zS, zI 11] [.int 3]
          refine ⟨F1, by decide, F1, fun T29 X29 eh29 => ?_⟩
          exact own_ret X29 hx hlk eh29 hret (by first | rfl | decide) (Or.inl ⟨rfl, by simp, _, rfl⟩) (hb hby d14_56) (by decide) (by decide) (⟨⟨_, rfl, Or.inr (Or.inr (Or.inr (Or.inr (Or.inl (⟨rfl, q0, q1, q2, q5⟩)))))⟩, rfl, rfl⟩)
        · skip
          refine own_blk dec14 seq14 hby hx hZ hown hK hF 9 [false] [] X27 eh27 ?_
          show (¬ (0 < (cmpValue (FP.dcmp v2 x) .g).toInt)) ∧ own_Aft X27 h0 _ 15 [zA a, zD x, zS, zI 10] []
          refine ⟨by have := own_gle (k := .g) Nv2 Nx q5; omega, fun T30 X30 eh30 => ?_⟩
          refine own_blk dec14 seq14 hby hx hZ hown hK hF 8 [true] [.int 8, .int 8] X30 eh30 ?_
          show (Fld Z h0 a "com/example/binwright/binwright/binning/LeastTree" "leaves" "I" (.int 8)) ∧ (((8 : Int32)).toInt ≤ ((10 : Int32)).toInt) ∧ (Fld Z h0 a "com/example/binwright/binwright/binning/LeastTree" "leaves" "I" (.int 8)) ∧ own_Aft X30 h0 _ 56 [zA a, zD x, zS, zI 10] [.int 2]
          refine ⟨F1, by decide, F1, fun T31 X31 eh31 => ?_⟩
          exact own_ret X31 hx hlk eh31 hret (by first | rfl | decide) (Or.inl ⟨rfl, by simp, _, rfl⟩) (hb hby d14_56) (by decide) (by decide) (⟨⟨_, rfl, Or.inr (Or.inr (Or.inr (Or.inl (⟨rfl, q0, q1, q2, q5⟩))))⟩, rfl, rfl⟩)
      · skip
        refine own_blk dec14 seq14 hby hx hZ hown hK hF 9 [false] [] X24 eh24 ?_
        show (¬ (0 < (cmpValue (FP.dcmp r4 x) .g).toInt)) ∧ own_Aft X24 h0 _ 15 [zA a, zD x, zS, zI 4] []
        refine ⟨by have := own_gle (k := .g) Nr4 Nx q2; omega, fun T32 X32 eh32 => ?_⟩
        refine own_blk dec14 seq14 hby hx hZ hown hK hF 8 [false] [.int 8] X32 eh32 ?_
        show (Fld Z h0 a "com/example/binwright/binwright/binning/LeastTree" "leaves" "I" (.int 8)) ∧ (¬ (((8 : Int32)).toInt ≤ ((4 : Int32)).toInt)) ∧ own_Aft X32 h0 _ 27 [zA a, zD x, zS, zI 4] [.int 8, .ref a]
        refine ⟨F1, by decide, fun T33 X33 eh33 => ?_⟩
        refine own_callPP X33 hx hZ hown (hw _ (wm 45 rfl)) (hw _ (wm 47 rfl)) (hw _ (wm 8 rfl)) (hw _ (wm 46 rfl)) (hw _ (wm 9 rfl)) (hw _ (wm 48 rfl)) (by decide) eh33 EX [.int 8] pd9 rfl (fr := 0) (lo := 0) (rm9_v l Z a0 hw [] a la va (8 : Int32) (8 : Int32) (5 : Int32) v0 h0 n0 Z0 F1 F2 F3 (Av.ln (5 : Int32) rfl) (by decide) (by decide) (Av.at ((8 : Int32) - (8 : Int32)) 0 rfl rfl)) (by rw [hml]; rfl) 0 rfl (Nat.le_of_eq rfl) (hb hby d14_27) (by decide) (by decide) (by decide) (by decide) (fun T34 rv34 X34 eh34 qc34 => ?_)
        obtain rfl := qc34
        show own_Go p.tables e below _ (T34.setTop (mkF m 30 (Array.mk [zA a, zD x, zS, zI 4]) [.double v0]))
        rcases Int.lt_or_le (own_z x) (own_z v0) with q4 | q4
        · skip
          refine own_blk dec14 seq14 hby hx hZ hown hK hF 10 [true] [] X34 eh34 ?_
          show (0 < (cmpValue (FP.dcmp v0 x) .g).toInt) ∧ own_Aft X34 h0 _ 15 [zA a, zD x, zS, zI 9] []
          refine ⟨own_ggt Nv0 Nx q4, fun T35 X35 eh35 => ?_⟩
          refine own_blk dec14 seq14 hby hx hZ hown hK hF 8 [true] [.int 8, .int 8] X35 eh35 ?_
          show (Fld Z h0 a "com/example/binwright/binwright/binning/LeastTree" "leaves" "I" (.int 8)) ∧ (((8 : Int32)).toInt ≤ ((9 : Int32)).toInt) ∧ (Fld Z h0 a "com/example/binwright/binwright/binning/LeastTree" "leaves" "I" (.int 8)) ∧ own_Aft X35 h0 _ 56 [zA a, zD x, zS, zI 9] [.int 1]
          refine ⟨F1, by decide, F1, fun T36 X36 eh36 => ?_⟩
          exact own_ret X36 hx hlk eh36 hret (by first | rfl | decide) (Or.inl ⟨rfl, by simp, _, rfl⟩) (hb hby d14_56) (by decide) (by decide) (⟨⟨_, rfl, Or.inr (Or.inr (Or.inl (⟨rfl, q0, q1, q2, q4⟩)))⟩, rfl, rfl⟩)
        · skip
          refine own_blk dec14 seq14 hby hx hZ hown hK hF 9 [false] [] X34 eh34 ?_
          show (¬ (0 < (cmpValue (FP.dcmp v0 x) .g).toInt)) ∧ own_Aft X34 h0 _ 15 [zA a, zD x, zS, zI 8] []
          refine ⟨by have := own_gle (k := .g) Nv0 Nx q4; omega, fun T37 X37 eh37 => ?_⟩
          refine own_blk dec14 seq14 hby hx hZ hown hK hF 8 [true] [.int 8, .int 8] X37 eh37 ?_
          show (Fld Z h0 a "com/example/binwright/binwright/binning/LeastTree" "leaves" "I" (.int 8)) ∧ (((8 : Int32)).toInt ≤ ((8 : Int32)).toInt) ∧ (Fld Z h0 a "com/example/binwright/binwright/binning/LeastTree" "leaves" "I" (.int 8)) ∧ own_Aft X37 h0 _ 56 [zA a, zD x, zS, zI 8] [.int 0]
          refine ⟨F1, by decide, F1, fun T38 X38 eh38 => ?_⟩
          exact own_ret X38 hx hlk eh38 hret (by first | rfl | decide) (Or.inl ⟨rfl, by simp, _, rfl⟩) (hb hby d14_56) (by decide) (by decide) (⟨⟨_, rfl, Or.inr (Or.inl (⟨rfl, q0, q1, q2, q4⟩))⟩, rfl, rfl⟩)
set_option maxRecDepth 65536 in
set_option maxHeartbeats 40000000 in
theorem rm2_5 (l : Launch) (Z : State) (a0 : Array Value) (hw : ∀ d ∈ tables_1, d.before a0 Z = true) (ws : List Jvm.Cond) (a va : Addr) (v0 v1 v2 v3 v4 : UInt64) (h0 : Heap) (n0 : Nat) (Z0 : n0 ≤ h0.size) (E0 : Exa Z h0 a "com/example/binwright/binwright/binning/LeastTree") (na : n0 ≤ a) (nva : va ≠ a) (F0_values : Fld Z h0 a "com/example/binwright/binwright/binning/LeastTree" "values" "[D" (.null)) (F0_leaves : Fld Z h0 a "com/example/binwright/binwright/binning/LeastTree" "leaves" "I" (.int 0)) (F0_least : Fld Z h0 a "com/example/binwright/binwright/binning/LeastTree" "least" "[D" (.null)) (Av : own_A Z h0 va .double [.double v0, .double v1, .double v2, .double v3, .double v4]) (Nv0 : own_num v0) (Nv1 : own_num v1) (Nv2 : own_num v2) (Nv3 : own_num v3) (Nv4 : own_num v4) :
    own_MF l (⟨"com/example/binwright/binwright/binning/LeastTree", "<init>", "([D)V"⟩ : MethodName) prog_15_method_1_code 2 none ws ({ frames := 3, cells := 1, slots := 8, locals := 64 } : Room) #[.ref a, .ref va] Z h0 (fun v h L => v = none ∧ Fr n0 L ∧ Exa Z h a "com/example/binwright/binwright/binning/LeastTree" ∧ ∃ la : Addr, Fld Z h a "com/example/binwright/binwright/binning/LeastTree" "leaves" "I" (.int (8 : Int32)) ∧ Fld Z h a "com/example/binwright/binwright/binning/LeastTree" "least" "[D" (.ref la) ∧ Fld Z h a "com/example/binwright/binwright/binning/LeastTree" "values" "[D" (.ref va) ∧ own_A Z h va .double [.double v0, .double v1, .double v2, .double v3, .double v4] ∧ (n0 ≤ la ∧ va ≠ la ∧ a ≠ la) ∧ ∃ (r4 r5 r6 r2 r3 r1 : UInt64), own_A Z h la .double [.double 9218868437227405312, .double r1, .double r2, .double r3, .double r4, .double r5, .double r6, .double 9218868437227405312] ∧ own_mn r4 v0 v1 ∧ own_mn r5 v2 v3 ∧ own_mn r6 v4 9218868437227405312 ∧ own_mn r2 r4 r5 ∧ own_mn r3 r6 9218868437227405312 ∧ own_mn r1 r2 r3) := by
  refine own_body pf2 (ls0 := [.val (.ref a), .val (.ref va)]) (fun m => by first | (simp [entryFrame, mkF, argsToLocals, Value.category, maxLocals]; done) | rfl) ?_
  intro p e s m below meth c T0 hx hby hml hown hnm hlk hret hZ X0 e0
  have hK := hKt2 hw; have hF := hFt2 hw
  have N0 := Fr.nil n0
  refine own_blk dec2 seq2 hby hx hZ hown hK hF 1 [] [] X0 e0 ?_
  show own_Aft X0 h0 _ 1 [zA a, zA va] [.ref a]
  refine fun T1 X1 eh1 => ?_
  refine own_initO X1 hx hZ hown (hw _ (wm 13 rfl)) (hw _ (wm 14 rfl)) (hw _ (wm 15 rfl)) eh1 (by rw [hml]; rfl) (hb hby d2_1) (by decide) 0 (Nat.le_of_eq rfl) (by decide) (fun T2 X2 eh2 => ?_)
  refine own_blk dec2 seq2 hby hx hZ hown hK hF 2 [] [] X2 eh2 ?_
  show own_Aft X2 h0 _ 6 [zA a, zA va] [.ref va, .ref a]
  refine fun T3 X3 eh3 => ?_
  refine own_putF X3 hx hZ hown (hw _ (wm 16 rfl)) eh3 F0_values E0 (Or.inr ⟨(hw _ (wm 17 rfl)), rfl, hnm⟩) (hw _ (wm 8 rfl)) (ty := (.array .double)) (by decide) rfl rfl (hb hby d2_6) (fun T4 hp4 X4 eh4 Wr4 Fd4 Ea4 => ?_)
  have Av_4 := Av.other Wr4 nva
  have F0_leaves_4 := own_so Wr4 F0_leaves (Or.inr (hw _ (wm 32 rfl))) (Or.inr (hw _ (wm 17 rfl)))
  have F0_least_4 := own_so Wr4 F0_least (Or.inr (hw _ (wm 34 rfl))) (Or.inr (hw _ (wm 17 rfl)))
  have Nf4 := Fr.snoc X4 N0 na
  have Z_4 : n0 ≤ hp4.size := by rw [Wr.size Wr4]; exact Z0
  refine own_blk dec2 seq2 hby hx hZ hown hK hF 6 [] [.int 5] X4 eh4 ?_
  show (own_ln Z hp4 va (5 : Int32)) ∧ own_Aft X4 hp4 _ 15 [zA a, zA va] [.int 4, .int 1, .ref a]
  refine ⟨Av_4.ln (5 : Int32) rfl, fun T5 X5 eh5 => ?_⟩
  refine own_callSP X5 hx hZ hown (hw _ (wm 18 rfl)) (hw _ (wm 19 rfl)) (hw _ (wm 20 rfl)) (hw _ (wm 21 rfl)) (by decide) eh5 [.int 1, .int 4] pd4 rfl (fr := 0) (lo := 0) (rm4_5 l Z a0 hw [] hp4 n0 Z_4) (by rw [hml]; rfl) 1 rfl (Nat.le_of_eq rfl) (hb hby d2_15) (by decide) (by decide) (by decide) (by decide) (fun T6 rv6 X6 eh6 qc6 => ?_)
  obtain rfl := qc6
  show own_Go p.tables e below _ (T6.setTop (mkF m 18 (Array.mk [zA a, zA va]) [.int 4, .ref a]))
  refine own_callSP X6 hx hZ hown (hw _ (wm 22 rfl)) (hw _ (wm 23 rfl)) (hw _ (wm 24 rfl)) (hw _ (wm 25 rfl)) (by decide) eh6 [.int 4] pd5 rfl (fr := 1) (lo := 16) (rm5_4 l Z a0 hw [] hp4 n0 Z_4) (by rw [hml]; rfl) 1 rfl (Nat.le_of_eq rfl) (hb hby d2_18) (by decide) (by decide) (by decide) (by decide) (fun T7 rv7 X7 eh7 qc7 => ?_)
  obtain rfl := qc7
  show own_Go p.tables e below _ (T7.setTop (mkF m 21 (Array.mk [zA a, zA va]) [.int 4, .ref a]))
  refine own_blk dec2 seq2 hby hx hZ hown hK hF 2 [] [] X7 eh7 ?_
  show own_Aft X7 hp4 _ 23 [zA a, zA va] [.int 8, .ref a]
  refine fun T8 X8 eh8 => ?_
  refine own_putF X8 hx hZ hown (hw _ (wm 31 rfl)) eh8 F0_leaves_4 Ea4 (Or.inr ⟨(hw _ (wm 32 rfl)), rfl, hnm⟩) (hw _ (wm 8 rfl)) (ty := .int) (by decide) rfl rfl (hb hby d2_23) (fun T9 hp9 X9 eh9 Wr9 Fd9 Ea9 => ?_)
  have Av_9 := Av_4.other Wr9 nva
  have Fd4_9 := own_so Wr9 Fd4 (Or.inr (hw _ (wm 17 rfl))) (Or.inr (hw _ (wm 32 rfl)))
  have F0_least_9 := own_so Wr9 F0_least_4 (Or.inr (hw _ (wm 34 rfl))) (Or.inr (hw _ (wm 32 rfl)))
  have Nf9 := Fr.snoc X9 Nf4 na
  have Z_9 : n0 ≤ hp9.size := by rw [Wr.size Wr9]; exact Z_4
  refine own_blk dec2 seq2 hby hx hZ hown hK hF 3 [] [.int 8] X9 eh9 ?_
  show (Fld Z hp9 a "com/example/binwright/binwright/binning/LeastTree" "leaves" "I" (.int 8)) ∧ own_Aft X9 hp9 _ 31 [zA a, zA va] [.int 8, .ref a]
  refine ⟨Fd9, fun T10 X10 eh10 => ?_⟩
  refine own_newP X10 hx hZ (hw _ (wm 1 rfl)) eh10 8 rfl (cap := 8) (by decide) (by decide) (hb hby d2_31) (by decide) (by decide) (fun T11 hp11 la ga11 X11 eh11 Ex11 Ar11 => ?_)
  have ne_va_la : va ≠ la := fun q => absurd Av_9.lt (by rw [q, ga11]; exact Nat.lt_irrefl _)
  have ne_a_la : a ≠ la := fun q => absurd Ea9.lt (by rw [q, ga11]; exact Nat.lt_irrefl _)
  have nw_la : n0 ≤ la := by rw [ga11]; exact Z_9
  have Av_11 := Av_9.ext Ex11
  have Ea9_11 := Exa.ext Ex11 Ea9
  have Fd4_11 := Fld.ext Ex11 Fd4_9
  have Fd9_11 := Fld.ext Ex11 Fd9
  have F0_least_11 := Fld.ext Ex11 F0_least_9
  have Z_11 : n0 ≤ hp11.size := Nat.le_trans Z_9 Ex11.1
  have Ar11' : own_A Z hp11 la .double [.double 0, .double 0, .double 0, .double 0, .double 0, .double 0, .double 0, .double 0] := Ar11
  show own_Go p.tables e below _ (T11.setTop (mkF m 33 (Array.mk [zA a, zA va]) [.ref la, .ref a]))
  refine own_putF X11 hx hZ hown (hw _ (wm 33 rfl)) eh11 F0_least_11 Ea9_11 (Or.inr ⟨(hw _ (wm 34 rfl)), rfl, hnm⟩) (hw _ (wm 8 rfl)) (ty := (.array .double)) (by decide) rfl rfl (hb hby d2_33) (fun T12 hp12 X12 eh12 Wr12 Fd12 Ea12 => ?_)
  have Av_12 := Av_11.other Wr12 nva
  have Ar11'_12 := Ar11'.other Wr12 (Ne.symm ne_a_la)
  have Fd4_12 := own_so Wr12 Fd4_11 (Or.inr (hw _ (wm 17 rfl))) (Or.inr (hw _ (wm 34 rfl)))
  have Fd9_12 := own_so Wr12 Fd9_11 (Or.inr (hw _ (wm 32 rfl))) (Or.inr (hw _ (wm 34 rfl)))
  have Nf12 := Fr.snoc X12 Nf9 na
  have Z_12 : n0 ≤ hp12.size := by rw [Wr.size Wr12]; exact Z_11
  refine own_blk dec2 seq2 hby hx hZ hown hK hF 3 [] [.ref la] X12 eh12 ?_
  show (Fld Z hp12 a "com/example/binwright/binwright/binning/LeastTree" "least" "[D" (.ref la)) ∧ own_Aft X12 hp12 _ 43 [zA a, zA va] [.double 9218868437227405312, .ref la]
  refine ⟨Fd12, fun T13 X13 eh13 => ?_⟩
  refine own_callS X13 hx hZ hown (hw _ (wm 36 rfl)) (hw _ (wm 37 rfl)) (hw _ (wm 38 rfl)) (hw _ (wm 39 rfl)) (by decide) eh13 [.ref la, .double 9218868437227405312] pd7 rfl (rm := ({ frames := 0, cells := 0, slots := 0, locals := 0 } : Room)) (rm7_8 l Z a0 hw [] la hp12 n0 Z_12 nw_la Ar11'_12) (by rw [hml]; rfl) 0 rfl (Nat.le_of_eq rfl) (hb hby d2_43) (by decide) (by decide) (by decide) (by decide) (fun T14 rv14 Lc14 X14 qc14 => ?_)
  obtain ⟨rfl, M1, K1, Al⟩ := qc14
  have nin1_a : a ∉ [la] := fun q => ne_a_la (List.mem_singleton.mp q)
  have nin1_va : va ∉ [la] := fun q => ne_va_la (List.mem_singleton.mp q)
  have Fd4_1 := Fld.keep Fd4_12 K1 nin1_a
  have Fd9_1 := Fld.keep Fd9_12 K1 nin1_a
  have Fd12_1 := Fld.keep Fd12 K1 nin1_a
  have EX1 := Exa.keep Ea12 K1
  have Av1 := Av_12.keep K1 nin1_va
  have N1_ := Fr.app Nf12 M1
  have Zz1 : n0 ≤ T14.heap.size := Nat.le_trans na (Nat.le_of_lt EX1.lt)
  show own_Go p.tables e below _ (T14.setTop (mkF m 46 (Array.mk [zA a, zA va]) []))
  refine own_blk dec2 seq2 hby hx hZ hown hK hF 4 [] [.int 5] X14 rfl ?_
  show (own_ln Z T14.heap va (5 : Int32)) ∧ own_Aft X14 T14.heap _ 50 [zA a, zA va] [.int 5, .int 0, .ref a]
  refine ⟨Av1.ln (5 : Int32) rfl, fun T15 X15 eh15 => ?_⟩
  refine own_callV X15 hx hZ hown (hw _ (wm 40 rfl)) (hw _ (wm 41 rfl)) (hw _ (wm 43 rfl)) (hw _ (wm 42 rfl)) (hw _ (wm 9 rfl)) (hw _ (wm 44 rfl)) (by decide) eh15 EX1 [.int 0, .int 5] pd8 rfl (rm := ({ frames := 1, cells := 0, slots := 0, locals := 24 } : Room)) (rm8_5 l Z a0 hw [] a la va v0 v1 v2 v3 v4 T14.heap n0 Zz1 EX1 nw_la ne_va_la ne_a_la Fd9_1 Fd12_1 Fd4_1 Al Av1 Nv0 Nv1 Nv2 Nv3 Nv4) (by rw [hml]; rfl) 0 rfl (Nat.le_of_eq rfl) (hb hby d2_50) (by decide) (by decide) (by decide) (by decide) (fun T16 rv16 Lc16 X16 qc16 => ?_)
  obtain ⟨rfl, M2, K2, PP⟩ := qc16
  have nin2_a : a ∉ [la] := fun q => ne_a_la (List.mem_singleton.mp q)
  have nin2_va : va ∉ [la] := fun q => ne_va_la (List.mem_singleton.mp q)
  have Fd4_2 := Fld.keep Fd4_1 K2 nin2_a
  have Fd9_2 := Fld.keep Fd9_1 K2 nin2_a
  have Fd12_2 := Fld.keep Fd12_1 K2 nin2_a
  have EX2 := Exa.keep EX1 K2
  have Av2 := Av1.keep K2 nin2_va
  have N2_ := Fr.app N1_ M2
  have Zz2 : n0 ≤ T16.heap.size := Nat.le_trans na (Nat.le_of_lt EX2.lt)
  show own_Go p.tables e below _ (T16.setTop (mkF m 53 (Array.mk [zA a, zA va]) []))
  exact own_retV X16 hx hlk rfl hret (hb hby d2_53) (by decide) (by decide) (⟨rfl, N2_, EX2, la, Fd9_2, Fd12_2, Fd4_2, Av2, ⟨nw_la, ne_va_la, ne_a_la⟩, PP⟩)
set_option maxRecDepth 65536 in
set_option maxHeartbeats 40000000 in
theorem rm8_all (l : Launch) (Z : State) (a0 : Array Value) (hw : ∀ d ∈ tables_1, d.before a0 Z = true) (ws : List Jvm.Cond) (a la va : Addr) (v0 v1 v2 v3 v4 w0 w1 w2 w3 w4 t1 t2 t3 t4 t5 t6 : UInt64) (f t : Int32) (h0 : Heap) (n0 : Nat) (Z0 : n0 ≤ h0.size) (EX : Exa Z h0 a "com/example/binwright/binwright/binning/LeastTree") (nl : n0 ≤ la) (nav : va ≠ la) (nal : a ≠ la) (F1 : Fld Z h0 a "com/example/binwright/binwright/binning/LeastTree" "leaves" "I" (.int (8 : Int32))) (F2 : Fld Z h0 a "com/example/binwright/binwright/binning/LeastTree" "least" "[D" (.ref la)) (F3 : Fld Z h0 a "com/example/binwright/binwright/binning/LeastTree" "values" "[D" (.ref va)) (Al : own_A Z h0 la .double [.double 9218868437227405312, .double t1, .double t2, .double t3, .double t4, .double t5, .double t6, .double 9218868437227405312]) (Av : own_A Z h0 va .double [.double v0, .double v1, .double v2, .double v3, .double v4]) (Nv0 : own_num v0) (Nv1 : own_num v1) (Nv2 : own_num v2) (Nv3 : own_num v3) (Nv4 : own_num v4) (Ht1 : own_mn t1 t2 t3) (Ht2 : own_mn t2 t4 t5) (Ht3 : own_mn t3 t6 9218868437227405312) (Ht4 : own_mn t4 w0 w1) (Ht5 : own_mn t5 w2 w3) (Ht6 : own_mn t6 w4 9218868437227405312) (ee0 : ¬ (f.toInt ≤ 0 ∧ 0 < t.toInt) → v0 = w0) (ee1 : ¬ (f.toInt ≤ 1 ∧ 1 < t.toInt) → v1 = w1) (ee2 : ¬ (f.toInt ≤ 2 ∧ 2 < t.toInt) → v2 = w2) (ee3 : ¬ (f.toInt ≤ 3 ∧ 3 < t.toInt) → v3 = w3) (ee4 : ¬ (f.toInt ≤ 4 ∧ 4 < t.toInt) → v4 = w4) (f0 : 0 ≤ f.toInt) (f5 : f.toInt < 6) (t0_ : 0 ≤ t.toInt) (t5_ : t.toInt < 6) :
    own_MF l (⟨"com/example/binwright/binwright/binning/LeastTree", "changed", "(II)V"⟩ : MethodName) prog_15_method_2_code 6 none ws ({ frames := 1, cells := 0, slots := 0, locals := 24 } : Room) #[.ref a, .int f, .int t] Z h0 (fun v h L => v = none ∧ Fr n0 L ∧ Keep h0 h [la] ∧ ∃ (r1 r2 r3 r4 r5 r6 : UInt64), own_A Z h la .double [.double 9218868437227405312, .double r1, .double r2, .double r3, .double r4, .double r5, .double r6, .double 9218868437227405312] ∧ own_mn r1 r2 r3 ∧ own_mn r2 r4 r5 ∧ own_mn r3 r6 9218868437227405312 ∧ own_mn r4 v0 v1 ∧ own_mn r5 v2 v3 ∧ own_mn r6 v4 9218868437227405312) := by
  refine own_body pf8 (ls0 := [.val (.ref a), .val (.int f), .val (.int t), .unset, .unset, .unset]) (fun m => by first | (simp [entryFrame, mkF, argsToLocals, Value.category, maxLocals]; done) | rfl) ?_
  intro p e s m below meth c T0 hx hby hml hown hnm hlk hret hZ X0 e0
  have hK := hKt2 hw; have hF := hFt2 hw
  have N0 := Fr.nil n0
  have K0 := Keep.refl h0 [la]
  have Nt1 := Ht1.1
  have Nt2 := Ht2.1
  have Nt3 := Ht3.1
  have Nt4 := Ht4.1
  have Nt5 := Ht5.1
  have Nt6 := Ht6.1
  obtain hc | hc | hc | hc | hc | hc | hc : t.toInt ≤ f.toInt ∨ (f.toInt < t.toInt ∧ f.toInt < 2 ∧ t.toInt < 3) ∨ (f.toInt < t.toInt ∧ f.toInt < 2 ∧ 3 ≤ t.toInt ∧ t.toInt < 5) ∨ (f.toInt < t.toInt ∧ f.toInt < 2 ∧ 5 ≤ t.toInt) ∨ (f.toInt < t.toInt ∧ 2 ≤ f.toInt ∧ f.toInt < 4 ∧ 3 ≤ t.toInt ∧ t.toInt < 5) ∨ (f.toInt < t.toInt ∧ 2 ≤ f.toInt ∧ f.toInt < 4 ∧ 5 ≤ t.toInt) ∨ (f.toInt < t.toInt ∧ 4 ≤ f.toInt ∧ 5 ≤ t.toInt) := by omega
  · skip
    have g0 := ee0 (by omega); subst g0
    have g1 := ee1 (by omega); subst g1
    have g2 := ee2 (by omega); subst g2
    have g3 := ee3 (by omega); subst g3
    have g4 := ee4 (by omega); subst g4
    refine own_blk dec8 seq8 hby hx hZ hown hK hF 3 [false] [] X0 e0 ?_
    show (¬ ((f).toInt < (t).toInt)) ∧ own_Aft X0 h0 _ 5 [zA a, zI f, zI t, zU, zU, zU] []
    refine ⟨by omega, fun T1 X1 eh1 => ?_⟩
    exact own_retV X1 hx hlk eh1 hret (hb hby d8_5) (by decide) (by decide) (⟨rfl, N0, K0, t1, t2, t3, t4, t5, t6, Al, Ht1, Ht2, Ht3, Ht4, Ht5, Ht6⟩)
  · skip
    have g2 := ee2 (by omega); subst g2
    have g3 := ee3 (by omega); subst g3
    have g4 := ee4 (by omega); subst g4
    suffices tl2 : ∀ (_u : Unit), own_Aft X0 h0 (own_Fin s ({ frames := 1, cells := 0, slots := 0, locals := 24 } : Room).cells ({ frames := 1, cells := 0, slots := 0, locals := 24 } : Room).slots (fun v h L => v = none ∧ Fr n0 L ∧ Keep h0 h [la] ∧ ∃ (r1 r2 r3 r4 r5 r6 : UInt64), own_A Z h la .double [.double 9218868437227405312, .double r1, .double r2, .double r3, .double r4, .double r5, .double r6, .double 9218868437227405312] ∧ own_mn r1 r2 r3 ∧ own_mn r2 r4 r5 ∧ own_mn r3 r6 9218868437227405312 ∧ own_mn r4 v0 v1 ∧ own_mn r5 v2 v3 ∧ own_mn r6 v4 9218868437227405312)) 27 [zA a, zI f, zI t, zI 4, zI 4, zU] [] by
      obtain ⟨hf, ht⟩ | ⟨hf, ht⟩ | ⟨hf, ht⟩ : (f.toInt = (0 : Int) ∧ t.toInt = (1 : Int)) ∨ (f.toInt = (0 : Int) ∧ t.toInt = (2 : Int)) ∨ (f.toInt = (1 : Int) ∧ t.toInt = (2 : Int)) := by omega
      · skip
        obtain rfl : f = (0 : Int32) := Int32.toInt_inj.mp hf
        obtain rfl : t = (1 : Int32) := Int32.toInt_inj.mp ht
        show own_Go p.tables e below _ (T0.setTop (mkF m 0 (Array.mk [zA a, zI 0, zI 1, zU, zU, zU]) []))
        refine own_blk dec8 seq8 hby hx hZ hown hK hF 19 [true] [.int 8, .int 8] X0 e0 ?_
        show (((0 : Int32)).toInt < ((1 : Int32)).toInt) ∧ (Fld Z h0 a "com/example/binwright/binwright/binning/LeastTree" "leaves" "I" (.int 8)) ∧ ((2 : Int32) ≠ 0) ∧ (Fld Z h0 a "com/example/binwright/binwright/binning/LeastTree" "leaves" "I" (.int 8)) ∧ ((2 : Int32) ≠ 0) ∧ own_Aft X0 h0 _ 27 [zA a, zI 0, zI 1, zI 4, zI 4, zU] []
        refine ⟨by decide, F1, by decide, F1, by decide, fun T3 X3 eh3 => ?_⟩
        exact tl2 () T3 X3 eh3
      · skip
        obtain rfl : f = (0 : Int32) := Int32.toInt_inj.mp hf
        obtain rfl : t = (2 : Int32) := Int32.toInt_inj.mp ht
        show own_Go p.tables e below _ (T0.setTop (mkF m 0 (Array.mk [zA a, zI 0, zI 2, zU, zU, zU]) []))
        refine own_blk dec8 seq8 hby hx hZ hown hK hF 19 [true] [.int 8, .int 8] X0 e0 ?_
        show (((0 : Int32)).toInt < ((2 : Int32)).toInt) ∧ (Fld Z h0 a "com/example/binwright/binwright/binning/LeastTree" "leaves" "I" (.int 8)) ∧ ((2 : Int32) ≠ 0) ∧ (Fld Z h0 a "com/example/binwright/binwright/binning/LeastTree" "leaves" "I" (.int 8)) ∧ ((2 : Int32) ≠ 0) ∧ own_Aft X0 h0 _ 27 [zA a, zI 0, zI 2, zI 4, zI 4, zU] []
        refine ⟨by decide, F1, by decide, F1, by decide, fun T4 X4 eh4 => ?_⟩
        exact tl2 () T4 X4 eh4
      · skip
        obtain rfl : f = (1 : Int32) := Int32.toInt_inj.mp hf
        obtain rfl : t = (2 : Int32) := Int32.toInt_inj.mp ht
        show own_Go p.tables e below _ (T0.setTop (mkF m 0 (Array.mk [zA a, zI 1, zI 2, zU, zU, zU]) []))
        refine own_blk dec8 seq8 hby hx hZ hown hK hF 19 [true] [.int 8, .int 8] X0 e0 ?_
        show (((1 : Int32)).toInt < ((2 : Int32)).toInt) ∧ (Fld Z h0 a "com/example/binwright/binwright/binning/LeastTree" "leaves" "I" (.int 8)) ∧ ((2 : Int32) ≠ 0) ∧ (Fld Z h0 a "com/example/binwright/binwright/binning/LeastTree" "leaves" "I" (.int 8)) ∧ ((2 : Int32) ≠ 0) ∧ own_Aft X0 h0 _ 27 [zA a, zI 1, zI 2, zI 4, zI 4, zU] []
        refine ⟨by decide, F1, by decide, F1, by decide, fun T5 X5 eh5 => ?_⟩
        exact tl2 () T5 X5 eh5
    intro _u T2 X2 eh2
    show own_Go p.tables e below _ (T2.setTop (mkF m 27 (Array.mk [zA a, zI f, zI t, zI 4, zI 4, zU]) []))
    refine own_blk dec8 seq8 hby hx hZ hown hK hF 15 [false, false] [.ref la] X2 eh2 ?_
    show (¬ (((4 : Int32)).toInt < ((1 : Int32)).toInt)) ∧ (¬ (((4 : Int32)).toInt < ((4 : Int32)).toInt)) ∧ (Fld Z h0 a "com/example/binwright/binwright/binning/LeastTree" "least" "[D" (.ref la)) ∧ own_Aft X2 h0 _ 53 [zA a, zI f, zI t, zI 4, zI 4, zI 4] [.int 8, .ref a, .int 4, .ref la]
    refine ⟨by decide, by decide, F2, fun T6 X6 eh6 => ?_⟩
    refine own_callPP X6 hx hZ hown (hw _ (wm 45 rfl)) (hw _ (wm 47 rfl)) (hw _ (wm 8 rfl)) (hw _ (wm 46 rfl)) (hw _ (wm 9 rfl)) (hw _ (wm 48 rfl)) (by decide) eh6 EX [.int 8] pd9 rfl (fr := 0) (lo := 0) (rm9_v l Z a0 hw [] a la va (8 : Int32) (8 : Int32) (5 : Int32) v0 h0 n0 Z0 F1 F2 F3 (Av.ln (5 : Int32) rfl) (by decide) (by decide) (Av.at ((8 : Int32) - (8 : Int32)) 0 rfl rfl)) (by rw [hml]; rfl) 2 rfl (Nat.le_of_eq rfl) (hb hby d8_53) (by decide) (by decide) (by decide) (by decide) (fun T7 rv7 X7 eh7 qc7 => ?_)
    obtain rfl := qc7
    show own_Go p.tables e below _ (T7.setTop (mkF m 56 (Array.mk [zA a, zI f, zI t, zI 4, zI 4, zI 4]) [.double v0, .int 4, .ref la]))
    refine own_blk dec8 seq8 hby hx hZ hown hK hF 6 [] [] X7 eh7 ?_
    show own_Aft X7 h0 _ 63 [zA a, zI f, zI t, zI 4, zI 4, zI 4] [.int 9, .ref a, .double v0, .int 4, .ref la]
    refine fun T8 X8 eh8 => ?_
    refine own_callPP X8 hx hZ hown (hw _ (wm 45 rfl)) (hw _ (wm 47 rfl)) (hw _ (wm 8 rfl)) (hw _ (wm 46 rfl)) (hw _ (wm 9 rfl)) (hw _ (wm 48 rfl)) (by decide) eh8 EX [.int 9] pd9 rfl (fr := 0) (lo := 0) (rm9_v l Z a0 hw [] a la va (9 : Int32) (8 : Int32) (5 : Int32) v1 h0 n0 Z0 F1 F2 F3 (Av.ln (5 : Int32) rfl) (by decide) (by decide) (Av.at ((9 : Int32) - (8 : Int32)) 1 rfl rfl)) (by rw [hml]; rfl) 4 rfl (Nat.le_of_eq rfl) (hb hby d8_63) (by decide) (by decide) (by decide) (by decide) (fun T9 rv9 X9 eh9 qc9 => ?_)
    obtain rfl := qc9
    show own_Go p.tables e below _ (T9.setTop (mkF m 66 (Array.mk [zA a, zI f, zI t, zI 4, zI 4, zI 4]) [.double v1, .double v0, .int 4, .ref la]))
    refine own_minDD X9 hx hZ hown (by decide +kernel) (hw _ (wm 49 rfl)) (hw _ (wm 50 rfl)) (hw _ (wm 20 rfl)) (hw _ (wm 51 rfl)) eh9 (own_nn Nv0) (own_nn Nv1) (by rw [hml]; rfl) 2 (Nat.le_of_eq rfl) (hb hby d8_66) (by decide) (by decide) (by decide) (by decide) (fun T10 X10 eh10 => ?_)
    have Hr4 := own_pick Nv0 Nv1
    generalize Native.java_lang_Math.nans.pick64 false v0 v1 = r4 at Hr4 ⊢
    show own_Go p.tables e below _ (T10.setTop (mkF m 69 (Array.mk [zA a, zI f, zI t, zI 4, zI 4, zI 4]) [.double r4, .int 4, .ref la]))
    refine own_sD X10 hx hZ eh10 Al 4 rfl (by show 4 < 8; decide) (hb hby d8_69) (fun T11 hp11 X11 eh11 Wr11 Ar11 => ?_)
    have Ar11' : own_A Z hp11 la .double [.double 9218868437227405312, .double t1, .double t2, .double t3, .double r4, .double t5, .double t6, .double 9218868437227405312] := Ar11
    have Av_11 := Av.other Wr11 nav
    have EX_11 := Exa.wr Wr11 EX
    have F1_11 := Fld.other Wr11 F1 (Or.inl nal)
    have F2_11 := Fld.other Wr11 F2 (Or.inl nal)
    have F3_11 := Fld.other Wr11 F3 (Or.inl nal)
    have Nf11 := Fr.snoc X11 N0 nl
    have Z_11 : n0 ≤ hp11.size := by rw [Wr.size Wr11]; exact Z0
    have K_11 := Keep.wr K0 Wr11 (Or.inl (List.mem_of_getElem? (i := 0) rfl))
    refine own_blk dec8 seq8 hby hx hZ hown hK hF 24 [true, false, false] [.ref la] X11 eh11 ?_
    show (((4 : Int32)).toInt < ((5 : Int32)).toInt) ∧ ((2 : Int32) ≠ 0) ∧ ((2 : Int32) ≠ 0) ∧ (¬ (((2 : Int32)).toInt < ((1 : Int32)).toInt)) ∧ (¬ (((2 : Int32)).toInt < ((2 : Int32)).toInt)) ∧ (Fld Z hp11 a "com/example/binwright/binwright/binning/LeastTree" "least" "[D" (.ref la)) ∧ own_Aft X11 hp11 _ 46 [zA a, zI f, zI t, zI 2, zI 2, zI 2] [.ref la]
    refine ⟨by decide, by decide, by decide, by decide, by decide, F2_11, fun T12 X12 eh12 => ?_⟩
    refine own_blk dec8 seq8 hby hx hZ hown hK hF 5 [] [] X12 eh12 ?_
    show own_Aft X12 hp11 _ 53 [zA a, zI f, zI t, zI 2, zI 2, zI 2] [.int 4, .ref a, .int 2, .ref la]
    refine fun T13 X13 eh13 => ?_
    refine own_callPP X13 hx hZ hown (hw _ (wm 45 rfl)) (hw _ (wm 47 rfl)) (hw _ (wm 8 rfl)) (hw _ (wm 46 rfl)) (hw _ (wm 9 rfl)) (hw _ (wm 48 rfl)) (by decide) eh13 EX_11 [.int 4] pd9 rfl (fr := 0) (lo := 0) (rm9_l l Z a0 hw [] a la va (4 : Int32) (8 : Int32) (5 : Int32) r4 hp11 n0 Z_11 F1_11 F2_11 F3_11 (Av_11.ln (5 : Int32) rfl) (by decide) (Ar11'.at (4 : Int32) 4 rfl rfl)) (by rw [hml]; rfl) 2 rfl (Nat.le_of_eq rfl) (hb hby d8_53) (by decide) (by decide) (by decide) (by decide) (fun T14 rv14 X14 eh14 qc14 => ?_)
    obtain rfl := qc14
    show own_Go p.tables e below _ (T14.setTop (mkF m 56 (Array.mk [zA a, zI f, zI t, zI 2, zI 2, zI 2]) [.double r4, .int 2, .ref la]))
    refine own_blk dec8 seq8 hby hx hZ hown hK hF 6 [] [] X14 eh14 ?_
    show own_Aft X14 hp11 _ 63 [zA a, zI f, zI t, zI 2, zI 2, zI 2] [.int 5, .ref a, .double r4, .int 2, .ref la]
    refine fun T15 X15 eh15 => ?_
    refine own_callPP X15 hx hZ hown (hw _ (wm 45 rfl)) (hw _ (wm 47 rfl)) (hw _ (wm 8 rfl)) (hw _ (wm 46 rfl)) (hw _ (wm 9 rfl)) (hw _ (wm 48 rfl)) (by decide) eh15 EX_11 [.int 5] pd9 rfl (fr := 0) (lo := 0) (rm9_l l Z a0 hw [] a la va (5 : Int32) (8 : Int32) (5 : Int32) t5 hp11 n0 Z_11 F1_11 F2_11 F3_11 (Av_11.ln (5 : Int32) rfl) (by decide) (Ar11'.at (5 : Int32) 5 rfl rfl)) (by rw [hml]; rfl) 4 rfl (Nat.le_of_eq rfl) (hb hby d8_63) (by decide) (by decide) (by decide) (by decide) (fun T16 rv16 X16 eh16 qc16 => ?_)
    obtain rfl := qc16
    show own_Go p.tables e below _ (T16.setTop (mkF m 66 (Array.mk [zA a, zI f, zI t, zI 2, zI 2, zI 2]) [.double t5, .double r4, .int 2, .ref la]))
    refine own_minDD X16 hx hZ hown (by decide +kernel) (hw _ (wm 49 rfl)) (hw _ (wm 50 rfl)) (hw _ (wm 20 rfl)) (hw _ (wm 51 rfl)) eh16 (own_nn Hr4.1) (own_nn Nt5) (by rw [hml]; rfl) 2 (Nat.le_of_eq rfl) (hb hby d8_66) (by decide) (by decide) (by decide) (by decide) (fun T17 X17 eh17 => ?_)
    have Hr2 := own_pick Hr4.1 Nt5
    generalize Native.java_lang_Math.nans.pick64 false r4 t5 = r2 at Hr2 ⊢
    show own_Go p.tables e below _ (T17.setTop (mkF m 69 (Array.mk [zA a, zI f, zI t, zI 2, zI 2, zI 2]) [.double r2, .int 2, .ref la]))
    refine own_sD X17 hx hZ eh17 Ar11' 2 rfl (by show 2 < 8; decide) (hb hby d8_69) (fun T18 hp18 X18 eh18 Wr18 Ar18 => ?_)
    have Ar18' : own_A Z hp18 la .double [.double 9218868437227405312, .double t1, .double r2, .double t3, .double r4, .double t5, .double t6, .double 9218868437227405312] := Ar18
    have Av_18 := Av_11.other Wr18 nav
    have EX_18 := Exa.wr Wr18 EX_11
    have F1_18 := Fld.other Wr18 F1_11 (Or.inl nal)
    have F2_18 := Fld.other Wr18 F2_11 (Or.inl nal)
    have F3_18 := Fld.other Wr18 F3_11 (Or.inl nal)
    have Nf18 := Fr.snoc X18 Nf11 nl
    have Z_18 : n0 ≤ hp18.size := by rw [Wr.size Wr18]; exact Z_11
    have K_18 := Keep.wr K_11 Wr18 (Or.inl (List.mem_of_getElem? (i := 0) rfl))
    refine own_blk dec8 seq8 hby hx hZ hown hK hF 24 [true, false, false] [.ref la] X18 eh18 ?_
    show (((2 : Int32)).toInt < ((3 : Int32)).toInt) ∧ ((2 : Int32) ≠ 0) ∧ ((2 : Int32) ≠ 0) ∧ (¬ (((1 : Int32)).toInt < ((1 : Int32)).toInt)) ∧ (¬ (((1 : Int32)).toInt < ((1 : Int32)).toInt)) ∧ (Fld Z hp18 a "com/example/binwright/binwright/binning/LeastTree" "least" "[D" (.ref la)) ∧ own_Aft X18 hp18 _ 46 [zA a, zI f, zI t, zI 1, zI 1, zI 1] [.ref la]
    refine ⟨by decide, by decide, by decide, by decide, by decide, F2_18, fun T19 X19 eh19 => ?_⟩
    refine own_blk dec8 seq8 hby hx hZ hown hK hF 5 [] [] X19 eh19 ?_
    show own_Aft X19 hp18 _ 53 [zA a, zI f, zI t, zI 1, zI 1, zI 1] [.int 2, .ref a, .int 1, .ref la]
    refine fun T20 X20 eh20 => ?_
    refine own_callPP X20 hx hZ hown (hw _ (wm 45 rfl)) (hw _ (wm 47 rfl)) (hw _ (wm 8 rfl)) (hw _ (wm 46 rfl)) (hw _ (wm 9 rfl)) (hw _ (wm 48 rfl)) (by decide) eh20 EX_18 [.int 2] pd9 rfl (fr := 0) (lo := 0) (rm9_l l Z a0 hw [] a la va (2 : Int32) (8 : Int32) (5 : Int32) r2 hp18 n0 Z_18 F1_18 F2_18 F3_18 (Av_18.ln (5 : Int32) rfl) (by decide) (Ar18'.at (2 : Int32) 2 rfl rfl)) (by rw [hml]; rfl) 2 rfl (Nat.le_of_eq rfl) (hb hby d8_53) (by decide) (by decide) (by decide) (by decide) (fun T21 rv21 X21 eh21 qc21 => ?_)
    obtain rfl := qc21
    show own_Go p.tables e below _ (T21.setTop (mkF m 56 (Array.mk [zA a, zI f, zI t, zI 1, zI 1, zI 1]) [.double r2, .int 1, .ref la]))
    refine own_blk dec8 seq8 hby hx hZ hown hK hF 6 [] [] X21 eh21 ?_
    show own_Aft X21 hp18 _ 63 [zA a, zI f, zI t, zI 1, zI 1, zI 1] [.int 3, .ref a, .double r2, .int 1, .ref la]
    refine fun T22 X22 eh22 => ?_
    refine own_callPP X22 hx hZ hown (hw _ (wm 45 rfl)) (hw _ (wm 47 rfl)) (hw _ (wm 8 rfl)) (hw _ (wm 46 rfl)) (hw _ (wm 9 rfl)) (hw _ (wm 48 rfl)) (by decide) eh22 EX_18 [.int 3] pd9 rfl (fr := 0) (lo := 0) (rm9_l l Z a0 hw [] a la va (3 : Int32) (8 : Int32) (5 : Int32) t3 hp18 n0 Z_18 F1_18 F2_18 F3_18 (Av_18.ln (5 : Int32) rfl) (by decide) (Ar18'.at (3 : Int32) 3 rfl rfl)) (by rw [hml]; rfl) 4 rfl (Nat.le_of_eq rfl) (hb hby d8_63) (by decide) (by decide) (by decide) (by decide) (fun T23 rv23 X23 eh23 qc23 => ?_)
    obtain rfl := qc23
    show own_Go p.tables e below _ (T23.setTop (mkF m 66 (Array.mk [zA a, zI f, zI t, zI 1, zI 1, zI 1]) [.double t3, .double r2, .int 1, .ref la]))
    refine own_minDD X23 hx hZ hown (by decide +kernel) (hw _ (wm 49 rfl)) (hw _ (wm 50 rfl)) (hw _ (wm 20 rfl)) (hw _ (wm 51 rfl)) eh23 (own_nn Hr2.1) (own_nn Nt3) (by rw [hml]; rfl) 2 (Nat.le_of_eq rfl) (hb hby d8_66) (by decide) (by decide) (by decide) (by decide) (fun T24 X24 eh24 => ?_)
    have Hr1 := own_pick Hr2.1 Nt3
    generalize Native.java_lang_Math.nans.pick64 false r2 t3 = r1 at Hr1 ⊢
    show own_Go p.tables e below _ (T24.setTop (mkF m 69 (Array.mk [zA a, zI f, zI t, zI 1, zI 1, zI 1]) [.double r1, .int 1, .ref la]))
    refine own_sD X24 hx hZ eh24 Ar18' 1 rfl (by show 1 < 8; decide) (hb hby d8_69) (fun T25 hp25 X25 eh25 Wr25 Ar25 => ?_)
    have Ar25' : own_A Z hp25 la .double [.double 9218868437227405312, .double r1, .double r2, .double t3, .double r4, .double t5, .double t6, .double 9218868437227405312] := Ar25
    have Av_25 := Av_18.other Wr25 nav
    have EX_25 := Exa.wr Wr25 EX_18
    have F1_25 := Fld.other Wr25 F1_18 (Or.inl nal)
    have F2_25 := Fld.other Wr25 F2_18 (Or.inl nal)
    have F3_25 := Fld.other Wr25 F3_18 (Or.inl nal)
    have Nf25 := Fr.snoc X25 Nf18 nl
    have Z_25 : n0 ≤ hp25.size := by rw [Wr.size Wr25]; exact Z_18
    have K_25 := Keep.wr K_18 Wr25 (Or.inl (List.mem_of_getElem? (i := 0) rfl))
    refine own_blk dec8 seq8 hby hx hZ hown hK hF 17 [true, true] [] X25 eh25 ?_
    show (((1 : Int32)).toInt < ((2 : Int32)).toInt) ∧ ((2 : Int32) ≠ 0) ∧ ((2 : Int32) ≠ 0) ∧ (((0 : Int32)).toInt < ((1 : Int32)).toInt) ∧ own_Aft X25 hp25 _ 89 [zA a, zI f, zI t, zI 0, zI 0, zI 2] []
    refine ⟨by decide, by decide, by decide, by decide, fun T26 X26 eh26 => ?_⟩
    exact own_retV X26 hx hlk eh26 hret (hb hby d8_89) (by decide) (by decide) (⟨rfl, Nf25, K_25, r1, r2, t3, r4, t5, t6, Ar25', Hr1, Hr2, Ht3, Hr4, Ht5, Ht6⟩)
  · skip
    have g4 := ee4 (by omega); subst g4
    suffices tl27 : ∀ (_u : Unit), own_Aft X0 h0 (own_Fin s ({ frames := 1, cells := 0, slots := 0, locals := 24 } : Room).cells ({ frames := 1, cells := 0, slots := 0, locals := 24 } : Room).slots (fun v h L => v = none ∧ Fr n0 L ∧ Keep h0 h [la] ∧ ∃ (r1 r2 r3 r4 r5 r6 : UInt64), own_A Z h la .double [.double 9218868437227405312, .double r1, .double r2, .double r3, .double r4, .double r5, .double r6, .double 9218868437227405312] ∧ own_mn r1 r2 r3 ∧ own_mn r2 r4 r5 ∧ own_mn r3 r6 9218868437227405312 ∧ own_mn r4 v0 v1 ∧ own_mn r5 v2 v3 ∧ own_mn r6 v4 9218868437227405312)) 27 [zA a, zI f, zI t, zI 4, zI 5, zU] [] by
      obtain ⟨hf, ht⟩ | ⟨hf, ht⟩ | ⟨hf, ht⟩ | ⟨hf, ht⟩ : (f.toInt = (0 : Int) ∧ t.toInt = (3 : Int)) ∨ (f.toInt = (0 : Int) ∧ t.toInt = (4 : Int)) ∨ (f.toInt = (1 : Int) ∧ t.toInt = (3 : Int)) ∨ (f.toInt = (1 : Int) ∧ t.toInt = (4 : Int)) := by omega
      · skip
        obtain rfl : f = (0 : Int32) := Int32.toInt_inj.mp hf
        obtain rfl : t = (3 : Int32) := Int32.toInt_inj.mp ht
        show own_Go p.tables e below _ (T0.setTop (mkF m 0 (Array.mk [zA a, zI 0, zI 3, zU, zU, zU]) []))
        refine own_blk dec8 seq8 hby hx hZ hown hK hF 19 [true] [.int 8, .int 8] X0 e0 ?_
        show (((0 : Int32)).toInt < ((3 : Int32)).toInt) ∧ (Fld Z h0 a "com/example/binwright/binwright/binning/LeastTree" "leaves" "I" (.int 8)) ∧ ((2 : Int32) ≠ 0) ∧ (Fld Z h0 a "com/example/binwright/binwright/binning/LeastTree" "leaves" "I" (.int 8)) ∧ ((2 : Int32) ≠ 0) ∧ own_Aft X0 h0 _ 27 [zA a, zI 0, zI 3, zI 4, zI 5, zU] []
        refine ⟨by decide, F1, by decide, F1, by decide, fun T28 X28 eh28 => ?_⟩
        exact tl27 () T28 X28 eh28
      · skip
        obtain rfl : f = (0 : Int32) := Int32.toInt_inj.mp hf
        obtain rfl : t = (4 : Int32) := Int32.toInt_inj.mp ht
        show own_Go p.tables e below _ (T0.setTop (mkF m 0 (Array.mk [zA a, zI 0, zI 4, zU, zU, zU]) []))
        refine own_blk dec8 seq8 hby hx hZ hown hK hF 19 [true] [.int 8, .int 8] X0 e0 ?_
        show (((0 : Int32)).toInt < ((4 : Int32)).toInt) ∧ (Fld Z h0 a "com/example/binwright/binwright/binning/LeastTree" "leaves" "I" (.int 8)) ∧ ((2 : Int32) ≠ 0) ∧ (Fld Z h0 a "com/example/binwright/binwright/binning/LeastTree" "leaves" "I" (.int 8)) ∧ ((2 : Int32) ≠ 0) ∧ own_Aft X0 h0 _ 27 [zA a, zI 0, zI 4, zI 4, zI 5, zU] []
        refine ⟨by decide, F1, by decide, F1, by decide, fun T29 X29 eh29 => ?_⟩
        exact tl27 () T29 X29 eh29
      · skip
        obtain rfl : f = (1 : Int32) := Int32.toInt_inj.mp hf
        obtain rfl : t = (3 : Int32) := Int32.toInt_inj.mp ht
        show own_Go p.tables e below _ (T0.setTop (mkF m 0 (Array.mk [zA a, zI 1, zI 3, zU, zU, zU]) []))
        refine own_blk dec8 seq8 hby hx hZ hown hK hF 19 [true] [.int 8, .int 8] X0 e0 ?_
        show (((1 : Int32)).toInt < ((3 : Int32)).toInt) ∧ (Fld Z h0 a "com/example/binwright/binwright/binning/LeastTree" "leaves" "I" (.int 8)) ∧ ((2 : Int32) ≠ 0) ∧ (Fld Z h0 a "com/example/binwright/binwright/binning/LeastTree" "leaves" "I" (.int 8)) ∧ ((2 : Int32) ≠ 0) ∧ own_Aft X0 h0 _ 27 [zA a, zI 1, zI 3, zI 4, zI 5, zU] []
        refine ⟨by decide, F1, by decide, F1, by decide, fun T30 X30 eh30 => ?_⟩
        exact tl27 () T30 X30 eh30
      · skip
        obtain rfl : f = (1 : Int32) := Int32.toInt_inj.mp hf
        obtain rfl : t = (4 : Int32) := Int32.toInt_inj.mp ht
        show own_Go p.tables e below _ (T0.setTop (mkF m 0 (Array.mk [zA a, zI 1, zI 4, zU, zU, zU]) []))
        refine own_blk dec8 seq8 hby hx hZ hown hK hF 19 [true] [.int 8, .int 8] X0 e0 ?_
        show (((1 : Int32)).toInt < ((4 : Int32)).toInt) ∧ (Fld Z h0 a "com/example/binwright/binwright/binning/LeastTree" "leaves" "I" (.int 8)) ∧ ((2 : Int32) ≠ 0) ∧ (Fld Z h0 a "com/example/binwright/binwright/binning/LeastTree" "leaves" "I" (.int 8)) ∧ ((2 : Int32) ≠ 0) ∧ own_Aft X0 h0 _ 27 [zA a, zI 1, zI 4, zI 4, zI 5, zU] []
        refine ⟨by decide, F1, by decide, F1, by decide, fun T31 X31 eh31 => ?_⟩
        exact tl27 () T31 X31 eh31
    intro _u T27 X27 eh27
    show own_Go p.tables e below _ (T27.setTop (mkF m 27 (Array.mk [zA a, zI f, zI t, zI 4, zI 5, zU]) []))
    refine own_blk dec8 seq8 hby hx hZ hown hK hF 15 [false, false] [.ref la] X27 eh27 ?_
    show (¬ (((4 : Int32)).toInt < ((1 : Int32)).toInt)) ∧ (¬ (((5 : Int32)).toInt < ((4 : Int32)).toInt)) ∧ (Fld Z h0 a "com/example/binwright/binwright/binning/LeastTree" "least" "[D" (.ref la)) ∧ own_Aft X27 h0 _ 53 [zA a, zI f, zI t, zI 4, zI 5, zI 4] [.int 8, .ref a, .int 4, .ref la]
    refine ⟨by decide, by decide, F2, fun T32 X32 eh32 => ?_⟩
    refine own_callPP X32 hx hZ hown (hw _ (wm 45 rfl)) (hw _ (wm 47 rfl)) (hw _ (wm 8 rfl)) (hw _ (wm 46 rfl)) (hw _ (wm 9 rfl)) (hw _ (wm 48 rfl)) (by decide) eh32 EX [.int 8] pd9 rfl (fr := 0) (lo := 0) (rm9_v l Z a0 hw [] a la va (8 : Int32) (8 : Int32) (5 : Int32) v0 h0 n0 Z0 F1 F2 F3 (Av.ln (5 : Int32) rfl) (by decide) (by decide) (Av.at ((8 : Int32) - (8 : Int32)) 0 rfl rfl)) (by rw [hml]; rfl) 2 rfl (Nat.le_of_eq rfl) (hb hby d8_53) (by decide) (by decide) (by decide) (by decide) (fun T33 rv33 X33 eh33 qc33 => ?_)
    obtain rfl := qc33
    show own_Go p.tables e below _ (T33.setTop (mkF m 56 (Array.mk [zA a, zI f, zI t, zI 4, zI 5, zI 4]) [.double v0, .int 4, .ref la]))
    refine own_blk dec8 seq8 hby hx hZ hown hK hF 6 [] [] X33 eh33 ?_
    show own_Aft X33 h0 _ 63 [zA a, zI f, zI t, zI 4, zI 5, zI 4] [.int 9, .ref a, .double v0, .int 4, .ref la]
    refine fun T34 X34 eh34 => ?_
    refine own_callPP X34 hx hZ hown (hw _ (wm 45 rfl)) (hw _ (wm 47 rfl)) (hw _ (wm 8 rfl)) (hw _ (wm 46 rfl)) (hw _ (wm 9 rfl)) (hw _ (wm 48 rfl)) (by decide) eh34 EX [.int 9] pd9 rfl (fr := 0) (lo := 0) (rm9_v l Z a0 hw [] a la va (9 : Int32) (8 : Int32) (5 : Int32) v1 h0 n0 Z0 F1 F2 F3 (Av.ln (5 : Int32) rfl) (by decide) (by decide) (Av.at ((9 : Int32) - (8 : Int32)) 1 rfl rfl)) (by rw [hml]; rfl) 4 rfl (Nat.le_of_eq rfl) (hb hby d8_63) (by decide) (by decide) (by decide) (by decide) (fun T35 rv35 X35 eh35 qc35 => ?_)
    obtain rfl := qc35
    show own_Go p.tables e below _ (T35.setTop (mkF m 66 (Array.mk [zA a, zI f, zI t, zI 4, zI 5, zI 4]) [.double v1, .double v0, .int 4, .ref la]))
    refine own_minDD X35 hx hZ hown (by decide +kernel) (hw _ (wm 49 rfl)) (hw _ (wm 50 rfl)) (hw _ (wm 20 rfl)) (hw _ (wm 51 rfl)) eh35 (own_nn Nv0) (own_nn Nv1) (by rw [hml]; rfl) 2 (Nat.le_of_eq rfl) (hb hby d8_66) (by decide) (by decide) (by decide) (by decide) (fun T36 X36 eh36 => ?_)
    have Hr4 := own_pick Nv0 Nv1
    generalize Native.java_lang_Math.nans.pick64 false v0 v1 = r4 at Hr4 ⊢
    show own_Go p.tables e below _ (T36.setTop (mkF m 69 (Array.mk [zA a, zI f, zI t, zI 4, zI 5, zI 4]) [.double r4, .int 4, .ref la]))
    refine own_sD X36 hx hZ eh36 Al 4 rfl (by show 4 < 8; decide) (hb hby d8_69) (fun T37 hp37 X37 eh37 Wr37 Ar37 => ?_)
    have Ar37' : own_A Z hp37 la .double [.double 9218868437227405312, .double t1, .double t2, .double t3, .double r4, .double t5, .double t6, .double 9218868437227405312] := Ar37
    have Av_37 := Av.other Wr37 nav
    have EX_37 := Exa.wr Wr37 EX
    have F1_37 := Fld.other Wr37 F1 (Or.inl nal)
    have F2_37 := Fld.other Wr37 F2 (Or.inl nal)
    have F3_37 := Fld.other Wr37 F3 (Or.inl nal)
    have Nf37 := Fr.snoc X37 N0 nl
    have Z_37 : n0 ≤ hp37.size := by rw [Wr.size Wr37]; exact Z0
    have K_37 := Keep.wr K0 Wr37 (Or.inl (List.mem_of_getElem? (i := 0) rfl))
    refine own_blk dec8 seq8 hby hx hZ hown hK hF 12 [false] [.ref la] X37 eh37 ?_
    show (¬ (((5 : Int32)).toInt < ((5 : Int32)).toInt)) ∧ (Fld Z hp37 a "com/example/binwright/binwright/binning/LeastTree" "least" "[D" (.ref la)) ∧ own_Aft X37 hp37 _ 53 [zA a, zI f, zI t, zI 4, zI 5, zI 5] [.int 10, .ref a, .int 5, .ref la]
    refine ⟨by decide, F2_37, fun T38 X38 eh38 => ?_⟩
    refine own_callPP X38 hx hZ hown (hw _ (wm 45 rfl)) (hw _ (wm 47 rfl)) (hw _ (wm 8 rfl)) (hw _ (wm 46 rfl)) (hw _ (wm 9 rfl)) (hw _ (wm 48 rfl)) (by decide) eh38 EX_37 [.int 10] pd9 rfl (fr := 0) (lo := 0) (rm9_v l Z a0 hw [] a la va (10 : Int32) (8 : Int32) (5 : Int32) v2 hp37 n0 Z_37 F1_37 F2_37 F3_37 (Av_37.ln (5 : Int32) rfl) (by decide) (by decide) (Av_37.at ((10 : Int32) - (8 : Int32)) 2 rfl rfl)) (by rw [hml]; rfl) 2 rfl (Nat.le_of_eq rfl) (hb hby d8_53) (by decide) (by decide) (by decide) (by decide) (fun T39 rv39 X39 eh39 qc39 => ?_)
    obtain rfl := qc39
    show own_Go p.tables e below _ (T39.setTop (mkF m 56 (Array.mk [zA a, zI f, zI t, zI 4, zI 5, zI 5]) [.double v2, .int 5, .ref la]))
    refine own_blk dec8 seq8 hby hx hZ hown hK hF 6 [] [] X39 eh39 ?_
    show own_Aft X39 hp37 _ 63 [zA a, zI f, zI t, zI 4, zI 5, zI 5] [.int 11, .ref a, .double v2, .int 5, .ref la]
    refine fun T40 X40 eh40 => ?_
    refine own_callPP X40 hx hZ hown (hw _ (wm 45 rfl)) (hw _ (wm 47 rfl)) (hw _ (wm 8 rfl)) (hw _ (wm 46 rfl)) (hw _ (wm 9 rfl)) (hw _ (wm 48 rfl)) (by decide) eh40 EX_37 [.int 11] pd9 rfl (fr := 0) (lo := 0) (rm9_v l Z a0 hw [] a la va (11 : Int32) (8 : Int32) (5 : Int32) v3 hp37 n0 Z_37 F1_37 F2_37 F3_37 (Av_37.ln (5 : Int32) rfl) (by decide) (by decide) (Av_37.at ((11 : Int32) - (8 : Int32)) 3 rfl rfl)) (by rw [hml]; rfl) 4 rfl (Nat.le_of_eq rfl) (hb hby d8_63) (by decide) (by decide) (by decide) (by decide) (fun T41 rv41 X41 eh41 qc41 => ?_)
    obtain rfl := qc41
    show own_Go p.tables e below _ (T41.setTop (mkF m 66 (Array.mk [zA a, zI f, zI t, zI 4, zI 5, zI 5]) [.double v3, .double v2, .int 5, .ref la]))
    refine own_minDD X41 hx hZ hown (by decide +kernel) (hw _ (wm 49 rfl)) (hw _ (wm 50 rfl)) (hw _ (wm 20 rfl)) (hw _ (wm 51 rfl)) eh41 (own_nn Nv2) (own_nn Nv3) (by rw [hml]; rfl) 2 (Nat.le_of_eq rfl) (hb hby d8_66) (by decide) (by decide) (by decide) (by decide) (fun T42 X42 eh42 => ?_)
    have Hr5 := own_pick Nv2 Nv3
    generalize Native.java_lang_Math.nans.pick64 false v2 v3 = r5 at Hr5 ⊢
    show own_Go p.tables e below _ (T42.setTop (mkF m 69 (Array.mk [zA a, zI f, zI t, zI 4, zI 5, zI 5]) [.double r5, .int 5, .ref la]))
    refine own_sD X42 hx hZ eh42 Ar37' 5 rfl (by show 5 < 8; decide) (hb hby d8_69) (fun T43 hp43 X43 eh43 Wr43 Ar43 => ?_)
    have Ar43' : own_A Z hp43 la .double [.double 9218868437227405312, .double t1, .double t2, .double t3, .double r4, .double r5, .double t6, .double 9218868437227405312] := Ar43
    have Av_43 := Av_37.other Wr43 nav
    have EX_43 := Exa.wr Wr43 EX_37
    have F1_43 := Fld.other Wr43 F1_37 (Or.inl nal)
    have F2_43 := Fld.other Wr43 F2_37 (Or.inl nal)
    have F3_43 := Fld.other Wr43 F3_37 (Or.inl nal)
    have Nf43 := Fr.snoc X43 Nf37 nl
    have Z_43 : n0 ≤ hp43.size := by rw [Wr.size Wr43]; exact Z_37
    have K_43 := Keep.wr K_37 Wr43 (Or.inl (List.mem_of_getElem? (i := 0) rfl))
    refine own_blk dec8 seq8 hby hx hZ hown hK hF 24 [true, false, false] [.ref la] X43 eh43 ?_
    show (((5 : Int32)).toInt < ((6 : Int32)).toInt) ∧ ((2 : Int32) ≠ 0) ∧ ((2 : Int32) ≠ 0) ∧ (¬ (((2 : Int32)).toInt < ((1 : Int32)).toInt)) ∧ (¬ (((2 : Int32)).toInt < ((2 : Int32)).toInt)) ∧ (Fld Z hp43 a "com/example/binwright/binwright/binning/LeastTree" "least" "[D" (.ref la)) ∧ own_Aft X43 hp43 _ 46 [zA a, zI f, zI t, zI 2, zI 2, zI 2] [.ref la]
    refine ⟨by decide, by decide, by decide, by decide, by decide, F2_43, fun T44 X44 eh44 => ?_⟩
    refine own_blk dec8 seq8 hby hx hZ hown hK hF 5 [] [] X44 eh44 ?_
    show own_Aft X44 hp43 _ 53 [zA a, zI f, zI t, zI 2, zI 2, zI 2] [.int 4, .ref a, .int 2, .ref la]
    refine fun T45 X45 eh45 => ?_
    refine own_callPP X45 hx hZ hown (hw _ (wm 45 rfl)) (hw _ (wm 47 rfl)) (hw _ (wm 8 rfl)) (hw _ (wm 46 rfl)) (hw _ (wm 9 rfl)) (hw _ (wm 48 rfl)) (by decide) eh45 EX_43 [.int 4] pd9 rfl (fr := 0) (lo := 0) (rm9_l l Z a0 hw [] a la va (4 : Int32) (8 : Int32) (5 : Int32) r4 hp43 n0 Z_43 F1_43 F2_43 F3_43 (Av_43.ln (5 : Int32) rfl) (by decide) (Ar43'.at (4 : Int32) 4 rfl rfl)) (by rw [hml]; rfl) 2 rfl (Nat.le_of_eq rfl) (hb hby d8_53) (by decide) (by decide) (by decide) (by decide) (fun T46 rv46 X46 eh46 qc46 => ?_)
    obtain rfl := qc46
    show own_Go p.tables e below _ (T46.setTop (mkF m 56 (Array.mk [zA a, zI f, zI t, zI 2, zI 2, zI 2]) [.double r4, .int 2, .ref la]))
    refine own_blk dec8 seq8 hby hx hZ hown hK hF 6 [] [] X46 eh46 ?_
    show own_Aft X46 hp43 _ 63 [zA a, zI f, zI t, zI 2, zI 2, zI 2] [.int 5, .ref a, .double r4, .int 2, .ref la]
    refine fun T47 X47 eh47 => ?_
    refine own_callPP X47 hx hZ hown (hw _ (wm 45 rfl)) (hw _ (wm 47 rfl)) (hw _ (wm 8 rfl)) (hw _ (wm 46 rfl)) (hw _ (wm 9 rfl)) (hw _ (wm 48 rfl)) (by decide) eh47 EX_43 [.int 5] pd9 rfl (fr := 0) (lo := 0) (rm9_l l Z a0 hw [] a la va (5 : Int32) (8 : Int32) (5 : Int32) r5 hp43 n0 Z_43 F1_43 F2_43 F3_43 (Av_43.ln (5 : Int32) rfl) (by decide) (Ar43'.at (5 : Int32) 5 rfl rfl)) (by rw [hml]; rfl) 4 rfl (Nat.le_of_eq rfl) (hb hby d8_63) (by decide) (by decide) (by decide) (by decide) (fun T48 rv48 X48 eh48 qc48 => ?_)
    obtain rfl := qc48
    show own_Go p.tables e below _ (T48.setTop (mkF m 66 (Array.mk [zA a, zI f, zI t, zI 2, zI 2, zI 2]) [.double r5, .double r4, .int 2, .ref la]))
    refine own_minDD X48 hx hZ hown (by decide +kernel) (hw _ (wm 49 rfl)) (hw _ (wm 50 rfl)) (hw _ (wm 20 rfl)) (hw _ (wm 51 rfl)) eh48 (own_nn Hr4.1) (own_nn Hr5.1) (by rw [hml]; rfl) 2 (Nat.le_of_eq rfl) (hb hby d8_66) (by decide) (by decide) (by decide) (by decide) (fun T49 X49 eh49 => ?_)
    have Hr2 := own_pick Hr4.1 Hr5.1
    generalize Native.java_lang_Math.nans.pick64 false r4 r5 = r2 at Hr2 ⊢
    show own_Go p.tables e below _ (T49.setTop (mkF m 69 (Array.mk [zA a, zI f, zI t, zI 2, zI 2, zI 2]) [.double r2, .int 2, .ref la]))
    refine own_sD X49 hx hZ eh49 Ar43' 2 rfl (by show 2 < 8; decide) (hb hby d8_69) (fun T50 hp50 X50 eh50 Wr50 Ar50 => ?_)
    have Ar50' : own_A Z hp50 la .double [.double 9218868437227405312, .double t1, .double r2, .double t3, .double r4, .double r5, .double t6, .double 9218868437227405312] := Ar50
    have Av_50 := Av_43.other Wr50 nav
    have EX_50 := Exa.wr Wr50 EX_43
    have F1_50 := Fld.other Wr50 F1_43 (Or.inl nal)
    have F2_50 := Fld.other Wr50 F2_43 (Or.inl nal)
    have F3_50 := Fld.other Wr50 F3_43 (Or.inl nal)
    have Nf50 := Fr.snoc X50 Nf43 nl
    have Z_50 : n0 ≤ hp50.size := by rw [Wr.size Wr50]; exact Z_43
    have K_50 := Keep.wr K_43 Wr50 (Or.inl (List.mem_of_getElem? (i := 0) rfl))
    refine own_blk dec8 seq8 hby hx hZ hown hK hF 24 [true, false, false] [.ref la] X50 eh50 ?_
    show (((2 : Int32)).toInt < ((3 : Int32)).toInt) ∧ ((2 : Int32) ≠ 0) ∧ ((2 : Int32) ≠ 0) ∧ (¬ (((1 : Int32)).toInt < ((1 : Int32)).toInt)) ∧ (¬ (((1 : Int32)).toInt < ((1 : Int32)).toInt)) ∧ (Fld Z hp50 a "com/example/binwright/binwright/binning/LeastTree" "least" "[D" (.ref la)) ∧ own_Aft X50 hp50 _ 46 [zA a, zI f, zI t, zI 1, zI 1, zI 1] [.ref la]
    refine ⟨by decide, by decide, by decide, by decide, by decide, F2_50, fun T51 X51 eh51 => ?_⟩
    refine own_blk dec8 seq8 hby hx hZ hown hK hF 5 [] [] X51 eh51 ?_
    show own_Aft X51 hp50 _ 53 [zA a, zI f, zI t, zI 1, zI 1, zI 1] [.int 2, .ref a, .int 1, .ref la]
    refine fun T52 X52 eh52 => ?_
    refine own_callPP X52 hx hZ hown (hw _ (wm 45 rfl)) (hw _ (wm 47 rfl)) (hw _ (wm 8 rfl)) (hw _ (wm 46 rfl)) (hw _ (wm 9 rfl)) (hw _ (wm 48 rfl)) (by decide) eh52 EX_50 [.int 2] pd9 rfl (fr := 0) (lo := 0) (rm9_l l Z a0 hw [] a la va (2 : Int32) (8 : Int32) (5 : Int32) r2 hp50 n0 Z_50 F1_50 F2_50 F3_50 (Av_50.ln (5 : Int32) rfl) (by decide) (Ar50'.at (2 : Int32) 2 rfl rfl)) (by rw [hml]; rfl) 2 rfl (Nat.le_of_eq rfl) (hb hby d8_53) (by decide) (by decide) (by decide) (by decide) (fun T53 rv53 X53 eh53 qc53 => ?_)
    obtain rfl := qc53
    show own_Go p.tables e below _ (T53.setTop (mkF m 56 (Array.mk [zA a, zI f, zI t, zI 1, zI 1, zI 1]) [.double r2, .int 1, .ref la]))
    refine own_blk dec8 seq8 hby hx hZ hown hK hF 6 [] [] X53 eh53 ?_
    show own_Aft X53 hp50 _ 63 [zA a, zI f, zI t, zI 1, zI 1, zI 1] [.int 3, .ref a, .double r2, .int 1, .ref la]
    refine fun T54 X54 eh54 => ?_
    refine own_callPP X54 hx hZ hown (hw _ (wm 45 rfl)) (hw _ (wm 47 rfl)) (hw _ (wm 8 rfl)) (hw _ (wm 46 rfl)) (hw _ (wm 9 rfl)) (hw _ (wm 48 rfl)) (by decide) eh54 EX_50 [.int 3] pd9 rfl (fr := 0) (lo := 0) (rm9_l l Z a0 hw [] a la va (3 : Int32) (8 : Int32) (5 : Int32) t3 hp50 n0 Z_50 F1_50 F2_50 F3_50 (Av_50.ln (5 : Int32) rfl) (by decide) (Ar50'.at (3 : Int32) 3 rfl rfl)) (by rw [hml]; rfl) 4 rfl (Nat.le_of_eq rfl) (hb hby d8_63) (by decide) (by decide) (by decide) (by decide) (fun T55 rv55 X55 eh55 qc55 => ?_)
    obtain rfl := qc55
    show own_Go p.tables e below _ (T55.setTop (mkF m 66 (Array.mk [zA a, zI f, zI t, zI 1, zI 1, zI 1]) [.double t3, .double r2, .int 1, .ref la]))
    refine own_minDD X55 hx hZ hown (by decide +kernel) (hw _ (wm 49 rfl)) (hw _ (wm 50 rfl)) (hw _ (wm 20 rfl)) (hw _ (wm 51 rfl)) eh55 (own_nn Hr2.1) (own_nn Nt3) (by rw [hml]; rfl) 2 (Nat.le_of_eq rfl) (hb hby d8_66) (by decide) (by decide) (by decide) (by decide) (fun T56 X56 eh56 => ?_)
    have Hr1 := own_pick Hr2.1 Nt3
    generalize Native.java_lang_Math.nans.pick64 false r2 t3 = r1 at Hr1 ⊢
    show own_Go p.tables e below _ (T56.setTop (mkF m 69 (Array.mk [zA a, zI f, zI t, zI 1, zI 1, zI 1]) [.double r1, .int 1, .ref la]))
    refine own_sD X56 hx hZ eh56 Ar50' 1 rfl (by show 1 < 8; decide) (hb hby d8_69) (fun T57 hp57 X57 eh57 Wr57 Ar57 => ?_)
    have Ar57' : own_A Z hp57 la .double [.double 9218868437227405312, .double r1, .double r2, .double t3, .double r4, .double r5, .double t6, .double 9218868437227405312] := Ar57
    have Av_57 := Av_50.other Wr57 nav
    have EX_57 := Exa.wr Wr57 EX_50
    have F1_57 := Fld.other Wr57 F1_50 (Or.inl nal)
    have F2_57 := Fld.other Wr57 F2_50 (Or.inl nal)
    have F3_57 := Fld.other Wr57 F3_50 (Or.inl nal)
    have Nf57 := Fr.snoc X57 Nf50 nl
    have Z_57 : n0 ≤ hp57.size := by rw [Wr.size Wr57]; exact Z_50
    have K_57 := Keep.wr K_50 Wr57 (Or.inl (List.mem_of_getElem? (i := 0) rfl))
    refine own_blk dec8 seq8 hby hx hZ hown hK hF 17 [true, true] [] X57 eh57 ?_
    show (((1 : Int32)).toInt < ((2 : Int32)).toInt) ∧ ((2 : Int32) ≠ 0) ∧ ((2 : Int32) ≠ 0) ∧ (((0 : Int32)).toInt < ((1 : Int32)).toInt) ∧ own_Aft X57 hp57 _ 89 [zA a, zI f, zI t, zI 0, zI 0, zI 2] []
    refine ⟨by decide, by decide, by decide, by decide, fun T58 X58 eh58 => ?_⟩
    exact own_retV X58 hx hlk eh58 hret (hb hby d8_89) (by decide) (by decide) (⟨rfl, Nf57, K_57, r1, r2, t3, r4, r5, t6, Ar57', Hr1, Hr2, Ht3, Hr4, Hr5, Ht6⟩)
  · skip
    suffices tl59 : ∀ (_u : Unit), own_Aft X0 h0 (own_Fin s ({ frames := 1, cells := 0, slots := 0, locals := 24 } : Room).cells ({ frames := 1, cells := 0, slots := 0, locals := 24 } : Room).slots (fun v h L => v = none ∧ Fr n0 L ∧ Keep h0 h [la] ∧ ∃ (r1 r2 r3 r4 r5 r6 : UInt64), own_A Z h la .double [.double 9218868437227405312, .double r1, .double r2, .double r3, .double r4, .double r5, .double r6, .double 9218868437227405312] ∧ own_mn r1 r2 r3 ∧ own_mn r2 r4 r5 ∧ own_mn r3 r6 9218868437227405312 ∧ own_mn r4 v0 v1 ∧ own_mn r5 v2 v3 ∧ own_mn r6 v4 9218868437227405312)) 27 [zA a, zI f, zI t, zI 4, zI 6, zU] [] by
      obtain ⟨hf, ht⟩ | ⟨hf, ht⟩ : (f.toInt = (0 : Int) ∧ t.toInt = (5 : Int)) ∨ (f.toInt = (1 : Int) ∧ t.toInt = (5 : Int)) := by omega
      · skip
        obtain rfl : f = (0 : Int32) := Int32.toInt_inj.mp hf
        obtain rfl : t = (5 : Int32) := Int32.toInt_inj.mp ht
        show own_Go p.tables e below _ (T0.setTop (mkF m 0 (Array.mk [zA a, zI 0, zI 5, zU, zU, zU]) []))
        refine own_blk dec8 seq8 hby hx hZ hown hK hF 19 [true] [.int 8, .int 8] X0 e0 ?_
        show (((0 : Int32)).toInt < ((5 : Int32)).toInt) ∧ (Fld Z h0 a "com/example/binwright/binwright/binning/LeastTree" "leaves" "I" (.int 8)) ∧ ((2 : Int32) ≠ 0) ∧ (Fld Z h0 a "com/example/binwright/binwright/binning/LeastTree" "leaves" "I" (.int 8)) ∧ ((2 : Int32) ≠ 0) ∧ own_Aft X0 h0 _ 27 [zA a, zI 0, zI 5, zI 4, zI 6, zU] []
        refine ⟨by decide, F1, by decide, F1, by decide, fun T60 X60 eh60 => ?_⟩
        exact tl59 () T60 X60 eh60
      · skip
        obtain rfl : f = (1 : Int32) := Int32.toInt_inj.mp hf
        obtain rfl : t = (5 : Int32) := Int32.toInt_inj.mp ht
        show own_Go p.tables e below _ (T0.setTop (mkF m 0 (Array.mk [zA a, zI 1, zI 5, zU, zU, zU]) []))
        refine own_blk dec8 seq8 hby hx hZ hown hK hF 19 [true] [.int 8, .int 8] X0 e0 ?_
        show (((1 : Int32)).toInt < ((5 : Int32)).toInt) ∧ (Fld Z h0 a "com/example/binwright/binwright/binning/LeastTree" "leaves" "I" (.int 8)) ∧ ((2 : Int32) ≠ 0) ∧ (Fld Z h0 a "com/example/binwright/binwright/binning/LeastTree" "leaves" "I" (.int 8)) ∧ ((2 : Int32) ≠ 0) ∧ own_Aft X0 h0 _ 27 [zA a, zI 1, zI 5, zI 4, zI 6, zU] []
        refine ⟨by decide, F1, by decide, F1, by decide, fun T61 X61 eh61 => ?_⟩
        exact tl59 () T61 X61 eh61
    intro _u T59 X59 eh59
    show own_Go p.tables e below _ (T59.setTop (mkF m 27 (Array.mk [zA a, zI f, zI t, zI 4, zI 6, zU]) []))
    refine own_blk dec8 seq8 hby hx hZ hown hK hF 15 [false, false] [.ref la] X59 eh59 ?_
    show (¬ (((4 : Int32)).toInt < ((1 : Int32)).toInt)) ∧ (¬ (((6 : Int32)).toInt < ((4 : Int32)).toInt)) ∧ (Fld Z h0 a "com/example/binwright/binwright/binning/LeastTree" "least" "[D" (.ref la)) ∧ own_Aft X59 h0 _ 53 [zA a, zI f, zI t, zI 4, zI 6, zI 4] [.int 8, .ref a, .int 4, .ref la]
    refine ⟨by decide, by decide, F2, fun T62 X62 eh62 => ?_⟩
    refine own_callPP X62 hx hZ hown (hw _ (wm 45 rfl)) (hw _ (wm 47 rfl)) (hw _ (wm 8 rfl)) (hw _ (wm 46 rfl)) (hw _ (wm 9 rfl)) (hw _ (wm 48 rfl)) (by decide) eh62 EX [.int 8] pd9 rfl (fr := 0) (lo := 0) (rm9_v l Z a0 hw [] a la va (8 : Int32) (8 : Int32) (5 : Int32) v0 h0 n0 Z0 F1 F2 F3 (Av.ln (5 : Int32) rfl) (by decide) (by decide) (Av.at ((8 : Int32) - (8 : Int32)) 0 rfl rfl)) (by rw [hml]; rfl) 2 rfl (Nat.le_of_eq rfl) (hb hby d8_53) (by decide) (by decide) (by decide) (by decide) (fun T63 rv63 X63 eh63 qc63 => ?_)
    obtain rfl := qc63
    show own_Go p.tables e below _ (T63.setTop (mkF m 56 (Array.mk [zA a, zI f, zI t, zI 4, zI 6, zI 4]) [.double v0, .int 4, .ref la]))
    refine own_blk dec8 seq8 hby hx hZ hown hK hF 6 [] [] X63 eh63 ?_
    show own_Aft X63 h0 _ 63 [zA a, zI f, zI t, zI 4, zI 6, zI 4] [.int 9, .ref a, .double v0, .int 4, .ref la]
    refine fun T64 X64 eh64 => ?_
    refine own_callPP X64 hx hZ hown (hw _ (wm 45 rfl)) (hw _ (wm 47 rfl)) (hw _ (wm 8 rfl)) (hw _ (wm 46 rfl)) (hw _ (wm 9 rfl)) (hw _ (wm 48 rfl)) (by decide) eh64 EX [.int 9] pd9 rfl (fr := 0) (lo := 0) (rm9_v l Z a0 hw [] a la va (9 : Int32) (8 : Int32) (5 : Int32) v1 h0 n0 Z0 F1 F2 F3 (Av.ln (5 : Int32) rfl) (by decide) (by decide) (Av.at ((9 : Int32) - (8 : Int32)) 1 rfl rfl)) (by rw [hml]; rfl) 4 rfl (Nat.le_of_eq rfl) (hb hby d8_63) (by decide) (by decide) (by decide) (by decide) (fun T65 rv65 X65 eh65 qc65 => ?_)
    obtain rfl := qc65
    show own_Go p.tables e below _ (T65.setTop (mkF m 66 (Array.mk [zA a, zI f, zI t, zI 4, zI 6, zI 4]) [.double v1, .double v0, .int 4, .ref la]))
    refine own_minDD X65 hx hZ hown (by decide +kernel) (hw _ (wm 49 rfl)) (hw _ (wm 50 rfl)) (hw _ (wm 20 rfl)) (hw _ (wm 51 rfl)) eh65 (own_nn Nv0) (own_nn Nv1) (by rw [hml]; rfl) 2 (Nat.le_of_eq rfl) (hb hby d8_66) (by decide) (by decide) (by decide) (by decide) (fun T66 X66 eh66 => ?_)
    have Hr4 := own_pick Nv0 Nv1
    generalize Native.java_lang_Math.nans.pick64 false v0 v1 = r4 at Hr4 ⊢
    show own_Go p.tables e below _ (T66.setTop (mkF m 69 (Array.mk [zA a, zI f, zI t, zI 4, zI 6, zI 4]) [.double r4, .int 4, .ref la]))
    refine own_sD X66 hx hZ eh66 Al 4 rfl (by show 4 < 8; decide) (hb hby d8_69) (fun T67 hp67 X67 eh67 Wr67 Ar67 => ?_)
    have Ar67' : own_A Z hp67 la .double [.double 9218868437227405312, .double t1, .double t2, .double t3, .double r4, .double t5, .double t6, .double 9218868437227405312] := Ar67
    have Av_67 := Av.other Wr67 nav
    have EX_67 := Exa.wr Wr67 EX
    have F1_67 := Fld.other Wr67 F1 (Or.inl nal)
    have F2_67 := Fld.other Wr67 F2 (Or.inl nal)
    have F3_67 := Fld.other Wr67 F3 (Or.inl nal)
    have Nf67 := Fr.snoc X67 N0 nl
    have Z_67 : n0 ≤ hp67.size := by rw [Wr.size Wr67]; exact Z0
    have K_67 := Keep.wr K0 Wr67 (Or.inl (List.mem_of_getElem? (i := 0) rfl))
    refine own_blk dec8 seq8 hby hx hZ hown hK hF 12 [false] [.ref la] X67 eh67 ?_
    show (¬ (((6 : Int32)).toInt < ((5 : Int32)).toInt)) ∧ (Fld Z hp67 a "com/example/binwright/binwright/binning/LeastTree" "least" "[D" (.ref la)) ∧ own_Aft X67 hp67 _ 53 [zA a, zI f, zI t, zI 4, zI 6, zI 5] [.int 10, .ref a, .int 5, .ref la]
    refine ⟨by decide, F2_67, fun T68 X68 eh68 => ?_⟩
    refine own_callPP X68 hx hZ hown (hw _ (wm 45 rfl)) (hw _ (wm 47 rfl)) (hw _ (wm 8 rfl)) (hw _ (wm 46 rfl)) (hw _ (wm 9 rfl)) (hw _ (wm 48 rfl)) (by decide) eh68 EX_67 [.int 10] pd9 rfl (fr := 0) (lo := 0) (rm9_v l Z a0 hw [] a la va (10 : Int32) (8 : Int32) (5 : Int32) v2 hp67 n0 Z_67 F1_67 F2_67 F3_67 (Av_67.ln (5 : Int32) rfl) (by decide) (by decide) (Av_67.at ((10 : Int32) - (8 : Int32)) 2 rfl rfl)) (by rw [hml]; rfl) 2 rfl (Nat.le_of_eq rfl) (hb hby d8_53) (by decide) (by decide) (by decide) (by decide) (fun T69 rv69 X69 eh69 qc69 => ?_)
    obtain rfl := qc69
    show own_Go p.tables e below _ (T69.setTop (mkF m 56 (Array.mk [zA a, zI f, zI t, zI 4, zI 6, zI 5]) [.double v2, .int 5, .ref la]))
    refine own_blk dec8 seq8 hby hx hZ hown hK hF 6 [] [] X69 eh69 ?_
    show own_Aft X69 hp67 _ 63 [zA a, zI f, zI t, zI 4, zI 6, zI 5] [.int 11, .ref a, .double v2, .int 5, .ref la]
    refine fun T70 X70 eh70 => ?_
    refine own_callPP X70 hx hZ hown (hw _ (wm 45 rfl)) (hw _ (wm 47 rfl)) (hw _ (wm 8 rfl)) (hw _ (wm 46 rfl)) (hw _ (wm 9 rfl)) (hw _ (wm 48 rfl)) (by decide) eh70 EX_67 [.int 11] pd9 rfl (fr := 0) (lo := 0) (rm9_v l Z a0 hw [] a la va (11 : Int32) (8 : Int32) (5 : Int32) v3 hp67 n0 Z_67 F1_67 F2_67 F3_67 (Av_67.ln (5 : Int32) rfl) (by decide) (by decide) (Av_67.at ((11 : Int32) - (8 : Int32)) 3 rfl rfl)) (by rw [hml]; rfl) 4 rfl (Nat.le_of_eq rfl) (hb hby d8_63) (by decide) (by decide) (by decide) (by decide) (fun T71 rv71 X71 eh71 qc71 => ?_)
    obtain rfl := qc71
    show own_Go p.tables e below _ (T71.setTop (mkF m 66 (Array.mk [zA a, zI f, zI t, zI 4, zI 6, zI 5]) [.double v3, .double v2, .int 5, .ref la]))
    refine own_minDD X71 hx hZ hown (by decide +kernel) (hw _ (wm 49 rfl)) (hw _ (wm 50 rfl)) (hw _ (wm 20 rfl)) (hw _ (wm 51 rfl)) eh71 (own_nn Nv2) (own_nn Nv3) (by rw [hml]; rfl) 2 (Nat.le_of_eq rfl) (hb hby d8_66) (by decide) (by decide) (by decide) (by decide) (fun T72 X72 eh72 => ?_)
    have Hr5 := own_pick Nv2 Nv3
    generalize Native.java_lang_Math.nans.pick64 false v2 v3 = r5 at Hr5 ⊢
    show own_Go p.tables e below _ (T72.setTop (mkF m 69 (Array.mk [zA a, zI f, zI t, zI 4, zI 6, zI 5]) [.double r5, .int 5, .ref la]))
    refine own_sD X72 hx hZ eh72 Ar67' 5 rfl (by show 5 < 8; decide) (hb hby d8_69) (fun T73 hp73 X73 eh73 Wr73 Ar73 => ?_)
    have Ar73' : own_A Z hp73 la .double [.double 9218868437227405312, .double t1, .double t2, .double t3, .double r4, .double r5, .double t6, .double 9218868437227405312] := Ar73
    have Av_73 := Av_67.other Wr73 nav
    have EX_73 := Exa.wr Wr73 EX_67
    have F1_73 := Fld.other Wr73 F1_67 (Or.inl nal)
    have F2_73 := Fld.other Wr73 F2_67 (Or.inl nal)
    have F3_73 := Fld.other Wr73 F3_67 (Or.inl nal)
    have Nf73 := Fr.snoc X73 Nf67 nl
    have Z_73 : n0 ≤ hp73.size := by rw [Wr.size Wr73]; exact Z_67
    have K_73 := Keep.wr K_67 Wr73 (Or.inl (List.mem_of_getElem? (i := 0) rfl))
    refine own_blk dec8 seq8 hby hx hZ hown hK hF 12 [false] [.ref la] X73 eh73 ?_
    show (¬ (((6 : Int32)).toInt < ((6 : Int32)).toInt)) ∧ (Fld Z hp73 a "com/example/binwright/binwright/binning/LeastTree" "least" "[D" (.ref la)) ∧ own_Aft X73 hp73 _ 53 [zA a, zI f, zI t, zI 4, zI 6, zI 6] [.int 12, .ref a, .int 6, .ref la]
    refine ⟨by decide, F2_73, fun T74 X74 eh74 => ?_⟩
    refine own_callPP X74 hx hZ hown (hw _ (wm 45 rfl)) (hw _ (wm 47 rfl)) (hw _ (wm 8 rfl)) (hw _ (wm 46 rfl)) (hw _ (wm 9 rfl)) (hw _ (wm 48 rfl)) (by decide) eh74 EX_73 [.int 12] pd9 rfl (fr := 0) (lo := 0) (rm9_v l Z a0 hw [] a la va (12 : Int32) (8 : Int32) (5 : Int32) v4 hp73 n0 Z_73 F1_73 F2_73 F3_73 (Av_73.ln (5 : Int32) rfl) (by decide) (by decide) (Av_73.at ((12 : Int32) - (8 : Int32)) 4 rfl rfl)) (by rw [hml]; rfl) 2 rfl (Nat.le_of_eq rfl) (hb hby d8_53) (by decide) (by decide) (by decide) (by decide) (fun T75 rv75 X75 eh75 qc75 => ?_)
    obtain rfl := qc75
    show own_Go p.tables e below _ (T75.setTop (mkF m 56 (Array.mk [zA a, zI f, zI t, zI 4, zI 6, zI 6]) [.double v4, .int 6, .ref la]))
    refine own_blk dec8 seq8 hby hx hZ hown hK hF 6 [] [] X75 eh75 ?_
    show own_Aft X75 hp73 _ 63 [zA a, zI f, zI t, zI 4, zI 6, zI 6] [.int 13, .ref a, .double v4, .int 6, .ref la]
    refine fun T76 X76 eh76 => ?_
    refine own_callPP X76 hx hZ hown (hw _ (wm 45 rfl)) (hw _ (wm 47 rfl)) (hw _ (wm 8 rfl)) (hw _ (wm 46 rfl)) (hw _ (wm 9 rfl)) (hw _ (wm 48 rfl)) (by decide) eh76 EX_73 [.int 13] pd9 rfl (fr := 0) (lo := 0) (rm9_o l Z a0 hw [] a la va (13 : Int32) (8 : Int32) (5 : Int32) 9218868437227405312 hp73 n0 Z_73 F1_73 F2_73 F3_73 (Av_73.ln (5 : Int32) rfl) (by decide) (by decide) rfl) (by rw [hml]; rfl) 4 rfl (Nat.le_of_eq rfl) (hb hby d8_63) (by decide) (by decide) (by decide) (by decide) (fun T77 rv77 X77 eh77 qc77 => ?_)
    obtain rfl := qc77
    show own_Go p.tables e below _ (T77.setTop (mkF m 66 (Array.mk [zA a, zI f, zI t, zI 4, zI 6, zI 6]) [.double 9218868437227405312, .double v4, .int 6, .ref la]))
    refine own_minDD X77 hx hZ hown (by decide +kernel) (hw _ (wm 49 rfl)) (hw _ (wm 50 rfl)) (hw _ (wm 20 rfl)) (hw _ (wm 51 rfl)) eh77 (own_nn Nv4) (own_nn own_infn) (by rw [hml]; rfl) 2 (Nat.le_of_eq rfl) (hb hby d8_66) (by decide) (by decide) (by decide) (by decide) (fun T78 X78 eh78 => ?_)
    have Hr6 := own_pick Nv4 own_infn
    generalize Native.java_lang_Math.nans.pick64 false v4 9218868437227405312 = r6 at Hr6 ⊢
    show own_Go p.tables e below _ (T78.setTop (mkF m 69 (Array.mk [zA a, zI f, zI t, zI 4, zI 6, zI 6]) [.double r6, .int 6, .ref la]))
    refine own_sD X78 hx hZ eh78 Ar73' 6 rfl (by show 6 < 8; decide) (hb hby d8_69) (fun T79 hp79 X79 eh79 Wr79 Ar79 => ?_)
    have Ar79' : own_A Z hp79 la .double [.double 9218868437227405312, .double t1, .double t2, .double t3, .double r4, .double r5, .double r6, .double 9218868437227405312] := Ar79
    have Av_79 := Av_73.other Wr79 nav
    have EX_79 := Exa.wr Wr79 EX_73
    have F1_79 := Fld.other Wr79 F1_73 (Or.inl nal)
    have F2_79 := Fld.other Wr79 F2_73 (Or.inl nal)
    have F3_79 := Fld.other Wr79 F3_73 (Or.inl nal)
    have Nf79 := Fr.snoc X79 Nf73 nl
    have Z_79 : n0 ≤ hp79.size := by rw [Wr.size Wr79]; exact Z_73
    have K_79 := Keep.wr K_73 Wr79 (Or.inl (List.mem_of_getElem? (i := 0) rfl))
    refine own_blk dec8 seq8 hby hx hZ hown hK hF 24 [true, false, false] [.ref la] X79 eh79 ?_
    show (((6 : Int32)).toInt < ((7 : Int32)).toInt) ∧ ((2 : Int32) ≠ 0) ∧ ((2 : Int32) ≠ 0) ∧ (¬ (((2 : Int32)).toInt < ((1 : Int32)).toInt)) ∧ (¬ (((3 : Int32)).toInt < ((2 : Int32)).toInt)) ∧ (Fld Z hp79 a "com/example/binwright/binwright/binning/LeastTree" "least" "[D" (.ref la)) ∧ own_Aft X79 hp79 _ 46 [zA a, zI f, zI t, zI 2, zI 3, zI 2] [.ref la]
    refine ⟨by decide, by decide, by decide, by decide, by decide, F2_79, fun T80 X80 eh80 => ?_⟩
    refine own_blk dec8 seq8 hby hx hZ hown hK hF 5 [] [] X80 eh80 ?_
    show own_Aft X80 hp79 _ 53 [zA a, zI f, zI t, zI 2, zI 3, zI 2] [.int 4, .ref a, .int 2, .ref la]
    refine fun T81 X81 eh81 => ?_
    refine own_callPP X81 hx hZ hown (hw _ (wm 45 rfl)) (hw _ (wm 47 rfl)) (hw _ (wm 8 rfl)) (hw _ (wm 46 rfl)) (hw _ (wm 9 rfl)) (hw _ (wm 48 rfl)) (by decide) eh81 EX_79 [.int 4] pd9 rfl (fr := 0) (lo := 0) (rm9_l l Z a0 hw [] a la va (4 : Int32) (8 : Int32) (5 : Int32) r4 hp79 n0 Z_79 F1_79 F2_79 F3_79 (Av_79.ln (5 : Int32) rfl) (by decide) (Ar79'.at (4 : Int32) 4 rfl rfl)) (by rw [hml]; rfl) 2 rfl (Nat.le_of_eq rfl) (hb hby d8_53) (by decide) (by decide) (by decide) (by decide) (fun T82 rv82 X82 eh82 qc82 => ?_)
    obtain rfl := qc82
    show own_Go p.tables e below _ (T82.setTop (mkF m 56 (Array.mk [zA a, zI f, zI t, zI 2, zI 3, zI 2]) [.double r4, .int 2, .ref la]))
    refine own_blk dec8 seq8 hby hx hZ hown hK hF 6 [] [] X82 eh82 ?_
    show own_Aft X82 hp79 _ 63 [zA a, zI f, zI t, zI 2, zI 3, zI 2] [.int 5, .ref a, .double r4, .int 2, .ref la]
    refine fun T83 X83 eh83 => ?_
    refine own_callPP X83 hx hZ hown (hw _ (wm 45 rfl)) (hw _ (wm 47 rfl)) (hw _ (wm 8 rfl)) (hw _ (wm 46 rfl)) (hw _ (wm 9 rfl)) (hw _ (wm 48 rfl)) (by decide) eh83 EX_79 [.int 5] pd9 rfl (fr := 0) (lo := 0) (rm9_l l Z a0 hw [] a la va (5 : Int32) (8 : Int32) (5 : Int32) r5 hp79 n0 Z_79 F1_79 F2_79 F3_79 (Av_79.ln (5 : Int32) rfl) (by decide) (Ar79'.at (5 : Int32) 5 rfl rfl)) (by rw [hml]; rfl) 4 rfl (Nat.le_of_eq rfl) (hb hby d8_63) (by decide) (by decide) (by decide) (by decide) (fun T84 rv84 X84 eh84 qc84 => ?_)
    obtain rfl := qc84
    show own_Go p.tables e below _ (T84.setTop (mkF m 66 (Array.mk [zA a, zI f, zI t, zI 2, zI 3, zI 2]) [.double r5, .double r4, .int 2, .ref la]))
    refine own_minDD X84 hx hZ hown (by decide +kernel) (hw _ (wm 49 rfl)) (hw _ (wm 50 rfl)) (hw _ (wm 20 rfl)) (hw _ (wm 51 rfl)) eh84 (own_nn Hr4.1) (own_nn Hr5.1) (by rw [hml]; rfl) 2 (Nat.le_of_eq rfl) (hb hby d8_66) (by decide) (by decide) (by decide) (by decide) (fun T85 X85 eh85 => ?_)
    have Hr2 := own_pick Hr4.1 Hr5.1
    generalize Native.java_lang_Math.nans.pick64 false r4 r5 = r2 at Hr2 ⊢
    show own_Go p.tables e below _ (T85.setTop (mkF m 69 (Array.mk [zA a, zI f, zI t, zI 2, zI 3, zI 2]) [.double r2, .int 2, .ref la]))
    refine own_sD X85 hx hZ eh85 Ar79' 2 rfl (by show 2 < 8; decide) (hb hby d8_69) (fun T86 hp86 X86 eh86 Wr86 Ar86 => ?_)
    have Ar86' : own_A Z hp86 la .double [.double 9218868437227405312, .double t1, .double r2, .double t3, .double r4, .double r5, .double r6, .double 9218868437227405312] := Ar86
    have Av_86 := Av_79.other Wr86 nav
    have EX_86 := Exa.wr Wr86 EX_79
    have F1_86 := Fld.other Wr86 F1_79 (Or.inl nal)
    have F2_86 := Fld.other Wr86 F2_79 (Or.inl nal)
    have F3_86 := Fld.other Wr86 F3_79 (Or.inl nal)
    have Nf86 := Fr.snoc X86 Nf79 nl
    have Z_86 : n0 ≤ hp86.size := by rw [Wr.size Wr86]; exact Z_79
    have K_86 := Keep.wr K_79 Wr86 (Or.inl (List.mem_of_getElem? (i := 0) rfl))
    refine own_blk dec8 seq8 hby hx hZ hown hK hF 12 [false] [.ref la] X86 eh86 ?_
    show (¬ (((3 : Int32)).toInt < ((3 : Int32)).toInt)) ∧ (Fld Z hp86 a "com/example/binwright/binwright/binning/LeastTree" "least" "[D" (.ref la)) ∧ own_Aft X86 hp86 _ 53 [zA a, zI f, zI t, zI 2, zI 3, zI 3] [.int 6, .ref a, .int 3, .ref la]
    refine ⟨by decide, F2_86, fun T87 X87 eh87 => ?_⟩
    refine own_callPP X87 hx hZ hown (hw _ (wm 45 rfl)) (hw _ (wm 47 rfl)) (hw _ (wm 8 rfl)) (hw _ (wm 46 rfl)) (hw _ (wm 9 rfl)) (hw _ (wm 48 rfl)) (by decide) eh87 EX_86 [.int 6] pd9 rfl (fr := 0) (lo := 0) (rm9_l l Z a0 hw [] a la va (6 : Int32) (8 : Int32) (5 : Int32) r6 hp86 n0 Z_86 F1_86 F2_86 F3_86 (Av_86.ln (5 : Int32) rfl) (by decide) (Ar86'.at (6 : Int32) 6 rfl rfl)) (by rw [hml]; rfl) 2 rfl (Nat.le_of_eq rfl) (hb hby d8_53) (by decide) (by decide) (by decide) (by decide) (fun T88 rv88 X88 eh88 qc88 => ?_)
    obtain rfl := qc88
    show own_Go p.tables e below _ (T88.setTop (mkF m 56 (Array.mk [zA a, zI f, zI t, zI 2, zI 3, zI 3]) [.double r6, .int 3, .ref la]))
    refine own_blk dec8 seq8 hby hx hZ hown hK hF 6 [] [] X88 eh88 ?_
    show own_Aft X88 hp86 _ 63 [zA a, zI f, zI t, zI 2, zI 3, zI 3] [.int 7, .ref a, .double r6, .int 3, .ref la]
    refine fun T89 X89 eh89 => ?_
    refine own_callPP X89 hx hZ hown (hw _ (wm 45 rfl)) (hw _ (wm 47 rfl)) (hw _ (wm 8 rfl)) (hw _ (wm 46 rfl)) (hw _ (wm 9 rfl)) (hw _ (wm 48 rfl)) (by decide) eh89 EX_86 [.int 7] pd9 rfl (fr := 0) (lo := 0) (rm9_l l Z a0 hw [] a la va (7 : Int32) (8 : Int32) (5 : Int32) 9218868437227405312 hp86 n0 Z_86 F1_86 F2_86 F3_86 (Av_86.ln (5 : Int32) rfl) (by decide) (Ar86'.at (7 : Int32) 7 rfl rfl)) (by rw [hml]; rfl) 4 rfl (Nat.le_of_eq rfl) (hb hby d8_63) (by decide) (by decide) (by decide) (by decide) (fun T90 rv90 X90 eh90 qc90 => ?_)
    obtain rfl := qc90
    show own_Go p.tables e below _ (T90.setTop (mkF m 66 (Array.mk [zA a, zI f, zI t, zI 2, zI 3, zI 3]) [.double 9218868437227405312, .double r6, .int 3, .ref la]))
    refine own_minDD X90 hx hZ hown (by decide +kernel) (hw _ (wm 49 rfl)) (hw _ (wm 50 rfl)) (hw _ (wm 20 rfl)) (hw _ (wm 51 rfl)) eh90 (own_nn Hr6.1) (own_nn own_infn) (by rw [hml]; rfl) 2 (Nat.le_of_eq rfl) (hb hby d8_66) (by decide) (by decide) (by decide) (by decide) (fun T91 X91 eh91 => ?_)
    have Hr3 := own_pick Hr6.1 own_infn
    generalize Native.java_lang_Math.nans.pick64 false r6 9218868437227405312 = r3 at Hr3 ⊢
    show own_Go p.tables e below _ (T91.setTop (mkF m 69 (Array.mk [zA a, zI f, zI t, zI 2, zI 3, zI 3]) [.double r3, .int 3, .ref la]))
    refine own_sD X91 hx hZ eh91 Ar86' 3 rfl (by show 3 < 8; decide) (hb hby d8_69) (fun T92 hp92 X92 eh92 Wr92 Ar92 => ?_)
    have Ar92' : own_A Z hp92 la .double [.double 9218868437227405312, .double t1, .double r2, .double r3, .double r4, .double r5, .double r6, .double 9218868437227405312] := Ar92
    have Av_92 := Av_86.other Wr92 nav
    have EX_92 := Exa.wr Wr92 EX_86
    have F1_92 := Fld.other Wr92 F1_86 (Or.inl nal)
    have F2_92 := Fld.other Wr92 F2_86 (Or.inl nal)
    have F3_92 := Fld.other Wr92 F3_86 (Or.inl nal)
    have Nf92 := Fr.snoc X92 Nf86 nl
    have Z_92 : n0 ≤ hp92.size := by rw [Wr.size Wr92]; exact Z_86
    have K_92 := Keep.wr K_86 Wr92 (Or.inl (List.mem_of_getElem? (i := 0) rfl))
    refine own_blk dec8 seq8 hby hx hZ hown hK hF 24 [true, false, false] [.ref la] X92 eh92 ?_
    show (((3 : Int32)).toInt < ((4 : Int32)).toInt) ∧ ((2 : Int32) ≠ 0) ∧ ((2 : Int32) ≠ 0) ∧ (¬ (((1 : Int32)).toInt < ((1 : Int32)).toInt)) ∧ (¬ (((1 : Int32)).toInt < ((1 : Int32)).toInt)) ∧ (Fld Z hp92 a "com/example/binwright/binwright/binning/LeastTree" "least" "[D" (.ref la)) ∧ own_Aft X92 hp92 _ 46 [zA a, zI f, zI t, zI 1, zI 1, zI 1] [.ref la]
    refine ⟨by decide, by decide, by decide, by decide, by decide, F2_92, fun T93 X93 eh93 => ?_⟩
    refine own_blk dec8 seq8 hby hx hZ hown hK hF 5 [] [] X93 eh93 ?_
    show own_Aft X93 hp92 _ 53 [zA a, zI f, zI t, zI 1, zI 1, zI 1] [.int 2, .ref a, .int 1, .ref la]
    refine fun T94 X94 eh94 => ?_
    refine own_callPP X94 hx hZ hown (hw _ (wm 45 rfl)) (hw _ (wm 47 rfl)) (hw _ (wm 8 rfl)) (hw _ (wm 46 rfl)) (hw _ (wm 9 rfl)) (hw _ (wm 48 rfl)) (by decide) eh94 EX_92 [.int 2] pd9 rfl (fr := 0) (lo := 0) (rm9_l l Z a0 hw [] a la va (2 : Int32) (8 : Int32) (5 : Int32) r2 hp92 n0 Z_92 F1_92 F2_92 F3_92 (Av_92.ln (5 : Int32) rfl) (by decide) (Ar92'.at (2 : Int32) 2 rfl rfl)) (by rw [hml]; rfl) 2 rfl (Nat.le_of_eq rfl) (hb hby d8_53) (by decide) (by decide) (by decide) (by decide) (fun T95 rv95 X95 eh95 qc95 => ?_)
    obtain rfl := qc95
    show own_Go p.tables e below _ (T95.setTop (mkF m 56 (Array.mk [zA a, zI f, zI t, zI 1, zI 1, zI 1]) [.double r2, .int 1, .ref la]))
    refine own_blk dec8 seq8 hby hx hZ hown hK hF 6 [] [] X95 eh95 ?_
    show own_Aft X95 hp92 _ 63 [zA a, zI f, zI t, zI 1, zI 1, zI 1] [.int 3, .ref a, .double r2, .int 1, .ref la]
    refine fun T96 X96 eh96 => ?_
    refine own_callPP X96 hx hZ hown (hw _ (wm 45 rfl)) (hw _ (wm 47 rfl)) (hw _ (wm 8 rfl)) (hw _ (wm 46 rfl)) (hw _ (wm 9 rfl)) (hw _ (wm 48 rfl)) (by decide) eh96 EX_92 [.int 3] pd9 rfl (fr := 0) (lo := 0) (rm9_l l Z a0 hw [] a la va (3 : Int32) (8 : Int32) (5 : Int32) r3 hp92 n0 Z_92 F1_92 F2_92 F3_92 (Av_92.ln (5 : Int32) rfl) (by decide) (Ar92'.at (3 : Int32) 3 rfl rfl)) (by rw [hml]; rfl) 4 rfl (Nat.le_of_eq rfl) (hb hby d8_63) (by decide) (by decide) (by decide) (by decide) (fun T97 rv97 X97 eh97 qc97 => ?_)
    obtain rfl := qc97
    show own_Go p.tables e below _ (T97.setTop (mkF m 66 (Array.mk [zA a, zI f, zI t, zI 1, zI 1, zI 1]) [.double r3, .double r2, .int 1, .ref la]))
    refine own_minDD X97 hx hZ hown (by decide +kernel) (hw _ (wm 49 rfl)) (hw _ (wm 50 rfl)) (hw _ (wm 20 rfl)) (hw _ (wm 51 rfl)) eh97 (own_nn Hr2.1) (own_nn Hr3.1) (by rw [hml]; rfl) 2 (Nat.le_of_eq rfl) (hb hby d8_66) (by decide) (by decide) (by decide) (by decide) (fun T98 X98 eh98 => ?_)
    have Hr1 := own_pick Hr2.1 Hr3.1
    generalize Native.java_lang_Math.nans.pick64 false r2 r3 = r1 at Hr1 ⊢
    show own_Go p.tables e below _ (T98.setTop (mkF m 69 (Array.mk [zA a, zI f, zI t, zI 1, zI 1, zI 1]) [.double r1, .int 1, .ref la]))
    refine own_sD X98 hx hZ eh98 Ar92' 1 rfl (by show 1 < 8; decide) (hb hby d8_69) (fun T99 hp99 X99 eh99 Wr99 Ar99 => ?_)
    have Ar99' : own_A Z hp99 la .double [.double 9218868437227405312, .double r1, .double r2, .double r3, .double r4, .double r5, .double r6, .double 9218868437227405312] := Ar99
    have Av_99 := Av_92.other Wr99 nav
    have EX_99 := Exa.wr Wr99 EX_92
    have F1_99 := Fld.other Wr99 F1_92 (Or.inl nal)
    have F2_99 := Fld.other Wr99 F2_92 (Or.inl nal)
    have F3_99 := Fld.other Wr99 F3_92 (Or.inl nal)
    have Nf99 := Fr.snoc X99 Nf92 nl
    have Z_99 : n0 ≤ hp99.size := by rw [Wr.size Wr99]; exact Z_92
    have K_99 := Keep.wr K_92 Wr99 (Or.inl (List.mem_of_getElem? (i := 0) rfl))
    refine own_blk dec8 seq8 hby hx hZ hown hK hF 17 [true, true] [] X99 eh99 ?_
    show (((1 : Int32)).toInt < ((2 : Int32)).toInt) ∧ ((2 : Int32) ≠ 0) ∧ ((2 : Int32) ≠ 0) ∧ (((0 : Int32)).toInt < ((1 : Int32)).toInt) ∧ own_Aft X99 hp99 _ 89 [zA a, zI f, zI t, zI 0, zI 0, zI 2] []
    refine ⟨by decide, by decide, by decide, by decide, fun T100 X100 eh100 => ?_⟩
    exact own_retV X100 hx hlk eh100 hret (hb hby d8_89) (by decide) (by decide) (⟨rfl, Nf99, K_99, r1, r2, r3, r4, r5, r6, Ar99', Hr1, Hr2, Hr3, Hr4, Hr5, Hr6⟩)
  · skip
    have g0 := ee0 (by omega); subst g0
    have g1 := ee1 (by omega); subst g1
    have g4 := ee4 (by omega); subst g4
    suffices tl101 : ∀ (_u : Unit), own_Aft X0 h0 (own_Fin s ({ frames := 1, cells := 0, slots := 0, locals := 24 } : Room).cells ({ frames := 1, cells := 0, slots := 0, locals := 24 } : Room).slots (fun v h L => v = none ∧ Fr n0 L ∧ Keep h0 h [la] ∧ ∃ (r1 r2 r3 r4 r5 r6 : UInt64), own_A Z h la .double [.double 9218868437227405312, .double r1, .double r2, .double r3, .double r4, .double r5, .double r6, .double 9218868437227405312] ∧ own_mn r1 r2 r3 ∧ own_mn r2 r4 r5 ∧ own_mn r3 r6 9218868437227405312 ∧ own_mn r4 v0 v1 ∧ own_mn r5 v2 v3 ∧ own_mn r6 v4 9218868437227405312)) 27 [zA a, zI f, zI t, zI 5, zI 5, zU] [] by
      obtain ⟨hf, ht⟩ | ⟨hf, ht⟩ | ⟨hf, ht⟩ : (f.toInt = (2 : Int) ∧ t.toInt = (3 : Int)) ∨ (f.toInt = (2 : Int) ∧ t.toInt = (4 : Int)) ∨ (f.toInt = (3 : Int) ∧ t.toInt = (4 : Int)) := by omega
      · skip
        obtain rfl : f = (2 : Int32) := Int32.toInt_inj.mp hf
        obtain rfl : t = (3 : Int32) := Int32.toInt_inj.mp ht
        show own_Go p.tables e below _ (T0.setTop (mkF m 0 (Array.mk [zA a, zI 2, zI 3, zU, zU, zU]) []))
        refine own_blk dec8 seq8 hby hx hZ hown hK hF 19 [true] [.int 8, .int 8] X0 e0 ?_
        show (((2 : Int32)).toInt < ((3 : Int32)).toInt) ∧ (Fld Z h0 a "com/example/binwright/binwright/binning/LeastTree" "leaves" "I" (.int 8)) ∧ ((2 : Int32) ≠ 0) ∧ (Fld Z h0 a "com/example/binwright/binwright/binning/LeastTree" "leaves" "I" (.int 8)) ∧ ((2 : Int32) ≠ 0) ∧ own_Aft X0 h0 _ 27 [zA a, zI 2, zI 3, zI 5, zI 5, zU] []
        refine ⟨by decide, F1, by decide, F1, by decide, fun T102 X102 eh102 => ?_⟩
        exact tl101 () T102 X102 eh102
      · skip
        obtain rfl : f = (2 : Int32) := Int32.toInt_inj.mp hf
        obtain rfl : t = (4 : Int32) := Int32.toInt_inj.mp ht
        show own_Go p.tables e below _ (T0.setTop (mkF m 0 (Array.mk [zA a, zI 2, zI 4, zU, zU, zU]) []))
        refine own_blk dec8 seq8 hby hx hZ hown hK hF 19 [true] [.int 8, .int 8] X0 e0 ?_
        show (((2 : Int32)).toInt < ((4 : Int32)).toInt) ∧ (Fld Z h0 a "com/example/binwright/binwright/binning/LeastTree" "leaves" "I" (.int 8)) ∧ ((2 : Int32) ≠ 0) ∧ (Fld Z h0 a "com/example/binwright/binwright/binning/LeastTree" "leaves" "I" (.int 8)) ∧ ((2 : Int32) ≠ 0) ∧ own_Aft X0 h0 _ 27 [zA a, zI 2, zI 4, zI 5, zI 5, zU] []
        refine ⟨by decide, F1, by decide, F1, by decide, fun T103 X103 eh103 => ?_⟩
        exact tl101 () T103 X103 eh103
      · skip
        obtain rfl : f = (3 : Int32) := Int32.toInt_inj.mp hf
        obtain rfl : t = (4 : Int32) := Int32.toInt_inj.mp ht
        show own_Go p.tables e below _ (T0.setTop (mkF m 0 (Array.mk [zA a, zI 3, zI 4, zU, zU, zU]) []))
        refine own_blk dec8 seq8 hby hx hZ hown hK hF 19 [true] [.int 8, .int 8] X0 e0 ?_
        show (((3 : Int32)).toInt < ((4 : Int32)).toInt) ∧ (Fld Z h0 a "com/example/binwright/binwright/binning/LeastTree" "leaves" "I" (.int 8)) ∧ ((2 : Int32) ≠ 0) ∧ (Fld Z h0 a "com/example/binwright/binwright/binning/LeastTree" "leaves" "I" (.int 8)) ∧ ((2 : Int32) ≠ 0) ∧ own_Aft X0 h0 _ 27 [zA a, zI 3, zI 4, zI 5, zI 5, zU] []
        refine ⟨by decide, F1, by decide, F1, by decide, fun T104 X104 eh104 => ?_⟩
        exact tl101 () T104 X104 eh104
    intro _u T101 X101 eh101
    show own_Go p.tables e below _ (T101.setTop (mkF m 27 (Array.mk [zA a, zI f, zI t, zI 5, zI 5, zU]) []))
    refine own_blk dec8 seq8 hby hx hZ hown hK hF 15 [false, false] [.ref la] X101 eh101 ?_
    show (¬ (((5 : Int32)).toInt < ((1 : Int32)).toInt)) ∧ (¬ (((5 : Int32)).toInt < ((5 : Int32)).toInt)) ∧ (Fld Z h0 a "com/example/binwright/binwright/binning/LeastTree" "least" "[D" (.ref la)) ∧ own_Aft X101 h0 _ 53 [zA a, zI f, zI t, zI 5, zI 5, zI 5] [.int 10, .ref a, .int 5, .ref la]
    refine ⟨by decide, by decide, F2, fun T105 X105 eh105 => ?_⟩
    refine own_callPP X105 hx hZ hown (hw _ (wm 45 rfl)) (hw _ (wm 47 rfl)) (hw _ (wm 8 rfl)) (hw _ (wm 46 rfl)) (hw _ (wm 9 rfl)) (hw _ (wm 48 rfl)) (by decide) eh105 EX [.int 10] pd9 rfl (fr := 0) (lo := 0) (rm9_v l Z a0 hw [] a la va (10 : Int32) (8 : Int32) (5 : Int32) v2 h0 n0 Z0 F1 F2 F3 (Av.ln (5 : Int32) rfl) (by decide) (by decide) (Av.at ((10 : Int32) - (8 : Int32)) 2 rfl rfl)) (by rw [hml]; rfl) 2 rfl (Nat.le_of_eq rfl) (hb hby d8_53) (by decide) (by decide) (by decide) (by decide) (fun T106 rv106 X106 eh106 qc106 => ?_)
    obtain rfl := qc106
    show own_Go p.tables e below _ (T106.setTop (mkF m 56 (Array.mk [zA a, zI f, zI t, zI 5, zI 5, zI 5]) [.double v2, .int 5, .ref la]))
    refine own_blk dec8 seq8 hby hx hZ hown hK hF 6 [] [] X106 eh106 ?_
    show own_Aft X106 h0 _ 63 [zA a, zI f, zI t, zI 5, zI 5, zI 5] [.int 11, .ref a, .double v2, .int 5, .ref la]
    refine fun T107 X107 eh107 => ?_
    refine own_callPP X107 hx hZ hown (hw _ (wm 45 rfl)) (hw _ (wm 47 rfl)) (hw _ (wm 8 rfl)) (hw _ (wm 46 rfl)) (hw _ (wm 9 rfl)) (hw _ (wm 48 rfl)) (by decide) eh107 EX [.int 11] pd9 rfl (fr := 0) (lo := 0) (rm9_v l Z a0 hw [] a la va (11 : Int32) (8 : Int32) (5 : Int32) v3 h0 n0 Z0 F1 F2 F3 (Av.ln (5 : Int32) rfl) (by decide) (by decide) (Av.at ((11 : Int32) - (8 : Int32)) 3 rfl rfl)) (by rw [hml]; rfl) 4 rfl (Nat.le_of_eq rfl) (hb hby d8_63) (by decide) (by decide) (by decide) (by decide) (fun T108 rv108 X108 eh108 qc108 => ?_)
    obtain rfl := qc108
    show own_Go p.tables e below _ (T108.setTop (mkF m 66 (Array.mk [zA a, zI f, zI t, zI 5, zI 5, zI 5]) [.double v3, .double v2, .int 5, .ref la]))
    refine own_minDD X108 hx hZ hown (by decide +kernel) (hw _ (wm 49 rfl)) (hw _ (wm 50 rfl)) (hw _ (wm 20 rfl)) (hw _ (wm 51 rfl)) eh108 (own_nn Nv2) (own_nn Nv3) (by rw [hml]; rfl) 2 (Nat.le_of_eq rfl) (hb hby d8_66) (by decide) (by decide) (by decide) (by decide) (fun T109 X109 eh109 => ?_)
    have Hr5 := own_pick Nv2 Nv3
    generalize Native.java_lang_Math.nans.pick64 false v2 v3 = r5 at Hr5 ⊢
    show own_Go p.tables e below _ (T109.setTop (mkF m 69 (Array.mk [zA a, zI f, zI t, zI 5, zI 5, zI 5]) [.double r5, .int 5, .ref la]))
    refine own_sD X109 hx hZ eh109 Al 5 rfl (by show 5 < 8; decide) (hb hby d8_69) (fun T110 hp110 X110 eh110 Wr110 Ar110 => ?_)
    have Ar110' : own_A Z hp110 la .double [.double 9218868437227405312, .double t1, .double t2, .double t3, .double t4, .double r5, .double t6, .double 9218868437227405312] := Ar110
    have Av_110 := Av.other Wr110 nav
    have EX_110 := Exa.wr Wr110 EX
    have F1_110 := Fld.other Wr110 F1 (Or.inl nal)
    have F2_110 := Fld.other Wr110 F2 (Or.inl nal)
    have F3_110 := Fld.other Wr110 F3 (Or.inl nal)
    have Nf110 := Fr.snoc X110 N0 nl
    have Z_110 : n0 ≤ hp110.size := by rw [Wr.size Wr110]; exact Z0
    have K_110 := Keep.wr K0 Wr110 (Or.inl (List.mem_of_getElem? (i := 0) rfl))
    refine own_blk dec8 seq8 hby hx hZ hown hK hF 24 [true, false, false] [.ref la] X110 eh110 ?_
    show (((5 : Int32)).toInt < ((6 : Int32)).toInt) ∧ ((2 : Int32) ≠ 0) ∧ ((2 : Int32) ≠ 0) ∧ (¬ (((2 : Int32)).toInt < ((1 : Int32)).toInt)) ∧ (¬ (((2 : Int32)).toInt < ((2 : Int32)).toInt)) ∧ (Fld Z hp110 a "com/example/binwright/binwright/binning/LeastTree" "least" "[D" (.ref la)) ∧ own_Aft X110 hp110 _ 46 [zA a, zI f, zI t, zI 2, zI 2, zI 2] [.ref la]
    refine ⟨by decide, by decide, by decide, by decide, by decide, F2_110, fun T111 X111 eh111 => ?_⟩
    refine own_blk dec8 seq8 hby hx hZ hown hK hF 5 [] [] X111 eh111 ?_
    show own_Aft X111 hp110 _ 53 [zA a, zI f, zI t, zI 2, zI 2, zI 2] [.int 4, .ref a, .int 2, .ref la]
    refine fun T112 X112 eh112 => ?_
    refine own_callPP X112 hx hZ hown (hw _ (wm 45 rfl)) (hw _ (wm 47 rfl)) (hw _ (wm 8 rfl)) (hw _ (wm 46 rfl)) (hw _ (wm 9 rfl)) (hw _ (wm 48 rfl)) (by decide) eh112 EX_110 [.int 4] pd9 rfl (fr := 0) (lo := 0) (rm9_l l Z a0 hw [] a la va (4 : Int32) (8 : Int32) (5 : Int32) t4 hp110 n0 Z_110 F1_110 F2_110 F3_110 (Av_110.ln (5 : Int32) rfl) (by decide) (Ar110'.at (4 : Int32) 4 rfl rfl)) (by rw [hml]; rfl) 2 rfl (Nat.le_of_eq rfl) (hb hby d8_53) (by decide) (by decide) (by decide) (by decide) (fun T113 rv113 X113 eh113 qc113 => ?_)
    obtain rfl := qc113
    show own_Go p.tables e below _ (T113.setTop (mkF m 56 (Array.mk [zA a, zI f, zI t, zI 2, zI 2, zI 2]) [.double t4, .int 2, .ref la]))
    refine own_blk dec8 seq8 hby hx hZ hown hK hF 6 [] [] X113 eh113 ?_
    show own_Aft X113 hp110 _ 63 [zA a, zI f, zI t, zI 2, zI 2, zI 2] [.int 5, .ref a, .double t4, .int 2, .ref la]
    refine fun T114 X114 eh114 => ?_
    refine own_callPP X114 hx hZ hown (hw _ (wm 45 rfl)) (hw _ (wm 47 rfl)) (hw _ (wm 8 rfl)) (hw _ (wm 46 rfl)) (hw _ (wm 9 rfl)) (hw _ (wm 48 rfl)) (by decide) eh114 EX_110 [.int 5] pd9 rfl (fr := 0) (lo := 0) (rm9_l l Z a0 hw [] a la va (5 : Int32) (8 : Int32) (5 : Int32) r5 hp110 n0 Z_110 F1_110 F2_110 F3_110 (Av_110.ln (5 : Int32) rfl) (by decide) (Ar110'.at (5 : Int32) 5 rfl rfl)) (by rw [hml]; rfl) 4 rfl (Nat.le_of_eq rfl) (hb hby d8_63) (by decide) (by decide) (by decide) (by decide) (fun T115 rv115 X115 eh115 qc115 => ?_)
    obtain rfl := qc115
    show own_Go p.tables e below _ (T115.setTop (mkF m 66 (Array.mk [zA a, zI f, zI t, zI 2, zI 2, zI 2]) [.double r5, .double t4, .int 2, .ref la]))
    refine own_minDD X115 hx hZ hown (by decide +kernel) (hw _ (wm 49 rfl)) (hw _ (wm 50 rfl)) (hw _ (wm 20 rfl)) (hw _ (wm 51 rfl)) eh115 (own_nn Nt4) (own_nn Hr5.1) (by rw [hml]; rfl) 2 (Nat.le_of_eq rfl) (hb hby d8_66) (by decide) (by decide) (by decide) (by decide) (fun T116 X116 eh116 => ?_)
    have Hr2 := own_pick Nt4 Hr5.1
    generalize Native.java_lang_Math.nans.pick64 false t4 r5 = r2 at Hr2 ⊢
    show own_Go p.tables e below _ (T116.setTop (mkF m 69 (Array.mk [zA a, zI f, zI t, zI 2, zI 2, zI 2]) [.double r2, .int 2, .ref la]))
    refine own_sD X116 hx hZ eh116 Ar110' 2 rfl (by show 2 < 8; decide) (hb hby d8_69) (fun T117 hp117 X117 eh117 Wr117 Ar117 => ?_)
    have Ar117' : own_A Z hp117 la .double [.double 9218868437227405312, .double t1, .double r2, .double t3, .double t4, .double r5, .double t6, .double 9218868437227405312] := Ar117
    have Av_117 := Av_110.other Wr117 nav
    have EX_117 := Exa.wr Wr117 EX_110
    have F1_117 := Fld.other Wr117 F1_110 (Or.inl nal)
    have F2_117 := Fld.other Wr117 F2_110 (Or.inl nal)
    have F3_117 := Fld.other Wr117 F3_110 (Or.inl nal)
    have Nf117 := Fr.snoc X117 Nf110 nl
    have Z_117 : n0 ≤ hp117.size := by rw [Wr.size Wr117]; exact Z_110
    have K_117 := Keep.wr K_110 Wr117 (Or.inl (List.mem_of_getElem? (i := 0) rfl))
    refine own_blk dec8 seq8 hby hx hZ hown hK hF 24 [true, false, false] [.ref la] X117 eh117 ?_
    show (((2 : Int32)).toInt < ((3 : Int32)).toInt) ∧ ((2 : Int32) ≠ 0) ∧ ((2 : Int32) ≠ 0) ∧ (¬ (((1 : Int32)).toInt < ((1 : Int32)).toInt)) ∧ (¬ (((1 : Int32)).toInt < ((1 : Int32)).toInt)) ∧ (Fld Z hp117 a "com/example/binwright/binwright/binning/LeastTree" "least" "[D" (.ref la)) ∧ own_Aft X117 hp117 _ 46 [zA a, zI f, zI t, zI 1, zI 1, zI 1] [.ref la]
    refine ⟨by decide, by decide, by decide, by decide, by decide, F2_117, fun T118 X118 eh118 => ?_⟩
    refine own_blk dec8 seq8 hby hx hZ hown hK hF 5 [] [] X118 eh118 ?_
    show own_Aft X118 hp117 _ 53 [zA a, zI f, zI t, zI 1, zI 1, zI 1] [.int 2, .ref a, .int 1, .ref la]
    refine fun T119 X119 eh119 => ?_
    refine own_callPP X119 hx hZ hown (hw _ (wm 45 rfl)) (hw _ (wm 47 rfl)) (hw _ (wm 8 rfl)) (hw _ (wm 46 rfl)) (hw _ (wm 9 rfl)) (hw _ (wm 48 rfl)) (by decide) eh119 EX_117 [.int 2] pd9 rfl (fr := 0) (lo := 0) (rm9_l l Z a0 hw [] a la va (2 : Int32) (8 : Int32) (5 : Int32) r2 hp117 n0 Z_117 F1_117 F2_117 F3_117 (Av_117.ln (5 : Int32) rfl) (by decide) (Ar117'.at (2 : Int32) 2 rfl rfl)) (by rw [hml]; rfl) 2 rfl (Nat.le_of_eq rfl) (hb hby d8_53) (by decide) (by decide) (by decide) (by decide) (fun T120 rv120 X120 eh120 qc120 => ?_)
    obtain rfl := qc120
    show own_Go p.tables e below _ (T120.setTop (mkF m 56 (Array.mk [zA a, zI f, zI t, zI 1, zI 1, zI 1]) [.double r2, .int 1, .ref la]))
    refine own_blk dec8 seq8 hby hx hZ hown hK hF 6 [] [] X120 eh120 ?_
    show own_Aft X120 hp117 _ 63 [zA a, zI f, zI t, zI 1, zI 1, zI 1] [.int 3, .ref a, .double r2, .int 1, .ref la]
    refine fun T121 X121 eh121 => ?_
    refine own_callPP X121 hx hZ hown (hw _ (wm 45 rfl)) (hw _ (wm 47 rfl)) (hw _ (wm 8 rfl)) (hw _ (wm 46 rfl)) (hw _ (wm 9 rfl)) (hw _ (wm 48 rfl)) (by decide) eh121 EX_117 [.int 3] pd9 rfl (fr := 0) (lo := 0) (rm9_l l Z a0 hw [] a la va (3 : Int32) (8 : Int32) (5 : Int32) t3 hp117 n0 Z_117 F1_117 F2_117 F3_117 (Av_117.ln (5 : Int32) rfl) (by decide) (Ar117'.at (3 : Int32) 3 rfl rfl)) (by rw [hml]; rfl) 4 rfl (Nat.le_of_eq rfl) (hb hby d8_63) (by decide) (by decide) (by decide) (by decide) (fun T122 rv122 X122 eh122 qc122 => ?_)
    obtain rfl := qc122
    show own_Go p.tables e below _ (T122.setTop (mkF m 66 (Array.mk [zA a, zI f, zI t, zI 1, zI 1, zI 1]) [.double t3, .double r2, .int 1, .ref la]))
    refine own_minDD X122 hx hZ hown (by decide +kernel) (hw _ (wm 49 rfl)) (hw _ (wm 50 rfl)) (hw _ (wm 20 rfl)) (hw _ (wm 51 rfl)) eh122 (own_nn Hr2.1) (own_nn Nt3) (by rw [hml]; rfl) 2 (Nat.le_of_eq rfl) (hb hby d8_66) (by decide) (by decide) (by decide) (by decide) (fun T123 X123 eh123 => ?_)
    have Hr1 := own_pick Hr2.1 Nt3
    generalize Native.java_lang_Math.nans.pick64 false r2 t3 = r1 at Hr1 ⊢
    show own_Go p.tables e below _ (T123.setTop (mkF m 69 (Array.mk [zA a, zI f, zI t, zI 1, zI 1, zI 1]) [.double r1, .int 1, .ref la]))
    refine own_sD X123 hx hZ eh123 Ar117' 1 rfl (by show 1 < 8; decide) (hb hby d8_69) (fun T124 hp124 X124 eh124 Wr124 Ar124 => ?_)
    have Ar124' : own_A Z hp124 la .double [.double 9218868437227405312, .double r1, .double r2, .double t3, .double t4, .double r5, .double t6, .double 9218868437227405312] := Ar124
    have Av_124 := Av_117.other Wr124 nav
    have EX_124 := Exa.wr Wr124 EX_117
    have F1_124 := Fld.other Wr124 F1_117 (Or.inl nal)
    have F2_124 := Fld.other Wr124 F2_117 (Or.inl nal)
    have F3_124 := Fld.other Wr124 F3_117 (Or.inl nal)
    have Nf124 := Fr.snoc X124 Nf117 nl
    have Z_124 : n0 ≤ hp124.size := by rw [Wr.size Wr124]; exact Z_117
    have K_124 := Keep.wr K_117 Wr124 (Or.inl (List.mem_of_getElem? (i := 0) rfl))
    refine own_blk dec8 seq8 hby hx hZ hown hK hF 17 [true, true] [] X124 eh124 ?_
    show (((1 : Int32)).toInt < ((2 : Int32)).toInt) ∧ ((2 : Int32) ≠ 0) ∧ ((2 : Int32) ≠ 0) ∧ (((0 : Int32)).toInt < ((1 : Int32)).toInt) ∧ own_Aft X124 hp124 _ 89 [zA a, zI f, zI t, zI 0, zI 0, zI 2] []
    refine ⟨by decide, by decide, by decide, by decide, fun T125 X125 eh125 => ?_⟩
    exact own_retV X125 hx hlk eh125 hret (hb hby d8_89) (by decide) (by decide) (⟨rfl, Nf124, K_124, r1, r2, t3, t4, r5, t6, Ar124', Hr1, Hr2, Ht3, Ht4, Hr5, Ht6⟩)
  · skip
    have g0 := ee0 (by omega); subst g0
    have g1 := ee1 (by omega); subst g1
    suffices tl126 : ∀ (_u : Unit), own_Aft X0 h0 (own_Fin s ({ frames := 1, cells := 0, slots := 0, locals := 24 } : Room).cells ({ frames := 1, cells := 0, slots := 0, locals := 24 } : Room).slots (fun v h L => v = none ∧ Fr n0 L ∧ Keep h0 h [la] ∧ ∃ (r1 r2 r3 r4 r5 r6 : UInt64), own_A Z h la .double [.double 9218868437227405312, .double r1, .double r2, .double r3, .double r4, .double r5, .double r6, .double 9218868437227405312] ∧ own_mn r1 r2 r3 ∧ own_mn r2 r4 r5 ∧ own_mn r3 r6 9218868437227405312 ∧ own_mn r4 v0 v1 ∧ own_mn r5 v2 v3 ∧ own_mn r6 v4 9218868437227405312)) 27 [zA a, zI f, zI t, zI 5, zI 6, zU] [] by
      obtain ⟨hf, ht⟩ | ⟨hf, ht⟩ : (f.toInt = (2 : Int) ∧ t.toInt = (5 : Int)) ∨ (f.toInt = (3 : Int) ∧ t.toInt = (5 : Int)) := by omega
      · skip
        obtain rfl : f = (2 : Int32) := Int32.toInt_inj.mp hf
        obtain rfl : t = (5 : Int32) := Int32.toInt_inj.mp ht
        show own_Go p.tables e below _ (T0.setTop (mkF m 0 (Array.mk [zA a, zI 2, zI 5, zU, zU, zU]) []))
        refine own_blk dec8 seq8 hby hx hZ hown hK hF 19 [true] [.int 8, .int 8] X0 e0 ?_
        show (((2 : Int32)).toInt < ((5 : Int32)).toInt) ∧ (Fld Z h0 a "com/example/binwright/binwright/binning/LeastTree" "leaves" "I" (.int 8)) ∧ ((2 : Int32) ≠ 0) ∧ (Fld Z h0 a "com/example/binwright/binwright/binning/LeastTree" "leaves" "I" (.int 8)) ∧ ((2 : Int32) ≠ 0) ∧ own_Aft X0 h0 _ 27 [zA a, zI 2, zI 5, zI 5, zI 6, zU] []
        refine ⟨by decide, F1, by decide, F1, by decide, fun T127 X127 eh127 => ?_⟩
        exact tl126 () T127 X127 eh127
      · skip
        obtain rfl : f = (3 : Int32) := Int32.toInt_inj.mp hf
        obtain rfl : t = (5 : Int32) := Int32.toInt_inj.mp ht
        show own_Go p.tables e below _ (T0.setTop (mkF m 0 (Array.mk [zA a, zI 3, zI 5, zU, zU, zU]) []))
        refine own_blk dec8 seq8 hby hx hZ hown hK hF 19 [true] [.int 8, .int 8] X0 e0 ?_
        show (((3 : Int32)).toInt < ((5 : Int32)).toInt) ∧ (Fld Z h0 a "com/example/binwright/binwright/binning/LeastTree" "leaves" "I" (.int 8)) ∧ ((2 : Int32) ≠ 0) ∧ (Fld Z h0 a "com/example/binwright/binwright/binning/LeastTree" "leaves" "I" (.int 8)) ∧ ((2 : Int32) ≠ 0) ∧ own_Aft X0 h0 _ 27 [zA a, zI 3, zI 5, zI 5, zI 6, zU] []
        refine ⟨by decide, F1, by decide, F1, by decide, fun T128 X128 eh128 => ?_⟩
        exact tl126 () T128 X128 eh128
    intro _u T126 X126 eh126
    show own_Go p.tables e below _ (T126.setTop (mkF m 27 (Array.mk [zA a, zI f, zI t, zI 5, zI 6, zU]) []))
    refine own_blk dec8 seq8 hby hx hZ hown hK hF 15 [false, false] [.ref la] X126 eh126 ?_
    show (¬ (((5 : Int32)).toInt < ((1 : Int32)).toInt)) ∧ (¬ (((6 : Int32)).toInt < ((5 : Int32)).toInt)) ∧ (Fld Z h0 a "com/example/binwright/binwright/binning/LeastTree" "least" "[D" (.ref la)) ∧ own_Aft X126 h0 _ 53 [zA a, zI f, zI t, zI 5, zI 6, zI 5] [.int 10, .ref a, .int 5, .ref la]
    refine ⟨by decide, by decide, F2, fun T129 X129 eh129 => ?_⟩
    refine own_callPP X129 hx hZ hown (hw _ (wm 45 rfl)) (hw _ (wm 47 rfl)) (hw _ (wm 8 rfl)) (hw _ (wm 46 rfl)) (hw _ (wm 9 rfl)) (hw _ (wm 48 rfl)) (by decide) eh129 EX [.int 10] pd9 rfl (fr := 0) (lo := 0) (rm9_v l Z a0 hw [] a la va (10 : Int32) (8 : Int32) (5 : Int32) v2 h0 n0 Z0 F1 F2 F3 (Av.ln (5 : Int32) rfl) (by decide) (by decide) (Av.at ((10 : Int32) - (8 : Int32)) 2 rfl rfl)) (by rw [hml]; rfl) 2 rfl (Nat.le_of_eq rfl) (hb hby d8_53) (by decide) (by decide) (by decide) (by decide) (fun T130 rv130 X130 eh130 qc130 => ?_)
    obtain rfl := qc130
    show own_Go p.tables e below _ (T130.setTop (mkF m 56 (Array.mk [zA a, zI f, zI t, zI 5, zI 6, zI 5]) [.double v2, .int 5, .ref la]))
    refine own_blk dec8 seq8 hby hx hZ hown hK hF 6 [] [] X130 eh130 ?_
    show own_Aft X130 h0 _ 63 [zA a, zI f, zI t, zI 5, zI 6, zI 5] [.int 11, .ref a, .double v2, .int 5, .ref la]
    refine fun T131 X131 eh131 => ?_
    refine own_callPP X131 hx hZ hown (hw _ (wm 45 rfl)) (hw _ (wm 47 rfl)) (hw _ (wm 8 rfl)) (hw _ (wm 46 rfl)) (hw _ (wm 9 rfl)) (hw _ (wm 48 rfl)) (by decide) eh131 EX [.int 11] pd9 rfl (fr := 0) (lo := 0) (rm9_v l Z a0 hw [] a la va (11 : Int32) (8 : Int32) (5 : Int32) v3 h0 n0 Z0 F1 F2 F3 (Av.ln (5 : Int32) rfl) (by decide) (by decide) (Av.at ((11 : Int32) - (8 : Int32)) 3 rfl rfl)) (by rw [hml]; rfl) 4 rfl (Nat.le_of_eq rfl) (hb hby d8_63) (by decide) (by decide) (by decide) (by decide) (fun T132 rv132 X132 eh132 qc132 => ?_)
    obtain rfl := qc132
    show own_Go p.tables e below _ (T132.setTop (mkF m 66 (Array.mk [zA a, zI f, zI t, zI 5, zI 6, zI 5]) [.double v3, .double v2, .int 5, .ref la]))
    refine own_minDD X132 hx hZ hown (by decide +kernel) (hw _ (wm 49 rfl)) (hw _ (wm 50 rfl)) (hw _ (wm 20 rfl)) (hw _ (wm 51 rfl)) eh132 (own_nn Nv2) (own_nn Nv3) (by rw [hml]; rfl) 2 (Nat.le_of_eq rfl) (hb hby d8_66) (by decide) (by decide) (by decide) (by decide) (fun T133 X133 eh133 => ?_)
    have Hr5 := own_pick Nv2 Nv3
    generalize Native.java_lang_Math.nans.pick64 false v2 v3 = r5 at Hr5 ⊢
    show own_Go p.tables e below _ (T133.setTop (mkF m 69 (Array.mk [zA a, zI f, zI t, zI 5, zI 6, zI 5]) [.double r5, .int 5, .ref la]))
    refine own_sD X133 hx hZ eh133 Al 5 rfl (by show 5 < 8; decide) (hb hby d8_69) (fun T134 hp134 X134 eh134 Wr134 Ar134 => ?_)
    have Ar134' : own_A Z hp134 la .double [.double 9218868437227405312, .double t1, .double t2, .double t3, .double t4, .double r5, .double t6, .double 9218868437227405312] := Ar134
    have Av_134 := Av.other Wr134 nav
    have EX_134 := Exa.wr Wr134 EX
    have F1_134 := Fld.other Wr134 F1 (Or.inl nal)
    have F2_134 := Fld.other Wr134 F2 (Or.inl nal)
    have F3_134 := Fld.other Wr134 F3 (Or.inl nal)
    have Nf134 := Fr.snoc X134 N0 nl
    have Z_134 : n0 ≤ hp134.size := by rw [Wr.size Wr134]; exact Z0
    have K_134 := Keep.wr K0 Wr134 (Or.inl (List.mem_of_getElem? (i := 0) rfl))
    refine own_blk dec8 seq8 hby hx hZ hown hK hF 12 [false] [.ref la] X134 eh134 ?_
    show (¬ (((6 : Int32)).toInt < ((6 : Int32)).toInt)) ∧ (Fld Z hp134 a "com/example/binwright/binwright/binning/LeastTree" "least" "[D" (.ref la)) ∧ own_Aft X134 hp134 _ 53 [zA a, zI f, zI t, zI 5, zI 6, zI 6] [.int 12, .ref a, .int 6, .ref la]
    refine ⟨by decide, F2_134, fun T135 X135 eh135 => ?_⟩
    refine own_callPP X135 hx hZ hown (hw _ (wm 45 rfl)) (hw _ (wm 47 rfl)) (hw _ (wm 8 rfl)) (hw _ (wm 46 rfl)) (hw _ (wm 9 rfl)) (hw _ (wm 48 rfl)) (by decide) eh135 EX_134 [.int 12] pd9 rfl (fr := 0) (lo := 0) (rm9_v l Z a0 hw [] a la va (12 : Int32) (8 : Int32) (5 : Int32) v4 hp134 n0 Z_134 F1_134 F2_134 F3_134 (Av_134.ln (5 : Int32) rfl) (by decide) (by decide) (Av_134.at ((12 : Int32) - (8 : Int32)) 4 rfl rfl)) (by rw [hml]; rfl) 2 rfl (Nat.le_of_eq rfl) (hb hby d8_53) (by decide) (by decide) (by decide) (by decide) (fun T136 rv136 X136 eh136 qc136 => ?_)
    obtain rfl := qc136
    show own_Go p.tables e below _ (T136.setTop (mkF m 56 (Array.mk [zA a, zI f, zI t, zI 5, zI 6, zI 6]) [.double v4, .int 6, .ref la]))
    refine own_blk dec8 seq8 hby hx hZ hown hK hF 6 [] [] X136 eh136 ?_
    show own_Aft X136 hp134 _ 63 [zA a, zI f, zI t, zI 5, zI 6, zI 6] [.int 13, .ref a, .double v4, .int 6, .ref la]
    refine fun T137 X137 eh137 => ?_
    refine own_callPP X137 hx hZ hown (hw _ (wm 45 rfl)) (hw _ (wm 47 rfl)) (hw _ (wm 8 rfl)) (hw _ (wm 46 rfl)) (hw _ (wm 9 rfl)) (hw _ (wm 48 rfl)) (by decide) eh137 EX_134 [.int 13] pd9 rfl (fr := 0) (lo := 0) (rm9_o l Z a0 hw [] a la va (13 : Int32) (8 : Int32) (5 : Int32) 9218868437227405312 hp134 n0 Z_134 F1_134 F2_134 F3_134 (Av_134.ln (5 : Int32) rfl) (by decide) (by decide) rfl) (by rw [hml]; rfl) 4 rfl (Nat.le_of_eq rfl) (hb hby d8_63) (by decide) (by decide) (by decide) (by decide) (fun T138 rv138 X138 eh138 qc138 => ?_)
    obtain rfl := qc138
    show own_Go p.tables e below _ (T138.setTop (mkF m 66 (Array.mk [zA a, zI f, zI t, zI 5, zI 6, zI 6]) [.double 9218868437227405312, .double v4, .int 6, .ref la]))
    refine own_minDD X138 hx hZ hown (by decide +kernel) (hw _ (wm 49 rfl)) (hw _ (wm 50 rfl)) (hw _ (wm 20 rfl)) (hw _ (wm 51 rfl)) eh138 (own_nn Nv4) (own_nn own_infn) (by rw [hml]; rfl) 2 (Nat.le_of_eq rfl) (hb hby d8_66) (by decide) (by decide) (by decide) (by decide) (fun T139 X139 eh139 => ?_)
    have Hr6 := own_pick Nv4 own_infn
    generalize Native.java_lang_Math.nans.pick64 false v4 9218868437227405312 = r6 at Hr6 ⊢
    show own_Go p.tables e below _ (T139.setTop (mkF m 69 (Array.mk [zA a, zI f, zI t, zI 5, zI 6, zI 6]) [.double r6, .int 6, .ref la]))
    refine own_sD X139 hx hZ eh139 Ar134' 6 rfl (by show 6 < 8; decide) (hb hby d8_69) (fun T140 hp140 X140 eh140 Wr140 Ar140 => ?_)
    have Ar140' : own_A Z hp140 la .double [.double 9218868437227405312, .double t1, .double t2, .double t3, .double t4, .double r5, .double r6, .double 9218868437227405312] := Ar140
    have Av_140 := Av_134.other Wr140 nav
    have EX_140 := Exa.wr Wr140 EX_134
    have F1_140 := Fld.other Wr140 F1_134 (Or.inl nal)
    have F2_140 := Fld.other Wr140 F2_134 (Or.inl nal)
    have F3_140 := Fld.other Wr140 F3_134 (Or.inl nal)
    have Nf140 := Fr.snoc X140 Nf134 nl
    have Z_140 : n0 ≤ hp140.size := by rw [Wr.size Wr140]; exact Z_134
    have K_140 := Keep.wr K_134 Wr140 (Or.inl (List.mem_of_getElem? (i := 0) rfl))
    refine own_blk dec8 seq8 hby hx hZ hown hK hF 24 [true, false, false] [.ref la] X140 eh140 ?_
    show (((6 : Int32)).toInt < ((7 : Int32)).toInt) ∧ ((2 : Int32) ≠ 0) ∧ ((2 : Int32) ≠ 0) ∧ (¬ (((2 : Int32)).toInt < ((1 : Int32)).toInt)) ∧ (¬ (((3 : Int32)).toInt < ((2 : Int32)).toInt)) ∧ (Fld Z hp140 a "com/example/binwright/binwright/binning/LeastTree" "least" "[D" (.ref la)) ∧ own_Aft X140 hp140 _ 46 [zA a, zI f, zI t, zI 2, zI 3, zI 2] [.ref la]
    refine ⟨by decide, by decide, by decide, by decide, by decide, F2_140, fun T141 X141 eh141 => ?_⟩
    refine own_blk dec8 seq8 hby hx hZ hown hK hF 5 [] [] X141 eh141 ?_
    show own_Aft X141 hp140 _ 53 [zA a, zI f, zI t, zI 2, zI 3, zI 2] [.int 4, .ref a, .int 2, .ref la]
    refine fun T142 X142 eh142 => ?_
    refine own_callPP X142 hx hZ hown (hw _ (wm 45 rfl)) (hw _ (wm 47 rfl)) (hw _ (wm 8 rfl)) (hw _ (wm 46 rfl)) (hw _ (wm 9 rfl)) (hw _ (wm 48 rfl)) (by decide) eh142 EX_140 [.int 4] pd9 rfl (fr := 0) (lo := 0) (rm9_l l Z a0 hw [] a la va (4 : Int32) (8 : Int32) (5 : Int32) t4 hp140 n0 Z_140 F1_140 F2_140 F3_140 (Av_140.ln (5 : Int32) rfl) (by decide) (Ar140'.at (4 : Int32) 4 rfl rfl)) (by rw [hml]; rfl) 2 rfl (Nat.le_of_eq rfl) (hb hby d8_53) (by decide) (by decide) (by decide) (by decide) (fun T143 rv143 X143 eh143 qc143 => ?_)
    obtain rfl := qc143
    show own_Go p.tables e below _ (T143.setTop (mkF m 56 (Array.mk [zA a, zI f, zI t, zI 2, zI 3, zI 2]) [.double t4, .int 2, .ref la]))
    refine own_blk dec8 seq8 hby hx hZ hown hK hF 6 [] [] X143 eh143 ?_
    show own_Aft X143 hp140 _ 63 [zA a, zI f, zI t, zI 2, zI 3, zI 2] [.int 5, .ref a, .double t4, .int 2, .ref la]
    refine fun T144 X144 eh144 => ?_
    refine own_callPP X144 hx hZ hown (hw _ (wm 45 rfl)) (hw _ (wm 47 rfl)) (hw _ (wm 8 rfl)) (hw _ (wm 46 rfl)) (hw _ (wm 9 rfl)) (hw _ (wm 48 rfl)) (by decide) eh144 EX_140 [.int 5] pd9 rfl (fr := 0) (lo := 0) (rm9_l l Z a0 hw [] a la va (5 : Int32) (8 : Int32) (5 : Int32) r5 hp140 n0 Z_140 F1_140 F2_140 F3_140 (Av_140.ln (5 : Int32) rfl) (by decide) (Ar140'.at (5 : Int32) 5 rfl rfl)) (by rw [hml]; rfl) 4 rfl (Nat.le_of_eq rfl) (hb hby d8_63) (by decide) (by decide) (by decide) (by decide) (fun T145 rv145 X145 eh145 qc145 => ?_)
    obtain rfl := qc145
    show own_Go p.tables e below _ (T145.setTop (mkF m 66 (Array.mk [zA a, zI f, zI t, zI 2, zI 3, zI 2]) [.double r5, .double t4, .int 2, .ref la]))
    refine own_minDD X145 hx hZ hown (by decide +kernel) (hw _ (wm 49 rfl)) (hw _ (wm 50 rfl)) (hw _ (wm 20 rfl)) (hw _ (wm 51 rfl)) eh145 (own_nn Nt4) (own_nn Hr5.1) (by rw [hml]; rfl) 2 (Nat.le_of_eq rfl) (hb hby d8_66) (by decide) (by decide) (by decide) (by decide) (fun T146 X146 eh146 => ?_)
    have Hr2 := own_pick Nt4 Hr5.1
    generalize Native.java_lang_Math.nans.pick64 false t4 r5 = r2 at Hr2 ⊢
    show own_Go p.tables e below _ (T146.setTop (mkF m 69 (Array.mk [zA a, zI f, zI t, zI 2, zI 3, zI 2]) [.double r2, .int 2, .ref la]))
    refine own_sD X146 hx hZ eh146 Ar140' 2 rfl (by show 2 < 8; decide) (hb hby d8_69) (fun T147 hp147 X147 eh147 Wr147 Ar147 => ?_)
    have Ar147' : own_A Z hp147 la .double [.double 9218868437227405312, .double t1, .double r2, .double t3, .double t4, .double r5, .double r6, .double 9218868437227405312] := Ar147
    have Av_147 := Av_140.other Wr147 nav
    have EX_147 := Exa.wr Wr147 EX_140
    have F1_147 := Fld.other Wr147 F1_140 (Or.inl nal)
    have F2_147 := Fld.other Wr147 F2_140 (Or.inl nal)
    have F3_147 := Fld.other Wr147 F3_140 (Or.inl nal)
    have Nf147 := Fr.snoc X147 Nf140 nl
    have Z_147 : n0 ≤ hp147.size := by rw [Wr.size Wr147]; exact Z_140
    have K_147 := Keep.wr K_140 Wr147 (Or.inl (List.mem_of_getElem? (i := 0) rfl))
    refine own_blk dec8 seq8 hby hx hZ hown hK hF 12 [false] [.ref la] X147 eh147 ?_
    show (¬ (((3 : Int32)).toInt < ((3 : Int32)).toInt)) ∧ (Fld Z hp147 a "com/example/binwright/binwright/binning/LeastTree" "least" "[D" (.ref la)) ∧ own_Aft X147 hp147 _ 53 [zA a, zI f, zI t, zI 2, zI 3, zI 3] [.int 6, .ref a, .int 3, .ref la]
    refine ⟨by decide, F2_147, fun T148 X148 eh148 => ?_⟩
    refine own_callPP X148 hx hZ hown (hw _ (wm 45 rfl)) (hw _ (wm 47 rfl)) (hw _ (wm 8 rfl)) (hw _ (wm 46 rfl)) (hw _ (wm 9 rfl)) (hw _ (wm 48 rfl)) (by decide) eh148 EX_147 [.int 6] pd9 rfl (fr := 0) (lo := 0) (rm9_l l Z a0 hw [] a la va (6 : Int32) (8 : Int32) (5 : Int32) r6 hp147 n0 Z_147 F1_147 F2_147 F3_147 (Av_147.ln (5 : Int32) rfl) (by decide) (Ar147'.at (6 : Int32) 6 rfl rfl)) (by rw [hml]; rfl) 2 rfl (Nat.le_of_eq rfl) (hb hby d8_53) (by decide) (by decide) (by decide) (by decide) (fun T149 rv149 X149 eh149 qc149 => ?_)
    obtain rfl := qc149
    show own_Go p.tables e below _ (T149.setTop (mkF m 56 (Array.mk [zA a, zI f, zI t, zI 2, zI 3, zI 3]) [.double r6, .int 3, .ref la]))
    refine own_blk dec8 seq8 hby hx hZ hown hK hF 6 [] [] X149 eh149 ?_
    show own_Aft X149 hp147 _ 63 [zA a, zI f, zI t, zI 2, zI 3, zI 3] [.int 7, .ref a, .double r6, .int 3, .ref la]
    refine fun T150 X150 eh150 => ?_
    refine own_callPP X150 hx hZ hown (hw _ (wm 45 rfl)) (hw _ (wm 47 rfl)) (hw _ (wm 8 rfl)) (hw _ (wm 46 rfl)) (hw _ (wm 9 rfl)) (hw _ (wm 48 rfl)) (by decide) eh150 EX_147 [.int 7] pd9 rfl (fr := 0) (lo := 0) (rm9_l l Z a0 hw [] a la va (7 : Int32) (8 : Int32) (5 : Int32) 9218868437227405312 hp147 n0 Z_147 F1_147 F2_147 F3_147 (Av_147.ln (5 : Int32) rfl) (by decide) (Ar147'.at (7 : Int32) 7 rfl rfl)) (by rw [hml]; rfl) 4 rfl (Nat.le_of_eq rfl) (hb hby d8_63) (by decide) (by decide) (by decide) (by decide) (fun T151 rv151 X151 eh151 qc151 => ?_)
    obtain rfl := qc151
    show own_Go p.tables e below _ (T151.setTop (mkF m 66 (Array.mk [zA a, zI f, zI t, zI 2, zI 3, zI 3]) [.double 9218868437227405312, .double r6, .int 3, .ref la]))
    refine own_minDD X151 hx hZ hown (by decide +kernel) (hw _ (wm 49 rfl)) (hw _ (wm 50 rfl)) (hw _ (wm 20 rfl)) (hw _ (wm 51 rfl)) eh151 (own_nn Hr6.1) (own_nn own_infn) (by rw [hml]; rfl) 2 (Nat.le_of_eq rfl) (hb hby d8_66) (by decide) (by decide) (by decide) (by decide) (fun T152 X152 eh152 => ?_)
    have Hr3 := own_pick Hr6.1 own_infn
    generalize Native.java_lang_Math.nans.pick64 false r6 9218868437227405312 = r3 at Hr3 ⊢
    show own_Go p.tables e below _ (T152.setTop (mkF m 69 (Array.mk [zA a, zI f, zI t, zI 2, zI 3, zI 3]) [.double r3, .int 3, .ref la]))
    refine own_sD X152 hx hZ eh152 Ar147' 3 rfl (by show 3 < 8; decide) (hb hby d8_69) (fun T153 hp153 X153 eh153 Wr153 Ar153 => ?_)
    have Ar153' : own_A Z hp153 la .double [.double 9218868437227405312, .double t1, .double r2, .double r3, .double t4, .double r5, .double r6, .double 9218868437227405312] := Ar153
    have Av_153 := Av_147.other Wr153 nav
    have EX_153 := Exa.wr Wr153 EX_147
    have F1_153 := Fld.other Wr153 F1_147 (Or.inl nal)
    have F2_153 := Fld.other Wr153 F2_147 (Or.inl nal)
    have F3_153 := Fld.other Wr153 F3_147 (Or.inl nal)
    have Nf153 := Fr.snoc X153 Nf147 nl
    have Z_153 : n0 ≤ hp153.size := by rw [Wr.size Wr153]; exact Z_147
    have K_153 := Keep.wr K_147 Wr153 (Or.inl (List.mem_of_getElem? (i := 0) rfl))
    refine own_blk dec8 seq8 hby hx hZ hown hK hF 24 [true, false, false] [.ref la] X153 eh153 ?_
    show (((3 : Int32)).toInt < ((4 : Int32)).toInt) ∧ ((2 : Int32) ≠ 0) ∧ ((2 : Int32) ≠ 0) ∧ (¬ (((1 : Int32)).toInt < ((1 : Int32)).toInt)) ∧ (¬ (((1 : Int32)).toInt < ((1 : Int32)).toInt)) ∧ (Fld Z hp153 a "com/example/binwright/binwright/binning/LeastTree" "least" "[D" (.ref la)) ∧ own_Aft X153 hp153 _ 46 [zA a, zI f, zI t, zI 1, zI 1, zI 1] [.ref la]
    refine ⟨by decide, by decide, by decide, by decide, by decide, F2_153, fun T154 X154 eh154 => ?_⟩
    refine own_blk dec8 seq8 hby hx hZ hown hK hF 5 [] [] X154 eh154 ?_
    show own_Aft X154 hp153 _ 53 [zA a, zI f, zI t, zI 1, zI 1, zI 1] [.int 2, .ref a, .int 1, .ref la]
    refine fun T155 X155 eh155 => ?_
    refine own_callPP X155 hx hZ hown (hw _ (wm 45 rfl)) (hw _ (wm 47 rfl)) (hw _ (wm 8 rfl)) (hw _ (wm 46 rfl)) (hw _ (wm 9 rfl)) (hw _ (wm 48 rfl)) (by decide) eh155 EX_153 [.int 2] pd9 rfl (fr := 0) (lo := 0) (rm9_l l Z a0 hw [] a la va (2 : Int32) (8 : Int32) (5 : Int32) r2 hp153 n0 Z_153 F1_153 F2_153 F3_153 (Av_153.ln (5 : Int32) rfl) (by decide) (Ar153'.at (2 : Int32) 2 rfl rfl)) (by rw [hml]; rfl) 2 rfl (Nat.le_of_eq rfl) (hb hby d8_53) (by decide) (by decide) (by decide) (by decide) (fun T156 rv156 X156 eh156 qc156 => ?_)
    obtain rfl := qc156
    show own_Go p.tables e below _ (T156.setTop (mkF m 56 (Array.mk [zA a, zI f, zI t, zI 1, zI 1, zI 1]) [.double r2, .int 1, .ref la]))
    refine own_blk dec8 seq8 hby hx hZ hown hK hF 6 [] [] X156 eh156 ?_
    show own_Aft X156 hp153 _ 63 [zA a, zI f, zI t, zI 1, zI 1, zI 1] [.int 3, .ref a, .double r2, .int 1, .ref la]
    refine fun T157 X157 eh157 => ?_
    refine own_callPP X157 hx hZ hown (hw _ (wm 45 rfl)) (hw _ (wm 47 rfl)) (hw _ (wm 8 rfl)) (hw _ (wm 46 rfl)) (hw _ (wm 9 rfl)) (hw _ (wm 48 rfl)) (by decide) eh157 EX_153 [.int 3] pd9 rfl (fr := 0) (lo := 0) (rm9_l l Z a0 hw [] a la va (3 : Int32) (8 : Int32) (5 : Int32) r3 hp153 n0 Z_153 F1_153 F2_153 F3_153 (Av_153.ln (5 : Int32) rfl) (by decide) (Ar153'.at (3 : Int32) 3 rfl rfl)) (by rw [hml]; rfl) 4 rfl (Nat.le_of_eq rfl) (hb hby d8_63) (by decide) (by decide) (by decide) (by decide) (fun T158 rv158 X158 eh158 qc158 => ?_)
    obtain rfl := qc158
    show own_Go p.tables e below _ (T158.setTop (mkF m 66 (Array.mk [zA a, zI f, zI t, zI 1, zI 1, zI 1]) [.double r3, .double r2, .int 1, .ref la]))
    refine own_minDD X158 hx hZ hown (by decide +kernel) (hw _ (wm 49 rfl)) (hw _ (wm 50 rfl)) (hw _ (wm 20 rfl)) (hw _ (wm 51 rfl)) eh158 (own_nn Hr2.1) (own_nn Hr3.1) (by rw [hml]; rfl) 2 (Nat.le_of_eq rfl) (hb hby d8_66) (by decide) (by decide) (by decide) (by decide) (fun T159 X159 eh159 => ?_)
    have Hr1 := own_pick Hr2.1 Hr3.1
    generalize Native.java_lang_Math.nans.pick64 false r2 r3 = r1 at Hr1 ⊢
    show own_Go p.tables e below _ (T159.setTop (mkF m 69 (Array.mk [zA a, zI f, zI t, zI 1, zI 1, zI 1]) [.double r1, .int 1, .ref la]))
    refine own_sD X159 hx hZ eh159 Ar153' 1 rfl (by show 1 < 8; decide) (hb hby d8_69) (fun T160 hp160 X160 eh160 Wr160 Ar160 => ?_)
    have Ar160' : own_A Z hp160 la .double [.double 9218868437227405312, .double r1, .double r2, .double r3, .double t4, .double r5, .double r6, .double 9218868437227405312] := Ar160
    have Av_160 := Av_153.other Wr160 nav
    have EX_160 := Exa.wr Wr160 EX_153
    have F1_160 := Fld.other Wr160 F1_153 (Or.inl nal)
    have F2_160 := Fld.other Wr160 F2_153 (Or.inl nal)
    have F3_160 := Fld.other Wr160 F3_153 (Or.inl nal)
    have Nf160 := Fr.snoc X160 Nf153 nl
    have Z_160 : n0 ≤ hp160.size := by rw [Wr.size Wr160]; exact Z_153
    have K_160 := Keep.wr K_153 Wr160 (Or.inl (List.mem_of_getElem? (i := 0) rfl))
    refine own_blk dec8 seq8 hby hx hZ hown hK hF 17 [true, true] [] X160 eh160 ?_
    show (((1 : Int32)).toInt < ((2 : Int32)).toInt) ∧ ((2 : Int32) ≠ 0) ∧ ((2 : Int32) ≠ 0) ∧ (((0 : Int32)).toInt < ((1 : Int32)).toInt) ∧ own_Aft X160 hp160 _ 89 [zA a, zI f, zI t, zI 0, zI 0, zI 2] []
    refine ⟨by decide, by decide, by decide, by decide, fun T161 X161 eh161 => ?_⟩
    exact own_retV X161 hx hlk eh161 hret (hb hby d8_89) (by decide) (by decide) (⟨rfl, Nf160, K_160, r1, r2, r3, t4, r5, r6, Ar160', Hr1, Hr2, Hr3, Ht4, Hr5, Hr6⟩)
  · skip
    have g0 := ee0 (by omega); subst g0
    have g1 := ee1 (by omega); subst g1
    have g2 := ee2 (by omega); subst g2
    have g3 := ee3 (by omega); subst g3
    suffices tl162 : ∀ (_u : Unit), own_Aft X0 h0 (own_Fin s ({ frames := 1, cells := 0, slots := 0, locals := 24 } : Room).cells ({ frames := 1, cells := 0, slots := 0, locals := 24 } : Room).slots (fun v h L => v = none ∧ Fr n0 L ∧ Keep h0 h [la] ∧ ∃ (r1 r2 r3 r4 r5 r6 : UInt64), own_A Z h la .double [.double 9218868437227405312, .double r1, .double r2, .double r3, .double r4, .double r5, .double r6, .double 9218868437227405312] ∧ own_mn r1 r2 r3 ∧ own_mn r2 r4 r5 ∧ own_mn r3 r6 9218868437227405312 ∧ own_mn r4 v0 v1 ∧ own_mn r5 v2 v3 ∧ own_mn r6 v4 9218868437227405312)) 27 [zA a, zI f, zI t, zI 6, zI 6, zU] [] by
      obtain ⟨hf, ht⟩ : f.toInt = (4 : Int) ∧ t.toInt = (5 : Int) := by omega
      obtain rfl : f = (4 : Int32) := Int32.toInt_inj.mp hf
      obtain rfl : t = (5 : Int32) := Int32.toInt_inj.mp ht
      show own_Go p.tables e below _ (T0.setTop (mkF m 0 (Array.mk [zA a, zI 4, zI 5, zU, zU, zU]) []))
      refine own_blk dec8 seq8 hby hx hZ hown hK hF 19 [true] [.int 8, .int 8] X0 e0 ?_
      show (((4 : Int32)).toInt < ((5 : Int32)).toInt) ∧ (Fld Z h0 a "com/example/binwright/binwright/binning/LeastTree" "leaves" "I" (.int 8)) ∧ ((2 : Int32) ≠ 0) ∧ (Fld Z h0 a "com/example/binwright/binwright/binning/LeastTree" "leaves" "I" (.int 8)) ∧ ((2 : Int32) ≠ 0) ∧ own_Aft X0 h0 _ 27 [zA a, zI 4, zI 5, zI 6, zI 6, zU] []
      refine ⟨by decide, F1, by decide, F1, by decide, fun T163 X163 eh163 => ?_⟩
      exact tl162 () T163 X163 eh163
    intro _u T162 X162 eh162
    show own_Go p.tables e below _ (T162.setTop (mkF m 27 (Array.mk [zA a, zI f, zI t, zI 6, zI 6, zU]) []))
    refine own_blk dec8 seq8 hby hx hZ hown hK hF 15 [false, false] [.ref la] X162 eh162 ?_
    show (¬ (((6 : Int32)).toInt < ((1 : Int32)).toInt)) ∧ (¬ (((6 : Int32)).toInt < ((6 : Int32)).toInt)) ∧ (Fld Z h0 a "com/example/binwright/binwright/binning/LeastTree" "least" "[D" (.ref la)) ∧ own_Aft X162 h0 _ 53 [zA a, zI f, zI t, zI 6, zI 6, zI 6] [.int 12, .ref a, .int 6, .ref la]
    refine ⟨by decide, by decide, F2, fun T164 X164 eh164 => ?_⟩
    refine own_callPP X164 hx hZ hown (hw _ (wm 45 rfl)) (hw _ (wm 47 rfl)) (hw _ (wm 8 rfl)) (hw _ (wm 46 rfl)) (hw _ (wm 9 rfl)) (hw _ (wm 48 rfl)) (by decide) eh164 EX [.int 12] pd9 rfl (fr := 0) (lo := 0) (rm9_v l Z a0 hw [] a la va (12 : Int32) (8 : Int32) (5 : Int32) v4 h0 n0 Z0 F1 F2 F3 (Av.ln (5 : Int32) rfl) (by decide) (by decide) (Av.at ((12 : Int32) - (8 : Int32)) 4 rfl rfl)) (by rw [hml]; rfl) 2 rfl (Nat.le_of_eq rfl) (hb hby d8_53) (by decide) (by decide) (by decide) (by decide) (fun T165 rv165 X165 eh165 qc165 => ?_)
    obtain rfl := qc165
    show own_Go p.tables e below _ (T165.setTop (mkF m 56 (Array.mk [zA a, zI f, zI t, zI 6, zI 6, zI 6]) [.double v4, .int 6, .ref la]))
    refine own_blk dec8 seq8 hby hx hZ hown hK hF 6 [] [] X165 eh165 ?_
    show own_Aft X165 h0 _ 63 [zA a, zI f, zI t, zI 6, zI 6, zI 6] [.int 13, .ref a, .double v4, .int 6, .ref la]
    refine fun T166 X166 eh166 => ?_
    refine own_callPP X166 hx hZ hown (hw _ (wm 45 rfl)) (hw _ (wm 47 rfl)) (hw _ (wm 8 rfl)) (hw _ (wm 46 rfl)) (hw _ (wm 9 rfl)) (hw _ (wm 48 rfl)) (by decide) eh166 EX [.int 13] pd9 rfl (fr := 0) (lo := 0) (rm9_o l Z a0 hw [] a la va (13 : Int32) (8 : Int32) (5 : Int32) 9218868437227405312 h0 n0 Z0 F1 F2 F3 (Av.ln (5 : Int32) rfl) (by decide) (by decide) rfl) (by rw [hml]; rfl) 4 rfl (Nat.le_of_eq rfl) (hb hby d8_63) (by decide) (by decide) (by decide) (by decide) (fun T167 rv167 X167 eh167 qc167 => ?_)
    obtain rfl := qc167
    show own_Go p.tables e below _ (T167.setTop (mkF m 66 (Array.mk [zA a, zI f, zI t, zI 6, zI 6, zI 6]) [.double 9218868437227405312, .double v4, .int 6, .ref la]))
    refine own_minDD X167 hx hZ hown (by decide +kernel) (hw _ (wm 49 rfl)) (hw _ (wm 50 rfl)) (hw _ (wm 20 rfl)) (hw _ (wm 51 rfl)) eh167 (own_nn Nv4) (own_nn own_infn) (by rw [hml]; rfl) 2 (Nat.le_of_eq rfl) (hb hby d8_66) (by decide) (by decide) (by decide) (by decide) (fun T168 X168 eh168 => ?_)
    have Hr6 := own_pick Nv4 own_infn
    generalize Native.java_lang_Math.nans.pick64 false v4 9218868437227405312 = r6 at Hr6 ⊢
    show own_Go p.tables e below _ (T168.setTop (mkF m 69 (Array.mk [zA a, zI f, zI t, zI 6, zI 6, zI 6]) [.double r6, .int 6, .ref la]))
    refine own_sD X168 hx hZ eh168 Al 6 rfl (by show 6 < 8; decide) (hb hby d8_69) (fun T169 hp169 X169 eh169 Wr169 Ar169 => ?_)
    have Ar169' : own_A Z hp169 la .double [.double 9218868437227405312, .double t1, .double t2, .double t3, .double t4, .double t5, .double r6, .double 9218868437227405312] := Ar169
    have Av_169 := Av.other Wr169 nav
    have EX_169 := Exa.wr Wr169 EX
    have F1_169 := Fld.other Wr169 F1 (Or.inl nal)
    have F2_169 := Fld.other Wr169 F2 (Or.inl nal)
    have F3_169 := Fld.other Wr169 F3 (Or.inl nal)
    have Nf169 := Fr.snoc X169 N0 nl
    have Z_169 : n0 ≤ hp169.size := by rw [Wr.size Wr169]; exact Z0
    have K_169 := Keep.wr K0 Wr169 (Or.inl (List.mem_of_getElem? (i := 0) rfl))
    refine own_blk dec8 seq8 hby hx hZ hown hK hF 24 [true, false, false] [.ref la] X169 eh169 ?_
    show (((6 : Int32)).toInt < ((7 : Int32)).toInt) ∧ ((2 : Int32) ≠ 0) ∧ ((2 : Int32) ≠ 0) ∧ (¬ (((3 : Int32)).toInt < ((1 : Int32)).toInt)) ∧ (¬ (((3 : Int32)).toInt < ((3 : Int32)).toInt)) ∧ (Fld Z hp169 a "com/example/binwright/binwright/binning/LeastTree" "least" "[D" (.ref la)) ∧ own_Aft X169 hp169 _ 46 [zA a, zI f, zI t, zI 3, zI 3, zI 3] [.ref la]
    refine ⟨by decide, by decide, by decide, by decide, by decide, F2_169, fun T170 X170 eh170 => ?_⟩
    refine own_blk dec8 seq8 hby hx hZ hown hK hF 5 [] [] X170 eh170 ?_
    show own_Aft X170 hp169 _ 53 [zA a, zI f, zI t, zI 3, zI 3, zI 3] [.int 6, .ref a, .int 3, .ref la]
    refine fun T171 X171 eh171 => ?_
    refine own_callPP X171 hx hZ hown (hw _ (wm 45 rfl)) (hw _ (wm 47 rfl)) (hw _ (wm 8 rfl)) (hw _ (wm 46 rfl)) (hw _ (wm 9 rfl)) (hw _ (wm 48 rfl)) (by decide) eh171 EX_169 [.int 6] pd9 rfl (fr := 0) (lo := 0) (rm9_l l Z a0 hw [] a la va (6 : Int32) (8 : Int32) (5 : Int32) r6 hp169 n0 Z_169 F1_169 F2_169 F3_169 (Av_169.ln (5 : Int32) rfl) (by decide) (Ar169'.at (6 : Int32) 6 rfl rfl)) (by rw [hml]; rfl) 2 rfl (Nat.le_of_eq rfl) (hb hby d8_53) (by decide) (by decide) (by decide) (by decide) (fun T172 rv172 X172 eh172 qc172 => ?_)
    obtain rfl := qc172
    show own_Go p.tables e below _ (T172.setTop (mkF m 56 (Array.mk [zA a, zI f, zI t, zI 3, zI 3, zI 3]) [.double r6, .int 3, .ref la]))
    refine own_blk dec8 seq8 hby hx hZ hown hK hF 6 [] [] X172 eh172 ?_
    show own_Aft X172 hp169 _ 63 [zA a, zI f, zI t, zI 3, zI 3, zI 3] [.int 7, .ref a, .double r6, .int 3, .ref la]
    refine fun T173 X173 eh173 => ?_
    refine own_callPP X173 hx hZ hown (hw _ (wm 45 rfl)) (hw _ (wm 47 rfl)) (hw _ (wm 8 rfl)) (hw _ (wm 46 rfl)) (hw _ (wm 9 rfl)) (hw _ (wm 48 rfl)) (by decide) eh173 EX_169 [.int 7] pd9 rfl (fr := 0) (lo := 0) (rm9_l l Z a0 hw [] a la va (7 : Int32) (8 : Int32) (5 : Int32) 9218868437227405312 hp169 n0 Z_169 F1_169 F2_169 F3_169 (Av_169.ln (5 : Int32) rfl) (by decide) (Ar169'.at (7 : Int32) 7 rfl rfl)) (by rw [hml]; rfl) 4 rfl (Nat.le_of_eq rfl) (hb hby d8_63) (by decide) (by decide) (by decide) (by decide) (fun T174 rv174 X174 eh174 qc174 => ?_)
    obtain rfl := qc174
    show own_Go p.tables e below _ (T174.setTop (mkF m 66 (Array.mk [zA a, zI f, zI t, zI 3, zI 3, zI 3]) [.double 9218868437227405312, .double r6, .int 3, .ref la]))
    refine own_minDD X174 hx hZ hown (by decide +kernel) (hw _ (wm 49 rfl)) (hw _ (wm 50 rfl)) (hw _ (wm 20 rfl)) (hw _ (wm 51 rfl)) eh174 (own_nn Hr6.1) (own_nn own_infn) (by rw [hml]; rfl) 2 (Nat.le_of_eq rfl) (hb hby d8_66) (by decide) (by decide) (by decide) (by decide) (fun T175 X175 eh175 => ?_)
    have Hr3 := own_pick Hr6.1 own_infn
    generalize Native.java_lang_Math.nans.pick64 false r6 9218868437227405312 = r3 at Hr3 ⊢
    show own_Go p.tables e below _ (T175.setTop (mkF m 69 (Array.mk [zA a, zI f, zI t, zI 3, zI 3, zI 3]) [.double r3, .int 3, .ref la]))
    refine own_sD X175 hx hZ eh175 Ar169' 3 rfl (by show 3 < 8; decide) (hb hby d8_69) (fun T176 hp176 X176 eh176 Wr176 Ar176 => ?_)
    have Ar176' : own_A Z hp176 la .double [.double 9218868437227405312, .double t1, .double t2, .double r3, .double t4, .double t5, .double r6, .double 9218868437227405312] := Ar176
    have Av_176 := Av_169.other Wr176 nav
    have EX_176 := Exa.wr Wr176 EX_169
    have F1_176 := Fld.other Wr176 F1_169 (Or.inl nal)
    have F2_176 := Fld.other Wr176 F2_169 (Or.inl nal)
    have F3_176 := Fld.other Wr176 F3_169 (Or.inl nal)
    have Nf176 := Fr.snoc X176 Nf169 nl
    have Z_176 : n0 ≤ hp176.size := by rw [Wr.size Wr176]; exact Z_169
    have K_176 := Keep.wr K_169 Wr176 (Or.inl (List.mem_of_getElem? (i := 0) rfl))
    refine own_blk dec8 seq8 hby hx hZ hown hK hF 24 [true, false, false] [.ref la] X176 eh176 ?_
    show (((3 : Int32)).toInt < ((4 : Int32)).toInt) ∧ ((2 : Int32) ≠ 0) ∧ ((2 : Int32) ≠ 0) ∧ (¬ (((1 : Int32)).toInt < ((1 : Int32)).toInt)) ∧ (¬ (((1 : Int32)).toInt < ((1 : Int32)).toInt)) ∧ (Fld Z hp176 a "com/example/binwright/binwright/binning/LeastTree" "least" "[D" (.ref la)) ∧ own_Aft X176 hp176 _ 46 [zA a, zI f, zI t, zI 1, zI 1, zI 1] [.ref la]
    refine ⟨by decide, by decide, by decide, by decide, by decide, F2_176, fun T177 X177 eh177 => ?_⟩
    refine own_blk dec8 seq8 hby hx hZ hown hK hF 5 [] [] X177 eh177 ?_
    show own_Aft X177 hp176 _ 53 [zA a, zI f, zI t, zI 1, zI 1, zI 1] [.int 2, .ref a, .int 1, .ref la]
    refine fun T178 X178 eh178 => ?_
    refine own_callPP X178 hx hZ hown (hw _ (wm 45 rfl)) (hw _ (wm 47 rfl)) (hw _ (wm 8 rfl)) (hw _ (wm 46 rfl)) (hw _ (wm 9 rfl)) (hw _ (wm 48 rfl)) (by decide) eh178 EX_176 [.int 2] pd9 rfl (fr := 0) (lo := 0) (rm9_l l Z a0 hw [] a la va (2 : Int32) (8 : Int32) (5 : Int32) t2 hp176 n0 Z_176 F1_176 F2_176 F3_176 (Av_176.ln (5 : Int32) rfl) (by decide) (Ar176'.at (2 : Int32) 2 rfl rfl)) (by rw [hml]; rfl) 2 rfl (Nat.le_of_eq rfl) (hb hby d8_53) (by decide) (by decide) (by decide) (by decide) (fun T179 rv179 X179 eh179 qc179 => ?_)
    obtain rfl := qc179
    show own_Go p.tables e below _ (T179.setTop (mkF m 56 (Array.mk [zA a, zI f, zI t, zI 1, zI 1, zI 1]) [.double t2, .int 1, .ref la]))
    refine own_blk dec8 seq8 hby hx hZ hown hK hF 6 [] [] X179 eh179 ?_
    show own_Aft X179 hp176 _ 63 [zA a, zI f, zI t, zI 1, zI 1, zI 1] [.int 3, .ref a, .double t2, .int 1, .ref la]
    refine fun T180 X180 eh180 => ?_
    refine own_callPP X180 hx hZ hown (hw _ (wm 45 rfl)) (hw _ (wm 47 rfl)) (hw _ (wm 8 rfl)) (hw _ (wm 46 rfl)) (hw _ (wm 9 rfl)) (hw _ (wm 48 rfl)) (by decide) eh180 EX_176 [.int 3] pd9 rfl (fr := 0) (lo := 0) (rm9_l l Z a0 hw [] a la va (3 : Int32) (8 : Int32) (5 : Int32) r3 hp176 n0 Z_176 F1_176 F2_176 F3_176 (Av_176.ln (5 : Int32) rfl) (by decide) (Ar176'.at (3 : Int32) 3 rfl rfl)) (by rw [hml]; rfl) 4 rfl (Nat.le_of_eq rfl) (hb hby d8_63) (by decide) (by decide) (by decide) (by decide) (fun T181 rv181 X181 eh181 qc181 => ?_)
    obtain rfl := qc181
    show own_Go p.tables e below _ (T181.setTop (mkF m 66 (Array.mk [zA a, zI f, zI t, zI 1, zI 1, zI 1]) [.double r3, .double t2, .int 1, .ref la]))
    refine own_minDD X181 hx hZ hown (by decide +kernel) (hw _ (wm 49 rfl)) (hw _ (wm 50 rfl)) (hw _ (wm 20 rfl)) (hw _ (wm 51 rfl)) eh181 (own_nn Nt2) (own_nn Hr3.1) (by rw [hml]; rfl) 2 (Nat.le_of_eq rfl) (hb hby d8_66) (by decide) (by decide) (by decide) (by decide) (fun T182 X182 eh182 => ?_)
    have Hr1 := own_pick Nt2 Hr3.1
    generalize Native.java_lang_Math.nans.pick64 false t2 r3 = r1 at Hr1 ⊢
    show own_Go p.tables e below _ (T182.setTop (mkF m 69 (Array.mk [zA a, zI f, zI t, zI 1, zI 1, zI 1]) [.double r1, .int 1, .ref la]))
    refine own_sD X182 hx hZ eh182 Ar176' 1 rfl (by show 1 < 8; decide) (hb hby d8_69) (fun T183 hp183 X183 eh183 Wr183 Ar183 => ?_)
    have Ar183' : own_A Z hp183 la .double [.double 9218868437227405312, .double r1, .double t2, .double r3, .double t4, .double t5, .double r6, .double 9218868437227405312] := Ar183
    have Av_183 := Av_176.other Wr183 nav
    have EX_183 := Exa.wr Wr183 EX_176
    have F1_183 := Fld.other Wr183 F1_176 (Or.inl nal)
    have F2_183 := Fld.other Wr183 F2_176 (Or.inl nal)
    have F3_183 := Fld.other Wr183 F3_176 (Or.inl nal)
    have Nf183 := Fr.snoc X183 Nf176 nl
    have Z_183 : n0 ≤ hp183.size := by rw [Wr.size Wr183]; exact Z_176
    have K_183 := Keep.wr K_176 Wr183 (Or.inl (List.mem_of_getElem? (i := 0) rfl))
    refine own_blk dec8 seq8 hby hx hZ hown hK hF 17 [true, true] [] X183 eh183 ?_
    show (((1 : Int32)).toInt < ((2 : Int32)).toInt) ∧ ((2 : Int32) ≠ 0) ∧ ((2 : Int32) ≠ 0) ∧ (((0 : Int32)).toInt < ((1 : Int32)).toInt) ∧ own_Aft X183 hp183 _ 89 [zA a, zI f, zI t, zI 0, zI 0, zI 2] []
    refine ⟨by decide, by decide, by decide, by decide, fun T184 X184 eh184 => ?_⟩
    exact own_retV X184 hx hlk eh184 hret (hb hby d8_89) (by decide) (by decide) (⟨rfl, Nf183, K_183, r1, t2, r3, t4, t5, r6, Ar183', Hr1, Ht2, Hr3, Ht4, Ht5, Hr6⟩)
set_option maxRecDepth 65536 in
set_option maxHeartbeats 40000000 in
theorem rm13 (l : Launch) (Z : State) (a0 : Array Value) (hw : ∀ d ∈ tables_1, d.before a0 Z = true) (ws : List Jvm.Cond) (a la : Addr) (r1 r2 r3 r4 r5 r6 : UInt64) (h0 : Heap) (n0 : Nat) (Z0 : n0 ≤ h0.size) (F2 : Fld Z h0 a "com/example/binwright/binwright/binning/LeastTree" "least" "[D" (.ref la)) (Al : own_A Z h0 la .double [.double 9218868437227405312, .double r1, .double r2, .double r3, .double r4, .double r5, .double r6, .double 9218868437227405312]) :
    own_MF l (⟨"com/example/binwright/binwright/binning/LeastTree", "least", "()D"⟩ : MethodName) prog_15_method_3_code 1 (some .double) ws ({ frames := 0, cells := 0, slots := 0, locals := 0 } : Room) #[.ref a] Z h0 (fun v h L => (v = some (.double r1)) ∧ L = [] ∧ h = h0) := by
  refine own_body pf13 (ls0 := [.val (.ref a)]) (fun m => by first | (simp [entryFrame, mkF, argsToLocals, Value.category, maxLocals]; done) | rfl) ?_
  intro p e s m below meth c T0 hx hby hml hown hnm hlk hret hZ X0 e0
  have hK := hKt2 hw; have hF := hFt2 hw
  have N0 := Fr.nil n0
  refine own_blk dec13 seq13 hby hx hZ hown hK hF 4 [] [.ref la, .double r1] X0 e0 ?_
  show (Fld Z h0 a "com/example/binwright/binwright/binning/LeastTree" "least" "[D" (.ref la)) ∧ (own_at Z h0 la .double (1 : Int32) (.double r1)) ∧ own_Aft X0 h0 _ 6 [zA a] [.double r1]
  refine ⟨F2, Al.at (1 : Int32) 1 rfl rfl, fun T1 X1 eh1 => ?_⟩
  exact own_ret X1 hx hlk eh1 hret (by first | rfl | decide) (Or.inr (Or.inr (Or.inl ⟨rfl, rfl, _, rfl⟩))) (hb hby d13_6) (by decide) (by decide) (⟨rfl, rfl, rfl⟩)
set_option maxHeartbeats 4000000 in
theorem own_first_5 (v0 v1 v2 v3 v4 r1 r2 r3 r4 r5 r6 x : UInt64) (r : Int32) (Hr1 : own_mn r1 r2 r3) (Hr2 : own_mn r2 r4 r5) (Hr3 : own_mn r3 r6 9218868437227405312) (Hr4 : own_mn r4 v0 v1) (Hr5 : own_mn r5 v2 v3) (Hr6 : own_mn r6 v4 9218868437227405312) (hI : own_z x < own_z 9218868437227405312) (h : (r = -1 ∧ own_z x < own_z r1) ∨ (r = 0 ∧ own_z r1 ≤ own_z x ∧ own_z r2 ≤ own_z x ∧ own_z r4 ≤ own_z x ∧ own_z v0 ≤ own_z x) ∨ (r = 1 ∧ own_z r1 ≤ own_z x ∧ own_z r2 ≤ own_z x ∧ own_z r4 ≤ own_z x ∧ own_z x < own_z v0) ∨ (r = 2 ∧ own_z r1 ≤ own_z x ∧ own_z r2 ≤ own_z x ∧ own_z x < own_z r4 ∧ own_z v2 ≤ own_z x) ∨ (r = 3 ∧ own_z r1 ≤ own_z x ∧ own_z r2 ≤ own_z x ∧ own_z x < own_z r4 ∧ own_z x < own_z v2) ∨ (r = 4 ∧ own_z r1 ≤ own_z x ∧ own_z x < own_z r2 ∧ own_z r6 ≤ own_z x ∧ own_z v4 ≤ own_z x) ∨ (r = 5 ∧ own_z r1 ≤ own_z x ∧ own_z x < own_z r2 ∧ own_z r6 ≤ own_z x ∧ own_z x < own_z v4) ∨ (r = 6 ∧ own_z r1 ≤ own_z x ∧ own_z x < own_z r2 ∧ own_z x < own_z r6 ∧ own_z 9218868437227405312 ≤ own_z x) ∨ (r = 7 ∧ own_z r1 ≤ own_z x ∧ own_z x < own_z r2 ∧ own_z x < own_z r6 ∧ own_z x < own_z 9218868437227405312)) : (r = -1 ∧ own_z x < own_z v0 ∧ own_z x < own_z v1 ∧ own_z x < own_z v2 ∧ own_z x < own_z v3 ∧ own_z x < own_z v4) ∨ (r = 0 ∧ own_z v0 ≤ own_z x) ∨ (r = 1 ∧ own_z v1 ≤ own_z x ∧ own_z x < own_z v0) ∨ (r = 2 ∧ own_z v2 ≤ own_z x ∧ own_z x < own_z v0 ∧ own_z x < own_z v1) ∨ (r = 3 ∧ own_z v3 ≤ own_z x ∧ own_z x < own_z v0 ∧ own_z x < own_z v1 ∧ own_z x < own_z v2) ∨ (r = 4 ∧ own_z v4 ≤ own_z x ∧ own_z x < own_z v0 ∧ own_z x < own_z v1 ∧ own_z x < own_z v2 ∧ own_z x < own_z v3) := by
  obtain ⟨-, a1, b1, c1⟩ := Hr1
  obtain ⟨-, a2, b2, c2⟩ := Hr2
  obtain ⟨-, a3, b3, c3⟩ := Hr3
  obtain ⟨-, a4, b4, c4⟩ := Hr4
  obtain ⟨-, a5, b5, c5⟩ := Hr5
  obtain ⟨-, a6, b6, c6⟩ := Hr6
  rcases h with ⟨rfl, q0⟩ | ⟨rfl, q0, q1, q2, q3⟩ | ⟨rfl, q0, q1, q2, q3⟩ | ⟨rfl, q0, q1, q2, q3⟩ | ⟨rfl, q0, q1, q2, q3⟩ | ⟨rfl, q0, q1, q2, q3⟩ | ⟨rfl, q0, q1, q2, q3⟩ | ⟨rfl, q0, q1, q2, q3⟩ | ⟨rfl, q0, q1, q2, q3⟩
  · exact Or.inl (⟨rfl, by omega, by omega, by omega, by omega, by omega⟩)
  · exact Or.inr (Or.inl (⟨rfl, by omega⟩))
  · exact Or.inr (Or.inr (Or.inl (⟨rfl, by omega, by omega⟩)))
  · exact Or.inr (Or.inr (Or.inr (Or.inl (⟨rfl, by omega, by omega, by omega⟩))))
  · exact Or.inr (Or.inr (Or.inr (Or.inr (Or.inl (⟨rfl, by omega, by omega, by omega, by omega⟩)))))
  · exact Or.inr (Or.inr (Or.inr (Or.inr (Or.inr (⟨rfl, by omega, by omega, by omega, by omega, by omega⟩)))))
  · exfalso; omega
  · exfalso; omega
  · exfalso; omega
theorem own_i2d_le {x y : Int32} (h : x.toInt ≤ y.toInt) : own_z (FP.i2d x) ≤ own_z (FP.i2d y) := by
  rw [(own_D.i2d x).2, (own_D.i2d y).2]; exact Int.mul_le_mul_of_nonneg_right h (Int.le_of_lt (own_u_pos 0))
theorem own_i2d_lt {x y : Int32} (h : x.toInt < y.toInt) : own_z (FP.i2d x) < own_z (FP.i2d y) := by
  rw [(own_D.i2d x).2, (own_D.i2d y).2]; exact Int.mul_lt_mul_of_pos_right h (own_u_pos 0)
theorem own_i2d_li {x y : Int32} (h : own_z (FP.i2d x) < own_z (FP.i2d y)) : x.toInt < y.toInt := by
  rcases Int.lt_or_le x.toInt y.toInt with q | q
  · exact q
  · have := own_i2d_le q; omega
theorem own_i2d_il {x y : Int32} (h : own_z (FP.i2d x) ≤ own_z (FP.i2d y)) : x.toInt ≤ y.toInt := by
  rcases Int.lt_or_le y.toInt x.toInt with q | q
  · have := own_i2d_lt q; omega
  · exact q
set_option maxHeartbeats 4000000 in
theorem own_least (v0 v1 v2 v3 v4 r1 r2 r3 r4 r5 r6 : UInt64) (mm k0 k1 k2 k3 k4 : Int32) (Hr1 : own_mn r1 r2 r3) (Hr2 : own_mn r2 r4 r5) (Hr3 : own_mn r3 r6 9218868437227405312) (Hr4 : own_mn r4 v0 v1) (Hr5 : own_mn r5 v2 v3) (Hr6 : own_mn r6 v4 9218868437227405312) (m0 : mm.toInt ≤ k0.toInt) (m1 : mm.toInt ≤ k1.toInt) (m2 : mm.toInt ≤ k2.toInt) (m3 : mm.toInt ≤ k3.toInt) (m4 : mm.toInt ≤ k4.toInt) (hd : mm = k0 ∨ mm = k1 ∨ mm = k2 ∨ mm = k3 ∨ mm = k4) (g0 : FP.i2d k0 = v0) (g1 : FP.i2d k1 = v1) (g2 : FP.i2d k2 = v2) (g3 : FP.i2d k3 = v3) (g4 : FP.i2d k4 = v4) : own_z r1 = own_z (FP.i2d mm) := by
  obtain ⟨-, a1, b1, c1⟩ := Hr1
  obtain ⟨-, a2, b2, c2⟩ := Hr2
  obtain ⟨-, a3, b3, c3⟩ := Hr3
  obtain ⟨-, a4, b4, c4⟩ := Hr4
  obtain ⟨-, a5, b5, c5⟩ := Hr5
  obtain ⟨-, a6, b6, c6⟩ := Hr6
  have z0 := own_i2d_le m0; rw [g0] at z0
  have z1 := own_i2d_le m1; rw [g1] at z1
  have z2 := own_i2d_le m2; rw [g2] at z2
  have z3 := own_i2d_le m3; rw [g3] at z3
  have z4 := own_i2d_le m4; rw [g4] at z4
  have y0 := own_i2d_inf k0; rw [g0] at y0
  have y1 := own_i2d_inf k1; rw [g1] at y1
  have y2 := own_i2d_inf k2; rw [g2] at y2
  have y3 := own_i2d_inf k3; rw [g3] at y3
  have y4 := own_i2d_inf k4; rw [g4] at y4
  have ed : own_z (FP.i2d mm) = own_z v0 ∨ own_z (FP.i2d mm) = own_z v1 ∨ own_z (FP.i2d mm) = own_z v2 ∨ own_z (FP.i2d mm) = own_z v3 ∨ own_z (FP.i2d mm) = own_z v4 := by
    rcases hd with h | h | h | h | h
    · exact Or.inl (by rw [h, g0])
    · exact Or.inr (Or.inl (by rw [h, g1]))
    · exact Or.inr (Or.inr (Or.inl (by rw [h, g2])))
    · exact Or.inr (Or.inr (Or.inr (Or.inl (by rw [h, g3]))))
    · exact Or.inr (Or.inr (Or.inr (Or.inr (by rw [h, g4]))))
  generalize own_z (FP.i2d mm) = zm at z0 z1 z2 z3 z4 ed ⊢
  omega
set_option maxHeartbeats 4000000 in
theorem own_ixq (v0 v1 v2 v3 v4 : UInt64) (r ix bd k0 k1 k2 k3 k4 : Int32) (g0 : FP.i2d k0 = v0) (g1 : FP.i2d k1 = v1) (g2 : FP.i2d k2 = v2) (g3 : FP.i2d k3 = v3) (g4 : FP.i2d k4 = v4) (hI : (ix = 0 ∧ k0.toInt ≤ bd.toInt) ∨ (ix = 1 ∧ bd.toInt < k0.toInt ∧ k1.toInt ≤ bd.toInt) ∨ (ix = 2 ∧ bd.toInt < k0.toInt ∧ bd.toInt < k1.toInt ∧ k2.toInt ≤ bd.toInt) ∨ (ix = 3 ∧ bd.toInt < k0.toInt ∧ bd.toInt < k1.toInt ∧ bd.toInt < k2.toInt ∧ k3.toInt ≤ bd.toInt) ∨ (ix = 4 ∧ bd.toInt < k0.toInt ∧ bd.toInt < k1.toInt ∧ bd.toInt < k2.toInt ∧ bd.toInt < k3.toInt ∧ k4.toInt ≤ bd.toInt) ∨ (ix = -1 ∧ bd.toInt < k0.toInt ∧ bd.toInt < k1.toInt ∧ bd.toInt < k2.toInt ∧ bd.toInt < k3.toInt ∧ bd.toInt < k4.toInt)) (h : (r = -1 ∧ own_z (FP.i2d bd) < own_z v0 ∧ own_z (FP.i2d bd) < own_z v1 ∧ own_z (FP.i2d bd) < own_z v2 ∧ own_z (FP.i2d bd) < own_z v3 ∧ own_z (FP.i2d bd) < own_z v4) ∨ (r = 0 ∧ own_z v0 ≤ own_z (FP.i2d bd)) ∨ (r = 1 ∧ own_z v1 ≤ own_z (FP.i2d bd) ∧ own_z (FP.i2d bd) < own_z v0) ∨ (r = 2 ∧ own_z v2 ≤ own_z (FP.i2d bd) ∧ own_z (FP.i2d bd) < own_z v0 ∧ own_z (FP.i2d bd) < own_z v1) ∨ (r = 3 ∧ own_z v3 ≤ own_z (FP.i2d bd) ∧ own_z (FP.i2d bd) < own_z v0 ∧ own_z (FP.i2d bd) < own_z v1 ∧ own_z (FP.i2d bd) < own_z v2) ∨ (r = 4 ∧ own_z v4 ≤ own_z (FP.i2d bd) ∧ own_z (FP.i2d bd) < own_z v0 ∧ own_z (FP.i2d bd) < own_z v1 ∧ own_z (FP.i2d bd) < own_z v2 ∧ own_z (FP.i2d bd) < own_z v3)) : r.toInt = ix.toInt := by
  subst g0
  subst g1
  subst g2
  subst g3
  subst g4
  rcases h with ⟨rfl, h0, h1, h2, h3, h4⟩ | ⟨rfl, h0⟩ | ⟨rfl, h0, h1⟩ | ⟨rfl, h0, h1, h2⟩ | ⟨rfl, h0, h1, h2, h3⟩ | ⟨rfl, h0, h1, h2, h3, h4⟩
  · skip
    replace h0 := own_i2d_li h0
    replace h1 := own_i2d_li h1
    replace h2 := own_i2d_li h2
    replace h3 := own_i2d_li h3
    replace h4 := own_i2d_li h4
    rcases hI with ⟨rfl, i0⟩ | ⟨rfl, i0, i1⟩ | ⟨rfl, i0, i1, i2⟩ | ⟨rfl, i0, i1, i2, i3⟩ | ⟨rfl, i0, i1, i2, i3, i4⟩ | ⟨rfl, i0, i1, i2, i3, i4⟩
    · exfalso; omega
    · exfalso; omega
    · exfalso; omega
    · exfalso; omega
    · exfalso; omega
    · rfl
  · skip
    replace h0 := own_i2d_il h0
    rcases hI with ⟨rfl, i0⟩ | ⟨rfl, i0, i1⟩ | ⟨rfl, i0, i1, i2⟩ | ⟨rfl, i0, i1, i2, i3⟩ | ⟨rfl, i0, i1, i2, i3, i4⟩ | ⟨rfl, i0, i1, i2, i3, i4⟩
    · rfl
    · exfalso; omega
    · exfalso; omega
    · exfalso; omega
    · exfalso; omega
    · exfalso; omega
  · skip
    replace h0 := own_i2d_il h0
    replace h1 := own_i2d_li h1
    rcases hI with ⟨rfl, i0⟩ | ⟨rfl, i0, i1⟩ | ⟨rfl, i0, i1, i2⟩ | ⟨rfl, i0, i1, i2, i3⟩ | ⟨rfl, i0, i1, i2, i3, i4⟩ | ⟨rfl, i0, i1, i2, i3, i4⟩
    · exfalso; omega
    · rfl
    · exfalso; omega
    · exfalso; omega
    · exfalso; omega
    · exfalso; omega
  · skip
    replace h0 := own_i2d_il h0
    replace h1 := own_i2d_li h1
    replace h2 := own_i2d_li h2
    rcases hI with ⟨rfl, i0⟩ | ⟨rfl, i0, i1⟩ | ⟨rfl, i0, i1, i2⟩ | ⟨rfl, i0, i1, i2, i3⟩ | ⟨rfl, i0, i1, i2, i3, i4⟩ | ⟨rfl, i0, i1, i2, i3, i4⟩
    · exfalso; omega
    · exfalso; omega
    · rfl
    · exfalso; omega
    · exfalso; omega
    · exfalso; omega
  · skip
    replace h0 := own_i2d_il h0
    replace h1 := own_i2d_li h1
    replace h2 := own_i2d_li h2
    replace h3 := own_i2d_li h3
    rcases hI with ⟨rfl, i0⟩ | ⟨rfl, i0, i1⟩ | ⟨rfl, i0, i1, i2⟩ | ⟨rfl, i0, i1, i2, i3⟩ | ⟨rfl, i0, i1, i2, i3, i4⟩ | ⟨rfl, i0, i1, i2, i3, i4⟩
    · exfalso; omega
    · exfalso; omega
    · exfalso; omega
    · rfl
    · exfalso; omega
    · exfalso; omega
  · skip
    replace h0 := own_i2d_il h0
    replace h1 := own_i2d_li h1
    replace h2 := own_i2d_li h2
    replace h3 := own_i2d_li h3
    replace h4 := own_i2d_li h4
    rcases hI with ⟨rfl, i0⟩ | ⟨rfl, i0, i1⟩ | ⟨rfl, i0, i1, i2⟩ | ⟨rfl, i0, i1, i2, i3⟩ | ⟨rfl, i0, i1, i2, i3, i4⟩ | ⟨rfl, i0, i1, i2, i3, i4⟩
    · exfalso; omega
    · exfalso; omega
    · exfalso; omega
    · exfalso; omega
    · rfl
    · exfalso; omega
set_option maxRecDepth 65536 in
set_option maxHeartbeats 40000000 in
theorem rm0 (l : Launch) (Z : State) (a0 : Array Value) (hw : ∀ d ∈ tables_1, d.before a0 Z = true) (ws : List Jvm.Cond) (pk qk : Int64) (rr bb : Int32) (h0 : Heap) (n0 : Nat) (Z0 : n0 ≤ h0.size)  :
    MetFree l x (head1 (Jvm.Cond.code x code maxLocals ret :: ws) room_1) (fun as_ U => as_ = #[.long pk, .long qk, .int rr, .int bb] ∧ Z.Warmed39 U.vm ∧ U.heap = h0) (fun _ _ _ _ _ => True) (fun _ U o U' => own_Fin U 16 128 (fun v h L => v = some (.int 1) ∧ Fr n0 L) o U') := by
  refine own_body pf0 (ls0 := [.val (.long pk), .second, .val (.long qk), .second, .val (.int rr), .val (.int bb), .unset, .unset, .unset, .unset, .unset, .unset, .unset, .unset, .unset, .unset, .unset, .unset]) (fun m => by first | (simp [entryFrame, mkF, argsToLocals, Value.category, maxLocals]; done) | rfl) ?_
  intro p e s m below meth c T0 hx hby hml hown hnm hlk hret hZ X0 e0
  have hK := hKt0 hw; have hF := hFt0 hw
  have N0 := Fr.nil n0
  refine own_blk dec0 seq0 hby hx hZ hown hK hF 14 [] [.int 6, .int 8, .int 6] X0 e0 ?_
  show ((Int8.ofInt 6).toInt32 = (6 : Int32)) ∧ ((6 : Int32) ≠ 0) ∧ ((Int8.ofInt 8).toInt32 = (8 : Int32)) ∧ ((Int8.ofInt 6).toInt32 = (6 : Int32)) ∧ ((6 : Int32) ≠ 0) ∧ own_Aft X0 h0 _ 23 [zL pk, zS, zL qk, zS, zI rr, zI bb, zI ((rr &&& (2147483647 : Int32)) % (6 : Int32)), zI (((Jvm.Free.XT.ushr rr (8 : Int32)) &&& (2147483647 : Int32)) % (6 : Int32)), zU, zU, zU, zU, zU, zU, zU, zU, zU, zU] []
  refine ⟨by decide +kernel, by decide, by decide +kernel, by decide +kernel, by decide, fun T1 X1 eh1 => ?_⟩
  have sf : 0 ≤ ((rr &&& (2147483647 : Int32)) % (6 : Int32)).toInt ∧ ((rr &&& (2147483647 : Int32)) % (6 : Int32)).toInt < 6 := own_rem_pos (own_and32 _ 2147483647 (by decide)).1 (b := 6) (by decide)
  have st : 0 ≤ (((Jvm.Free.XT.ushr rr (8 : Int32)) &&& (2147483647 : Int32)) % (6 : Int32)).toInt ∧ (((Jvm.Free.XT.ushr rr (8 : Int32)) &&& (2147483647 : Int32)) % (6 : Int32)).toInt < 6 := own_rem_pos (own_and32 _ 2147483647 (by decide)).1 (b := 6) (by decide)
  generalize (rr &&& (2147483647 : Int32)) % (6 : Int32) = f at sf ⊢
  generalize ((Jvm.Free.XT.ushr rr (8 : Int32)) &&& (2147483647 : Int32)) % (6 : Int32) = t at st ⊢
  show own_Go p.tables e below _ (T1.setTop (mkF m 23 (Array.mk [zL pk, zS, zL qk, zS, zI rr, zI bb, zI f, zI t, zU, zU, zU, zU, zU, zU, zU, zU, zU, zU]) []))
  refine own_blk dec0 seq0 hby hx hZ hown hK hF 1 [] [] X1 eh1 ?_
  show own_Aft X1 h0 _ 24 [zL pk, zS, zL qk, zS, zI rr, zI bb, zI f, zI t, zU, zU, zU, zU, zU, zU, zU, zU, zU, zU] [.int 5]
  refine fun T2 X2 eh2 => ?_
  refine own_newP X2 hx hZ (hw _ (wm 1 rfl)) eh2 5 rfl (cap := 5) (by decide) (by decide) (hb hby at_24) (by decide) (by decide) (fun T3 hp3 va ga3 X3 eh3 Ex3 Ar3 => ?_)
  have nw_va : n0 ≤ va := by rw [ga3]; exact Z0
  have Z_3 : n0 ≤ hp3.size := Nat.le_trans Z0 Ex3.1
  have Ar3' : own_A Z hp3 va .double [.double 0, .double 0, .double 0, .double 0, .double 0] := Ar3
  show own_Go p.tables e below _ (T3.setTop (mkF m 26 (Array.mk [zL pk, zS, zL qk, zS, zI rr, zI bb, zI f, zI t, zU, zU, zU, zU, zU, zU, zU, zU, zU, zU]) [.ref va]))
  refine own_blk dec0 seq0 hby hx hZ hown hK hF 5 [] [] X3 eh3 ?_
  show own_Aft X3 hp3 _ 33 [zL pk, zS, zL qk, zS, zI rr, zI bb, zI f, zI t, zA va, zU, zU, zU, zU, zU, zU, zU, zU, zU] [.int 0, .long pk, .int 0, .ref va]
  refine fun T4 X4 eh4 => ?_
  refine own_callSP X4 hx hZ hown (hw _ (wm 2 rfl)) (hw _ (wm 3 rfl)) (hw _ (wm 4 rfl)) (hw _ (wm 5 rfl)) (by decide) eh4 [.long pk, .int 0] pd1 rfl (fr := 0) (lo := 0) (rm1 l Z a0 hw [] pk (0 : Int32) hp3 n0 Z_3) (by rw [hml]; rfl) 2 rfl (Nat.le_of_eq rfl) (hb hby at_33) (by decide) (by decide) (by decide) (by decide) (fun T5 rv5 X5 eh5 qc5 => ?_)
  obtain rfl := qc5
  show own_Go p.tables e below _ (T5.setTop (mkF m 36 (Array.mk [zL pk, zS, zL qk, zS, zI rr, zI bb, zI f, zI t, zA va, zU, zU, zU, zU, zU, zU, zU, zU, zU]) [.int (own_val pk (0 : Int32)), .int 0, .ref va]))
  refine own_blk dec0 seq0 hby hx hZ hown hK hF 1 [] [] X5 eh5 ?_
  show own_Aft X5 hp3 _ 37 [zL pk, zS, zL qk, zS, zI rr, zI bb, zI f, zI t, zA va, zU, zU, zU, zU, zU, zU, zU, zU, zU] [.double (FP.i2d (own_val pk (0 : Int32))), .int 0, .ref va]
  refine fun T6 X6 eh6 => ?_
  have Nw0 : own_num (FP.i2d (own_val pk (0 : Int32))) := own_fin_num (own_D.i2d _).1
  generalize hw0 : FP.i2d (own_val pk (0 : Int32)) = w0 at Nw0 ⊢
  show own_Go p.tables e below _ (T6.setTop (mkF m 37 (Array.mk [zL pk, zS, zL qk, zS, zI rr, zI bb, zI f, zI t, zA va, zU, zU, zU, zU, zU, zU, zU, zU, zU]) [.double w0, .int 0, .ref va]))
  refine own_sD X6 hx hZ eh6 Ar3' 0 rfl (by show 0 < 5; decide) (hb hby at_37) (fun T7 hp7 X7 eh7 Wr7 Ar7 => ?_)
  have Ar7' : own_A Z hp7 va .double [.double w0, .double 0, .double 0, .double 0, .double 0] := Ar7
  have Nf7 := Fr.snoc X7 N0 nw_va
  have Z_7 : n0 ≤ hp7.size := by rw [Wr.size Wr7]; exact Z_3
  refine own_blk dec0 seq0 hby hx hZ hown hK hF 4 [] [] X7 eh7 ?_
  show own_Aft X7 hp7 _ 43 [zL pk, zS, zL qk, zS, zI rr, zI bb, zI f, zI t, zA va, zU, zU, zU, zU, zU, zU, zU, zU, zU] [.int 1, .long pk, .int 1, .ref va]
  refine fun T8 X8 eh8 => ?_
  refine own_callSP X8 hx hZ hown (hw _ (wm 2 rfl)) (hw _ (wm 3 rfl)) (hw _ (wm 4 rfl)) (hw _ (wm 5 rfl)) (by decide) eh8 [.long pk, .int 1] pd1 rfl (fr := 0) (lo := 0) (rm1 l Z a0 hw [] pk (1 : Int32) hp7 n0 Z_7) (by rw [hml]; rfl) 2 rfl (Nat.le_of_eq rfl) (hb hby at_43) (by decide) (by decide) (by decide) (by decide) (fun T9 rv9 X9 eh9 qc9 => ?_)
  obtain rfl := qc9
  show own_Go p.tables e below _ (T9.setTop (mkF m 46 (Array.mk [zL pk, zS, zL qk, zS, zI rr, zI bb, zI f, zI t, zA va, zU, zU, zU, zU, zU, zU, zU, zU, zU]) [.int (own_val pk (1 : Int32)), .int 1, .ref va]))
  refine own_blk dec0 seq0 hby hx hZ hown hK hF 1 [] [] X9 eh9 ?_
  show own_Aft X9 hp7 _ 47 [zL pk, zS, zL qk, zS, zI rr, zI bb, zI f, zI t, zA va, zU, zU, zU, zU, zU, zU, zU, zU, zU] [.double (FP.i2d (own_val pk (1 : Int32))), .int 1, .ref va]
  refine fun T10 X10 eh10 => ?_
  have Nw1 : own_num (FP.i2d (own_val pk (1 : Int32))) := own_fin_num (own_D.i2d _).1
  generalize hw1 : FP.i2d (own_val pk (1 : Int32)) = w1 at Nw1 ⊢
  show own_Go p.tables e below _ (T10.setTop (mkF m 47 (Array.mk [zL pk, zS, zL qk, zS, zI rr, zI bb, zI f, zI t, zA va, zU, zU, zU, zU, zU, zU, zU, zU, zU]) [.double w1, .int 1, .ref va]))
  refine own_sD X10 hx hZ eh10 Ar7' 1 rfl (by show 1 < 5; decide) (hb hby at_47) (fun T11 hp11 X11 eh11 Wr11 Ar11 => ?_)
  have Ar11' : own_A Z hp11 va .double [.double w0, .double w1, .double 0, .double 0, .double 0] := Ar11
  have Nf11 := Fr.snoc X11 Nf7 nw_va
  have Z_11 : n0 ≤ hp11.size := by rw [Wr.size Wr11]; exact Z_7
  refine own_blk dec0 seq0 hby hx hZ hown hK hF 4 [] [] X11 eh11 ?_
  show own_Aft X11 hp11 _ 53 [zL pk, zS, zL qk, zS, zI rr, zI bb, zI f, zI t, zA va, zU, zU, zU, zU, zU, zU, zU, zU, zU] [.int 2, .long pk, .int 2, .ref va]
  refine fun T12 X12 eh12 => ?_
  refine own_callSP X12 hx hZ hown (hw _ (wm 2 rfl)) (hw _ (wm 3 rfl)) (hw _ (wm 4 rfl)) (hw _ (wm 5 rfl)) (by decide) eh12 [.long pk, .int 2] pd1 rfl (fr := 0) (lo := 0) (rm1 l Z a0 hw [] pk (2 : Int32) hp11 n0 Z_11) (by rw [hml]; rfl) 2 rfl (Nat.le_of_eq rfl) (hb hby at_53) (by decide) (by decide) (by decide) (by decide) (fun T13 rv13 X13 eh13 qc13 => ?_)
  obtain rfl := qc13
  show own_Go p.tables e below _ (T13.setTop (mkF m 56 (Array.mk [zL pk, zS, zL qk, zS, zI rr, zI bb, zI f, zI t, zA va, zU, zU, zU, zU, zU, zU, zU, zU, zU]) [.int (own_val pk (2 : Int32)), .int 2, .ref va]))
  refine own_blk dec0 seq0 hby hx hZ hown hK hF 1 [] [] X13 eh13 ?_
  show own_Aft X13 hp11 _ 57 [zL pk, zS, zL qk, zS, zI rr, zI bb, zI f, zI t, zA va, zU, zU, zU, zU, zU, zU, zU, zU, zU] [.double (FP.i2d (own_val pk (2 : Int32))), .int 2, .ref va]
  refine fun T14 X14 eh14 => ?_
  have Nw2 : own_num (FP.i2d (own_val pk (2 : Int32))) := own_fin_num (own_D.i2d _).1
  generalize hw2 : FP.i2d (own_val pk (2 : Int32)) = w2 at Nw2 ⊢
  show own_Go p.tables e below _ (T14.setTop (mkF m 57 (Array.mk [zL pk, zS, zL qk, zS, zI rr, zI bb, zI f, zI t, zA va, zU, zU, zU, zU, zU, zU, zU, zU, zU]) [.double w2, .int 2, .ref va]))
  refine own_sD X14 hx hZ eh14 Ar11' 2 rfl (by show 2 < 5; decide) (hb hby at_57) (fun T15 hp15 X15 eh15 Wr15 Ar15 => ?_)
  have Ar15' : own_A Z hp15 va .double [.double w0, .double w1, .double w2, .double 0, .double 0] := Ar15
  have Nf15 := Fr.snoc X15 Nf11 nw_va
  have Z_15 : n0 ≤ hp15.size := by rw [Wr.size Wr15]; exact Z_11
  refine own_blk dec0 seq0 hby hx hZ hown hK hF 4 [] [] X15 eh15 ?_
  show own_Aft X15 hp15 _ 63 [zL pk, zS, zL qk, zS, zI rr, zI bb, zI f, zI t, zA va, zU, zU, zU, zU, zU, zU, zU, zU, zU] [.int 3, .long pk, .int 3, .ref va]
  refine fun T16 X16 eh16 => ?_
  refine own_callSP X16 hx hZ hown (hw _ (wm 2 rfl)) (hw _ (wm 3 rfl)) (hw _ (wm 4 rfl)) (hw _ (wm 5 rfl)) (by decide) eh16 [.long pk, .int 3] pd1 rfl (fr := 0) (lo := 0) (rm1 l Z a0 hw [] pk (3 : Int32) hp15 n0 Z_15) (by rw [hml]; rfl) 2 rfl (Nat.le_of_eq rfl) (hb hby at_63) (by decide) (by decide) (by decide) (by decide) (fun T17 rv17 X17 eh17 qc17 => ?_)
  obtain rfl := qc17
  show own_Go p.tables e below _ (T17.setTop (mkF m 66 (Array.mk [zL pk, zS, zL qk, zS, zI rr, zI bb, zI f, zI t, zA va, zU, zU, zU, zU, zU, zU, zU, zU, zU]) [.int (own_val pk (3 : Int32)), .int 3, .ref va]))
  refine own_blk dec0 seq0 hby hx hZ hown hK hF 1 [] [] X17 eh17 ?_
  show own_Aft X17 hp15 _ 67 [zL pk, zS, zL qk, zS, zI rr, zI bb, zI f, zI t, zA va, zU, zU, zU, zU, zU, zU, zU, zU, zU] [.double (FP.i2d (own_val pk (3 : Int32))), .int 3, .ref va]
  refine fun T18 X18 eh18 => ?_
  have Nw3 : own_num (FP.i2d (own_val pk (3 : Int32))) := own_fin_num (own_D.i2d _).1
  generalize hw3 : FP.i2d (own_val pk (3 : Int32)) = w3 at Nw3 ⊢
  show own_Go p.tables e below _ (T18.setTop (mkF m 67 (Array.mk [zL pk, zS, zL qk, zS, zI rr, zI bb, zI f, zI t, zA va, zU, zU, zU, zU, zU, zU, zU, zU, zU]) [.double w3, .int 3, .ref va]))
  refine own_sD X18 hx hZ eh18 Ar15' 3 rfl (by show 3 < 5; decide) (hb hby at_67) (fun T19 hp19 X19 eh19 Wr19 Ar19 => ?_)
  have Ar19' : own_A Z hp19 va .double [.double w0, .double w1, .double w2, .double w3, .double 0] := Ar19
  have Nf19 := Fr.snoc X19 Nf15 nw_va
  have Z_19 : n0 ≤ hp19.size := by rw [Wr.size Wr19]; exact Z_15
  refine own_blk dec0 seq0 hby hx hZ hown hK hF 4 [] [] X19 eh19 ?_
  show own_Aft X19 hp19 _ 73 [zL pk, zS, zL qk, zS, zI rr, zI bb, zI f, zI t, zA va, zU, zU, zU, zU, zU, zU, zU, zU, zU] [.int 4, .long pk, .int 4, .ref va]
  refine fun T20 X20 eh20 => ?_
  refine own_callSP X20 hx hZ hown (hw _ (wm 2 rfl)) (hw _ (wm 3 rfl)) (hw _ (wm 4 rfl)) (hw _ (wm 5 rfl)) (by decide) eh20 [.long pk, .int 4] pd1 rfl (fr := 0) (lo := 0) (rm1 l Z a0 hw [] pk (4 : Int32) hp19 n0 Z_19) (by rw [hml]; rfl) 2 rfl (Nat.le_of_eq rfl) (hb hby at_73) (by decide) (by decide) (by decide) (by decide) (fun T21 rv21 X21 eh21 qc21 => ?_)
  obtain rfl := qc21
  show own_Go p.tables e below _ (T21.setTop (mkF m 76 (Array.mk [zL pk, zS, zL qk, zS, zI rr, zI bb, zI f, zI t, zA va, zU, zU, zU, zU, zU, zU, zU, zU, zU]) [.int (own_val pk (4 : Int32)), .int 4, .ref va]))
  refine own_blk dec0 seq0 hby hx hZ hown hK hF 1 [] [] X21 eh21 ?_
  show own_Aft X21 hp19 _ 77 [zL pk, zS, zL qk, zS, zI rr, zI bb, zI f, zI t, zA va, zU, zU, zU, zU, zU, zU, zU, zU, zU] [.double (FP.i2d (own_val pk (4 : Int32))), .int 4, .ref va]
  refine fun T22 X22 eh22 => ?_
  have Nw4 : own_num (FP.i2d (own_val pk (4 : Int32))) := own_fin_num (own_D.i2d _).1
  generalize hw4 : FP.i2d (own_val pk (4 : Int32)) = w4 at Nw4 ⊢
  show own_Go p.tables e below _ (T22.setTop (mkF m 77 (Array.mk [zL pk, zS, zL qk, zS, zI rr, zI bb, zI f, zI t, zA va, zU, zU, zU, zU, zU, zU, zU, zU, zU]) [.double w4, .int 4, .ref va]))
  refine own_sD X22 hx hZ eh22 Ar19' 4 rfl (by show 4 < 5; decide) (hb hby at_77) (fun T23 hp23 X23 eh23 Wr23 Ar23 => ?_)
  have Ar23' : own_A Z hp23 va .double [.double w0, .double w1, .double w2, .double w3, .double w4] := Ar23
  have Nf23 := Fr.snoc X23 Nf19 nw_va
  have Z_23 : n0 ≤ hp23.size := by rw [Wr.size Wr23]; exact Z_19
  refine own_new X23 hx hZ hown (hw _ (wm 7 rfl)) (hw _ (wm 8 rfl)) (hw _ (wm 9 rfl)) eh23 (hb hby at_78) (by decide) (by decide) (fun T24 hp24 ao ga24 X24 eh24 Ex24 Ea24 Dn24 => ?_)
  have ne_va_ao : va ≠ ao := fun q => absurd Ar23'.lt (by rw [q, ga24]; exact Nat.lt_irrefl _)
  have nw_ao : n0 ≤ ao := by rw [ga24]; exact Z_23
  have Ar23'_24 := Ar23'.ext Ex24
  have Z_24 : n0 ≤ hp24.size := Nat.le_trans Z_23 Ex24.1
  have Fn24_values : Fld Z hp24 ao "com/example/binwright/binwright/binning/LeastTree" "values" "[D" (.null) := Dn24 (Or.inr (hw _ (wm 17 rfl))) (ty := (.array .double)) (by decide)
  have Fn24_leaves : Fld Z hp24 ao "com/example/binwright/binwright/binning/LeastTree" "leaves" "I" (.int 0) := Dn24 (Or.inr (hw _ (wm 32 rfl))) (ty := .int) (by decide)
  have Fn24_least : Fld Z hp24 ao "com/example/binwright/binwright/binning/LeastTree" "least" "[D" (.null) := Dn24 (Or.inr (hw _ (wm 34 rfl))) (ty := (.array .double)) (by decide)
  show own_Go p.tables e below _ (T24.setTop (mkF m 81 (Array.mk [zL pk, zS, zL qk, zS, zI rr, zI bb, zI f, zI t, zA va, zU, zU, zU, zU, zU, zU, zU, zU, zU]) [.ref ao]))
  refine own_blk dec0 seq0 hby hx hZ hown hK hF 2 [] [] X24 eh24 ?_
  show own_Aft X24 hp24 _ 84 [zL pk, zS, zL qk, zS, zI rr, zI bb, zI f, zI t, zA va, zU, zU, zU, zU, zU, zU, zU, zU, zU] [.ref va, .ref ao, .ref ao]
  refine fun T25 X25 eh25 => ?_
  refine own_callI X25 hx hZ hown rfl (hw _ (wm 10 rfl)) (hw _ (wm 11 rfl)) (hw _ (wm 9 rfl)) (hw _ (wm 12 rfl)) (by decide) eh25 ao [.ref va] pd2 rfl (rm := ({ frames := 3, cells := 1, slots := 8, locals := 64 } : Room)) (rm2_5 l Z a0 hw [] ao va w0 w1 w2 w3 w4 hp24 n0 Z_24 Ea24 nw_ao ne_va_ao Fn24_values Fn24_leaves Fn24_least Ar23'_24 Nw0 Nw1 Nw2 Nw3 Nw4) (by rw [hml]; rfl) 1 rfl (Nat.le_of_eq rfl) (hb hby at_84) (by decide) (by decide) (by decide) (by decide) (fun T26 rv26 Lc26 X26 qc26 => ?_)
  obtain ⟨rfl, M1, EX, la, F1, F2, F3, Av, ⟨nla, nvl, nal⟩, t4, t5, t6, t2, t3, t1, Al, Ht4, Ht5, Ht6, Ht2, Ht3, Ht1⟩ := qc26
  have N1_ := Fr.app Nf23 M1
  have Zz1 : n0 ≤ T26.heap.size := Nat.le_trans nw_ao (Nat.le_of_lt EX.lt)
  show own_Go p.tables e below _ (T26.setTop (mkF m 87 (Array.mk [zL pk, zS, zL qk, zS, zI rr, zI bb, zI f, zI t, zA va, zU, zU, zU, zU, zU, zU, zU, zU, zU]) [.ref ao]))
  refine own_blk dec0 seq0 hby hx hZ hown hK hF 6 [] [] X26 rfl ?_
  show own_Aft X26 T26.heap _ 96 [zL pk, zS, zL qk, zS, zI rr, zI bb, zI f, zI t, zA va, zA ao, zU, zU, zU, zU, zU, zU, zU, zU] [.long qk, .long pk, .int t, .int f, .int 0]
  refine fun T27 X27 eh27 => ?_
  refine own_callSP X27 hx hZ hown (hw _ (wm 52 rfl)) (hw _ (wm 53 rfl)) (hw _ (wm 4 rfl)) (hw _ (wm 54 rfl)) (by decide) eh27 [.int 0, .int f, .int t, .long pk, .long qk] pd11 rfl (fr := 1) (lo := 16) (rm11 l Z a0 hw [] (0 : Int32) f t pk qk T26.heap n0 Zz1) (by rw [hml]; rfl) 0 rfl (Nat.le_of_eq rfl) (hb hby at_96) (by decide) (by decide) (by decide) (by decide) (fun T28 rv28 X28 eh28 qc28 => ?_)
  obtain ⟨k0, rfl, pe0⟩ := qc28
  show own_Go p.tables e below _ (T28.setTop (mkF m 99 (Array.mk [zL pk, zS, zL qk, zS, zI rr, zI bb, zI f, zI t, zA va, zA ao, zU, zU, zU, zU, zU, zU, zU, zU]) [.int k0]))
  refine own_blk dec0 seq0 hby hx hZ hown hK hF 6 [] [] X28 eh28 ?_
  show own_Aft X28 T26.heap _ 108 [zL pk, zS, zL qk, zS, zI rr, zI bb, zI f, zI t, zA va, zA ao, zI k0, zU, zU, zU, zU, zU, zU, zU] [.long qk, .long pk, .int t, .int f, .int 1]
  refine fun T29 X29 eh29 => ?_
  refine own_callSP X29 hx hZ hown (hw _ (wm 52 rfl)) (hw _ (wm 53 rfl)) (hw _ (wm 4 rfl)) (hw _ (wm 54 rfl)) (by decide) eh29 [.int 1, .int f, .int t, .long pk, .long qk] pd11 rfl (fr := 1) (lo := 16) (rm11 l Z a0 hw [] (1 : Int32) f t pk qk T26.heap n0 Zz1) (by rw [hml]; rfl) 0 rfl (Nat.le_of_eq rfl) (hb hby at_108) (by decide) (by decide) (by decide) (by decide) (fun T30 rv30 X30 eh30 qc30 => ?_)
  obtain ⟨k1, rfl, pe1⟩ := qc30
  show own_Go p.tables e below _ (T30.setTop (mkF m 111 (Array.mk [zL pk, zS, zL qk, zS, zI rr, zI bb, zI f, zI t, zA va, zA ao, zI k0, zU, zU, zU, zU, zU, zU, zU]) [.int k1]))
  refine own_blk dec0 seq0 hby hx hZ hown hK hF 6 [] [] X30 eh30 ?_
  show own_Aft X30 T26.heap _ 120 [zL pk, zS, zL qk, zS, zI rr, zI bb, zI f, zI t, zA va, zA ao, zI k0, zI k1, zU, zU, zU, zU, zU, zU] [.long qk, .long pk, .int t, .int f, .int 2]
  refine fun T31 X31 eh31 => ?_
  refine own_callSP X31 hx hZ hown (hw _ (wm 52 rfl)) (hw _ (wm 53 rfl)) (hw _ (wm 4 rfl)) (hw _ (wm 54 rfl)) (by decide) eh31 [.int 2, .int f, .int t, .long pk, .long qk] pd11 rfl (fr := 1) (lo := 16) (rm11 l Z a0 hw [] (2 : Int32) f t pk qk T26.heap n0 Zz1) (by rw [hml]; rfl) 0 rfl (Nat.le_of_eq rfl) (hb hby at_120) (by decide) (by decide) (by decide) (by decide) (fun T32 rv32 X32 eh32 qc32 => ?_)
  obtain ⟨k2, rfl, pe2⟩ := qc32
  show own_Go p.tables e below _ (T32.setTop (mkF m 123 (Array.mk [zL pk, zS, zL qk, zS, zI rr, zI bb, zI f, zI t, zA va, zA ao, zI k0, zI k1, zU, zU, zU, zU, zU, zU]) [.int k2]))
  refine own_blk dec0 seq0 hby hx hZ hown hK hF 6 [] [] X32 eh32 ?_
  show own_Aft X32 T26.heap _ 132 [zL pk, zS, zL qk, zS, zI rr, zI bb, zI f, zI t, zA va, zA ao, zI k0, zI k1, zI k2, zU, zU, zU, zU, zU] [.long qk, .long pk, .int t, .int f, .int 3]
  refine fun T33 X33 eh33 => ?_
  refine own_callSP X33 hx hZ hown (hw _ (wm 52 rfl)) (hw _ (wm 53 rfl)) (hw _ (wm 4 rfl)) (hw _ (wm 54 rfl)) (by decide) eh33 [.int 3, .int f, .int t, .long pk, .long qk] pd11 rfl (fr := 1) (lo := 16) (rm11 l Z a0 hw [] (3 : Int32) f t pk qk T26.heap n0 Zz1) (by rw [hml]; rfl) 0 rfl (Nat.le_of_eq rfl) (hb hby at_132) (by decide) (by decide) (by decide) (by decide) (fun T34 rv34 X34 eh34 qc34 => ?_)
  obtain ⟨k3, rfl, pe3⟩ := qc34
  show own_Go p.tables e below _ (T34.setTop (mkF m 135 (Array.mk [zL pk, zS, zL qk, zS, zI rr, zI bb, zI f, zI t, zA va, zA ao, zI k0, zI k1, zI k2, zU, zU, zU, zU, zU]) [.int k3]))
  refine own_blk dec0 seq0 hby hx hZ hown hK hF 6 [] [] X34 eh34 ?_
  show own_Aft X34 T26.heap _ 144 [zL pk, zS, zL qk, zS, zI rr, zI bb, zI f, zI t, zA va, zA ao, zI k0, zI k1, zI k2, zI k3, zU, zU, zU, zU] [.long qk, .long pk, .int t, .int f, .int 4]
  refine fun T35 X35 eh35 => ?_
  refine own_callSP X35 hx hZ hown (hw _ (wm 52 rfl)) (hw _ (wm 53 rfl)) (hw _ (wm 4 rfl)) (hw _ (wm 54 rfl)) (by decide) eh35 [.int 4, .int f, .int t, .long pk, .long qk] pd11 rfl (fr := 1) (lo := 16) (rm11 l Z a0 hw [] (4 : Int32) f t pk qk T26.heap n0 Zz1) (by rw [hml]; rfl) 0 rfl (Nat.le_of_eq rfl) (hb hby at_144) (by decide) (by decide) (by decide) (by decide) (fun T36 rv36 X36 eh36 qc36 => ?_)
  obtain ⟨k4, rfl, pe4⟩ := qc36
  show own_Go p.tables e below _ (T36.setTop (mkF m 147 (Array.mk [zL pk, zS, zL qk, zS, zI rr, zI bb, zI f, zI t, zA va, zA ao, zI k0, zI k1, zI k2, zI k3, zU, zU, zU, zU]) [.int k4]))
  refine own_blk dec0 seq0 hby hx hZ hown hK hF 5 [] [] X36 eh36 ?_
  show own_Aft X36 T26.heap _ 155 [zL pk, zS, zL qk, zS, zI rr, zI bb, zI f, zI t, zA va, zA ao, zI k0, zI k1, zI k2, zI k3, zI k4, zU, zU, zU] [.double (FP.i2d k0), .int 0, .ref va]
  refine fun T37 X37 eh37 => ?_
  have Nv0 : own_num (FP.i2d k0) := own_fin_num (own_D.i2d _).1
  generalize hv0 : FP.i2d k0 = v0 at Nv0 ⊢
  show own_Go p.tables e below _ (T37.setTop (mkF m 155 (Array.mk [zL pk, zS, zL qk, zS, zI rr, zI bb, zI f, zI t, zA va, zA ao, zI k0, zI k1, zI k2, zI k3, zI k4, zU, zU, zU]) [.double v0, .int 0, .ref va]))
  refine own_sD X37 hx hZ eh37 Av 0 rfl (by show 0 < 5; decide) (hb hby at_155) (fun T38 hp38 X38 eh38 Wr38 Ar38 => ?_)
  have Ar38' : own_A Z hp38 va .double [.double v0, .double w1, .double w2, .double w3, .double w4] := Ar38
  have Al_38 := Al.other Wr38 (Ne.symm nvl)
  have EX_38 := Exa.wr Wr38 EX
  have F1_38 := Fld.other Wr38 F1 (Or.inl (Ne.symm ne_va_ao))
  have F2_38 := Fld.other Wr38 F2 (Or.inl (Ne.symm ne_va_ao))
  have F3_38 := Fld.other Wr38 F3 (Or.inl (Ne.symm ne_va_ao))
  have Nf38 := Fr.snoc X38 N1_ nw_va
  have Z_38 : n0 ≤ hp38.size := by rw [Wr.size Wr38]; exact Zz1
  refine own_blk dec0 seq0 hby hx hZ hown hK hF 4 [] [] X38 eh38 ?_
  show own_Aft X38 hp38 _ 162 [zL pk, zS, zL qk, zS, zI rr, zI bb, zI f, zI t, zA va, zA ao, zI k0, zI k1, zI k2, zI k3, zI k4, zU, zU, zU] [.double (FP.i2d k1), .int 1, .ref va]
  refine fun T39 X39 eh39 => ?_
  have Nv1 : own_num (FP.i2d k1) := own_fin_num (own_D.i2d _).1
  generalize hv1 : FP.i2d k1 = v1 at Nv1 ⊢
  show own_Go p.tables e below _ (T39.setTop (mkF m 162 (Array.mk [zL pk, zS, zL qk, zS, zI rr, zI bb, zI f, zI t, zA va, zA ao, zI k0, zI k1, zI k2, zI k3, zI k4, zU, zU, zU]) [.double v1, .int 1, .ref va]))
  refine own_sD X39 hx hZ eh39 Ar38' 1 rfl (by show 1 < 5; decide) (hb hby at_162) (fun T40 hp40 X40 eh40 Wr40 Ar40 => ?_)
  have Ar40' : own_A Z hp40 va .double [.double v0, .double v1, .double w2, .double w3, .double w4] := Ar40
  have Al_40 := Al_38.other Wr40 (Ne.symm nvl)
  have EX_40 := Exa.wr Wr40 EX_38
  have F1_40 := Fld.other Wr40 F1_38 (Or.inl (Ne.symm ne_va_ao))
  have F2_40 := Fld.other Wr40 F2_38 (Or.inl (Ne.symm ne_va_ao))
  have F3_40 := Fld.other Wr40 F3_38 (Or.inl (Ne.symm ne_va_ao))
  have Nf40 := Fr.snoc X40 Nf38 nw_va
  have Z_40 : n0 ≤ hp40.size := by rw [Wr.size Wr40]; exact Z_38
  refine own_blk dec0 seq0 hby hx hZ hown hK hF 4 [] [] X40 eh40 ?_
  show own_Aft X40 hp40 _ 169 [zL pk, zS, zL qk, zS, zI rr, zI bb, zI f, zI t, zA va, zA ao, zI k0, zI k1, zI k2, zI k3, zI k4, zU, zU, zU] [.double (FP.i2d k2), .int 2, .ref va]
  refine fun T41 X41 eh41 => ?_
  have Nv2 : own_num (FP.i2d k2) := own_fin_num (own_D.i2d _).1
  generalize hv2 : FP.i2d k2 = v2 at Nv2 ⊢
  show own_Go p.tables e below _ (T41.setTop (mkF m 169 (Array.mk [zL pk, zS, zL qk, zS, zI rr, zI bb, zI f, zI t, zA va, zA ao, zI k0, zI k1, zI k2, zI k3, zI k4, zU, zU, zU]) [.double v2, .int 2, .ref va]))
  refine own_sD X41 hx hZ eh41 Ar40' 2 rfl (by show 2 < 5; decide) (hb hby at_169) (fun T42 hp42 X42 eh42 Wr42 Ar42 => ?_)
  have Ar42' : own_A Z hp42 va .double [.double v0, .double v1, .double v2, .double w3, .double w4] := Ar42
  have Al_42 := Al_40.other Wr42 (Ne.symm nvl)
  have EX_42 := Exa.wr Wr42 EX_40
  have F1_42 := Fld.other Wr42 F1_40 (Or.inl (Ne.symm ne_va_ao))
  have F2_42 := Fld.other Wr42 F2_40 (Or.inl (Ne.symm ne_va_ao))
  have F3_42 := Fld.other Wr42 F3_40 (Or.inl (Ne.symm ne_va_ao))
  have Nf42 := Fr.snoc X42 Nf40 nw_va
  have Z_42 : n0 ≤ hp42.size := by rw [Wr.size Wr42]; exact Z_40
  refine own_blk dec0 seq0 hby hx hZ hown hK hF 4 [] [] X42 eh42 ?_
  show own_Aft X42 hp42 _ 176 [zL pk, zS, zL qk, zS, zI rr, zI bb, zI f, zI t, zA va, zA ao, zI k0, zI k1, zI k2, zI k3, zI k4, zU, zU, zU] [.double (FP.i2d k3), .int 3, .ref va]
  refine fun T43 X43 eh43 => ?_
  have Nv3 : own_num (FP.i2d k3) := own_fin_num (own_D.i2d _).1
  generalize hv3 : FP.i2d k3 = v3 at Nv3 ⊢
  show own_Go p.tables e below _ (T43.setTop (mkF m 176 (Array.mk [zL pk, zS, zL qk, zS, zI rr, zI bb, zI f, zI t, zA va, zA ao, zI k0, zI k1, zI k2, zI k3, zI k4, zU, zU, zU]) [.double v3, .int 3, .ref va]))
  refine own_sD X43 hx hZ eh43 Ar42' 3 rfl (by show 3 < 5; decide) (hb hby at_176) (fun T44 hp44 X44 eh44 Wr44 Ar44 => ?_)
  have Ar44' : own_A Z hp44 va .double [.double v0, .double v1, .double v2, .double v3, .double w4] := Ar44
  have Al_44 := Al_42.other Wr44 (Ne.symm nvl)
  have EX_44 := Exa.wr Wr44 EX_42
  have F1_44 := Fld.other Wr44 F1_42 (Or.inl (Ne.symm ne_va_ao))
  have F2_44 := Fld.other Wr44 F2_42 (Or.inl (Ne.symm ne_va_ao))
  have F3_44 := Fld.other Wr44 F3_42 (Or.inl (Ne.symm ne_va_ao))
  have Nf44 := Fr.snoc X44 Nf42 nw_va
  have Z_44 : n0 ≤ hp44.size := by rw [Wr.size Wr44]; exact Z_42
  refine own_blk dec0 seq0 hby hx hZ hown hK hF 4 [] [] X44 eh44 ?_
  show own_Aft X44 hp44 _ 183 [zL pk, zS, zL qk, zS, zI rr, zI bb, zI f, zI t, zA va, zA ao, zI k0, zI k1, zI k2, zI k3, zI k4, zU, zU, zU] [.double (FP.i2d k4), .int 4, .ref va]
  refine fun T45 X45 eh45 => ?_
  have Nv4 : own_num (FP.i2d k4) := own_fin_num (own_D.i2d _).1
  generalize hv4 : FP.i2d k4 = v4 at Nv4 ⊢
  show own_Go p.tables e below _ (T45.setTop (mkF m 183 (Array.mk [zL pk, zS, zL qk, zS, zI rr, zI bb, zI f, zI t, zA va, zA ao, zI k0, zI k1, zI k2, zI k3, zI k4, zU, zU, zU]) [.double v4, .int 4, .ref va]))
  refine own_sD X45 hx hZ eh45 Ar44' 4 rfl (by show 4 < 5; decide) (hb hby at_183) (fun T46 hp46 X46 eh46 Wr46 Ar46 => ?_)
  have Ar46' : own_A Z hp46 va .double [.double v0, .double v1, .double v2, .double v3, .double v4] := Ar46
  have Al_46 := Al_44.other Wr46 (Ne.symm nvl)
  have EX_46 := Exa.wr Wr46 EX_44
  have F1_46 := Fld.other Wr46 F1_44 (Or.inl (Ne.symm ne_va_ao))
  have F2_46 := Fld.other Wr46 F2_44 (Or.inl (Ne.symm ne_va_ao))
  have F3_46 := Fld.other Wr46 F3_44 (Or.inl (Ne.symm ne_va_ao))
  have Nf46 := Fr.snoc X46 Nf44 nw_va
  have Z_46 : n0 ≤ hp46.size := by rw [Wr.size Wr46]; exact Z_44
  refine own_blk dec0 seq0 hby hx hZ hown hK hF 3 [] [] X46 eh46 ?_
  show own_Aft X46 hp46 _ 190 [zL pk, zS, zL qk, zS, zI rr, zI bb, zI f, zI t, zA va, zA ao, zI k0, zI k1, zI k2, zI k3, zI k4, zU, zU, zU] [.int t, .int f, .ref ao]
  refine fun T47 X47 eh47 => ?_
  have ee0 : ¬ (f.toInt ≤ 0 ∧ 0 < t.toInt) → v0 = w0 := fun q => by rw [← hv0, pe0 q, hw0]
  have ee1 : ¬ (f.toInt ≤ 1 ∧ 1 < t.toInt) → v1 = w1 := fun q => by rw [← hv1, pe1 q, hw1]
  have ee2 : ¬ (f.toInt ≤ 2 ∧ 2 < t.toInt) → v2 = w2 := fun q => by rw [← hv2, pe2 q, hw2]
  have ee3 : ¬ (f.toInt ≤ 3 ∧ 3 < t.toInt) → v3 = w3 := fun q => by rw [← hv3, pe3 q, hw3]
  have ee4 : ¬ (f.toInt ≤ 4 ∧ 4 < t.toInt) → v4 = w4 := fun q => by rw [← hv4, pe4 q, hw4]
  refine own_callV X47 hx hZ hown (hw _ (wm 55 rfl)) (hw _ (wm 41 rfl)) (hw _ (wm 43 rfl)) (hw _ (wm 42 rfl)) (hw _ (wm 9 rfl)) (hw _ (wm 44 rfl)) (by decide) eh47 EX_46 [.int f, .int t] pd8 rfl (rm := ({ frames := 1, cells := 0, slots := 0, locals := 24 } : Room)) (rm8_all l Z a0 hw [] ao la va v0 v1 v2 v3 v4 w0 w1 w2 w3 w4 t1 t2 t3 t4 t5 t6 f t hp46 n0 Z_46 EX_46 nla nvl nal F1_46 F2_46 F3_46 Al_46 Ar46' Nv0 Nv1 Nv2 Nv3 Nv4 Ht1 Ht2 Ht3 Ht4 Ht5 Ht6 ee0 ee1 ee2 ee3 ee4 sf.1 sf.2 st.1 st.2) (by rw [hml]; rfl) 0 rfl (Nat.le_of_eq rfl) (hb hby at_190) (by decide) (by decide) (by decide) (by decide) (fun T48 rv48 Lc48 X48 qc48 => ?_)
  obtain ⟨rfl, M2, K2, r1, r2, r3, r4, r5, r6, Al2, Hr1, Hr2, Hr3, Hr4, Hr5, Hr6⟩ := qc48
  have nina : ao ∉ [la] := fun q => nal (List.mem_singleton.mp q)
  have ninv : va ∉ [la] := fun q => nvl (List.mem_singleton.mp q)
  have F1_c := Fld.keep F1_46 K2 nina
  have F2_c := Fld.keep F2_46 K2 nina
  have F3_c := Fld.keep F3_46 K2 nina
  have EXc := Exa.keep EX_46 K2
  have Avc := Ar46'.keep K2 ninv
  have N2_ := Fr.app Nf46 M2
  have Zz2 : n0 ≤ T48.heap.size := Nat.le_trans nw_ao (Nat.le_of_lt EXc.lt)
  show own_Go p.tables e below _ (T48.setTop (mkF m 193 (Array.mk [zL pk, zS, zL qk, zS, zI rr, zI bb, zI f, zI t, zA va, zA ao, zI k0, zI k1, zI k2, zI k3, zI k4, zU, zU, zU]) []))
  refine own_blk dec0 seq0 hby hx hZ hown hK hF 2 [] [] X48 rfl ?_
  show own_Aft X48 T48.heap _ 197 [zL pk, zS, zL qk, zS, zI rr, zI bb, zI f, zI t, zA va, zA ao, zI k0, zI k1, zI k2, zI k3, zI k4, zU, zU, zU] [.int k1, .int k0]
  refine fun T49 X49 eh49 => ?_
  refine own_callSP X49 hx hZ hown (hw _ (wm 56 rfl)) (hw _ (wm 57 rfl)) (hw _ (wm 20 rfl)) (hw _ (wm 58 rfl)) (by decide) eh49 [.int k0, .int k1] pd12 rfl (fr := 0) (lo := 0) (rm12 l Z a0 hw [] k0 k1 T48.heap n0 Zz2) (by rw [hml]; rfl) 0 rfl (Nat.le_of_eq rfl) (hb hby at_197) (by decide) (by decide) (by decide) (by decide) (fun T50 rv50 X50 eh50 qc50 => ?_)
  obtain ⟨ma, rfl, ma1, ma2, ma3⟩ := qc50
  show own_Go p.tables e below _ (T50.setTop (mkF m 200 (Array.mk [zL pk, zS, zL qk, zS, zI rr, zI bb, zI f, zI t, zA va, zA ao, zI k0, zI k1, zI k2, zI k3, zI k4, zU, zU, zU]) [.int ma]))
  refine own_blk dec0 seq0 hby hx hZ hown hK hF 2 [] [] X50 eh50 ?_
  show own_Aft X50 T48.heap _ 204 [zL pk, zS, zL qk, zS, zI rr, zI bb, zI f, zI t, zA va, zA ao, zI k0, zI k1, zI k2, zI k3, zI k4, zU, zU, zU] [.int k3, .int k2, .int ma]
  refine fun T51 X51 eh51 => ?_
  refine own_callSP X51 hx hZ hown (hw _ (wm 56 rfl)) (hw _ (wm 57 rfl)) (hw _ (wm 20 rfl)) (hw _ (wm 58 rfl)) (by decide) eh51 [.int k2, .int k3] pd12 rfl (fr := 0) (lo := 0) (rm12 l Z a0 hw [] k2 k3 T48.heap n0 Zz2) (by rw [hml]; rfl) 1 rfl (Nat.le_of_eq rfl) (hb hby at_204) (by decide) (by decide) (by decide) (by decide) (fun T52 rv52 X52 eh52 qc52 => ?_)
  obtain ⟨mb, rfl, mb1, mb2, mb3⟩ := qc52
  show own_Go p.tables e below _ (T52.setTop (mkF m 207 (Array.mk [zL pk, zS, zL qk, zS, zI rr, zI bb, zI f, zI t, zA va, zA ao, zI k0, zI k1, zI k2, zI k3, zI k4, zU, zU, zU]) [.int mb, .int ma]))
  refine own_callSP X52 hx hZ hown (hw _ (wm 56 rfl)) (hw _ (wm 57 rfl)) (hw _ (wm 20 rfl)) (hw _ (wm 58 rfl)) (by decide) eh52 [.int ma, .int mb] pd12 rfl (fr := 0) (lo := 0) (rm12 l Z a0 hw [] ma mb T48.heap n0 Zz2) (by rw [hml]; rfl) 0 rfl (Nat.le_of_eq rfl) (hb hby at_207) (by decide) (by decide) (by decide) (by decide) (fun T53 rv53 X53 eh53 qc53 => ?_)
  obtain ⟨mc, rfl, mc1, mc2, mc3⟩ := qc53
  show own_Go p.tables e below _ (T53.setTop (mkF m 210 (Array.mk [zL pk, zS, zL qk, zS, zI rr, zI bb, zI f, zI t, zA va, zA ao, zI k0, zI k1, zI k2, zI k3, zI k4, zU, zU, zU]) [.int mc]))
  refine own_blk dec0 seq0 hby hx hZ hown hK hF 1 [] [] X53 eh53 ?_
  show own_Aft X53 T48.heap _ 212 [zL pk, zS, zL qk, zS, zI rr, zI bb, zI f, zI t, zA va, zA ao, zI k0, zI k1, zI k2, zI k3, zI k4, zU, zU, zU] [.int k4, .int mc]
  refine fun T54 X54 eh54 => ?_
  refine own_callSP X54 hx hZ hown (hw _ (wm 56 rfl)) (hw _ (wm 57 rfl)) (hw _ (wm 20 rfl)) (hw _ (wm 58 rfl)) (by decide) eh54 [.int mc, .int k4] pd12 rfl (fr := 0) (lo := 0) (rm12 l Z a0 hw [] mc k4 T48.heap n0 Zz2) (by rw [hml]; rfl) 0 rfl (Nat.le_of_eq rfl) (hb hby at_212) (by decide) (by decide) (by decide) (by decide) (fun T55 rv55 X55 eh55 qc55 => ?_)
  obtain ⟨md, rfl, md1, md2, md3⟩ := qc55
  show own_Go p.tables e below _ (T55.setTop (mkF m 215 (Array.mk [zL pk, zS, zL qk, zS, zI rr, zI bb, zI f, zI t, zA va, zA ao, zI k0, zI k1, zI k2, zI k3, zI k4, zU, zU, zU]) [.int md]))
  have hd : md = k0 ∨ md = k1 ∨ md = k2 ∨ md = k3 ∨ md = k4 := by rcases md3 with h | h <;> rcases mc3 with h' | h' <;> rcases ma3 with u | u <;> rcases mb3 with w | w <;> subst_vars <;> simp
  have hz := own_least v0 v1 v2 v3 v4 r1 r2 r3 r4 r5 r6 md k0 k1 k2 k3 k4 Hr1 Hr2 Hr3 Hr4 Hr5 Hr6 (by omega) (by omega) (by omega) (by omega) (by omega) hd hv0 hv1 hv2 hv3 hv4
  refine own_blk dec0 seq0 hby hx hZ hown hK hF 5 [] [.int 10] X55 eh55 ?_
  show ((Int8.ofInt 10).toInt32 = (10 : Int32)) ∧ ((10 : Int32) ≠ 0) ∧ own_Aft X55 T48.heap _ 224 [zL pk, zS, zL qk, zS, zI rr, zI bb, zI f, zI t, zA va, zA ao, zI k0, zI k1, zI k2, zI k3, zI k4, zI md, zI (bb % (10 : Int32)), zU] []
  refine ⟨by decide +kernel, by decide, fun T56 X56 eh56 => ?_⟩
  generalize bb % (10 : Int32) = bd
  show own_Go p.tables e below _ (T56.setTop (mkF m 224 (Array.mk [zL pk, zS, zL qk, zS, zI rr, zI bb, zI f, zI t, zA va, zA ao, zI k0, zI k1, zI k2, zI k3, zI k4, zI md, zI bd, zU]) []))
  suffices tl57 : ∀ (ix : Int32) (hix : (ix = 0 ∧ k0.toInt ≤ bd.toInt) ∨ (ix = 1 ∧ bd.toInt < k0.toInt ∧ k1.toInt ≤ bd.toInt) ∨ (ix = 2 ∧ bd.toInt < k0.toInt ∧ bd.toInt < k1.toInt ∧ k2.toInt ≤ bd.toInt) ∨ (ix = 3 ∧ bd.toInt < k0.toInt ∧ bd.toInt < k1.toInt ∧ bd.toInt < k2.toInt ∧ k3.toInt ≤ bd.toInt) ∨ (ix = 4 ∧ bd.toInt < k0.toInt ∧ bd.toInt < k1.toInt ∧ bd.toInt < k2.toInt ∧ bd.toInt < k3.toInt ∧ k4.toInt ≤ bd.toInt) ∨ (ix = -1 ∧ bd.toInt < k0.toInt ∧ bd.toInt < k1.toInt ∧ bd.toInt < k2.toInt ∧ bd.toInt < k3.toInt ∧ bd.toInt < k4.toInt)), own_Aft X56 T48.heap (own_Fin s 16 128 (fun v h L => v = some (.int 1) ∧ Fr n0 L)) 292 [zL pk, zS, zL qk, zS, zI rr, zI bb, zI f, zI t, zA va, zA ao, zI k0, zI k1, zI k2, zI k3, zI k4, zI md, zI bd, zI ix] [] by
    rcases Int.lt_or_le bd.toInt k0.toInt with q0 | q0
    · skip
      refine own_blk dec0 seq0 hby hx hZ hown hK hF 3 [true] [] X56 eh56 ?_
      show ((bd).toInt < (k0).toInt) ∧ own_Aft X56 T48.heap _ 237 [zL pk, zS, zL qk, zS, zI rr, zI bb, zI f, zI t, zA va, zA ao, zI k0, zI k1, zI k2, zI k3, zI k4, zI md, zI bd, zU] []
      refine ⟨q0, fun T58 X58 eh58 => ?_⟩
      rcases Int.lt_or_le bd.toInt k1.toInt with q1 | q1
      · skip
        refine own_blk dec0 seq0 hby hx hZ hown hK hF 3 [true] [] X58 eh58 ?_
        show ((bd).toInt < (k1).toInt) ∧ own_Aft X58 T48.heap _ 250 [zL pk, zS, zL qk, zS, zI rr, zI bb, zI f, zI t, zA va, zA ao, zI k0, zI k1, zI k2, zI k3, zI k4, zI md, zI bd, zU] []
        refine ⟨q1, fun T59 X59 eh59 => ?_⟩
        rcases Int.lt_or_le bd.toInt k2.toInt with q2 | q2
        · skip
          refine own_blk dec0 seq0 hby hx hZ hown hK hF 3 [true] [] X59 eh59 ?_
          show ((bd).toInt < (k2).toInt) ∧ own_Aft X59 T48.heap _ 263 [zL pk, zS, zL qk, zS, zI rr, zI bb, zI f, zI t, zA va, zA ao, zI k0, zI k1, zI k2, zI k3, zI k4, zI md, zI bd, zU] []
          refine ⟨q2, fun T60 X60 eh60 => ?_⟩
          rcases Int.lt_or_le bd.toInt k3.toInt with q3 | q3
          · skip
            refine own_blk dec0 seq0 hby hx hZ hown hK hF 3 [true] [] X60 eh60 ?_
            show ((bd).toInt < (k3).toInt) ∧ own_Aft X60 T48.heap _ 276 [zL pk, zS, zL qk, zS, zI rr, zI bb, zI f, zI t, zA va, zA ao, zI k0, zI k1, zI k2, zI k3, zI k4, zI md, zI bd, zU] []
            refine ⟨q3, fun T61 X61 eh61 => ?_⟩
            rcases Int.lt_or_le bd.toInt k4.toInt with q4 | q4
            · skip
              refine own_blk dec0 seq0 hby hx hZ hown hK hF 5 [true] [] X61 eh61 ?_
              show ((bd).toInt < (k4).toInt) ∧ own_Aft X61 T48.heap _ 292 [zL pk, zS, zL qk, zS, zI rr, zI bb, zI f, zI t, zA va, zA ao, zI k0, zI k1, zI k2, zI k3, zI k4, zI md, zI bd, zI (-1)] []
              refine ⟨q4, fun T62 X62 eh62 => ?_⟩
              exact tl57 _ (Or.inr (Or.inr (Or.inr (Or.inr (Or.inr (⟨rfl, q0, q1, q2, q3, q4⟩)))))) T62 X62 eh62
            · skip
              refine own_blk dec0 seq0 hby hx hZ hown hK hF 6 [false] [] X61 eh61 ?_
              show (¬ ((bd).toInt < (k4).toInt)) ∧ own_Aft X61 T48.heap _ 292 [zL pk, zS, zL qk, zS, zI rr, zI bb, zI f, zI t, zA va, zA ao, zI k0, zI k1, zI k2, zI k3, zI k4, zI md, zI bd, zI 4] []
              refine ⟨by omega, fun T63 X63 eh63 => ?_⟩
              exact tl57 _ (Or.inr (Or.inr (Or.inr (Or.inr (Or.inl (⟨rfl, q0, q1, q2, q3, q4⟩)))))) T63 X63 eh63
          · skip
            refine own_blk dec0 seq0 hby hx hZ hown hK hF 6 [false] [] X60 eh60 ?_
            show (¬ ((bd).toInt < (k3).toInt)) ∧ own_Aft X60 T48.heap _ 292 [zL pk, zS, zL qk, zS, zI rr, zI bb, zI f, zI t, zA va, zA ao, zI k0, zI k1, zI k2, zI k3, zI k4, zI md, zI bd, zI 3] []
            refine ⟨by omega, fun T64 X64 eh64 => ?_⟩
            exact tl57 _ (Or.inr (Or.inr (Or.inr (Or.inl (⟨rfl, q0, q1, q2, q3⟩))))) T64 X64 eh64
        · skip
          refine own_blk dec0 seq0 hby hx hZ hown hK hF 6 [false] [] X59 eh59 ?_
          show (¬ ((bd).toInt < (k2).toInt)) ∧ own_Aft X59 T48.heap _ 292 [zL pk, zS, zL qk, zS, zI rr, zI bb, zI f, zI t, zA va, zA ao, zI k0, zI k1, zI k2, zI k3, zI k4, zI md, zI bd, zI 2] []
          refine ⟨by omega, fun T65 X65 eh65 => ?_⟩
          exact tl57 _ (Or.inr (Or.inr (Or.inl (⟨rfl, q0, q1, q2⟩)))) T65 X65 eh65
      · skip
        refine own_blk dec0 seq0 hby hx hZ hown hK hF 6 [false] [] X58 eh58 ?_
        show (¬ ((bd).toInt < (k1).toInt)) ∧ own_Aft X58 T48.heap _ 292 [zL pk, zS, zL qk, zS, zI rr, zI bb, zI f, zI t, zA va, zA ao, zI k0, zI k1, zI k2, zI k3, zI k4, zI md, zI bd, zI 1] []
        refine ⟨by omega, fun T66 X66 eh66 => ?_⟩
        exact tl57 _ (Or.inr (Or.inl (⟨rfl, q0, q1⟩))) T66 X66 eh66
    · skip
      refine own_blk dec0 seq0 hby hx hZ hown hK hF 6 [false] [] X56 eh56 ?_
      show (¬ ((bd).toInt < (k0).toInt)) ∧ own_Aft X56 T48.heap _ 292 [zL pk, zS, zL qk, zS, zI rr, zI bb, zI f, zI t, zA va, zA ao, zI k0, zI k1, zI k2, zI k3, zI k4, zI md, zI bd, zI 0] []
      refine ⟨by omega, fun T67 X67 eh67 => ?_⟩
      exact tl57 _ (Or.inl (⟨rfl, q0⟩)) T67 X67 eh67
  intro ix hix T57 X57 eh57
  show own_Go p.tables e below _ (T57.setTop (mkF m 292 (Array.mk [zL pk, zS, zL qk, zS, zI rr, zI bb, zI f, zI t, zA va, zA ao, zI k0, zI k1, zI k2, zI k3, zI k4, zI md, zI bd, zI ix]) []))
  refine own_blk dec0 seq0 hby hx hZ hown hK hF 1 [] [] X57 eh57 ?_
  show own_Aft X57 T48.heap _ 294 [zL pk, zS, zL qk, zS, zI rr, zI bb, zI f, zI t, zA va, zA ao, zI k0, zI k1, zI k2, zI k3, zI k4, zI md, zI bd, zI ix] [.ref ao]
  refine fun T68 X68 eh68 => ?_
  refine own_callVP X68 hx hZ hown (hw _ (wm 59 rfl)) (hw _ (wm 60 rfl)) (hw _ (wm 62 rfl)) (hw _ (wm 61 rfl)) (hw _ (wm 9 rfl)) (hw _ (wm 63 rfl)) (by decide) eh68 EXc [] pd13 rfl (fr := 0) (lo := 0) (rm13 l Z a0 hw [] ao la r1 r2 r3 r4 r5 r6 T48.heap n0 Zz2 F2_c Al2) (by rw [hml]; rfl) 0 rfl (Nat.le_of_eq rfl) (hb hby at_294) (by decide) (by decide) (by decide) (by decide) (fun T69 rv69 X69 eh69 qc69 => ?_)
  obtain rfl := qc69
  show own_Go p.tables e below _ (T69.setTop (mkF m 297 (Array.mk [zL pk, zS, zL qk, zS, zI rr, zI bb, zI f, zI t, zA va, zA ao, zI k0, zI k1, zI k2, zI k3, zI k4, zI md, zI bd, zI ix]) [.double r1]))
  refine own_blk dec0 seq0 hby hx hZ hown hK hF 7 [false] [] X69 eh69 ?_
  show (¬ ((cmpValue (FP.dcmp r1 (FP.i2d md)) .l).toInt ≠ 0)) ∧ own_Aft X69 T48.heap _ 309 [zL pk, zS, zL qk, zS, zI rr, zI bb, zI f, zI t, zA va, zA ao, zI k0, zI k1, zI k2, zI k3, zI k4, zI md, zI bd, zI ix] [.double (FP.i2d bd), .ref ao]
  refine ⟨by rw [own_cv_eq (own_eq Hr1.1 (own_fin_num (own_D.i2d _).1) hz)]; omega, fun T70 X70 eh70 => ?_⟩
  refine own_callVP X70 hx hZ hown (hw _ (wm 64 rfl)) (hw _ (wm 65 rfl)) (hw _ (wm 67 rfl)) (hw _ (wm 66 rfl)) (hw _ (wm 9 rfl)) (hw _ (wm 68 rfl)) (by decide) eh70 EXc [.double (FP.i2d bd)] pd14 rfl (fr := 1) (lo := 24) (rm14_5 l Z a0 hw [] ao la va v0 v1 v2 v3 v4 r1 r2 r3 r4 r5 r6 (FP.i2d bd) T48.heap n0 Zz2 EXc F1_c F2_c F3_c Al2 Avc Nv0 Nv1 Nv2 Nv3 Nv4 Hr1.1 Hr2.1 Hr3.1 Hr4.1 Hr5.1 Hr6.1 (own_fin_num (own_D.i2d _).1)) (by rw [hml]; rfl) 0 rfl (Nat.le_of_eq rfl) (hb hby at_309) (by decide) (by decide) (by decide) (by decide) (fun T71 rv71 X71 eh71 qc71 => ?_)
  obtain ⟨got, rfl, hp⟩ := qc71
  show own_Go p.tables e below _ (T71.setTop (mkF m 312 (Array.mk [zL pk, zS, zL qk, zS, zI rr, zI bb, zI f, zI t, zA va, zA ao, zI k0, zI k1, zI k2, zI k3, zI k4, zI md, zI bd, zI ix]) [.int got]))
  have hg := own_ixq v0 v1 v2 v3 v4 got ix bd k0 k1 k2 k3 k4 hv0 hv1 hv2 hv3 hv4 hix (own_first_5 v0 v1 v2 v3 v4 r1 r2 r3 r4 r5 r6 (FP.i2d bd) got Hr1 Hr2 Hr3 Hr4 Hr5 Hr6 (own_i2d_inf bd) hp)
  refine own_blk dec0 seq0 hby hx hZ hown hK hF 4 [false] [] X71 eh71 ?_
  show (¬ ((got).toInt ≠ (ix).toInt)) ∧ own_Aft X71 T48.heap _ 322 [zL pk, zS, zL qk, zS, zI rr, zI bb, zI f, zI t, zA va, zA ao, zI k0, zI k1, zI k2, zI k3, zI k4, zI md, zI bd, zI ix] [.int 1]
  refine ⟨by omega, fun T72 X72 eh72 => ?_⟩
  exact own_ret X72 hx hlk eh72 hret (by first | rfl | decide) (Or.inl ⟨rfl, by simp, _, rfl⟩) (hb hby at_322) (by decide) (by decide) (⟨rfl, N2_⟩)
set_option maxRecDepth 65536 in
set_option maxHeartbeats 40000000 in
theorem comes_1 {Post : Tables → Env → Array Value → State → Outcome → State → Prop} (hpost : ∀ tb e args s v u, (limb_1_1.after args s (.returned v) u = true ∧ limb_1_2.after args s (.returned v) u = true ∧ True) → FrameEnd s (.returned v) u (Jvm.fieldLocs frame_1_writes args s ++ Jvm.arrayLocs frame_1_arrays args s ++ Jvm.staticLocs frame_1_statics s) 16 128 → Post tb e args s (.returned v) u) :
    ArmFor flags0 classFile x code maxLocals ret World_1 tables_1 room_1 Calls_1 rest_1 Pre_1 Post := by
  intro l hfl _ _ p e ha hc hk s m args below hf hA hF happ hP
  obtain ⟨hcalls, hrest, hpre⟩ := hP
  obtain ⟨-, -, -, hnamed, -, -, -, hat⟩ := (Spec.applies_iff hf).mp happ
  obtain ⟨hg, hn⟩ := and_e (Cond.before_iff.mp (show (Jvm.Cond.and given_1 narrow_1).before args s = true from hpre))
  obtain ⟨h1, g0⟩ := and_e hg
  obtain ⟨t0, g1⟩ := and_e g0
  obtain ⟨t1, g2⟩ := and_e g1
  obtain ⟨t2, g3⟩ := and_e g2
  obtain ⟨w0, w1, w2, w3, rfl⟩ : ∃ w0 w1 w2 w3 : Value, args = #[w0, w1, w2, w3] := by
    have hs : args.size = 4 := by simpa [Cond.value, given_1] using h1
    obtain ⟨L⟩ := args
    match L, hs with
    | [w0, w1, w2, w3], _ => exact ⟨w0, w1, w2, w3, rfl⟩
  have hw := fun d (hd : d ∈ tables_1) => atoms_spec (ws := Jvm.Cond.code x code maxLocals ret :: tables_1) hat d (List.mem_cons_of_mem _ hd)
  obtain ⟨i0, e0⟩ := isL_v t0
  obtain rfl : w0 = (.long i0) := Option.some.inj e0
  obtain ⟨i1, e1⟩ := isL_v t1
  obtain rfl : w1 = (.long i1) := Option.some.inj e1
  obtain ⟨i2, e2⟩ := is_v t2
  obtain rfl : w2 = (.int i2) := Option.some.inj e2
  obtain ⟨i3, e3⟩ := is_v g3
  obtain rfl : w3 = (.int i3) := Option.some.inj e3
  obtain ⟨n, o, h1, h2, h3, hfin⟩ := rm0 l s _ hw tables_1 i0 i1 i2 i3 s.heap s.heap.size (Nat.le_refl _)  p e ha hc hk s m _ below hf ((Spec.applies_iff_loose hf).mp happ).1 ⟨rfl, State.Warmed39.refl s, rfl⟩ trivial
  obtain ⟨_, L, rfl, ⟨rfl, N⟩, hq⟩ := hfin
  refine ⟨n, _, h1, h2, h3, hpost _ _ _ _ _ _ ⟨Cond.after_iff.mpr rfl, Cond.after_iff.mpr (eq_i res_at (Term.int_eval (1)) rfl), trivial⟩ ⟨hq.1, hq.2.1, (hq.2.2.sift fun y hy => Or.inr (N y hy)).mono (by decide) (by decide)⟩⟩
theorem main_1_1 : Claimed_1_1 := comes_1 fun _ _ _ _ _ _ h hF => ⟨h.1, hF⟩
theorem main_1_2 : Claimed_1_2 := comes_1 fun _ _ _ _ _ _ h hF => ⟨h.2.1, hF⟩
end Jvm.Pilot.@@N@@
namespace Jvm.Pilot.@@N@@
open Jvm Jvm.ClassFile Sem Op Lib Jvm.Free Jvm.Stand Jvm.Pilot.@@N@@.Jvm.D
/-! MADE BY PROGRAM (witnessworld.py) out of the Statement's table words and the real class files: 18 classes; the members and pool entries that the words name. The judged class is class 1, her method 3. -/
namespace start1
open Jvm.ClassFile
def u (s : String) : CpInfo := .utf8 (stringToUtf16 s)
/-- a pool by its gaps: so many unusable entries, then the entry; so many at the end -/
def gap : Nat → List CpInfo → List CpInfo
  | 0, r => r
  | n + 1, r => .unusable :: gap n r
def poolList (es : List (Nat × CpInfo)) (last : Nat) : List CpInfo := es.foldr (fun e r => gap e.1 (e.2 :: r)) (gap last [])
def pool (es : List (Nat × CpInfo)) (last : Nat) : Array CpInfo := ⟨poolList es last⟩
def fileOf (pool : Array CpInfo) (this : Nat) (attrs : Array Attribute := #[]) (ms : Array MethodInfo := #[]) (fl : Nat := 33) (sup : Nat := 0) (ifs : Array Nat := #[]) (fds : Array FieldInfo := #[]) : ClassFile where
  minorVersion := 0
  majorVersion := 65
  constantPool := pool
  accessFlags := fl
  thisClass := this
  superClass := sup
  interfaces := ifs
  fields := fds
  methods := ms
  attributes := attrs
def plain (name : String) (sup : Option ClassId) : Class where
  name := name
  kind := .ordinary
  loader := none
  accessFlags := 33
  super := sup
  interfaces := #[]
  cf := none
  fields := #[]
  methods := #[]
  instanceTypes := #[]
  staticTypes := #[]
  resolved := #[]
  callSites := []
  init := .initialized
  statics := none
  mirror := none

def pool0 : Array CpInfo := pool [(5, u "<init>"), (0, u "()V"), (1, .class_ 10), (1, u "java/lang/Object")] 113

def k0c0 : Code := { maxStack := 0, maxLocals := 1, code := object_method_1_code, exceptionTable := #[], attributes := #[] }
def k0m0 : Method := { name := "<init>", desc := "()V", sig := { parameters := [], returnType := none }, accessFlags := 1, code := some k0c0 }
/-- java/lang/Object -/
def k0 : Class := { plain "java/lang/Object" none with
  accessFlags := 33
  interfaces := #[]
  cf := some (fileOf pool0 8 #[] #[{ accessFlags := 1, nameIndex := 5, descriptorIndex := 6, attributes := #[] }] 33 0 #[] #[])
  fields := #[]
  methods := #[k0m0]
  instanceTypes := #[]
  staticTypes := #[]
  resolved := Array.replicate 124 none
  statics := none }

def pool1 : Array CpInfo := pool [(2, .class_ 4), (1, u "java/lang/Object"), (0, u "<init>"), (0, u "()V"), (0, .long 15), (1, .methodref 10 11), (0, .class_ 12), (0, .nameAndType 13 14), (0, u "com/example/binwright/binwright/binning/LeastTreeChangedPinLaw"), (0, u "val"), (0, u "(JI)I"), (0, .integer 2147483647), (0, .class_ 17), (0, u "com/example/binwright/binwright/binning/LeastTree"), (0, .methodref 16 19), (0, .nameAndType 5 20), (0, u "([D)V"), (0, .methodref 10 22), (0, .nameAndType 23 24), (0, u "pick"), (0, u "(IIIJJ)I"), (0, .methodref 16 26), (0, .nameAndType 27 28), (0, u "changed"), (0, u "(II)V"), (0, .methodref 30 31), (0, .class_ 32), (0, .nameAndType 33 34), (0, u "java/lang/Math"), (0, u "min"), (0, u "(II)I"), (0, .methodref 16 36), (0, .nameAndType 37 38), (0, u "least"), (0, u "()D"), (0, .methodref 16 40), (0, .nameAndType 41 42), (0, u "firstAtMost"), (0, u "(D)I"), (3, u "law"), (0, u "(JJII)Z")] 4

def k1m0 : Method := { name := "<init>", desc := "()V", sig := { parameters := [], returnType := none }, accessFlags := 1, code := none }
def k1c1 : Code := { maxStack := 4, maxLocals := 3, code := method_2_code, exceptionTable := #[], attributes := #[] }
def k1m1 : Method := { name := "val", desc := "(JI)I", sig := { parameters := [.long, .int], returnType := some .int }, accessFlags := 10, code := some k1c1 }
def k1c2 : Code := { maxStack := 3, maxLocals := 7, code := method_3_code, exceptionTable := #[], attributes := #[] }
def k1m2 : Method := { name := "pick", desc := "(IIIJJ)I", sig := { parameters := [.int, .int, .int, .long, .long], returnType := some .int }, accessFlags := 10, code := some k1c2 }
def k1c3 : Code := { maxStack := 7, maxLocals := 18, code := code, exceptionTable := #[], attributes := #[] }
def k1m3 : Method := { name := "law", desc := "(JJII)Z", sig := { parameters := [.long, .long, .int, .int], returnType := some .boolean }, accessFlags := 9, code := some k1c3 }
/-- com/example/binwright/binwright/binning/LeastTreeChangedPinLaw -/
def k1 : Class := { plain "com/example/binwright/binwright/binning/LeastTreeChangedPinLaw" (some 0) with
  accessFlags := 49
  interfaces := #[]
  cf := some (fileOf pool1 10 #[] #[{ accessFlags := 1, nameIndex := 5, descriptorIndex := 6, attributes := #[] }, { accessFlags := 10, nameIndex := 13, descriptorIndex := 14, attributes := #[] }, { accessFlags := 10, nameIndex := 23, descriptorIndex := 24, attributes := #[] }, { accessFlags := 9, nameIndex := 46, descriptorIndex := 47, attributes := #[] }] 49 2 #[] #[])
  fields := #[]
  methods := #[k1m0, k1m1, k1m2, k1m3]
  instanceTypes := #[]
  staticTypes := #[]
  resolved := Array.replicate 52 none
  statics := none }

def pool2 : Array CpInfo := pool [(1, .methodref 2 3), (0, .class_ 4), (0, .nameAndType 5 6), (0, u "java/lang/Object"), (0, u "<init>"), (0, u "()V"), (0, .fieldref 8 9), (0, .class_ 10), (0, .nameAndType 11 12), (0, u "com/example/binwright/binwright/binning/LeastTree"), (0, u "values"), (0, u "[D"), (0, .methodref 14 15), (0, .class_ 16), (0, .nameAndType 17 18), (0, u "java/lang/Math"), (0, u "max"), (0, u "(II)I"), (0, .methodref 20 21), (0, .class_ 22), (0, .nameAndType 23 24), (0, u "java/lang/Integer"), (0, u "highestOneBit"), (0, u "(I)I"), (0, .fieldref 8 26), (0, .nameAndType 27 28), (0, u "leaves"), (0, u "I"), (0, .fieldref 8 30), (0, .nameAndType 31 12), (0, u "least"), (2, .double 9218868437227405312), (1, .methodref 37 38), (0, .class_ 39), (0, .nameAndType 40 41), (0, u "java/util/Arrays"), (0, u "fill"), (0, u "([DD)V"), (0, .methodref 8 43), (0, .nameAndType 44 45), (0, u "changed"), (0, u "(II)V"), (0, .methodref 8 47), (0, .nameAndType 48 49), (0, u "at"), (0, u "(I)D"), (0, .methodref 14 51), (0, .nameAndType 52 53), (0, u "min"), (0, u "(DD)D"), (0, u "([D)V"), (3, u "()D"), (0, u "firstAtMost"), (0, u "(D)I")] 2

def k2c0 : Code := { maxStack := 4, maxLocals := 2, code := prog_15_method_1_code, exceptionTable := #[], attributes := #[] }
def k2m0 : Method := { name := "<init>", desc := "([D)V", sig := { parameters := [(.array .double)], returnType := none }, accessFlags := 0, code := some k2c0 }
def k2c1 : Code := { maxStack := 7, maxLocals := 6, code := prog_15_method_2_code, exceptionTable := #[], attributes := #[] }
def k2m1 : Method := { name := "changed", desc := "(II)V", sig := { parameters := [.int, .int], returnType := none }, accessFlags := 0, code := some k2c1 }
def k2c2 : Code := { maxStack := 2, maxLocals := 1, code := prog_15_method_3_code, exceptionTable := #[], attributes := #[] }
def k2m2 : Method := { name := "least", desc := "()D", sig := { parameters := [], returnType := some .double }, accessFlags := 0, code := some k2c2 }
def k2c3 : Code := { maxStack := 4, maxLocals := 4, code := prog_15_method_4_code, exceptionTable := #[], attributes := #[] }
def k2m3 : Method := { name := "firstAtMost", desc := "(D)I", sig := { parameters := [.double], returnType := some .int }, accessFlags := 0, code := some k2c3 }
def k2c4 : Code := { maxStack := 2, maxLocals := 5, code := prog_15_method_5_code, exceptionTable := #[], attributes := #[] }
def k2m4 : Method := { name := "at", desc := "(I)D", sig := { parameters := [.int], returnType := some .double }, accessFlags := 2, code := some k2c4 }
/-- com/example/binwright/binwright/binning/LeastTree -/
def k2 : Class := { plain "com/example/binwright/binwright/binning/LeastTree" (some 0) with
  accessFlags := 48
  interfaces := #[]
  cf := some (fileOf pool2 8 #[] #[{ accessFlags := 0, nameIndex := 5, descriptorIndex := 54, attributes := #[] }, { accessFlags := 0, nameIndex := 44, descriptorIndex := 45, attributes := #[] }, { accessFlags := 0, nameIndex := 31, descriptorIndex := 58, attributes := #[] }, { accessFlags := 0, nameIndex := 59, descriptorIndex := 60, attributes := #[] }, { accessFlags := 2, nameIndex := 48, descriptorIndex := 49, attributes := #[] }] 48 2 #[] #[{ accessFlags := 18, nameIndex := 11, descriptorIndex := 12, attributes := #[] }, { accessFlags := 18, nameIndex := 27, descriptorIndex := 28, attributes := #[] }, { accessFlags := 18, nameIndex := 31, descriptorIndex := 12, attributes := #[] }])
  fields := #[{ name := "values", type := (.array .double), accessFlags := 18, slot := 0, constantValue := 0 }, { name := "leaves", type := .int, accessFlags := 18, slot := 1, constantValue := 0 }, { name := "least", type := (.array .double), accessFlags := 18, slot := 2, constantValue := 0 }]
  methods := #[k2m0, k2m1, k2m2, k2m3, k2m4]
  instanceTypes := #[(.array .double), .int, (.array .double)]
  staticTypes := #[]
  resolved := Array.replicate 63 none
  statics := none }

def pool3 : Array CpInfo := pool [(1, .class_ 2), (0, u "java/lang/Math"), (1, .class_ 6), (1, u "java/lang/Object"), (0, u "<init>"), (0, u "()V"), (43, u "(DD)D"), (45, .class_ 100), (1, u "java/lang/Math$RandomNumberGeneratorHolder"), (71, u "negativeZeroFloatBits"), (0, u "J"), (2, u "negativeZeroDoubleBits"), (21, u "max"), (2, u "min"), (43, u "$assertionsDisabled"), (0, u "Z"), (88, u "(II)I"), (2, u "twoToTheDoubleScaleDown"), (0, u "D"), (4, u "twoToTheDoubleScaleUp"), (9, u "E"), (3, u "PI"), (2, u "TAU"), (2, u "DEGREES_TO_RADIANS"), (0, u "RADIANS_TO_DEGREES")] 94

def k3m0 : Method := { name := "<init>", desc := "()V", sig := { parameters := [], returnType := none }, accessFlags := 2, code := none }
def k3c1 : Code := { maxStack := 2, maxLocals := 2, code := jdk_29_method_65_code, exceptionTable := #[], attributes := #[] }
def k3m1 : Method := { name := "max", desc := "(II)I", sig := { parameters := [.int, .int], returnType := some .int }, accessFlags := 9, code := some k3c1 }
def k3c2 : Code := { maxStack := 2, maxLocals := 2, code := jdk_29_method_69_code, exceptionTable := #[], attributes := #[] }
def k3m2 : Method := { name := "min", desc := "(II)I", sig := { parameters := [.int, .int], returnType := some .int }, accessFlags := 9, code := some k3c2 }
def k3c3 : Code := { maxStack := 4, maxLocals := 4, code := jdk_29_method_72_code, exceptionTable := #[], attributes := #[] }
def k3m3 : Method := { name := "min", desc := "(DD)D", sig := { parameters := [.double, .double], returnType := some .double }, accessFlags := 9, code := some k3c3 }
/-- java/lang/Math -/
def k3 : Class := { plain "java/lang/Math" (some 0) with
  accessFlags := 49
  interfaces := #[]
  cf := some (fileOf pool3 1 #[.nestMembers #[98]] #[{ accessFlags := 2, nameIndex := 7, descriptorIndex := 8, attributes := #[] }, { accessFlags := 9, nameIndex := 198, descriptorIndex := 335, attributes := #[] }, { accessFlags := 9, nameIndex := 201, descriptorIndex := 335, attributes := #[] }, { accessFlags := 9, nameIndex := 201, descriptorIndex := 52, attributes := #[] }] 49 4 #[] #[{ accessFlags := 25, nameIndex := 354, descriptorIndex := 339, attributes := #[] }, { accessFlags := 25, nameIndex := 358, descriptorIndex := 339, attributes := #[] }, { accessFlags := 25, nameIndex := 361, descriptorIndex := 339, attributes := #[] }, { accessFlags := 26, nameIndex := 364, descriptorIndex := 339, attributes := #[] }, { accessFlags := 26, nameIndex := 365, descriptorIndex := 339, attributes := #[] }, { accessFlags := 26, nameIndex := 172, descriptorIndex := 173, attributes := #[] }, { accessFlags := 26, nameIndex := 176, descriptorIndex := 173, attributes := #[] }, { accessFlags := 8, nameIndex := 344, descriptorIndex := 339, attributes := #[] }, { accessFlags := 8, nameIndex := 338, descriptorIndex := 339, attributes := #[] }, { accessFlags := 4120, nameIndex := 245, descriptorIndex := 246, attributes := #[] }])
  fields := #[{ name := "E", type := .double, accessFlags := 25, slot := 0, constantValue := 0 }, { name := "PI", type := .double, accessFlags := 25, slot := 1, constantValue := 0 }, { name := "TAU", type := .double, accessFlags := 25, slot := 2, constantValue := 0 }, { name := "DEGREES_TO_RADIANS", type := .double, accessFlags := 26, slot := 3, constantValue := 0 }, { name := "RADIANS_TO_DEGREES", type := .double, accessFlags := 26, slot := 4, constantValue := 0 }, { name := "negativeZeroFloatBits", type := .long, accessFlags := 26, slot := 5, constantValue := 0 }, { name := "negativeZeroDoubleBits", type := .long, accessFlags := 26, slot := 6, constantValue := 0 }, { name := "twoToTheDoubleScaleUp", type := .double, accessFlags := 8, slot := 7, constantValue := 0 }, { name := "twoToTheDoubleScaleDown", type := .double, accessFlags := 8, slot := 8, constantValue := 0 }, { name := "$assertionsDisabled", type := .boolean, accessFlags := 4120, slot := 9, constantValue := 0 }]
  methods := #[k3m0, k3m1, k3m2, k3m3]
  instanceTypes := #[]
  staticTypes := #[.double, .double, .double, .double, .double, .long, .long, .double, .double, .boolean]
  resolved := Array.replicate 460 none
  statics := none }

def pool4 : Array CpInfo := pool [(1, .class_ 2), (0, u "java/io/Serializable"), (0, .class_ 4), (0, u "java/lang/Object")] 2

/-- java/io/Serializable -/
def k4 : Class := { plain "java/io/Serializable" (some 0) with
  accessFlags := 1537
  interfaces := #[]
  cf := some (fileOf pool4 1 #[] #[] 1537 3 #[] #[])
  fields := #[]
  methods := #[]
  instanceTypes := #[]
  staticTypes := #[]
  resolved := Array.replicate 7 none
  statics := none }

def pool5 : Array CpInfo := pool [(2, .class_ 4), (1, u "java/lang/Object"), (0, u "<init>"), (0, u "()V"), (1, .class_ 10), (1, u "java/lang/Number"), (2, .class_ 14), (0, u "java/io/Serializable"), (0, u "serialVersionUID"), (0, u "J")] 20

def k5m0 : Method := { name := "<init>", desc := "()V", sig := { parameters := [], returnType := none }, accessFlags := 1, code := none }
/-- java/lang/Number -/
def k5 : Class := { plain "java/lang/Number" (some 0) with
  accessFlags := 1057
  interfaces := #[4]
  cf := some (fileOf pool5 8 #[] #[{ accessFlags := 1, nameIndex := 5, descriptorIndex := 6, attributes := #[] }] 1057 2 #[13] #[{ accessFlags := 26, nameIndex := 15, descriptorIndex := 16, attributes := #[] }])
  fields := #[{ name := "serialVersionUID", type := .long, accessFlags := 26, slot := 0, constantValue := 0 }]
  methods := #[k5m0]
  instanceTypes := #[]
  staticTypes := #[.long]
  resolved := Array.replicate 37 none
  statics := none }

def pool6 : Array CpInfo := pool [(1, .class_ 2), (0, u "java/lang/Comparable"), (0, .class_ 4), (0, u "java/lang/Object")] 7

/-- java/lang/Comparable -/
def k6 : Class := { plain "java/lang/Comparable" (some 0) with
  accessFlags := 1537
  interfaces := #[]
  cf := some (fileOf pool6 1 #[] #[] 1537 3 #[] #[])
  fields := #[]
  methods := #[]
  instanceTypes := #[]
  staticTypes := #[]
  resolved := Array.replicate 12 none
  statics := none }

def pool7 : Array CpInfo := pool [(1, .class_ 2), (0, u "java/lang/constant/Constable"), (0, .class_ 4), (0, u "java/lang/Object")] 6

/-- java/lang/constant/Constable -/
def k7 : Class := { plain "java/lang/constant/Constable" (some 0) with
  accessFlags := 1537
  interfaces := #[]
  cf := some (fileOf pool7 1 #[] #[] 1537 3 #[] #[])
  fields := #[]
  methods := #[]
  instanceTypes := #[]
  staticTypes := #[]
  resolved := Array.replicate 11 none
  statics := none }

def pool8 : Array CpInfo := pool [(1, .class_ 2), (0, u "java/lang/constant/ConstantDesc"), (0, .class_ 4), (0, u "java/lang/Object")] 32

/-- java/lang/constant/ConstantDesc -/
def k8 : Class := { plain "java/lang/constant/ConstantDesc" (some 0) with
  accessFlags := 1537
  interfaces := #[]
  cf := some (fileOf pool8 1 #[] #[] 1537 3 #[] #[])
  fields := #[]
  methods := #[]
  instanceTypes := #[]
  staticTypes := #[]
  resolved := Array.replicate 37 none
  statics := none }

def pool9 : Array CpInfo := pool [(1, .class_ 2), (0, u "java/lang/Integer"), (16, u "digits"), (0, u "[C"), (30, .methodref 1 52), (0, .nameAndType 53 54), (0, u "numberOfLeadingZeros"), (0, u "(I)I"), (30, u "DigitOnes"), (0, u "[B"), (2, u "DigitTens"), (37, .integer 2147483648), (61, .class_ 190), (0, u "java/lang/Integer$IntegerCache"), (3, u "I"), (8, .class_ 204), (0, u "java/lang/Number"), (2, u "value"), (56, .integer 65536), (37, u "TYPE"), (0, u "Ljava/lang/Class;"), (0, .class_ 305), (0, u "java/lang/Comparable"), (0, .class_ 307), (0, u "java/lang/constant/Constable"), (0, .class_ 309), (0, u "java/lang/constant/ConstantDesc"), (0, u "MIN_VALUE"), (1, u "MAX_VALUE"), (3, u "SIZE"), (1, u "BYTES"), (1, u "serialVersionUID"), (0, u "J"), (81, u "highestOneBit")] 49

def k9c0 : Code := { maxStack := 3, maxLocals := 1, code := jdk_33_method_45_code, exceptionTable := #[], attributes := #[] }
def k9m0 : Method := { name := "highestOneBit", desc := "(I)I", sig := { parameters := [.int], returnType := some .int }, accessFlags := 9, code := some k9c0 }
def k9c1 : Code := { maxStack := 3, maxLocals := 2, code := jdk_33_method_47_code, exceptionTable := #[], attributes := #[] }
def k9m1 : Method := { name := "numberOfLeadingZeros", desc := "(I)I", sig := { parameters := [.int], returnType := some .int }, accessFlags := 9, code := some k9c1 }
/-- java/lang/Integer -/
def k9 : Class := { plain "java/lang/Integer" (some 5) with
  accessFlags := 49
  interfaces := #[6, 7, 8]
  cf := some (fileOf pool9 1 #[.nestMembers #[189]] #[{ accessFlags := 9, nameIndex := 403, descriptorIndex := 54, attributes := #[] }, { accessFlags := 9, nameIndex := 53, descriptorIndex := 54, attributes := #[] }] 49 203 #[304, 306, 308] #[{ accessFlags := 25, nameIndex := 310, descriptorIndex := 194, attributes := #[] }, { accessFlags := 25, nameIndex := 312, descriptorIndex := 194, attributes := #[] }, { accessFlags := 25, nameIndex := 302, descriptorIndex := 303, attributes := #[] }, { accessFlags := 24, nameIndex := 19, descriptorIndex := 20, attributes := #[] }, { accessFlags := 24, nameIndex := 89, descriptorIndex := 86, attributes := #[] }, { accessFlags := 24, nameIndex := 85, descriptorIndex := 86, attributes := #[] }, { accessFlags := 18, nameIndex := 207, descriptorIndex := 194, attributes := #[] }, { accessFlags := 25, nameIndex := 316, descriptorIndex := 194, attributes := #[] }, { accessFlags := 25, nameIndex := 318, descriptorIndex := 194, attributes := #[] }, { accessFlags := 26, nameIndex := 320, descriptorIndex := 321, attributes := #[] }])
  fields := #[{ name := "MIN_VALUE", type := .int, accessFlags := 25, slot := 0, constantValue := 0 }, { name := "MAX_VALUE", type := .int, accessFlags := 25, slot := 1, constantValue := 0 }, { name := "TYPE", type := (.object "java/lang/Class"), accessFlags := 25, slot := 2, constantValue := 0 }, { name := "digits", type := (.array .char), accessFlags := 24, slot := 3, constantValue := 0 }, { name := "DigitTens", type := (.array .byte), accessFlags := 24, slot := 4, constantValue := 0 }, { name := "DigitOnes", type := (.array .byte), accessFlags := 24, slot := 5, constantValue := 0 }, { name := "value", type := .int, accessFlags := 18, slot := 0, constantValue := 0 }, { name := "SIZE", type := .int, accessFlags := 25, slot := 6, constantValue := 0 }, { name := "BYTES", type := .int, accessFlags := 25, slot := 7, constantValue := 0 }, { name := "serialVersionUID", type := .long, accessFlags := 26, slot := 8, constantValue := 0 }]
  methods := #[k9m0, k9m1]
  instanceTypes := #[.int]
  staticTypes := #[.int, .int, (.object "java/lang/Class"), (.array .char), (.array .byte), (.array .byte), .int, .int, .long]
  resolved := Array.replicate 453 none
  statics := none }

def pool10 : Array CpInfo := pool [(2, .class_ 4), (1, u "java/lang/Object"), (0, u "<init>"), (0, u "()V"), (7, .class_ 16), (1, u "java/util/Arrays"), (57, .class_ 76), (1, u "java/util/Arrays$NaturalOrder"), (36, .class_ 115), (1, u "java/util/Arrays$LegacyMergeSort"), (1, u "Z"), (257, .class_ 376), (0, u "java/util/Arrays$ArrayList"), (68, u "$assertionsDisabled"), (269, u "MIN_ARRAY_SORT_GRAN"), (0, u "I"), (2, u "INSERTIONSORT_THRESHOLD"), (120, u "fill"), (13, u "([DD)V"), (120, .class_ 976), (0, u "java/util/Arrays$ArrayItr")] 52

def k10m0 : Method := { name := "<init>", desc := "()V", sig := { parameters := [], returnType := none }, accessFlags := 2, code := none }
def k10c1 : Code := { maxStack := 4, maxLocals := 5, code := jdk_65_method_113_code, exceptionTable := #[], attributes := #[] }
def k10m1 : Method := { name := "fill", desc := "([DD)V", sig := { parameters := [(.array .double), .double], returnType := none }, accessFlags := 9, code := some k10c1 }
/-- java/util/Arrays -/
def k10 : Class := { plain "java/util/Arrays" (some 0) with
  accessFlags := 49
  interfaces := #[]
  cf := some (fileOf pool10 14 #[.nestMembers #[975, 375, 113, 74]] #[{ accessFlags := 2, nameIndex := 5, descriptorIndex := 6, attributes := #[] }, { accessFlags := 9, nameIndex := 840, descriptorIndex := 854, attributes := #[] }] 49 2 #[] #[{ accessFlags := 26, nameIndex := 715, descriptorIndex := 716, attributes := #[] }, { accessFlags := 26, nameIndex := 719, descriptorIndex := 716, attributes := #[] }, { accessFlags := 4120, nameIndex := 445, descriptorIndex := 117, attributes := #[] }])
  fields := #[{ name := "MIN_ARRAY_SORT_GRAN", type := .int, accessFlags := 26, slot := 0, constantValue := 0 }, { name := "INSERTIONSORT_THRESHOLD", type := .int, accessFlags := 26, slot := 1, constantValue := 0 }, { name := "$assertionsDisabled", type := .boolean, accessFlags := 4120, slot := 2, constantValue := 0 }]
  methods := #[k10m0, k10m1]
  instanceTypes := #[]
  staticTypes := #[.int, .int, .boolean]
  resolved := Array.replicate 1029 none
  statics := none }

def pool11 : Array CpInfo := pool [(1, u "java/lang/Cloneable"), (0, .class_ 1), (0, u "java/lang/Object"), (0, .class_ 3)] 3

/-- java/lang/Cloneable -/
def k11 : Class := { plain "java/lang/Cloneable" (some 0) with
  accessFlags := 1537
  interfaces := #[]
  cf := some (fileOf pool11 2 #[] #[] 1537 4 #[] #[])
  fields := #[]
  methods := #[]
  instanceTypes := #[]
  staticTypes := #[]
  resolved := Array.replicate 8 none
  statics := none }

/-- the primitive byte -/
def k12 : Class := { plain "byte" none with kind := .primitive 'B', accessFlags := 0x411 }
/-- [B -/
def k13 : Class := { plain "[B" (some 0) with kind := .array 12 .byte, interfaces := #[11, 4], accessFlags := 1041 }

/-- the primitive double -/
def k14 : Class := { plain "double" none with kind := .primitive 'D', accessFlags := 0x411 }
/-- [D -/
def k15 : Class := { plain "[D" (some 0) with kind := .array 14 .double, interfaces := #[11, 4], accessFlags := 1041 }

/-- the primitive int -/
def k16 : Class := { plain "int" none with kind := .primitive 'I', accessFlags := 0x411 }
/-- [I -/
def k17 : Class := { plain "[I" (some 0) with kind := .array 16 .int, interfaces := #[11, 4], accessFlags := 1041 }

def heap : Heap := #[]
def classes : Array Class := #[k0, k1, k2, k3, k4, k5, k6, k7, k8, k9, k10, k11, k12, k13, k14, k15, k16, k17]
def interned : List (Array UInt16 × Addr) := []
def slotsUsed : Nat := 0
def theMethod : MethodId := ⟨1, 3⟩
def args0 : Array Value := #[.long 5, .long 6, .int 7, .int 3]
def aboutOver (below : List Frame) : State where
  vm := { classes := classes, interned := interned.toArray }
  heap := heap
  slotsUsed := slotsUsed
  threads := #[{ frames := .invoking theMethod args0 :: below }]
def below0 : List Frame := [.native { method := ⟨0, 0⟩, args := #[] }]
def about1 : State := aboutOver below0
def p0 : Program := .bare "" "" ""
def e0 : Env := launch0.env 0 0 0
theorem w_frames : about1.frames = Frame.invoking theMethod args0 :: below0 := rfl
set_option maxRecDepth 65536 in
theorem w_args : argsFit about1.vm theMethod args0 = true := by decide +kernel
set_option maxRecDepth 65536 in
theorem w_heap : heapFits about1 = true := by decide +kernel
set_option maxRecDepth 65536 in
theorem w_runnable : about1.curStatus? = some .runnable := by decide +kernel
set_option maxRecDepth 65536 in
theorem w_alone : about1.alone = true := by decide +kernel
set_option maxRecDepth 65536 in
theorem w_named : about1.methodNamed? x = some theMethod := by decide +kernel
set_option maxRecDepth 65536 in
theorem w_hears : about1.hears theMethod below0 = true := by decide +kernel
set_option maxRecDepth 65536 in
theorem w_ripe : about1.ripe theMethod args0 below0 = true := by decide +kernel
theorem w_running : about1.status = .running := rfl
set_option maxRecDepth 65536 in
theorem w_room : about1.hasRoom e0.platform room_1 = true :=
  launch0.hasRoom_least _ room_1 (by decide +kernel) (by decide +kernel) (by decide +kernel) (by decide +kernel) (by decide +kernel) (by decide +kernel)
theorem allAtoms_all (ts : List Jvm.Cond) (a : Array Jvm.Value) (st : Jvm.State) : (allAtoms ts).before a st = ts.all (fun c => c.before a st) := by
  induction ts with
  | nil => rfl
  | cons c t ih =>
    show (Jvm.Cond.and c (allAtoms t)).before a st = _
    rw [Jvm.Cond.before_and, ih, List.all_cons]
def words1 : List Jvm.Cond := Jvm.Cond.code x code maxLocals ret :: tables_1
/-- a 'code' word, met by the world's own term for the bytes: nothing is compared byte by byte -/
theorem code_word {y : MethodName} {bytes : ByteArray} {mx : Nat} {rt : Option FieldType} {a : Array Value} {s : State} {m : MethodId} {meth : Method} {c : Code} (h1 : s.methodNamed? y = some m) (h2 : s.vm.method? m = some meth) (h3 : meth.code = some c) (h4 : c.code = bytes)
    (h5 : (c.maxLocals == mx && c.exceptionTable.isEmpty && decide (c.maxStack ≤ mostOperands) && decide (meth.sig.returnType = rt) && !meth.locks && decide (parseMethodDescriptor y.desc = some meth.sig)) = true) : (Jvm.Cond.code y bytes mx rt).before a s = true := by
  simp only [Bool.and_eq_true, beq_iff_eq, Bool.not_eq_true', decide_eq_true_eq] at h5
  obtain ⟨⟨⟨⟨⟨g1, g2⟩, g3⟩, g4⟩, g5⟩, g6⟩ := h5
  simp [Cond.before, Cond.holds, Cond.value, h1, h2, h3, h4, g1, g2, g3, g4, g5, g6]
def isCode : Jvm.Cond → Bool
  | .code _ _ _ _ => true
  | _ => false
theorem all_split {L : List Jvm.Cond} {P : Jvm.Cond → Bool} (h1 : L.all (fun c => isCode c || P c) = true) (h2 : ∀ c ∈ L.filter isCode, P c = true) : L.all P = true := by
  refine List.all_eq_true.mpr fun c hc => ?_
  have h := List.all_eq_true.mp h1 c hc
  rcases Bool.eq_false_or_eq_true (isCode c) with hi | hi
  · exact h2 c (List.mem_filter.mpr ⟨hc, hi⟩)
  · simpa [hi] using h
set_option maxRecDepth 65536 in
theorem w_c0 : (Jvm.Cond.code x code maxLocals ret).before args0 about1 = true := code_word (m := ⟨1, 3⟩) (meth := k1m3) (c := k1c3) (by decide +kernel) rfl rfl rfl (by decide +kernel)
set_option maxRecDepth 65536 in
theorem w_c1 : (Jvm.Cond.code ({ cls := "com/example/binwright/binwright/binning/LeastTreeChangedPinLaw", name := "val", desc := "(JI)I" } : Jvm.MethodName) method_2_code (3 : Nat) (Option.some Jvm.ClassFile.FieldType.int)).before args0 about1 = true := code_word (m := ⟨1, 1⟩) (meth := k1m1) (c := k1c1) (by decide +kernel) rfl rfl rfl (by decide +kernel)
set_option maxRecDepth 65536 in
theorem w_c2 : (Jvm.Cond.code ({ cls := "com/example/binwright/binwright/binning/LeastTree", name := "<init>", desc := "([D)V" } : Jvm.MethodName) prog_15_method_1_code (2 : Nat) (Option.none : Option Jvm.ClassFile.FieldType)).before args0 about1 = true := code_word (m := ⟨2, 0⟩) (meth := k2m0) (c := k2c0) (by decide +kernel) rfl rfl rfl (by decide +kernel)
set_option maxRecDepth 65536 in
theorem w_c3 : (Jvm.Cond.code ({ cls := "java/lang/Object", name := "<init>", desc := "()V" } : Jvm.MethodName) object_method_1_code (1 : Nat) (Option.none : Option Jvm.ClassFile.FieldType)).before args0 about1 = true := code_word (m := ⟨0, 0⟩) (meth := k0m0) (c := k0c0) (by decide +kernel) rfl rfl rfl (by decide +kernel)
set_option maxRecDepth 65536 in
theorem w_c4 : (Jvm.Cond.code ({ cls := "java/lang/Math", name := "max", desc := "(II)I" } : Jvm.MethodName) jdk_29_method_65_code (2 : Nat) (Option.some Jvm.ClassFile.FieldType.int)).before args0 about1 = true := code_word (m := ⟨3, 1⟩) (meth := k3m1) (c := k3c1) (by decide +kernel) rfl rfl rfl (by decide +kernel)
set_option maxRecDepth 65536 in
theorem w_c5 : (Jvm.Cond.code ({ cls := "java/lang/Integer", name := "highestOneBit", desc := "(I)I" } : Jvm.MethodName) jdk_33_method_45_code (1 : Nat) (Option.some Jvm.ClassFile.FieldType.int)).before args0 about1 = true := code_word (m := ⟨9, 0⟩) (meth := k9m0) (c := k9c0) (by decide +kernel) rfl rfl rfl (by decide +kernel)
set_option maxRecDepth 65536 in
theorem w_c6 : (Jvm.Cond.code ({ cls := "java/lang/Integer", name := "numberOfLeadingZeros", desc := "(I)I" } : Jvm.MethodName) jdk_33_method_47_code (2 : Nat) (Option.some Jvm.ClassFile.FieldType.int)).before args0 about1 = true := code_word (m := ⟨9, 1⟩) (meth := k9m1) (c := k9c1) (by decide +kernel) rfl rfl rfl (by decide +kernel)
set_option maxRecDepth 65536 in
theorem w_c7 : (Jvm.Cond.code ({ cls := "java/util/Arrays", name := "fill", desc := "([DD)V" } : Jvm.MethodName) jdk_65_method_113_code (5 : Nat) (Option.none : Option Jvm.ClassFile.FieldType)).before args0 about1 = true := code_word (m := ⟨10, 1⟩) (meth := k10m1) (c := k10c1) (by decide +kernel) rfl rfl rfl (by decide +kernel)
set_option maxRecDepth 65536 in
theorem w_c8 : (Jvm.Cond.code ({ cls := "com/example/binwright/binwright/binning/LeastTree", name := "changed", desc := "(II)V" } : Jvm.MethodName) prog_15_method_2_code (6 : Nat) (Option.none : Option Jvm.ClassFile.FieldType)).before args0 about1 = true := code_word (m := ⟨2, 1⟩) (meth := k2m1) (c := k2c1) (by decide +kernel) rfl rfl rfl (by decide +kernel)
set_option maxRecDepth 65536 in
theorem w_c9 : (Jvm.Cond.code ({ cls := "com/example/binwright/binwright/binning/LeastTree", name := "at", desc := "(I)D" } : Jvm.MethodName) prog_15_method_5_code (5 : Nat) (Option.some Jvm.ClassFile.FieldType.double)).before args0 about1 = true := code_word (m := ⟨2, 4⟩) (meth := k2m4) (c := k2c4) (by decide +kernel) rfl rfl rfl (by decide +kernel)
set_option maxRecDepth 65536 in
theorem w_c10 : (Jvm.Cond.code ({ cls := "java/lang/Math", name := "min", desc := "(DD)D" } : Jvm.MethodName) jdk_29_method_72_code (4 : Nat) (Option.some Jvm.ClassFile.FieldType.double)).before args0 about1 = true := code_word (m := ⟨3, 3⟩) (meth := k3m3) (c := k3c3) (by decide +kernel) rfl rfl rfl (by decide +kernel)
set_option maxRecDepth 65536 in
theorem w_c11 : (Jvm.Cond.code ({ cls := "com/example/binwright/binwright/binning/LeastTreeChangedPinLaw", name := "pick", desc := "(IIIJJ)I" } : Jvm.MethodName) method_3_code (7 : Nat) (Option.some Jvm.ClassFile.FieldType.int)).before args0 about1 = true := code_word (m := ⟨1, 2⟩) (meth := k1m2) (c := k1c2) (by decide +kernel) rfl rfl rfl (by decide +kernel)
set_option maxRecDepth 65536 in
theorem w_c12 : (Jvm.Cond.code ({ cls := "java/lang/Math", name := "min", desc := "(II)I" } : Jvm.MethodName) jdk_29_method_69_code (2 : Nat) (Option.some Jvm.ClassFile.FieldType.int)).before args0 about1 = true := code_word (m := ⟨3, 2⟩) (meth := k3m2) (c := k3c2) (by decide +kernel) rfl rfl rfl (by decide +kernel)
set_option maxRecDepth 65536 in
theorem w_c13 : (Jvm.Cond.code ({ cls := "com/example/binwright/binwright/binning/LeastTree", name := "least", desc := "()D" } : Jvm.MethodName) prog_15_method_3_code (1 : Nat) (Option.some Jvm.ClassFile.FieldType.double)).before args0 about1 = true := code_word (m := ⟨2, 2⟩) (meth := k2m2) (c := k2c2) (by decide +kernel) rfl rfl rfl (by decide +kernel)
set_option maxRecDepth 65536 in
theorem w_c14 : (Jvm.Cond.code ({ cls := "com/example/binwright/binwright/binning/LeastTree", name := "firstAtMost", desc := "(D)I" } : Jvm.MethodName) prog_15_method_4_code (4 : Nat) (Option.some Jvm.ClassFile.FieldType.int)).before args0 about1 = true := code_word (m := ⟨2, 3⟩) (meth := k2m3) (c := k2c3) (by decide +kernel) rfl rfl rfl (by decide +kernel)
def codes1 : List Jvm.Cond := [Jvm.Cond.code x code maxLocals ret, Jvm.Cond.code ({ cls := "com/example/binwright/binwright/binning/LeastTreeChangedPinLaw", name := "val", desc := "(JI)I" } : Jvm.MethodName) method_2_code (3 : Nat) (Option.some Jvm.ClassFile.FieldType.int), Jvm.Cond.code ({ cls := "com/example/binwright/binwright/binning/LeastTree", name := "<init>", desc := "([D)V" } : Jvm.MethodName) prog_15_method_1_code (2 : Nat) (Option.none : Option Jvm.ClassFile.FieldType), Jvm.Cond.code ({ cls := "java/lang/Object", name := "<init>", desc := "()V" } : Jvm.MethodName) object_method_1_code (1 : Nat) (Option.none : Option Jvm.ClassFile.FieldType), Jvm.Cond.code ({ cls := "java/lang/Math", name := "max", desc := "(II)I" } : Jvm.MethodName) jdk_29_method_65_code (2 : Nat) (Option.some Jvm.ClassFile.FieldType.int), Jvm.Cond.code ({ cls := "java/lang/Integer", name := "highestOneBit", desc := "(I)I" } : Jvm.MethodName) jdk_33_method_45_code (1 : Nat) (Option.some Jvm.ClassFile.FieldType.int), Jvm.Cond.code ({ cls := "java/lang/Integer", name := "numberOfLeadingZeros", desc := "(I)I" } : Jvm.MethodName) jdk_33_method_47_code (2 : Nat) (Option.some Jvm.ClassFile.FieldType.int), Jvm.Cond.code ({ cls := "java/util/Arrays", name := "fill", desc := "([DD)V" } : Jvm.MethodName) jdk_65_method_113_code (5 : Nat) (Option.none : Option Jvm.ClassFile.FieldType), Jvm.Cond.code ({ cls := "com/example/binwright/binwright/binning/LeastTree", name := "changed", desc := "(II)V" } : Jvm.MethodName) prog_15_method_2_code (6 : Nat) (Option.none : Option Jvm.ClassFile.FieldType), Jvm.Cond.code ({ cls := "com/example/binwright/binwright/binning/LeastTree", name := "at", desc := "(I)D" } : Jvm.MethodName) prog_15_method_5_code (5 : Nat) (Option.some Jvm.ClassFile.FieldType.double), Jvm.Cond.code ({ cls := "java/lang/Math", name := "min", desc := "(DD)D" } : Jvm.MethodName) jdk_29_method_72_code (4 : Nat) (Option.some Jvm.ClassFile.FieldType.double), Jvm.Cond.code ({ cls := "com/example/binwright/binwright/binning/LeastTreeChangedPinLaw", name := "pick", desc := "(IIIJJ)I" } : Jvm.MethodName) method_3_code (7 : Nat) (Option.some Jvm.ClassFile.FieldType.int), Jvm.Cond.code ({ cls := "java/lang/Math", name := "min", desc := "(II)I" } : Jvm.MethodName) jdk_29_method_69_code (2 : Nat) (Option.some Jvm.ClassFile.FieldType.int), Jvm.Cond.code ({ cls := "com/example/binwright/binwright/binning/LeastTree", name := "least", desc := "()D" } : Jvm.MethodName) prog_15_method_3_code (1 : Nat) (Option.some Jvm.ClassFile.FieldType.double), Jvm.Cond.code ({ cls := "com/example/binwright/binwright/binning/LeastTree", name := "firstAtMost", desc := "(D)I" } : Jvm.MethodName) prog_15_method_4_code (4 : Nat) (Option.some Jvm.ClassFile.FieldType.int)]
set_option maxRecDepth 65536 in
theorem codes_eq : words1.filter isCode = codes1 := rfl
theorem w_codes : ∀ c ∈ words1.filter isCode, c.before args0 about1 = true := by
  rw [codes_eq]
  intro c hc
  simp only [codes1, List.mem_cons, List.not_mem_nil, or_false] at hc
  rcases hc with rfl | rfl | rfl | rfl | rfl | rfl | rfl | rfl | rfl | rfl | rfl | rfl | rfl | rfl | rfl
  · exact w_c0
  · exact w_c1
  · exact w_c2
  · exact w_c3
  · exact w_c4
  · exact w_c5
  · exact w_c6
  · exact w_c7
  · exact w_c8
  · exact w_c9
  · exact w_c10
  · exact w_c11
  · exact w_c12
  · exact w_c13
  · exact w_c14
set_option maxRecDepth 65536 in
theorem w_t1 : (words1.take 24).all (fun c => isCode c || c.before args0 about1) = true := by decide +kernel
set_option maxRecDepth 65536 in
theorem w_t2 : ((words1.drop 24).take 24).all (fun c => isCode c || c.before args0 about1) = true := by decide +kernel
set_option maxRecDepth 65536 in
theorem w_t3 : ((words1.drop 24).drop 24).all (fun c => isCode c || c.before args0 about1) = true := by decide +kernel
theorem w_tables : (allAtoms (Jvm.Cond.code x code maxLocals ret :: tables_1)).before args0 about1 = true := by
  rw [allAtoms_all]
  show words1.all (fun c => c.before args0 about1) = true
  refine all_split ?_ w_codes
  rw [← List.take_append_drop 24 words1, List.all_append, w_t1, ← List.take_append_drop 24 (words1.drop 24), List.all_append, w_t2, w_t3]
  rfl
set_option maxRecDepth 65536 in
theorem w_case : (Jvm.Cond.and given_1 narrow_1).before args0 about1 = true := by decide +kernel
theorem w_applies : (headSpec (Jvm.Cond.code x code maxLocals ret :: tables_1) room_1).applies x e0.platform about1 = true :=
  (Spec.applies_iff w_frames).mpr ⟨w_running, w_runnable, w_alone, w_named, w_hears, w_ripe, w_room, w_tables⟩
theorem atStart : AtStart classFile x code maxLocals ret World_1 tables_1 room_1 Calls_1 rest_1 Pre_1 launch0 p0 e0 about1 theMethod args0 below0 :=
  ⟨lists_1, trivial, launch0.admits_env _ _ _, launch0.least_env, fairChoices_fair.cas, fairChoices_fair.clock, w_frames, w_args, w_heap, w_applies, trivial, trivial, w_case⟩
end start1
theorem witness_1 : WitnessClaimed_1 := ⟨start1.p0, start1.e0, start1.about1, start1.theMethod, start1.args0, start1.below0, start1.atStart⟩
end Jvm.Pilot.@@N@@
