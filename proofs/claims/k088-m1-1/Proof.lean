import JvmDerived
import JvmDerived.Pilot.@@N@@Statement
import JvmDerived.Pilot.@@N@@Code
set_option linter.unusedVariables false
set_option linter.unusedSimpArgs false
namespace Jvm.Pilot.@@N@@
open Jvm Jvm.ClassFile Sem Op Lib Jvm.Free Jvm.Stand Jvm.LawKit Jvm.RoadKit Bundle Jvm.Pilot.@@N@@.Jvm.D
/-! OWN KIT 1: a goal 'the run goes on to a good end', and a block of plain instructions taken in one step (own_blk) -/
def own_Go (tb : Tables) (e : Env) (below : List Frame) (Q : Outcome → State → Prop) (S : State) : Prop :=
  ∃ s₂ o, Steps tb e below S s₂ ∧ s₂.status = .running ∧ Ended s₂ below o ∧ Q o s₂
theorem own_go {tb : Tables} {e : Env} {below : List Frame} {Q : Outcome → State → Prop} {S S' : State} (h : ∀ t, Steps tb e below S' t → Steps tb e below S t) (k : own_Go tb e below Q S') : own_Go tb e below Q S := by
  obtain ⟨s2, o, a, b, c, d⟩ := k
  exact ⟨s2, o, h _ a, b, c, d⟩
/-- what a contract asks of the end -/
def own_Fin (s : State) (C S : Nat) (q : Option Value → Heap → List Loc → Prop) (o : Outcome) (U : State) : Prop :=
  ∃ v L, o = .returned v ∧ q v U.heap L ∧ FrameEnd s o U L C S
/-! local variables as lists -/
def own_nth : List Slot → Nat → Option Slot
  | [], _ => none
  | a :: _, 0 => some a
  | _ :: r, n + 1 => own_nth r n
def own_put : List Slot → Nat → Slot → List Slot
  | [], _, _ => []
  | _ :: r, 0, x => x :: r
  | a :: r, n + 1, x => a :: own_put r n x
theorem own_nth_eq : ∀ (ls : List Slot) (k : Nat), (Array.mk ls)[k]? = own_nth ls k := by
  intro ls k
  show (Array.mk ls)[k]? = _
  rw [List.getElem?_toArray]
  induction ls generalizing k with
  | nil => rfl
  | cons a r ih => cases k with
    | zero => rfl
    | succ n => exact ih n
theorem own_put_eq : ∀ (ls : List Slot) (k : Nat) (x : Slot), (Array.mk ls).setIfInBounds k x = Array.mk (own_put ls k x) := by
  intro ls k x
  have h : ls.set k x = own_put ls k x := by
    induction ls generalizing k with
    | nil => rfl
    | cons a r ih => cases k with
      | zero => rfl
      | succ n => show a :: r.set n x = a :: own_put r n x; rw [ih]
  rw [← h]
  exact List.setIfInBounds_toArray _ _ _
theorem own_nth_lt {ls : List Slot} {k : Nat} {x : Slot} (h : own_nth ls k = some x) : k < (Array.mk ls).size := by
  rw [← own_nth_eq] at h
  exact (Array.getElem?_eq_some_iff.mp h).1
theorem own_size (ls : List Slot) (k : Nat) (x : Slot) : (Array.mk (own_put ls k x)).size = (Array.mk ls).size := by
  rw [← own_put_eq]; exact Array.size_setIfInBounds
theorem own_setAt {ls : List Slot} {k : Nat} (x : Slot) (h : k < (Array.mk ls).size) : setAt (Array.mk ls) k x = some (Array.mk (own_put ls k x)) := by
  rw [← own_put_eq]
  exact if_pos h
def own_self (ls : List Slot) (k : Nat) (v : Value) : Option (List Slot) :=
  match v.category with
  | 2 => match own_nth ls (k + 1) with
    | none => none
    | some .unset => some (own_put (own_put ls k (.val v)) (k + 1) .second)
    | some .second => some (own_put (own_put ls k (.val v)) (k + 1) .second)
    | some (.val w) => match w.category with
      | 2 => match own_nth ls (k + 2) with
        | none => none
        | some _ => some (own_put (own_put (own_put ls k (.val v)) (k + 2) .unset) (k + 1) .second)
      | _ => some (own_put (own_put ls k (.val v)) (k + 1) .second)
  | _ => some (own_put ls k (.val v))
def own_sto (ls : List Slot) (k : Nat) (v : Value) : Option (List Slot) :=
  match own_nth ls k with
  | none => none
  | some .unset => own_self ls k v
  | some .second => own_self (own_put ls (k - 1) .unset) k v
  | some (.val w) => match w.category with
    | 2 => match own_nth ls (k + 1) with
      | none => none
      | some _ => own_self (own_put ls (k + 1) .unset) k v
    | _ => own_self ls k v
theorem own_storeSelf (l : Array Slot) (i : Nat) (v : Value) : storeSelf l i v = (setAt l i (.val v)).bind fun l => if v.category = 2 then l[i + 1]?.bind fun o => (match o with
    | .val old => if old.category = 2 then (setAt l (i + 2) .unset).bind fun l2 => setAt l2 (i + 1) .second else setAt l (i + 1) .second
    | _ => setAt l (i + 1) .second) else some l := rfl
theorem own_storeLocals (l : Array Slot) (i : Nat) (v : Value) : storeLocals l i v = l[i]?.bind fun o => (match o with
    | .second => (setAt l (i - 1) .unset).bind fun l2 => storeSelf l2 i v
    | .val old => if old.category = 2 then (setAt l (i + 1) .unset).bind fun l2 => storeSelf l2 i v else storeSelf l i v
    | .unset => storeSelf l i v) := rfl
theorem own_nth_ne {ls : List Slot} {k j : Nat} {x : Slot} (h : j ≠ k) : own_nth (own_put ls k x) j = own_nth ls j := by
  rw [← own_nth_eq, ← own_nth_eq, ← own_put_eq]
  exact Array.getElem?_setIfInBounds_ne (Ne.symm h)
theorem own_self_ok {ls ls' : List Slot} {k : Nat} {v : Value} (hk : k < (Array.mk ls).size) (h : own_self ls k v = some ls') : storeSelf (Array.mk ls) k v = some (Array.mk ls') := by
  rw [own_storeSelf, own_setAt _ hk]
  show (if v.category = 2 then _ else _) = _
  unfold own_self at h
  split at h
  · rename_i hc
    rw [if_pos hc, own_nth_eq, own_nth_ne (by omega)]
    split at h
    · cases h
    · rename_i hn
      cases h
      rw [hn]
      exact own_setAt _ (by rw [own_size]; exact own_nth_lt hn)
    · rename_i hn
      cases h
      rw [hn]
      exact own_setAt _ (by rw [own_size]; exact own_nth_lt hn)
    · rename_i w hn
      rw [hn]
      show (if w.category = 2 then _ else _) = _
      split at h
      · rename_i hw
        rw [if_pos hw]
        split at h
        · cases h
        · rename_i y hy
          cases h
          rw [own_setAt _ (by rw [own_size]; exact own_nth_lt hy)]
          exact own_setAt _ (by rw [own_size, own_size]; exact own_nth_lt hn)
      · rename_i hw
        cases h
        rw [if_neg (fun q => hw q)]
        exact own_setAt _ (by rw [own_size]; exact own_nth_lt hn)
  · rename_i hc
    cases h
    rw [if_neg (fun q => hc q)]
theorem own_sto_ok {ls ls' : List Slot} {k : Nat} {v : Value} (h : own_sto ls k v = some ls') : storeLocals (Array.mk ls) k v = some (Array.mk ls') := by
  rw [own_storeLocals, own_nth_eq]
  unfold own_sto at h
  split at h
  · cases h
  · rename_i hn
    rw [hn]
    exact own_self_ok (own_nth_lt hn) h
  · rename_i hn
    rw [hn]
    have := own_nth_lt hn
    show ((setAt _ (k - 1) .unset).bind _) = _
    rw [own_setAt _ (by omega)]
    exact own_self_ok (by rw [own_size]; exact this) h
  · rename_i w hn
    rw [hn]
    have := own_nth_lt hn
    show (if w.category = 2 then _ else _) = _
    split at h
    · rename_i hw
      rw [if_pos hw]
      split at h
      · cases h
      · rename_i y hy
        rw [own_setAt _ (own_nth_lt hy)]
        exact own_self_ok (by rw [own_size]; exact this) h
    · rename_i hw
      rw [if_neg (fun q => hw q)]
      exact own_self_ok this h
/-! the conditions of a branch, said of whole numbers -/
def own_c0 : ClassFile.Cond → Int32 → Prop
  | .eq, a => a.toInt = 0
  | .ne, a => a.toInt ≠ 0
  | .lt, a => a.toInt < 0
  | .ge, a => 0 ≤ a.toInt
  | .gt, a => 0 < a.toInt
  | .le, a => a.toInt ≤ 0
def own_ic : ClassFile.Cond → Int32 → Int32 → Prop
  | .eq, a, b => a.toInt = b.toInt
  | .ne, a, b => a.toInt ≠ b.toInt
  | .lt, a, b => a.toInt < b.toInt
  | .ge, a, b => b.toInt ≤ a.toInt
  | .gt, a, b => b.toInt < a.toInt
  | .le, a, b => a.toInt ≤ b.toInt
theorem own_ic_ok (cd : ClassFile.Cond) (a b : Int32) : if_icmp.holds cd a b = true ↔ own_ic cd a b := by
  cases cd
  · show ((a == b) = true) ↔ a.toInt = b.toInt
    rw [beq_iff_eq, Int32.toInt_inj]
  · show ((a != b) = true) ↔ a.toInt ≠ b.toInt
    rw [bne_iff_ne, ne_eq, ne_eq, Int32.toInt_inj]
  · show (decide (a < b) = true) ↔ a.toInt < b.toInt
    rw [decide_eq_true_eq, Int32.lt_iff_toInt_lt]
  · show (decide (a ≥ b) = true) ↔ b.toInt ≤ a.toInt
    rw [decide_eq_true_eq, ge_iff_le, Int32.le_iff_toInt_le]
  · show (decide (a > b) = true) ↔ b.toInt < a.toInt
    rw [decide_eq_true_eq, gt_iff_lt, Int32.lt_iff_toInt_lt]
  · show (decide (a ≤ b) = true) ↔ a.toInt ≤ b.toInt
    rw [decide_eq_true_eq, Int32.le_iff_toInt_le]
theorem own_c0_ok (cd : ClassFile.Cond) (a : Int32) : ifCond.holds cd a = true ↔ own_c0 cd a := by
  have h : ifCond.holds cd a = if_icmp.holds cd a 0 := by cases cd <;> rfl
  rw [h, own_ic_ok]
  cases cd <;> exact Iff.rfl
/-! what is read of an array -/
def own_at (Z : State) (h : Heap) (a : Addr) (ty : FieldType) (j : Int32) (v : Value) : Prop := ∃ cl, Arr Z h a cl ty ∧ ¬ (j < 0 ∨ cl.slots.size ≤ j.toNatClampNeg) ∧ cl.slots[j.toNatClampNeg]? = some v
def own_ln (Z : State) (h : Heap) (a : Addr) (N : Int32) : Prop := ∃ cl ty, Arr Z h a cl ty ∧ cl.slots.size.toInt32 = N
/-! one plain instruction: what it asks (obligations) and where it goes on. ds: the branches' decisions; vs: the values that are read of the heap -/
def own_len : Instr → Nat
  | .iload _ => 2 | .lload _ => 2 | .fload _ => 2 | .dload _ => 2 | .aload _ => 2
  | .istore _ => 2 | .lstore _ => 2 | .fstore _ => 2 | .dstore _ => 2 | .astore _ => 2
  | .bipush _ => 2 | .ldc _ => 2 | .newarray _ => 2
  | .sipush _ => 3 | .ldc_w _ => 3 | .ldc2_w _ => 3 | .iinc _ _ => 3 | .goto _ => 3 | .ifCond _ _ => 3 | .if_icmp _ _ => 3 | .if_acmp _ _ => 3 | .ifnull _ => 3 | .ifnonnull _ => 3
  | .getfield _ => 3 | .putfield _ => 3 | .getstatic _ => 3 | .putstatic _ => 3 | .invokevirtual _ => 3 | .invokespecial _ => 3 | .invokestatic _ => 3 | .new _ => 3 | .anewarray _ => 3 | .checkcast _ => 3 | .instanceof _ => 3
  | .invokeinterface _ _ => 5 | .invokedynamic _ => 5
  | _ => 1
def own_tgt (pc : Nat) : Int → Option Nat
  | .ofNat n => some (pc + n)
  | .negSucc n => bif Nat.ble (n + 1) pc then some (pc - (n + 1)) else none
theorem own_tgt_ok {pc t : Nat} {o : Int} (h : own_tgt pc o = some t) : 0 ≤ (pc : Int) + o ∧ ((pc : Int) + o).toNat = t := by
  cases o with
  | ofNat n =>
    have h1 : pc + n = t := Option.some.inj h
    rw [Int.ofNat_eq_natCast]
    omega
  | negSucc n =>
    have h1 : (bif Nat.ble (n + 1) pc then some (pc - (n + 1)) else none) = some t := h
    cases hb : Nat.ble (n + 1) pc with
    | false => rw [hb] at h1; cases h1
    | true =>
      rw [hb] at h1
      have h2 : pc - (n + 1) = t := Option.some.inj h1
      have h3 := Nat.le_of_ble_eq_true hb
      rw [Int.negSucc_eq]
      omega
def own_key : List (Nat × Value) → Nat → Option Value
  | [], _ => none
  | (q, v) :: r, k => bif Nat.beq q k then some v else own_key r k
def own_fld : List (Nat × String × String × String) → Nat → Option (String × String × String)
  | [], _ => none
  | (q, v) :: r, k => bif Nat.beq q k then some v else own_fld r k
def own_ldI (ls : List Slot) (j : Nat) (k : Value → Prop) : Prop := match own_nth ls j with | some (.val (.int v)) => k (.int v) | _ => False
def own_ldL (ls : List Slot) (j : Nat) (k : Value → Prop) : Prop := match own_nth ls j with | some (.val (.long v)) => k (.long v) | _ => False
def own_ldD (ls : List Slot) (j : Nat) (k : Value → Prop) : Prop := match own_nth ls j with | some (.val (.double v)) => k (.double v) | _ => False
def own_ldA (ls : List Slot) (j : Nat) (k : Value → Prop) : Prop := match own_nth ls j with | some (.val (.ref a)) => k (.ref a) | some (.val .null) => k .null | _ => False
def own_stI (ls : List Slot) (st : List Value) (j : Nat) (k : List Slot → List Value → Prop) : Prop := match st with | .int x :: r => (match own_sto ls j (.int x) with | some l => k l r | none => False) | _ => False
def own_stL (ls : List Slot) (st : List Value) (j : Nat) (k : List Slot → List Value → Prop) : Prop := match st with | .long x :: r => (match own_sto ls j (.long x) with | some l => k l r | none => False) | _ => False
def own_stD (ls : List Slot) (st : List Value) (j : Nat) (k : List Slot → List Value → Prop) : Prop := match st with | .double x :: r => (match own_sto ls j (.double x) with | some l => k l r | none => False) | _ => False
def own_stA (ls : List Slot) (st : List Value) (j : Nat) (k : List Slot → List Value → Prop) : Prop := match st with | .ref x :: r => (match own_sto ls j (.ref x) with | some l => k l r | none => False) | .null :: r => (match own_sto ls j .null with | some l => k l r | none => False) | _ => False
def own_i1 (st : List Value) (f : Int32 → Value) (k : List Value → Prop) : Prop := match st with | .int x :: r => k (f x :: r) | _ => False
def own_l1 (st : List Value) (f : Int64 → Value) (k : List Value → Prop) : Prop := match st with | .long x :: r => k (f x :: r) | _ => False
def own_i2 (st : List Value) (g : Int32 → Int32 → Prop) (f : Int32 → Int32 → Value) (k : List Value → Prop) : Prop := match st with | .int y :: .int x :: r => g x y ∧ k (f x y :: r) | _ => False
def own_p2 (st : List Value) (f : Int32 → Int32 → Value) (k : List Value → Prop) : Prop := match st with | .int y :: .int x :: r => k (f x y :: r) | _ => False
def own_q2 (st : List Value) (f : Int64 → Int64 → Value) (k : List Value → Prop) : Prop := match st with | .long y :: .long x :: r => k (f x y :: r) | _ => False
def own_l2 (st : List Value) (g : Int64 → Int64 → Prop) (f : Int64 → Int64 → Value) (k : List Value → Prop) : Prop := match st with | .long y :: .long x :: r => g x y ∧ k (f x y :: r) | _ => False
def own_li (st : List Value) (f : Int64 → Int32 → Value) (k : List Value → Prop) : Prop := match st with | .int y :: .long x :: r => k (f x y :: r) | _ => False
def own_d2 (st : List Value) (f : UInt64 → UInt64 → UInt64) (k : List Value → Prop) : Prop := match st with | .double y :: .double x :: r => Jvm.Free.Fl.NoNaN64 (f x y) ∧ k (.double (f x y) :: r) | _ => False
def own_ca (st : List Value) (k : List Value → Prop) : Prop := match st with | x :: r => (match x.category with | 1 => k (x :: r) | _ => False) | _ => False
def own_al (Z : State) (h : Heap) (ty : FieldType) (st : List Value) (vs : List Value) (k : List Value → List Value → Prop) : Prop :=
  match st with | .int j :: .ref a :: r => (match vs with | v :: vs' => own_at Z h a ty j v ∧ k vs' (v :: r) | [] => False) | _ => False
def own_br (ds : List Bool) (C : Prop) (kt kn : List Bool → Prop) : Prop :=
  match ds with | true :: d => C ∧ kt d | false :: d => (¬ C) ∧ kn d | [] => False
def own_jp (pc : Nat) (o : Int) (k : Nat → Prop) : Prop := match own_tgt pc o with | some t => k t | none => False
def own_st (Kt : List (Nat × Value)) (Ft : List (Nat × String × String × String)) (Z : State) (h : Heap) (i : Instr) (pc : Nat) (ds : List Bool) (vs : List Value) (ls : List Slot) (st : List Value)
    (kf : List Bool → List Value → List Slot → List Value → Prop) (kj : Nat → List Bool → List Value → List Slot → List Value → Prop) : Prop :=
  match i with
  | .iload j => own_ldI ls j fun v => kf ds vs ls (v :: st)
  | .iload_n j => own_ldI ls j.val fun v => kf ds vs ls (v :: st)
  | .lload j => own_ldL ls j fun v => kf ds vs ls (v :: st)
  | .lload_n j => own_ldL ls j.val fun v => kf ds vs ls (v :: st)
  | .dload j => own_ldD ls j fun v => kf ds vs ls (v :: st)
  | .dload_n j => own_ldD ls j.val fun v => kf ds vs ls (v :: st)
  | .aload j => own_ldA ls j fun v => kf ds vs ls (v :: st)
  | .aload_n j => own_ldA ls j.val fun v => kf ds vs ls (v :: st)
  | .istore j => own_stI ls st j fun l r => kf ds vs l r
  | .istore_n j => own_stI ls st j.val fun l r => kf ds vs l r
  | .lstore j => own_stL ls st j fun l r => kf ds vs l r
  | .lstore_n j => own_stL ls st j.val fun l r => kf ds vs l r
  | .dstore j => own_stD ls st j fun l r => kf ds vs l r
  | .dstore_n j => own_stD ls st j.val fun l r => kf ds vs l r
  | .astore j => own_stA ls st j fun l r => kf ds vs l r
  | .astore_n j => own_stA ls st j.val fun l r => kf ds vs l r
  | .iconst n => kf ds vs ls (.int (Int32.ofInt n) :: st)
  | .bipush n => (match vs with | .int v :: vs' => (Int8.ofInt n).toInt32 = v ∧ kf ds vs' ls (.int v :: st) | _ => False)
  | .sipush n => (match vs with | .int v :: vs' => (Int16.ofInt n).toInt32 = v ∧ kf ds vs' ls (.int v :: st) | _ => False)
  | .lconst n => kf ds vs ls (.long (Int64.ofNat n) :: st)
  | .dconst n => kf ds vs ls (.double (match n.val with | 0 => 0 | _ => 4607182418800017408) :: st)
  | .aconst_null => kf ds vs ls (.null :: st)
  | .ldc n => (match own_key Kt n with | some (.int v) => kf ds vs ls (.int v :: st) | _ => False)
  | .ldc2_w n => (match own_key Kt n with | some (.long v) => kf ds vs ls (.long v :: st) | some (.double v) => kf ds vs ls (.double v :: st) | _ => False)
  | .iadd => own_p2 st (fun x y => .int (x + y)) fun r => kf ds vs ls r
  | .isub => own_p2 st (fun x y => .int (x - y)) fun r => kf ds vs ls r
  | .imul => own_p2 st (fun x y => .int (x * y)) fun r => kf ds vs ls r
  | .idiv => own_i2 st (fun _ y => y ≠ 0) (fun x y => .int (x / y)) fun r => kf ds vs ls r
  | .irem => own_i2 st (fun _ y => y ≠ 0) (fun x y => .int (x % y)) fun r => kf ds vs ls r
  | .iand => own_p2 st (fun x y => .int (x &&& y)) fun r => kf ds vs ls r
  | .ior => own_p2 st (fun x y => .int (x ||| y)) fun r => kf ds vs ls r
  | .ixor => own_p2 st (fun x y => .int (x ^^^ y)) fun r => kf ds vs ls r
  | .ishl => own_p2 st (fun x y => .int (x <<< (y &&& 31))) fun r => kf ds vs ls r
  | .ishr => own_p2 st (fun x y => .int (x >>> (y &&& 31))) fun r => kf ds vs ls r
  | .iushr => own_p2 st (fun x y => .int (Jvm.Free.XT.ushr x y)) fun r => kf ds vs ls r
  | .ineg => own_i1 st (fun x => .int (-x)) fun r => kf ds vs ls r
  | .i2l => own_i1 st (fun x => .long x.toInt64) fun r => kf ds vs ls r
  | .i2b => own_i1 st (fun x => .int x.toInt8.toInt32) fun r => kf ds vs ls r
  | .i2s => own_i1 st (fun x => .int x.toInt16.toInt32) fun r => kf ds vs ls r
  | .i2c => own_i1 st (fun x => .int x.toUInt32.toUInt16.toUInt32.toInt32) fun r => kf ds vs ls r
  | .i2d => own_i1 st (fun x => .double (FP.i2d x)) fun r => kf ds vs ls r
  | .l2i => own_l1 st (fun x => .int x.toInt32) fun r => kf ds vs ls r
  | .l2d => own_l1 st (fun x => .double (FP.l2d x)) fun r => kf ds vs ls r
  | .ladd => own_q2 st (fun x y => .long (x + y)) fun r => kf ds vs ls r
  | .lsub => own_q2 st (fun x y => .long (x - y)) fun r => kf ds vs ls r
  | .lmul => own_q2 st (fun x y => .long (x * y)) fun r => kf ds vs ls r
  | .ldiv => own_l2 st (fun _ y => y ≠ 0) (fun x y => .long (x / y)) fun r => kf ds vs ls r
  | .land => own_q2 st (fun x y => .long (x &&& y)) fun r => kf ds vs ls r
  | .lneg => own_l1 st (fun x => .long (-x)) fun r => kf ds vs ls r
  | .lshr => own_li st (fun x y => .long (x >>> (y.toInt64 &&& 63))) fun r => kf ds vs ls r
  | .lushr => own_li st (fun x y => .long (Jvm.Free.XT.ushrL x y)) fun r => kf ds vs ls r
  | .lcmp => own_q2 st (fun x y => .int (Jvm.Free.XT.cmpL x y)) fun r => kf ds vs ls r
  | .dadd => own_d2 st FP.dadd fun r => kf ds vs ls r
  | .dsub => own_d2 st FP.dsub fun r => kf ds vs ls r
  | .dmul => own_d2 st FP.dmul fun r => kf ds vs ls r
  | .ddiv => own_d2 st FP.ddiv fun r => kf ds vs ls r
  | .dneg => (match st with | .double x :: r => kf ds vs ls (.double (FP.dneg x) :: r) | _ => False)
  | .dcmp o => (match st with | .double y :: .double x :: r => kf ds vs ls (.int (cmpValue (FP.dcmp x y) o) :: r) | _ => False)
  | .iinc j n => (match own_nth ls j with | some (.val (.int x)) => (match own_sto ls j (.int (x + Int32.ofInt n)) with | some l => kf ds vs l st | none => False) | _ => False)
  | .dup => own_ca st fun st => (match st with | x :: r => kf ds vs ls (x :: x :: r) | _ => False)
  | .pop => own_ca st fun st => (match st with | _ :: r => kf ds vs ls r | _ => False)
  | .dup2 => own_ca st fun st => (match st with | x :: r => own_ca r fun r => (match r with | y :: q => kf ds vs ls (x :: y :: x :: y :: q) | _ => False) | _ => False)
  | .goto o => own_jp pc o fun t => kj t ds vs ls st
  | .ifCond cd o => (match st with | .int x :: r => own_br ds (own_c0 cd x) (fun d => own_jp pc o fun t => kj t d vs ls r) (fun d => kf d vs ls r) | _ => False)
  | .if_icmp cd o => (match st with | .int y :: .int x :: r => own_br ds (own_ic cd x y) (fun d => own_jp pc o fun t => kj t d vs ls r) (fun d => kf d vs ls r) | _ => False)
  | .ifnull o => (match st with | .null :: r => own_jp pc o fun t => kj t ds vs ls r | .ref _ :: r => kf ds vs ls r | _ => False)
  | .ifnonnull o => (match st with | .ref _ :: r => own_jp pc o fun t => kj t ds vs ls r | .null :: r => kf ds vs ls r | _ => False)
  | .arraylength => (match st with | .ref a :: r => (match vs with | .int N :: vs' => own_ln Z h a N ∧ kf ds vs' ls (.int N :: r) | _ => False) | _ => False)
  | .iaload => own_al Z h .int st vs fun vs' r => kf ds vs' ls r
  | .daload => own_al Z h .double st vs fun vs' r => kf ds vs' ls r
  | .laload => own_al Z h .long st vs fun vs' r => kf ds vs' ls r
  | .getfield n => (match st with | .ref a :: r => (match vs with | v :: vs' => (match own_fld Ft n with | some (C, f, d) => Fld Z h a C f d v ∧ kf ds vs' ls (v :: r) | none => False) | [] => False) | _ => False)
  | _ => False
theorem own_ldI_e {ls : List Slot} {j : Nat} {k : Value → Prop} (H : own_ldI ls j k) : ∃ v, own_nth ls j = some (.val (.int v)) ∧ k (.int v) := by
  unfold own_ldI at H
  split at H
  · exact ⟨_, by assumption, H⟩
  · exact H.elim
theorem own_ldL_e {ls : List Slot} {j : Nat} {k : Value → Prop} (H : own_ldL ls j k) : ∃ v, own_nth ls j = some (.val (.long v)) ∧ k (.long v) := by
  unfold own_ldL at H
  split at H
  · exact ⟨_, by assumption, H⟩
  · exact H.elim
theorem own_ldD_e {ls : List Slot} {j : Nat} {k : Value → Prop} (H : own_ldD ls j k) : ∃ v, own_nth ls j = some (.val (.double v)) ∧ k (.double v) := by
  unfold own_ldD at H
  split at H
  · exact ⟨_, by assumption, H⟩
  · exact H.elim
theorem own_ldA_e {ls : List Slot} {j : Nat} {k : Value → Prop} (H : own_ldA ls j k) : ∃ v, own_nth ls j = some (.val v) ∧ v.isRef = true ∧ k v := by
  unfold own_ldA at H
  split at H
  · exact ⟨_, by assumption, rfl, H⟩
  · exact ⟨_, by assumption, rfl, H⟩
  · exact H.elim
theorem own_stI_e {ls : List Slot} {st : List Value} {j : Nat} {k : List Slot → List Value → Prop} (H : own_stI ls st j k) : ∃ x r l, st = .int x :: r ∧ storeLocals (Array.mk ls) j (.int x) = some (Array.mk l) ∧ k l r := by
  unfold own_stI at H
  split at H
  · split at H
    · exact ⟨_, _, _, rfl, own_sto_ok (by assumption), H⟩
    · exact H.elim
  · exact H.elim
theorem own_stL_e {ls : List Slot} {st : List Value} {j : Nat} {k : List Slot → List Value → Prop} (H : own_stL ls st j k) : ∃ x r l, st = .long x :: r ∧ storeLocals (Array.mk ls) j (.long x) = some (Array.mk l) ∧ k l r := by
  unfold own_stL at H
  split at H
  · split at H
    · exact ⟨_, _, _, rfl, own_sto_ok (by assumption), H⟩
    · exact H.elim
  · exact H.elim
theorem own_stD_e {ls : List Slot} {st : List Value} {j : Nat} {k : List Slot → List Value → Prop} (H : own_stD ls st j k) : ∃ x r l, st = .double x :: r ∧ storeLocals (Array.mk ls) j (.double x) = some (Array.mk l) ∧ k l r := by
  unfold own_stD at H
  split at H
  · split at H
    · exact ⟨_, _, _, rfl, own_sto_ok (by assumption), H⟩
    · exact H.elim
  · exact H.elim
theorem own_stA_e {ls : List Slot} {st : List Value} {j : Nat} {k : List Slot → List Value → Prop} (H : own_stA ls st j k) : ∃ x r l, st = x :: r ∧ x.isRef = true ∧ storeLocals (Array.mk ls) j x = some (Array.mk l) ∧ k l r := by
  unfold own_stA at H
  split at H
  · split at H
    · exact ⟨_, _, _, rfl, rfl, own_sto_ok (by assumption), H⟩
    · exact H.elim
  · split at H
    · exact ⟨_, _, _, rfl, rfl, own_sto_ok (by assumption), H⟩
    · exact H.elim
  · exact H.elim
theorem own_i1_e {st : List Value} {f : Int32 → Value} {k : List Value → Prop} (H : own_i1 st f k) : ∃ x r, st = .int x :: r ∧ k (f x :: r) := by
  unfold own_i1 at H
  split at H
  · exact ⟨_, _, rfl, H⟩
  · exact H.elim
theorem own_l1_e {st : List Value} {f : Int64 → Value} {k : List Value → Prop} (H : own_l1 st f k) : ∃ x r, st = .long x :: r ∧ k (f x :: r) := by
  unfold own_l1 at H
  split at H
  · exact ⟨_, _, rfl, H⟩
  · exact H.elim
theorem own_i2_e {st : List Value} {g : Int32 → Int32 → Prop} {f : Int32 → Int32 → Value} {k : List Value → Prop} (H : own_i2 st g f k) : ∃ x y r, st = .int y :: .int x :: r ∧ g x y ∧ k (f x y :: r) := by
  unfold own_i2 at H
  split at H
  · exact ⟨_, _, _, rfl, H⟩
  · exact H.elim
theorem own_p2_e {st : List Value} {f : Int32 → Int32 → Value} {k : List Value → Prop} (H : own_p2 st f k) : ∃ x y r, st = .int y :: .int x :: r ∧ k (f x y :: r) := by
  unfold own_p2 at H
  split at H
  · exact ⟨_, _, _, rfl, H⟩
  · exact H.elim
theorem own_l2_e {st : List Value} {g : Int64 → Int64 → Prop} {f : Int64 → Int64 → Value} {k : List Value → Prop} (H : own_l2 st g f k) : ∃ x y r, st = .long y :: .long x :: r ∧ g x y ∧ k (f x y :: r) := by
  unfold own_l2 at H
  split at H
  · exact ⟨_, _, _, rfl, H⟩
  · exact H.elim
theorem own_q2_e {st : List Value} {f : Int64 → Int64 → Value} {k : List Value → Prop} (H : own_q2 st f k) : ∃ x y r, st = .long y :: .long x :: r ∧ k (f x y :: r) := by
  unfold own_q2 at H
  split at H
  · exact ⟨_, _, _, rfl, H⟩
  · exact H.elim
theorem own_li_e {st : List Value} {f : Int64 → Int32 → Value} {k : List Value → Prop} (H : own_li st f k) : ∃ x y r, st = .int y :: .long x :: r ∧ k (f x y :: r) := by
  unfold own_li at H
  split at H
  · exact ⟨_, _, _, rfl, H⟩
  · exact H.elim
theorem own_d2_e {st : List Value} {f : UInt64 → UInt64 → UInt64} {k : List Value → Prop} (H : own_d2 st f k) : ∃ x y r, st = .double y :: .double x :: r ∧ Jvm.Free.Fl.NoNaN64 (f x y) ∧ k (.double (f x y) :: r) := by
  unfold own_d2 at H
  split at H
  · exact ⟨_, _, _, rfl, H⟩
  · exact H.elim
theorem own_ca_e {st : List Value} {k : List Value → Prop} (H : own_ca st k) : ∃ x r, st = x :: r ∧ x.category = 1 ∧ k (x :: r) := by
  unfold own_ca at H
  split at H
  · split at H
    · exact ⟨_, _, rfl, by assumption, H⟩
    · exact H.elim
  · exact H.elim
theorem own_al_e {Z : State} {h : Heap} {ty : FieldType} {st vs : List Value} {k : List Value → List Value → Prop} (H : own_al Z h ty st vs k) : ∃ j a r v vs', st = .int j :: .ref a :: r ∧ vs = v :: vs' ∧ own_at Z h a ty j v ∧ k vs' (v :: r) := by
  unfold own_al at H
  split at H
  · split at H
    · exact ⟨_, _, _, _, _, rfl, rfl, H⟩
    · exact H.elim
  · exact H.elim
theorem own_br_e {ds : List Bool} {C : Prop} {kt kn : List Bool → Prop} (H : own_br ds C kt kn) : (C ∧ ∃ d, kt d) ∨ ((¬ C) ∧ ∃ d, kn d) := by
  unfold own_br at H
  split at H
  · exact Or.inl ⟨H.1, _, H.2⟩
  · exact Or.inr ⟨H.1, _, H.2⟩
  · exact H.elim
theorem own_jp_e {pc : Nat} {o : Int} {k : Nat → Prop} (H : own_jp pc o k) : ∃ t, 0 ≤ (pc : Int) + o ∧ ((pc : Int) + o).toNat = t ∧ k t := by
  unfold own_jp at H
  split at H
  · rename_i t ht
    exact ⟨t, (own_tgt_ok ht).1, (own_tgt_ok ht).2, H⟩
  · exact H.elim
def own_kw (own : String) (a0 : Array Value) (Z : State) : Nat × Value → Prop
  | (n, .int v) => (Jvm.Cond.constant own n v).before a0 Z = true
  | (n, .long v) => (Jvm.Cond.constantLong own n v).before a0 Z = true
  | (n, .double v) => (Jvm.Cond.constantDouble own n v).before a0 Z = true
  | _ => False
def own_ks (own : String) (a0 : Array Value) (Z : State) : List (Nat × Value) → Prop
  | [] => True
  | x :: r => own_kw own a0 Z x ∧ own_ks own a0 Z r
def own_fs (own : String) (a0 : Array Value) (Z : State) : List (Nat × String × String × String) → Prop
  | [] => True
  | (n, C, f, d) :: r => (Jvm.Cond.fieldLink own n C f d).before a0 Z = true ∧ own_fs own a0 Z r
theorem own_key_e {own : String} {a0 : Array Value} {Z : State} {n : Nat} {v : Value} : ∀ {Kt : List (Nat × Value)}, own_ks own a0 Z Kt → own_key Kt n = some v → own_kw own a0 Z (n, v)
  | [], _, h => by cases h
  | (q, w) :: r, hk, h => by
    have h' : (bif Nat.beq q n then some w else own_key r n) = some v := h
    cases hb : Nat.beq q n with
    | true =>
      rw [hb] at h'
      have e1 : w = v := Option.some.inj h'
      have e2 := Nat.eq_of_beq_eq_true hb
      subst e1 e2
      exact hk.1
    | false =>
      rw [hb] at h'
      exact own_key_e hk.2 h'
theorem own_fld_e {own : String} {a0 : Array Value} {Z : State} {n : Nat} {C f d : String} : ∀ {Ft : List (Nat × String × String × String)}, own_fs own a0 Z Ft → own_fld Ft n = some (C, f, d) → (Jvm.Cond.fieldLink own n C f d).before a0 Z = true
  | [], _, h => by cases h
  | (q, C', f', d') :: r, hk, h => by
    have h' : (bif Nat.beq q n then some (C', f', d') else own_fld r n) = some (C, f, d) := h
    cases hb : Nat.beq q n with
    | true =>
      rw [hb] at h'
      have e1 : (C', f', d') = (C, f, d) := Option.some.inj h'
      have e2 := Nat.eq_of_beq_eq_true hb
      cases e1
      subst e2
      exact hk.1
    | false =>
      rw [hb] at h'
      exact own_fld_e hk.2 h'
section OwnRun
variable {p : Program} {l : Launch} {e : Env} {R : Room} {s : State} {m : MethodId} {args : Array Value} {below : List Frame} {meth : Method} {c : Code} {T : State} {locs : List Loc} {cells slots : Nat} {Z : State} {a0 : Array Value} {h : Heap} {Q : Outcome → State → Prop} {own : String}
/-- the run goes on well from pc with these locals and this stack, at whatever state of the same heap -/
def own_Aft (X : Stand p l e R s m args below meth c T locs cells slots) (h : Heap) (Q : Outcome → State → Prop) (pc : Nat) (ls : List Slot) (st : List Value) : Prop :=
  ∀ T', Stand p l e R s m args below meth c T' locs cells slots → T'.heap = h → own_Go p.tables e below Q (T'.setTop (mkF m pc (Array.mk ls) st))
set_option maxHeartbeats 4000000 in
theorem own_st_ok (X : Stand p l e R s m args below meth c T locs cells slots) (hx : p.tables.exec = Jvm.exec) (hZ : Z.Warmed39 s.vm) (hown : s.vm.findClass own = some m.cls) (eT : T.heap = h) {Kt : List (Nat × Value)} {Ft : List (Nat × String × String × String)} (hK : own_ks own a0 Z Kt) (hF : own_fs own a0 Z Ft)
    {i : Instr} {pc : Nat} (hd : decode c.code pc = .ok (i, own_len i)) {ds : List Bool} {vs : List Value} {ls : List Slot} {st : List Value} {kf : List Bool → List Value → List Slot → List Value → Prop} {kj : Nat → List Bool → List Value → List Slot → List Value → Prop}
    (H : own_st Kt Ft Z h i pc ds vs ls st kf kj) (Hf : ∀ ds vs ls st, kf ds vs ls st → own_Aft X h Q (pc + own_len i) ls st) (Hj : ∀ t ds vs ls st, kj t ds vs ls st → own_Aft X h Q t ls st) :
    own_Go p.tables e below Q (T.setTop (mkF m pc (Array.mk ls) st)) := by
  cases i with
  | iload j =>
    have H : (own_ldI ls j fun v => kf ds vs ls (v :: st)) := H
    obtain ⟨v, hn, hk⟩ := own_ldI_e H
    exact own_go (fun t k => XS.iload X.here hx rfl hd ((own_nth_eq _ _).trans hn) k) (Hf _ _ _ _ hk T X eT)
  | iload_n j =>
    have H : (own_ldI ls j.val fun v => kf ds vs ls (v :: st)) := H
    obtain ⟨v, hn, hk⟩ := own_ldI_e H
    exact own_go (fun t k => XS.iloadN X.here hx rfl hd ((own_nth_eq _ _).trans hn) k) (Hf _ _ _ _ hk T X eT)
  | lload j =>
    have H : (own_ldL ls j fun v => kf ds vs ls (v :: st)) := H
    obtain ⟨v, hn, hk⟩ := own_ldL_e H
    exact own_go (fun t k => XT.lload X.here hx rfl hd ((own_nth_eq _ _).trans hn) k) (Hf _ _ _ _ hk T X eT)
  | lload_n j =>
    have H : (own_ldL ls j.val fun v => kf ds vs ls (v :: st)) := H
    obtain ⟨v, hn, hk⟩ := own_ldL_e H
    exact own_go (fun t k => XT.lloadN X.here hx rfl hd ((own_nth_eq _ _).trans hn) k) (Hf _ _ _ _ hk T X eT)
  | dload j =>
    have H : (own_ldD ls j fun v => kf ds vs ls (v :: st)) := H
    obtain ⟨v, hn, hk⟩ := own_ldD_e H
    exact own_go (fun t k => XS.dload X.here hx rfl hd ((own_nth_eq _ _).trans hn) k) (Hf _ _ _ _ hk T X eT)
  | dload_n j =>
    have H : (own_ldD ls j.val fun v => kf ds vs ls (v :: st)) := H
    obtain ⟨v, hn, hk⟩ := own_ldD_e H
    exact own_go (fun t k => XS.dloadN X.here hx rfl hd ((own_nth_eq _ _).trans hn) k) (Hf _ _ _ _ hk T X eT)
  | aload j =>
    have H : (own_ldA ls j fun v => kf ds vs ls (v :: st)) := H
    obtain ⟨v, hn, hv, hk⟩ := own_ldA_e H
    exact own_go (fun t k => XS.aload X.here hx rfl hd ((own_nth_eq _ _).trans hn) hv k) (Hf _ _ _ _ hk T X eT)
  | aload_n j =>
    have H : (own_ldA ls j.val fun v => kf ds vs ls (v :: st)) := H
    obtain ⟨v, hn, hv, hk⟩ := own_ldA_e H
    exact own_go (fun t k => XS.aloadN X.here hx rfl hd ((own_nth_eq _ _).trans hn) hv k) (Hf _ _ _ _ hk T X eT)
  | istore j =>
    have H : (own_stI ls st j fun l r => kf ds vs l r) := H
    obtain ⟨x, r, l', rfl, hl, hk⟩ := own_stI_e H
    exact own_go (fun t k => XS.istore X.here hx rfl hd rfl hl k) (Hf _ _ _ _ hk T X eT)
  | istore_n j =>
    have H : (own_stI ls st j.val fun l r => kf ds vs l r) := H
    obtain ⟨x, r, l', rfl, hl, hk⟩ := own_stI_e H
    exact own_go (fun t k => XS.istoreN X.here hx rfl hd rfl hl k) (Hf _ _ _ _ hk T X eT)
  | lstore j =>
    have H : (own_stL ls st j fun l r => kf ds vs l r) := H
    obtain ⟨x, r, l', rfl, hl, hk⟩ := own_stL_e H
    exact own_go (fun t k => XT.lstore X.here hx rfl hd rfl hl k) (Hf _ _ _ _ hk T X eT)
  | lstore_n j =>
    have H : (own_stL ls st j.val fun l r => kf ds vs l r) := H
    obtain ⟨x, r, l', rfl, hl, hk⟩ := own_stL_e H
    exact own_go (fun t k => XT.lstoreN X.here hx rfl hd rfl hl k) (Hf _ _ _ _ hk T X eT)
  | dstore j =>
    have H : (own_stD ls st j fun l r => kf ds vs l r) := H
    obtain ⟨x, r, l', rfl, hl, hk⟩ := own_stD_e H
    exact own_go (fun t k => XS.dstore X.here hx rfl hd rfl hl k) (Hf _ _ _ _ hk T X eT)
  | dstore_n j =>
    have H : (own_stD ls st j.val fun l r => kf ds vs l r) := H
    obtain ⟨x, r, l', rfl, hl, hk⟩ := own_stD_e H
    exact own_go (fun t k => XS.dstoreN X.here hx rfl hd rfl hl k) (Hf _ _ _ _ hk T X eT)
  | astore j =>
    have H : (own_stA ls st j fun l r => kf ds vs l r) := H
    obtain ⟨x, r, l', rfl, hv, hl, hk⟩ := own_stA_e H
    exact own_go (fun t k => XS.astore X.here hx rfl hd rfl hv hl k) (Hf _ _ _ _ hk T X eT)
  | astore_n j =>
    have H : (own_stA ls st j.val fun l r => kf ds vs l r) := H
    obtain ⟨x, r, l', rfl, hv, hl, hk⟩ := own_stA_e H
    exact own_go (fun t k => XS.astoreN X.here hx rfl hd rfl hv hl k) (Hf _ _ _ _ hk T X eT)
  | iconst n => exact own_go (fun t k => XS.iconst X.here hx rfl hd k) (Hf _ _ _ _ H T X eT)
  | bipush n =>
    have H' : (match (generalizing := false) vs with | .int v :: vs' => (Int8.ofInt n).toInt32 = v ∧ kf ds vs' ls (.int v :: st) | _ => False) := H
    split at H'
    · obtain ⟨hv, hk⟩ := H'
      subst hv
      exact own_go (fun t k => XS.bipush X.here hx rfl hd k) (Hf _ _ _ _ hk T X eT)
    · exact H'.elim
  | sipush n =>
    have H' : (match (generalizing := false) vs with | .int v :: vs' => (Int16.ofInt n).toInt32 = v ∧ kf ds vs' ls (.int v :: st) | _ => False) := H
    split at H'
    · obtain ⟨hv, hk⟩ := H'
      subst hv
      exact own_go (fun t k => XS.sipush X.here hx rfl hd k) (Hf _ _ _ _ hk T X eT)
    · exact H'.elim
  | lconst n => exact own_go (fun t k => XT.lconst X.here hx rfl hd k) (Hf _ _ _ _ H T X eT)
  | dconst n =>
    match n, hd, H, Hf with
    | ⟨0, _⟩, hd, H, Hf => exact own_go (fun t k => XS.dconst0 X.here hx rfl hd rfl k) (Hf _ _ _ _ H T X eT)
    | ⟨1, _⟩, hd, H, Hf => exact own_go (fun t k => XS.dconst1 X.here hx rfl hd rfl k) (Hf _ _ _ _ H T X eT)
  | aconst_null => exact own_go (fun t k => XS.aconstNull X.here hx rfl hd k) (Hf _ _ _ _ H T X eT)
  | ldc n =>
    have H' : (match (generalizing := false) own_key Kt n with | some (.int v) => kf ds vs ls (.int v :: st) | _ => False) := H
    split at H'
    · rename_i v hv
      exact own_go (X.ldcInt hx hown (mv hZ (own_key_e hK hv)) (g := mkF m pc (Array.mk ls) st) rfl hd) (Hf _ _ _ _ H' T X eT)
    · exact H'.elim
  | ldc2_w n =>
    have H' : (match (generalizing := false) own_key Kt n with | some (.long v) => kf ds vs ls (.long v :: st) | some (.double v) => kf ds vs ls (.double v :: st) | _ => False) := H
    split at H'
    · rename_i v hv
      exact own_go (X.ldc2Long hx hown (mv hZ (own_key_e hK hv)) (g := mkF m pc (Array.mk ls) st) rfl hd) (Hf _ _ _ _ H' T X eT)
    · rename_i v hv
      exact own_go (X.ldc2DoubleC hx hown (mv hZ (own_key_e hK hv)) (g := mkF m pc (Array.mk ls) st) rfl hd) (Hf _ _ _ _ H' T X eT)
    · exact H'.elim
  | iadd =>
    have H : (own_p2 st (fun x y => .int (x + y)) fun r => kf ds vs ls r) := H
    obtain ⟨x, y, r, rfl, hk⟩ := own_p2_e H
    exact own_go (fun t k => XS.iadd X.here hx rfl hd rfl k) (Hf _ _ _ _ hk T X eT)
  | isub =>
    have H : (own_p2 st (fun x y => .int (x - y)) fun r => kf ds vs ls r) := H
    obtain ⟨x, y, r, rfl, hk⟩ := own_p2_e H
    exact own_go (fun t k => XS.isub X.here hx rfl hd rfl k) (Hf _ _ _ _ hk T X eT)
  | imul =>
    have H : (own_p2 st (fun x y => .int (x * y)) fun r => kf ds vs ls r) := H
    obtain ⟨x, y, r, rfl, hk⟩ := own_p2_e H
    exact own_go (fun t k => XS.imul X.here hx rfl hd rfl k) (Hf _ _ _ _ hk T X eT)
  | idiv =>
    have H : (own_i2 st (fun _ y => y ≠ 0) (fun x y => .int (x / y)) fun r => kf ds vs ls r) := H
    obtain ⟨x, y, r, rfl, hg, hk⟩ := own_i2_e H
    exact own_go (fun t k => XS.idiv X.here hx rfl hd rfl hg k) (Hf _ _ _ _ hk T X eT)
  | irem =>
    have H : (own_i2 st (fun _ y => y ≠ 0) (fun x y => .int (x % y)) fun r => kf ds vs ls r) := H
    obtain ⟨x, y, r, rfl, hg, hk⟩ := own_i2_e H
    exact own_go (fun t k => iremM X hx (g := mkF m pc (Array.mk ls) _) rfl hd rfl hg k) (Hf _ _ _ _ hk T X eT)
  | iand =>
    have H : (own_p2 st (fun x y => .int (x &&& y)) fun r => kf ds vs ls r) := H
    obtain ⟨x, y, r, rfl, hk⟩ := own_p2_e H
    exact own_go (fun t k => XS.iand X.here hx rfl hd rfl k) (Hf _ _ _ _ hk T X eT)
  | ior =>
    have H : (own_p2 st (fun x y => .int (x ||| y)) fun r => kf ds vs ls r) := H
    obtain ⟨x, y, r, rfl, hk⟩ := own_p2_e H
    exact own_go (fun t k => XT.ior X.here hx rfl hd rfl k) (Hf _ _ _ _ hk T X eT)
  | ixor =>
    have H : (own_p2 st (fun x y => .int (x ^^^ y)) fun r => kf ds vs ls r) := H
    obtain ⟨x, y, r, rfl, hk⟩ := own_p2_e H
    exact own_go (fun t k => XT.ixor X.here hx rfl hd rfl k) (Hf _ _ _ _ hk T X eT)
  | ishl =>
    have H : (own_p2 st (fun x y => .int (x <<< (y &&& 31))) fun r => kf ds vs ls r) := H
    obtain ⟨x, y, r, rfl, hk⟩ := own_p2_e H
    exact own_go (fun t k => XT.ishl X.here hx rfl hd rfl k) (Hf _ _ _ _ hk T X eT)
  | ishr =>
    have H : (own_p2 st (fun x y => .int (x >>> (y &&& 31))) fun r => kf ds vs ls r) := H
    obtain ⟨x, y, r, rfl, hk⟩ := own_p2_e H
    exact own_go (fun t k => XT.ishr X.here hx rfl hd rfl k) (Hf _ _ _ _ hk T X eT)
  | iushr =>
    have H : (own_p2 st (fun x y => .int (Jvm.Free.XT.ushr x y)) fun r => kf ds vs ls r) := H
    obtain ⟨x, y, r, rfl, hk⟩ := own_p2_e H
    exact own_go (fun t k => XT.iushr X.here hx rfl hd rfl k) (Hf _ _ _ _ hk T X eT)
  | ineg =>
    have H : (own_i1 st (fun x => .int (-x)) fun r => kf ds vs ls r) := H
    obtain ⟨x, r, rfl, hk⟩ := own_i1_e H
    exact own_go (fun t k => XS.ineg X.here hx rfl hd rfl k) (Hf _ _ _ _ hk T X eT)
  | i2l =>
    have H : (own_i1 st (fun x => .long x.toInt64) fun r => kf ds vs ls r) := H
    obtain ⟨x, r, rfl, hk⟩ := own_i1_e H
    exact own_go (fun t k => XT.i2l X.here hx rfl hd rfl k) (Hf _ _ _ _ hk T X eT)
  | i2b =>
    have H : (own_i1 st (fun x => .int x.toInt8.toInt32) fun r => kf ds vs ls r) := H
    obtain ⟨x, r, rfl, hk⟩ := own_i1_e H
    exact own_go (fun t k => XT.i2b X.here hx rfl hd rfl k) (Hf _ _ _ _ hk T X eT)
  | i2s =>
    have H : (own_i1 st (fun x => .int x.toInt16.toInt32) fun r => kf ds vs ls r) := H
    obtain ⟨x, r, rfl, hk⟩ := own_i1_e H
    exact own_go (fun t k => XT.i2s X.here hx rfl hd rfl k) (Hf _ _ _ _ hk T X eT)
  | i2c =>
    have H : (own_i1 st (fun x => .int x.toUInt32.toUInt16.toUInt32.toInt32) fun r => kf ds vs ls r) := H
    obtain ⟨x, r, rfl, hk⟩ := own_i1_e H
    exact own_go (fun t k => XT.i2c X.here hx rfl hd rfl k) (Hf _ _ _ _ hk T X eT)
  | i2d =>
    have H : (own_i1 st (fun x => .double (FP.i2d x)) fun r => kf ds vs ls r) := H
    obtain ⟨x, r, rfl, hk⟩ := own_i1_e H
    exact own_go (fun t k => XS.i2dS X.here hx rfl hd rfl rfl k) (Hf _ _ _ _ hk T X eT)
  | l2i =>
    have H : (own_l1 st (fun x => .int x.toInt32) fun r => kf ds vs ls r) := H
    obtain ⟨x, r, rfl, hk⟩ := own_l1_e H
    exact own_go (fun t k => XT.l2i X.here hx rfl hd rfl k) (Hf _ _ _ _ hk T X eT)
  | l2d =>
    have H : (own_l1 st (fun x => .double (FP.l2d x)) fun r => kf ds vs ls r) := H
    obtain ⟨x, r, rfl, hk⟩ := own_l1_e H
    exact own_go (fun t k => XS.l2dS X.here hx rfl hd rfl rfl k) (Hf _ _ _ _ hk T X eT)
  | ladd =>
    have H : (own_q2 st (fun x y => .long (x + y)) fun r => kf ds vs ls r) := H
    obtain ⟨x, y, r, rfl, hk⟩ := own_q2_e H
    exact own_go (fun t k => XT.ladd X.here hx rfl hd rfl k) (Hf _ _ _ _ hk T X eT)
  | lsub =>
    have H : (own_q2 st (fun x y => .long (x - y)) fun r => kf ds vs ls r) := H
    obtain ⟨x, y, r, rfl, hk⟩ := own_q2_e H
    exact own_go (fun t k => XT.lsub X.here hx rfl hd rfl k) (Hf _ _ _ _ hk T X eT)
  | lmul =>
    have H : (own_q2 st (fun x y => .long (x * y)) fun r => kf ds vs ls r) := H
    obtain ⟨x, y, r, rfl, hk⟩ := own_q2_e H
    exact own_go (fun t k => XT.lmul X.here hx rfl hd rfl k) (Hf _ _ _ _ hk T X eT)
  | ldiv =>
    have H : (own_l2 st (fun _ y => y ≠ 0) (fun x y => .long (x / y)) fun r => kf ds vs ls r) := H
    obtain ⟨x, y, r, rfl, hg, hk⟩ := own_l2_e H
    exact own_go (fun t k => XT.ldiv X.here hx rfl hd rfl hg k) (Hf _ _ _ _ hk T X eT)
  | land =>
    have H : (own_q2 st (fun x y => .long (x &&& y)) fun r => kf ds vs ls r) := H
    obtain ⟨x, y, r, rfl, hk⟩ := own_q2_e H
    exact own_go (fun t k => XT.land X.here hx rfl hd rfl k) (Hf _ _ _ _ hk T X eT)
  | lneg =>
    have H : (own_l1 st (fun x => .long (-x)) fun r => kf ds vs ls r) := H
    obtain ⟨x, r, rfl, hk⟩ := own_l1_e H
    exact own_go (fun t k => XT.lneg X.here hx rfl hd rfl k) (Hf _ _ _ _ hk T X eT)
  | lshr =>
    have H : (own_li st (fun x y => .long (x >>> (y.toInt64 &&& 63))) fun r => kf ds vs ls r) := H
    obtain ⟨x, y, r, rfl, hk⟩ := own_li_e H
    exact own_go (fun t k => XT.lshr X.here hx rfl hd rfl k) (Hf _ _ _ _ hk T X eT)
  | lushr =>
    have H : (own_li st (fun x y => .long (Jvm.Free.XT.ushrL x y)) fun r => kf ds vs ls r) := H
    obtain ⟨x, y, r, rfl, hk⟩ := own_li_e H
    exact own_go (fun t k => XT.lushr X.here hx rfl hd rfl k) (Hf _ _ _ _ hk T X eT)
  | lcmp =>
    have H : (own_q2 st (fun x y => .int (Jvm.Free.XT.cmpL x y)) fun r => kf ds vs ls r) := H
    obtain ⟨x, y, r, rfl, hk⟩ := own_q2_e H
    exact own_go (fun t k => XT.lcmp X.here hx rfl hd rfl k) (Hf _ _ _ _ hk T X eT)
  | dadd =>
    have H : (own_d2 st FP.dadd fun r => kf ds vs ls r) := H
    obtain ⟨x, y, r, rfl, hg, hk⟩ := own_d2_e H
    exact own_go (fun t k => XS.daddS X.here hx rfl hd rfl hg rfl k) (Hf _ _ _ _ hk T X eT)
  | dsub =>
    have H : (own_d2 st FP.dsub fun r => kf ds vs ls r) := H
    obtain ⟨x, y, r, rfl, hg, hk⟩ := own_d2_e H
    exact own_go (fun t k => XS.dsubS X.here hx rfl hd rfl hg rfl k) (Hf _ _ _ _ hk T X eT)
  | dmul =>
    have H : (own_d2 st FP.dmul fun r => kf ds vs ls r) := H
    obtain ⟨x, y, r, rfl, hg, hk⟩ := own_d2_e H
    exact own_go (fun t k => XS.dmulS X.here hx rfl hd rfl hg rfl k) (Hf _ _ _ _ hk T X eT)
  | ddiv =>
    have H : (own_d2 st FP.ddiv fun r => kf ds vs ls r) := H
    obtain ⟨x, y, r, rfl, hg, hk⟩ := own_d2_e H
    exact own_go (fun t k => XS.ddivS X.here hx rfl hd rfl hg rfl k) (Hf _ _ _ _ hk T X eT)
  | dneg =>
    have H' : (match (generalizing := false) st with | .double x :: r => kf ds vs ls (.double (FP.dneg x) :: r) | _ => False) := H
    split at H'
    · exact own_go (fun t k => XS.dnegS X.here hx rfl hd rfl rfl k) (Hf _ _ _ _ H' T X eT)
    · exact H'.elim
  | dcmp o =>
    have H' : (match (generalizing := false) st with | .double y :: .double x :: r => kf ds vs ls (.int (cmpValue (FP.dcmp x y) o) :: r) | _ => False) := H
    split at H'
    · exact own_go (fun t k => XS.dcmpS X.here hx rfl hd rfl rfl k) (Hf _ _ _ _ H' T X eT)
    · exact H'.elim
  | iinc j n =>
    have H' : (match (generalizing := false) own_nth ls j with | some (.val (.int x)) => (match (generalizing := false) own_sto ls j (.int (x + Int32.ofInt n)) with | some l => kf ds vs l st | none => False) | _ => False) := H
    split at H'
    · rename_i x hn
      split at H'
      · rename_i l' hl
        exact own_go (fun t k => XS.iinc X.here hx rfl hd ((own_nth_eq _ _).trans hn) (own_sto_ok hl) k) (Hf _ _ _ _ H' T X eT)
      · exact H'.elim
    · exact H'.elim
  | dup =>
    have H : (own_ca st fun st => (match st with | x :: r => kf ds vs ls (x :: x :: r) | _ => False)) := H
    obtain ⟨x, r, rfl, hc, hk⟩ := own_ca_e H
    exact own_go (fun t k => XS.dup X.here hx rfl hd rfl hc k) (Hf _ _ _ _ hk T X eT)
  | pop =>
    have H : (own_ca st fun st => (match st with | _ :: r => kf ds vs ls r | _ => False)) := H
    obtain ⟨x, r, rfl, hc, hk⟩ := own_ca_e H
    exact own_go (fun t k => XT.pop X.here hx rfl hd rfl hc k) (Hf _ _ _ _ hk T X eT)
  | dup2 =>
    have H : (own_ca st fun st => (match st with | x :: r => own_ca r fun r => (match r with | y :: q => kf ds vs ls (x :: y :: x :: y :: q) | _ => False) | _ => False)) := H
    obtain ⟨x, r, rfl, hc, hk⟩ := own_ca_e H
    obtain ⟨y, q, rfl, hc', hk'⟩ := own_ca_e hk
    exact own_go (fun t k => XT.dup2 X.here hx rfl hd rfl hc hc' k) (Hf _ _ _ _ hk' T X eT)
  | goto o =>
    have H : (own_jp pc o fun t => kj t ds vs ls st) := H
    obtain ⟨t', h1, h2, hk⟩ := own_jp_e H
    exact own_go (fun t k => XS.goto X.here hx rfl rfl hd h1 h2 k) (Hj _ _ _ _ _ hk T X eT)
  | ifCond cd o =>
    have H' : (match (generalizing := false) st with | .int x :: r => own_br ds (own_c0 cd x) (fun d => own_jp pc o fun t => kj t d vs ls r) (fun d => kf d vs ls r) | _ => False) := H
    split at H'
    · rename_i x r
      rcases own_br_e H' with ⟨hC, d, hk⟩ | ⟨hC, d, hk⟩
      · obtain ⟨t', h1, h2, hk⟩ := own_jp_e hk
        exact own_go (fun t k => XS.ifYes X.here hx rfl rfl hd rfl ((own_c0_ok _ _).mpr hC) h1 h2 k) (Hj _ _ _ _ _ hk T X eT)
      · have hc : ifCond.holds cd x = false := by
          cases hb : ifCond.holds cd x with
          | false => rfl
          | true => exact absurd ((own_c0_ok _ _).mp hb) hC
        exact own_go (fun t k => XS.ifNo X.here hx rfl hd rfl hc k) (Hf _ _ _ _ hk T X eT)
    · exact H'.elim
  | if_icmp cd o =>
    have H' : (match (generalizing := false) st with | .int y :: .int x :: r => own_br ds (own_ic cd x y) (fun d => own_jp pc o fun t => kj t d vs ls r) (fun d => kf d vs ls r) | _ => False) := H
    split at H'
    · rename_i y x r
      rcases own_br_e H' with ⟨hC, d, hk⟩ | ⟨hC, d, hk⟩
      · obtain ⟨t', h1, h2, hk⟩ := own_jp_e hk
        exact own_go (fun t k => XS.icmpYes X.here hx rfl rfl hd rfl ((own_ic_ok _ _ _).mpr hC) h1 h2 k) (Hj _ _ _ _ _ hk T X eT)
      · have hc : if_icmp.holds cd x y = false := by
          cases hb : if_icmp.holds cd x y with
          | false => rfl
          | true => exact absurd ((own_ic_ok _ _ _).mp hb) hC
        exact own_go (fun t k => XS.icmpNo X.here hx rfl hd rfl hc k) (Hf _ _ _ _ hk T X eT)
    · exact H'.elim
  | ifnull o =>
    have H' : (match (generalizing := false) st with | .null :: r => own_jp pc o fun t => kj t ds vs ls r | .ref _ :: r => kf ds vs ls r | _ => False) := H
    split at H'
    · obtain ⟨t', h1, h2, hk⟩ := own_jp_e H'
      exact own_go (fun t k => XS.ifnullYes X.here hx rfl rfl hd rfl h1 h2 k) (Hj _ _ _ _ _ hk T X eT)
    · exact own_go (fun t k => XS.ifnullNo X.here hx rfl hd rfl k) (Hf _ _ _ _ H' T X eT)
    · exact H'.elim
  | ifnonnull o =>
    have H' : (match (generalizing := false) st with | .ref _ :: r => own_jp pc o fun t => kj t ds vs ls r | .null :: r => kf ds vs ls r | _ => False) := H
    split at H'
    · obtain ⟨t', h1, h2, hk⟩ := own_jp_e H'
      exact own_go (fun t k => XT.ifnonnullYes X.here hx rfl rfl hd rfl h1 h2 k) (Hj _ _ _ _ _ hk T X eT)
    · exact own_go (fun t k => XT.ifnonnullNo X.here hx rfl hd rfl k) (Hf _ _ _ _ H' T X eT)
    · exact H'.elim
  | arraylength =>
    have H' : (match (generalizing := false) st with | .ref a :: r => (match (generalizing := false) vs with | .int N :: vs' => own_ln Z h a N ∧ kf ds vs' ls (.int N :: r) | _ => False) | _ => False) := H
    split at H'
    · split at H'
      · rename_i a r N vs'
        obtain ⟨⟨cl, ty, A, hN⟩, hk⟩ := H'
        subst hN
        exact own_go (X.arraylength hx (by rw [eT]; exact A.1) (State.isArrayOf_alike hZ.alike A.2.1) (g := mkF m pc (Array.mk ls) _) rfl rfl hd) (Hf _ _ _ _ hk T X eT)
      · exact H'.elim
    · exact H'.elim
  | iaload =>
    have H : (own_al Z h .int st vs fun vs' r => kf ds vs' ls r) := H
    obtain ⟨j, a, r, v, vs', rfl, rfl, ⟨cl, A, hin, hv⟩, hk⟩ := own_al_e H
    exact own_go (X.iaload hx (by rw [eT]; exact A.1) (State.isArrayOf_alike hZ.alike A.2.1) A.2.2 hin hv (g := mkF m pc (Array.mk ls) _) rfl rfl hd) (Hf _ _ _ _ hk T X eT)
  | daload =>
    have H : (own_al Z h .double st vs fun vs' r => kf ds vs' ls r) := H
    obtain ⟨j, a, r, v, vs', rfl, rfl, ⟨cl, A, hin, hv⟩, hk⟩ := own_al_e H
    exact own_go (X.daload hx (by rw [eT]; exact A.1) (State.isArrayOf_alike hZ.alike A.2.1) A.2.2 hin hv (g := mkF m pc (Array.mk ls) _) rfl rfl hd) (Hf _ _ _ _ hk T X eT)
  | laload =>
    have H : (own_al Z h .long st vs fun vs' r => kf ds vs' ls r) := H
    obtain ⟨j, a, r, v, vs', rfl, rfl, ⟨cl, A, hin, hv⟩, hk⟩ := own_al_e H
    exact own_go (X.laload hx (by rw [eT]; exact A.1) (State.isArrayOf_alike hZ.alike A.2.1) A.2.2 hin hv (g := mkF m pc (Array.mk ls) _) rfl rfl hd) (Hf _ _ _ _ hk T X eT)
  | getfield n =>
    have H' : (match (generalizing := false) st with | .ref a :: r => (match (generalizing := false) vs with | v :: vs' => (match (generalizing := false) own_fld Ft n with | some (C, f, d) => Fld Z h a C f d v ∧ kf ds vs' ls (v :: r) | none => False) | [] => False) | _ => False) := H
    split at H'
    · split at H'
      · split at H'
        · rename_i a r v vs' o C f d hf
          obtain ⟨T', X', e', st'⟩ := getF X hx hZ hown (host := "") (Or.inl (own_fld_e hF hf)) Via.refl eT H'.1 (g := mkF m pc (Array.mk ls) _) rfl rfl hd
          exact own_go st' (Hf _ _ _ _ H'.2 T' X' e')
        · exact H'.elim
      · exact H'.elim
    · exact H'.elim
  | _ => exact H.elim
def own_from : List (Nat × Instr) → Nat → List (Nat × Instr)
  | [], _ => []
  | (q, i) :: r, pc => bif Nat.beq q pc then (q, i) :: r else own_from r pc
def own_dec (code : ByteArray) (tab : List (Nat × Instr)) : Prop := ∀ e ∈ tab, decode code e.1 = .ok (e.2, own_len e.2)
def own_seq : List (Nat × Instr) → Bool
  | (q, i) :: (q', i') :: r => Nat.beq q' (q + own_len i) && own_seq ((q', i') :: r)
  | _ => true
theorem own_from_sub : ∀ {full : List (Nat × Instr)} {t : Nat}, (∀ e ∈ own_from full t, e ∈ full) ∧ (own_seq full = true → own_seq (own_from full t) = true) ∧ (∀ q i r, own_from full t = (q, i) :: r → q = t)
  | [], t => ⟨fun e h => h, fun h => h, fun q i r h => by cases h⟩
  | (q, i) :: r, t => by
    have ih := own_from_sub (full := r) (t := t)
    cases hb : Nat.beq q t with
    | true =>
      have e : own_from ((q, i) :: r) t = (q, i) :: r := by show (bif Nat.beq q t then _ else _) = _; rw [hb]; rfl
      rw [e]
      refine ⟨fun e h => h, fun h => h, fun q' i' r' h => ?_⟩
      cases h
      exact Nat.eq_of_beq_eq_true hb
    | false =>
      have e : own_from ((q, i) :: r) t = own_from r t := by show (bif Nat.beq q t then _ else _) = _; rw [hb]; rfl
      rw [e]
      refine ⟨fun e h => List.mem_cons_of_mem _ (ih.1 e h), fun h => ih.2.1 ?_, ih.2.2⟩
      cases r with
      | nil => rfl
      | cons a r' =>
        obtain ⟨q', i'⟩ := a
        have h' : (Nat.beq q' (q + own_len i) && own_seq ((q', i') :: r')) = true := h
        exact (Bool.and_eq_true_iff.mp h').2
/-! a block: n plain instructions from the table's row at hand on -/
def own_wp (Kt : List (Nat × Value)) (Ft : List (Nat × String × String × String)) (Z : State) (h : Heap) (full : List (Nat × Instr)) (P : Nat → List Slot → List Value → Prop) : Nat → List (Nat × Instr) → List Bool → List Value → List Slot → List Value → Prop
  | _, [], _, _, _, _ => False
  | 0, (q, _) :: _, _, _, ls, st => P q ls st
  | n + 1, (q, i) :: r, ds, vs, ls, st => own_st Kt Ft Z h i q ds vs ls st (fun ds vs ls st => own_wp Kt Ft Z h full P n r ds vs ls st) (fun t ds vs ls st => own_wp Kt Ft Z h full P n (own_from full t) ds vs ls st)
theorem own_wp_ok {code : ByteArray} {full : List (Nat × Instr)} (hdec : own_dec code full) (hseq : own_seq full = true) (hby : c.code = code) (hx : p.tables.exec = Jvm.exec) (hZ : Z.Warmed39 s.vm) (hown : s.vm.findClass own = some m.cls) {Kt : List (Nat × Value)} {Ft : List (Nat × String × String × String)} (hK : own_ks own a0 Z Kt) (hF : own_fs own a0 Z Ft) (X : Stand p l e R s m args below meth c T locs cells slots) :
    ∀ (n : Nat) (tab : List (Nat × Instr)) (ds : List Bool) (vs : List Value) (ls : List Slot) (st : List Value), (∀ e ∈ tab, e ∈ full) → own_seq tab = true → own_wp Kt Ft Z h full (own_Aft X h Q) n tab ds vs ls st →
      ∃ q i r, tab = (q, i) :: r ∧ own_Aft X h Q q ls st
  | _, [], _, _, _, _, _, _, H => by cases ‹Nat› <;> exact H.elim
  | 0, (q, i) :: r, ds, vs, ls, st, _, _, H => ⟨q, i, r, rfl, H⟩
  | n + 1, (q, i) :: r, ds, vs, ls, st, hsub, hs, H => by
    refine ⟨q, i, r, rfl, fun T' X' e' => ?_⟩
    have hd : decode c.code q = .ok (i, own_len i) := by rw [hby]; exact hdec (q, i) (hsub (q, i) (List.mem_cons_self ..))
    have H1 : own_st Kt Ft Z h i q ds vs ls st (fun ds vs ls st => own_wp Kt Ft Z h full (own_Aft X h Q) n r ds vs ls st) (fun t ds vs ls st => own_wp Kt Ft Z h full (own_Aft X h Q) n (own_from full t) ds vs ls st) := H
    clear H
    refine own_st_ok X' hx hZ hown e' hK hF hd H1 (fun ds vs ls st hk => ?_) (fun t ds vs ls st hk => ?_)
    · cases r with
      | nil =>
        obtain ⟨q', i', r', e1, -⟩ := own_wp_ok hdec hseq hby hx hZ hown hK hF X n [] ds vs ls st (fun e he => absurd he (List.not_mem_nil)) rfl hk
        cases e1
      | cons a r' =>
        obtain ⟨q1, i1⟩ := a
        have h' : (Nat.beq q1 (q + own_len i) && own_seq ((q1, i1) :: r')) = true := hs
        obtain ⟨g1, g2⟩ := Bool.and_eq_true_iff.mp h'
        obtain ⟨q', i', r'', e1, e2⟩ := own_wp_ok hdec hseq hby hx hZ hown hK hF X n ((q1, i1) :: r') ds vs ls st (fun e he => hsub e (List.mem_cons_of_mem _ he)) g2 hk
        cases e1
        rw [← Nat.eq_of_beq_eq_true g1]
        exact e2
    · obtain ⟨q', i', r'', e1, e2⟩ := own_wp_ok hdec hseq hby hx hZ hown hK hF X n (own_from full t) ds vs ls st (own_from_sub.1) (own_from_sub.2.1 hseq) hk
      rw [← own_from_sub.2.2 _ _ _ e1]
      exact e2
/-- **A BLOCK**: n plain instructions from pc on, in one step -/
theorem own_blk {code : ByteArray} {full : List (Nat × Instr)} (hdec : own_dec code full) (hseq : own_seq full = true) (hby : c.code = code) (hx : p.tables.exec = Jvm.exec) (hZ : Z.Warmed39 s.vm) (hown : s.vm.findClass own = some m.cls) {Kt : List (Nat × Value)} {Ft : List (Nat × String × String × String)} (hK : own_ks own a0 Z Kt) (hF : own_fs own a0 Z Ft)
    (n : Nat) (ds : List Bool) (vs : List Value) (X : Stand p l e R s m args below meth c T locs cells slots) (eT : T.heap = h) {pc : Nat} {ls : List Slot} {st : List Value} (H : own_wp Kt Ft Z h full (own_Aft X h Q) n (own_from full pc) ds vs ls st) : own_Go p.tables e below Q (T.setTop (mkF m pc (Array.mk ls) st)) := by
  obtain ⟨q, i, r, e1, e2⟩ := own_wp_ok hdec hseq hby hx hZ hown hK hF X n (own_from full pc) ds vs ls st (own_from_sub.1) (own_from_sub.2.1 hseq) H
  rw [← own_from_sub.2.2 _ _ _ e1]
  exact e2 T X eT
/-- **A RETURN** of a value -/
theorem own_ret (X : Stand p l e R s m args below meth c T locs cells slots) (hx : p.tables.exec = Jvm.exec) (hlocks : meth.locks = false) (eT : T.heap = h) {C S : Nat} {q : Option Value → Heap → List Loc → Prop} {pc : Nat} {ls : List Slot} {w : Value} {rest : List Value} {t : FieldType} {i : Instr} (hret : meth.sig.returnType = some t) (hn : narrow t w = w)
    (hi : (i = .ireturn ∧ (t = .int ∨ t = .boolean ∨ t = .byte ∨ t = .char ∨ t = .short) ∧ ∃ z, w = .int z) ∨ (i = .lreturn ∧ t = .long ∧ ∃ z, w = .long z) ∨ (i = .dreturn ∧ t = .double ∧ ∃ z, w = .double z) ∨ (i = .freturn ∧ t = .float ∧ ∃ z, w = .float z) ∨ (i = .areturn ∧ t.isReference = true ∧ w.isRef = true))
    (hd : decode c.code pc = .ok (i, 1)) (hC : cells ≤ C) (hS : slots ≤ S) (hq : q (some w) h locs) : own_Go p.tables e below (own_Fin s C S q) (T.setTop (mkF m pc (Array.mk ls) (w :: rest))) := by
  obtain ⟨fs, hr, hrun, hended, hW, hsame⟩ := X.leave (v := some w) (fun h => by rw [hret] at h; cases h) hlocks
  refine ⟨_, _, retOut X hx hret hn hi hd hr, hrun, hended, some w, locs, rfl, ?_, ⟨_, rfl⟩, hW, hsame.mono hC hS⟩
  show q (some w) T.heap locs
  rw [eT]; exact hq
/-- **A RETURN** of nothing -/
theorem own_retV (X : Stand p l e R s m args below meth c T locs cells slots) (hx : p.tables.exec = Jvm.exec) (hlocks : meth.locks = false) (eT : T.heap = h) {C S : Nat} {q : Option Value → Heap → List Loc → Prop} {pc : Nat} {ls : List Slot} (hret : meth.sig.returnType = none)
    (hd : decode c.code pc = .ok (.return_, 1)) (hC : cells ≤ C) (hS : slots ≤ S) (hq : q none h locs) : own_Go p.tables e below (own_Fin s C S q) (T.setTop (mkF m pc (Array.mk ls) [])) := by
  obtain ⟨fs, hr, hrun, hended, hW, hsame⟩ := X.leave (v := none) (fun _ => rfl) hlocks
  refine ⟨_, _, X.returnOut hx hret hd hr, hrun, hended, none, locs, rfl, ?_, ⟨_, rfl⟩, hW, hsame.mono hC hS⟩
  show q none T.heap locs
  rw [eT]; exact hq
end OwnRun
/-! OWN KIT 2: steps that change the heap, and calls, as steps of own_Go -/
section OwnHeap
variable {p : Program} {l : Launch} {e : Env} {R : Room} {s : State} {m : MethodId} {args : Array Value} {below : List Frame} {meth : Method} {c : Code} {T : State} {locs : List Loc} {cells slots : Nat} {Z : State} {a0 : Array Value} {h h' : Heap} {Q : Outcome → State → Prop} {own : String} {pc : Nat} {ls : List Slot} {st : List Value}
/-- an array with just these values -/
def own_A (Z : State) (h : Heap) (a : Addr) (ty : FieldType) (vs : List Value) : Prop := ∃ cl : Cell, Arr Z h a cl ty ∧ cl.slots.toList = vs
theorem own_A.ext {a : Addr} {ty : FieldType} {vs : List Value} (A : own_A Z h a ty vs) (E : Ext h h') : own_A Z h' a ty vs := by
  obtain ⟨cl, A, q⟩ := A
  exact ⟨cl, A.ext E, q⟩
theorem own_A.keep {a : Addr} {ty : FieldType} {vs : List Value} {ws : List Addr} (A : own_A Z h a ty vs) (K : Keep h h' ws) (q : a ∉ ws) : own_A Z h' a ty vs := by
  obtain ⟨cl, A, r⟩ := A
  exact ⟨cl, ⟨K.2.1 a cl A.1 q, A.2⟩, r⟩
theorem own_A.other {a b : Addr} {ty : FieldType} {vs : List Value} {sl : Nat} {v : Value} (A : own_A Z h b ty vs) (W : Wr h h' a sl v) (hne : b ≠ a) : own_A Z h' b ty vs := by
  obtain ⟨cl, A, r⟩ := A
  exact ⟨cl, A.other W hne, r⟩
theorem own_A.same {a : Addr} {ty : FieldType} {vs : List Value} {sl : Nat} {v : Value} (A : own_A Z h a ty vs) (W : Wr h h' a sl v) : own_A Z h' a ty (vs.set sl v) := by
  obtain ⟨cl, A, r⟩ := A
  refine ⟨_, A.same W, ?_⟩
  subst r
  exact Array.toList_setIfInBounds
theorem own_A.lt {a : Addr} {ty : FieldType} {vs : List Value} (A : own_A Z h a ty vs) : a < h.size := by
  obtain ⟨cl, A, -⟩ := A
  exact A.lt
theorem own_A.at {a : Addr} {ty : FieldType} {vs : List Value} {v : Value} (A : own_A Z h a ty vs) (j : Int32) (k : Nat) (h0 : j.toInt = k) (hv : vs[k]? = some v) : own_at Z h a ty j v := by
  obtain ⟨cl, A, r⟩ := A
  have e1 : j.toNatClampNeg = k := by rw [Int32.toNatClampNeg, h0]; rfl
  have e2 : cl.slots[k]? = some v := by rw [← Array.getElem?_toList, r]; exact hv
  refine ⟨cl, A, ?_, by rw [e1]; exact e2⟩
  rintro (q | q)
  · rw [Int32.lt_iff_toInt_lt, h0] at q
    have : (0 : Int32).toInt = 0 := rfl
    omega
  · rw [e1] at q
    exact absurd (Array.getElem?_eq_some_iff.mp e2).1 (by omega)
theorem own_A.ln {a : Addr} {ty : FieldType} {vs : List Value} (A : own_A Z h a ty vs) (N : Int32) (hN : vs.length.toInt32 = N) : own_ln Z h a N := by
  obtain ⟨cl, A, r⟩ := A
  refine ⟨cl, ty, A, ?_⟩
  rw [← hN, ← r, Array.length_toList]
theorem own_A.inb {a : Addr} {ty : FieldType} {vs : List Value} (A : own_A Z h a ty vs) : ∃ cl : Cell, Arr Z h a cl ty ∧ cl.slots.size = vs.length := by
  obtain ⟨cl, A, r⟩ := A
  exact ⟨cl, A, by rw [← r, Array.length_toList]⟩
theorem own_idx {j : Int32} {k n : Nat} (h0 : j.toInt = k) (hk : k < n) : ¬ (j < 0 ∨ n ≤ j.toNatClampNeg) := by
  have e1 : j.toNatClampNeg = k := by rw [Int32.toNatClampNeg, h0]; rfl
  rintro (q | q)
  · rw [Int32.lt_iff_toInt_lt, h0] at q
    have : (0 : Int32).toInt = 0 := rfl
    omega
  · omega
/-- new C -/
theorem own_new (X : Stand p l e R s m args below meth c T locs cells slots) (hx : p.tables.exec = Jvm.exec) (hZ : Z.Warmed39 s.vm) {C : String} {index n : Nat} (hown : s.vm.findClass own = some m.cls) (w : (Cond.classLink own index C).before a0 Z = true) (wi : (Cond.instantiable C n).before a0 Z = true) (wz : (Cond.initialized C).before a0 Z = true) (eT : T.heap = h)
    (hd : decode c.code pc = .ok (.new index, 3)) (hc : cells + 1 ≤ R.cells) (hl : slots + n ≤ R.slots)
    (k : ∀ T' h' a, a = h.size → Stand p l e R s m args below meth c T' locs (cells + 1) (slots + n) → T'.heap = h' → Ext h h' → Exa Z h' a C → (∀ {O nm d : String} {ty : FieldType}, Laid Z a0 C O nm d → parseFieldDescriptor d = some ty → Fld Z h' a O nm d (defaultValue ty)) →
      own_Go p.tables e below Q (T'.setTop (mkF m (pc + 3) (Array.mk ls) (.ref a :: st)))) : own_Go p.tables e below Q (T.setTop (mkF m pc (Array.mk ls) st)) := by
  obtain ⟨T', h', X', e', E, A, D, -, st'⟩ := newO X hx hZ hown w wi wz eT (g := mkF m pc (Array.mk ls) st) rfl hd hc hl
  exact own_go st' (k T' h' _ rfl X' e' E A D)
/-- newarray of a plain kind, of a length that is known -/
theorem own_newP (X : Stand p l e R s m args below meth c T locs cells slots) (hx : p.tables.exec = Jvm.exec) (hZ : Z.Warmed39 s.vm) {aty : ArrayType} (w : (Cond.arrayClass (newarray.typeOf aty)).before a0 Z = true) (eT : T.heap = h)
    {n : Int32} (N : Nat) (hN : n.toInt = N) {cap : Nat} (hcap : N ≤ cap) (hb : cap * 8 ≤ 536870912) (hd : decode c.code pc = .ok (.newarray aty, 2)) (hc : cells + 1 ≤ R.cells) (hl : slots + cap ≤ R.slots)
    (k : ∀ T' h' a, a = h.size → Stand p l e R s m args below meth c T' locs (cells + 1) (slots + cap) → T'.heap = h' → Ext h h' → own_A Z h' a (newarray.typeOf aty) (List.replicate N (defaultValue (newarray.typeOf aty))) →
      own_Go p.tables e below Q (T'.setTop (mkF m (pc + 2) (Array.mk ls) (.ref a :: st)))) : own_Go p.tables e below Q (T.setTop (mkF m pc (Array.mk ls) (.int n :: st))) := by
  have e1 : n.toNatClampNeg = N := by rw [Int32.toNatClampNeg, hN]; rfl
  have hn : ¬ n < 0 := by
    rw [Int32.lt_iff_toInt_lt, hN]
    have : (0 : Int32).toInt = 0 := rfl
    omega
  obtain ⟨T', h', cA, X', e', E, A, st'⟩ := newP X hx hZ w eT (g := mkF m pc (Array.mk ls) (.int n :: st)) rfl hd rfl hn (cap := cap) (by rw [e1]; exact hcap) hb hc hl
  refine own_go st' (k T' h' _ rfl X' e' E ⟨_, A, ?_⟩)
  show (Array.replicate n.toNatClampNeg _).toList = _
  rw [e1]; exact Array.toList_replicate
/-- dastore -/
theorem own_sD (X : Stand p l e R s m args below meth c T locs cells slots) (hx : p.tables.exec = Jvm.exec) (hZ : Z.Warmed39 s.vm) (eT : T.heap = h) {a : Addr} {vs : List Value} (A : own_A Z h a .double vs) {j : Int32} (kk : Nat) (hj : j.toInt = kk) (hk : kk < vs.length) {x : UInt64} (hd : decode c.code pc = .ok (.dastore, 1))
    (k : ∀ T' h', Stand p l e R s m args below meth c T' (locs ++ [⟨a, kk⟩]) cells slots → T'.heap = h' → Wr h h' a kk (.double x) → own_A Z h' a .double (vs.set kk (.double x)) → own_Go p.tables e below Q (T'.setTop (mkF m (pc + 1) (Array.mk ls) st))) :
    own_Go p.tables e below Q (T.setTop (mkF m pc (Array.mk ls) (.double x :: .int j :: .ref a :: st))) := by
  have e1 : j.toNatClampNeg = kk := by rw [Int32.toNatClampNeg, hj]; rfl
  have A' := A
  obtain ⟨cl, Ar, hs⟩ := A.inb
  obtain ⟨T', h', X', e', W, st'⟩ := stD X hx hZ eT Ar (j := j) (x := x) (by rw [hs]; exact own_idx hj hk) (g := mkF m pc (Array.mk ls) (.double x :: .int j :: .ref a :: st)) rfl rfl hd
  rw [e1] at X' W
  exact own_go st' (k T' h' X' e' W (A'.same W))
/-- iastore -/
theorem own_sI (X : Stand p l e R s m args below meth c T locs cells slots) (hx : p.tables.exec = Jvm.exec) (hZ : Z.Warmed39 s.vm) (eT : T.heap = h) {a : Addr} {vs : List Value} (A : own_A Z h a .int vs) {j : Int32} (kk : Nat) (hj : j.toInt = kk) (hk : kk < vs.length) {x : Int32} (hd : decode c.code pc = .ok (.iastore, 1))
    (k : ∀ T' h', Stand p l e R s m args below meth c T' (locs ++ [⟨a, kk⟩]) cells slots → T'.heap = h' → Wr h h' a kk (.int x) → own_A Z h' a .int (vs.set kk (.int x)) → own_Go p.tables e below Q (T'.setTop (mkF m (pc + 1) (Array.mk ls) st))) :
    own_Go p.tables e below Q (T.setTop (mkF m pc (Array.mk ls) (.int x :: .int j :: .ref a :: st))) := by
  have e1 : j.toNatClampNeg = kk := by rw [Int32.toNatClampNeg, hj]; rfl
  have A' := A
  obtain ⟨cl, Ar, hs⟩ := A.inb
  obtain ⟨T', h', X', e', W, st'⟩ := stI X hx hZ eT Ar (j := j) (x := x) (by rw [hs]; exact own_idx hj hk) (g := mkF m pc (Array.mk ls) (.int x :: .int j :: .ref a :: st)) rfl rfl hd
  rw [e1] at X' W
  exact own_go st' (k T' h' X' e' W (A'.same W))
/-- putfield -/
theorem own_putF (X : Stand p l e R s m args below meth c T locs cells slots) (hx : p.tables.exec = Jvm.exec) (hZ : Z.Warmed39 s.vm) {O n d C : String} {index kk : Nat} {ty : FieldType} (hown : s.vm.findClass own = some m.cls) (w : (Cond.fieldLink own index O n d).before a0 Z = true)
    (eT : T.heap = h) {a : Addr} {v old : Value} (F : Fld Z h a O n d old) (E : Exa Z h a C) (L : (Cond.lays C O n d).before a0 Z = true ∨ ((Cond.laysFinal C O n d).before a0 Z = true ∧ own = O ∧ meth.name = "<init>")) (wi : (Cond.instantiable C kk).before a0 Z = true)
    (hty : parseFieldDescriptor d = some ty) (hn : narrow ty v = v) (hf : fits ty v = true) (hd : decode c.code pc = .ok (.putfield index, 3))
    (k : ∀ T' h', Stand p l e R s m args below meth c T' (locs ++ [⟨a, Jvm.RoadKit.slotOf Z O n d⟩]) cells slots → T'.heap = h' → Wr h h' a (Jvm.RoadKit.slotOf Z O n d) v → Fld Z h' a O n d v → Exa Z h' a C → own_Go p.tables e below Q (T'.setTop (mkF m (pc + 3) (Array.mk ls) st))) :
    own_Go p.tables e below Q (T.setTop (mkF m pc (Array.mk ls) (v :: .ref a :: st))) := by
  obtain ⟨T', h', X', e', W, st'⟩ := putF X hx hZ hown (host := "") (Or.inl w) Via.refl eT F E L wi hty hn hf (g := mkF m pc (Array.mk ls) (v :: .ref a :: st)) rfl rfl hd
  exact own_go st' (k T' h' X' e' W (F.same W) (E.wr W))
/-- Object.<init> -/
theorem own_initO (X : Stand p l e R s m args below meth c T locs cells slots) (hx : p.tables.exec = Jvm.exec) (hZ : Z.Warmed39 s.vm) {idx : Nat} (hown : s.vm.findClass own = some m.cls) (w1 : (Cond.methodLink own idx Lib.objectInit).before a0 Z = true) (w2 : (Cond.instanceMethod Lib.objectInit).before a0 Z = true)
    (w3 : (Cond.code Lib.objectInit ⟨#[0xb1]⟩ 1 none).before a0 Z = true) (eT : T.heap = h) (hsize : ls.length = c.maxLocals) {a : Addr} (hd : decode c.code pc = .ok (.invokespecial idx, 3))
    (hf : 1 ≤ R.frames) (W : Nat) (hW : (st.map fun v => v.category).sum ≤ W) (hl : W + 12 ≤ R.locals)
    (k : ∀ T', Stand p l e R s m args below meth c T' locs cells slots → T'.heap = h → own_Go p.tables e below Q (T'.setTop (mkF m (pc + 3) (Array.mk ls) st))) :
    own_Go p.tables e below Q (T.setTop (mkF m pc (Array.mk ls) (.ref a :: st))) := by
  obtain ⟨T', X', e', st'⟩ := initO X hx hZ hown w1 w2 w3 eT (g := mkF m pc (Array.mk ls) (.ref a :: st)) rfl hsize rfl hd hf (W := W) (by show 2 * 0 + _ ≤ _; omega) hl
  exact own_go st' (k T' X' e')
/-- a static call, by the callee's contract -/
theorem own_callS (X : Stand p l e R s m args below meth c T locs cells slots) (hx : p.tables.exec = Jvm.exec) (hZ : Z.Warmed39 s.vm) (hown : s.vm.findClass own = some m.cls) {index : Nat} {y : MethodName} {bytes : ByteArray} {maxL : Nat} {ret : Option FieldType} {rm : Room}
    (w1 : (Cond.methodLink own index y).before a0 Z = true) (w2 : (Cond.static y).before a0 Z = true) (w3 : (Cond.initialized y.cls).before a0 Z = true) (w4 : (Cond.code y bytes maxL ret).before a0 Z = true) (hy : y.cls ≠ "java/lang/invoke/MethodHandle" ∧ y.cls ≠ "java/lang/invoke/VarHandle")
    (eT : T.heap = h) (argsL : List Value) {ps : List FieldType} {r : Option FieldType} (hpd : parseMethodDescriptor y.desc = some ⟨ps, r⟩) (hlen : argsL.length = ps.length) {q : Option Value → Heap → List Loc → Prop}
    (hM : MetFree l y (head1 [Cond.code y bytes maxL ret] rm) (fun a U => a = argsL.toArray ∧ Z.Warmed39 U.vm ∧ U.heap = h) (fun _ _ _ _ _ => True) (fun _ U o U' => own_Fin U rm.cells rm.slots q o U'))
    (hsize : ls.length = c.maxLocals) (W : Nat) {full : List Value} (hst : full = argsL.reverse ++ st) (hW : (st.map fun v => v.category).sum ≤ W) (hd : decode c.code pc = .ok (.invokestatic index, 3)) (hf : rm.frames + 1 ≤ R.frames) (hl : W + (maxL + 11) + rm.locals ≤ R.locals) (hcc : cells + rm.cells ≤ R.cells) (hss : slots + rm.slots ≤ R.slots)
    (k : ∀ T' v L, Stand p l e R s m args below meth c T' (locs ++ L) (cells + rm.cells) (slots + rm.slots) → q v T'.heap L → own_Go p.tables e below Q (T'.setTop (mkF m (pc + 3) (Array.mk ls) (v.toList ++ st)))) :
    own_Go p.tables e below Q (T.setTop (mkF m pc (Array.mk ls) full)) := by
  subst hst
  obtain ⟨v, vm1, ⟨T', L', k', n'⟩, -, X', ⟨Lc, hq, l1, y1, z1⟩, st'⟩ := Jvm.LawKit.callS X hx hown (mvT hZ w1) (mvT hZ w2) (mvT hZ w3) (mvT hZ w4) hy (backOf (W := W) (Q := q) hM hZ w4 w3 hf hl) (g := mkF m pc (Array.mk ls) (argsL.reverse ++ st)) rfl hsize (argsL := argsL) (rest := st) (lenOf hpd hlen) rfl (by show 2 * 0 + _ ≤ _; omega) hd (fun _ _ => ⟨rfl, eT, hcc, hss⟩)
  dsimp only [Pt.U, Pt.locs, Pt.cells, Pt.slots] at X' l1 y1 z1 st' hq
  subst l1 y1 z1
  exact own_go st' (k T' v Lc X' hq)
/-- a constructor, by its contract -/
theorem own_callI (X : Stand p l e R s m args below meth c T locs cells slots) (hx : p.tables.exec = Jvm.exec) (hZ : Z.Warmed39 s.vm) (hown : s.vm.findClass own = some m.cls) {index : Nat} {y : MethodName} (hy1 : y.name = "<init>") {bytes : ByteArray} {maxL : Nat} {rm : Room}
    (w1 : (Cond.methodLink own index y).before a0 Z = true) (w2 : (Cond.instanceMethod y).before a0 Z = true) (w3 : (Cond.initialized y.cls).before a0 Z = true) (w4 : (Cond.code y bytes maxL none).before a0 Z = true) (hy : y.cls ≠ "java/lang/invoke/MethodHandle" ∧ y.cls ≠ "java/lang/invoke/VarHandle")
    (eT : T.heap = h) (a : Addr) (argsL : List Value) {ps : List FieldType} {r : Option FieldType} (hpd : parseMethodDescriptor y.desc = some ⟨ps, r⟩) (hlen : argsL.length = ps.length) {q : Option Value → Heap → List Loc → Prop}
    (hM : MetFree l y (head1 [Cond.code y bytes maxL none] rm) (fun b U => b = (.ref a :: argsL).toArray ∧ Z.Warmed39 U.vm ∧ U.heap = h) (fun _ _ _ _ _ => True) (fun _ U o U' => own_Fin U rm.cells rm.slots q o U'))
    (hsize : ls.length = c.maxLocals) (W : Nat) {full : List Value} (hst : full = argsL.reverse ++ .ref a :: st) (hW : (st.map fun v => v.category).sum ≤ W) (hd : decode c.code pc = .ok (.invokespecial index, 3)) (hf : rm.frames + 1 ≤ R.frames) (hl : W + (maxL + 11) + rm.locals ≤ R.locals) (hcc : cells + rm.cells ≤ R.cells) (hss : slots + rm.slots ≤ R.slots)
    (k : ∀ T' v L, Stand p l e R s m args below meth c T' (locs ++ L) (cells + rm.cells) (slots + rm.slots) → q v T'.heap L → own_Go p.tables e below Q (T'.setTop (mkF m (pc + 3) (Array.mk ls) (v.toList ++ st)))) :
    own_Go p.tables e below Q (T.setTop (mkF m pc (Array.mk ls) full)) := by
  subst hst
  obtain ⟨v, vm1, ⟨T', L', k', n'⟩, -, X', ⟨Lc, hq, l1, y1, z1⟩, st'⟩ := X.specialBack hx hy1 hown (mvT hZ w1) (mvT hZ w2) (mvT hZ w4) hy (backOf (W := W) (Q := q) hM hZ w4 w3 hf hl) (g := mkF m pc (Array.mk ls) (argsL.reverse ++ .ref a :: st)) rfl hsize (Steps.refl _) (a := a) (argsL := argsL) (rest := st) (lenOf hpd hlen) rfl (by show 2 * 0 + _ ≤ _; omega) hd (fun _ _ => ⟨rfl, eT, hcc, hss⟩)
  dsimp only [Pt.U, Pt.locs, Pt.cells, Pt.slots] at X' l1 y1 z1 st' hq
  subst l1 y1 z1
  exact own_go (fun t k => st'.trans k) (k T' v Lc X' hq)
/-- an instance method, by its contract -/
theorem own_callV (X : Stand p l e R s m args below meth c T locs cells slots) (hx : p.tables.exec = Jvm.exec) (hZ : Z.Warmed39 s.vm) (hown : s.vm.findClass own = some m.cls) {index : Nat} {C : String} {y : MethodName} {bytes : ByteArray} {maxL : Nat} {ret : Option FieldType} {rm : Room}
    (w1 : (Cond.methodLink own index y).before a0 Z = true) (w2 : (Cond.declares y).before a0 Z = true) (w5 : (Cond.selects C y y).before a0 Z = true) (w6 : (Cond.instanceMethod y).before a0 Z = true) (w3 : (Cond.initialized y.cls).before a0 Z = true) (w4 : (Cond.code y bytes maxL ret).before a0 Z = true) (hy : y.cls ≠ "java/lang/invoke/MethodHandle" ∧ y.cls ≠ "java/lang/invoke/VarHandle")
    (eT : T.heap = h) {a : Addr} (E : Exa Z h a C) (argsL : List Value) {ps : List FieldType} {r : Option FieldType} (hpd : parseMethodDescriptor y.desc = some ⟨ps, r⟩) (hlen : argsL.length = ps.length) {q : Option Value → Heap → List Loc → Prop}
    (hM : MetFree l y (head1 [Cond.code y bytes maxL ret] rm) (fun b U => b = (.ref a :: argsL).toArray ∧ Z.Warmed39 U.vm ∧ U.heap = h) (fun _ _ _ _ _ => True) (fun _ U o U' => own_Fin U rm.cells rm.slots q o U'))
    (hsize : ls.length = c.maxLocals) (W : Nat) {full : List Value} (hst : full = argsL.reverse ++ .ref a :: st) (hW : (st.map fun v => v.category).sum ≤ W) (hd : decode c.code pc = .ok (.invokevirtual index, 3)) (hf : rm.frames + 1 ≤ R.frames) (hl : W + (maxL + 11) + rm.locals ≤ R.locals) (hcc : cells + rm.cells ≤ R.cells) (hss : slots + rm.slots ≤ R.slots)
    (k : ∀ T' v L, Stand p l e R s m args below meth c T' (locs ++ L) (cells + rm.cells) (slots + rm.slots) → q v T'.heap L → own_Go p.tables e below Q (T'.setTop (mkF m (pc + 3) (Array.mk ls) (v.toList ++ st)))) :
    own_Go p.tables e below Q (T.setTop (mkF m pc (Array.mk ls) full)) := by
  subst hst
  obtain ⟨cB, kB, i1, i2, i3⟩ := isOf (T := T) hZ eT E
  obtain ⟨v, vm1, ⟨T', L', k', n'⟩, -, X', ⟨Lc, hq, l1, y1, z1⟩, st'⟩ := X.virtualBack hx (y := y) (z := y) hown (mvT hZ w1) (mvT hZ w2) (notFace_of_selects (args := #[]) (mvT hZ w5)) (mvT hZ w5) (mvT hZ w6) hy (backOf (W := W) (Q := q) hM hZ w4 w3 hf hl) i1 i3 (g := mkF m pc (Array.mk ls) (argsL.reverse ++ .ref a :: st)) rfl hsize (Steps.refl _) (argsL := argsL) (rest := st) (lenOf hpd hlen) rfl (by show 2 * 0 + _ ≤ _; omega) hd (fun _ _ => ⟨rfl, eT, hcc, hss⟩)
  dsimp only [Pt.U, Pt.locs, Pt.cells, Pt.slots] at X' l1 y1 z1 st' hq
  subst l1 y1 z1
  exact own_go (fun t k => st'.trans k) (k T' v Lc X' hq)
end OwnHeap
/-- a body's contract, entered: the walk begins at pc 0 -/
theorem own_body {l : Launch} {x : MethodName} {bytes : ByteArray} {maxL : Nat} {ret : Option FieldType} {ws : List Jvm.Cond} {rm : Room} {C S : Nat} {Z : State} {as' : Array Value} {h0 : Heap} {q : Option Value → Heap → List Loc → Prop} (hx : plainFor x = true)
    {ls0 : List Slot} (hent : ∀ m : MethodId, entryFrame m as' maxL = mkF m 0 (Array.mk ls0) [])
    (body : ∀ (p : Program) (e : Env) (s : State) (m : MethodId) (below : List Frame) (meth : Method) (c : Code) (T : State), p.tables.exec = Jvm.exec → c.code = bytes → c.maxLocals = maxL → s.vm.findClass x.cls = some m.cls → meth.name = x.name → meth.locks = false → meth.sig.returnType = ret → Z.Warmed39 s.vm → Stand p l e rm s m as' below meth c T [] 0 0 → T.heap = h0 →
      own_Go p.tables e below (own_Fin s C S q) (T.setTop (mkF m 0 (Array.mk ls0) []))) :
    MetFree l x (head1 (Jvm.Cond.code x bytes maxL ret :: ws) rm) (fun a U => a = as' ∧ Z.Warmed39 U.vm ∧ U.heap = h0) (fun _ _ _ _ _ => True) (fun _ U o U' => own_Fin U C S q o U') := by
  refine MetFree.of_bodySF hx hisR ?_
  intro p e s m args below meth c s₁ Bd hml0 hP hK
  obtain ⟨rfl, hZ, hh⟩ := hP
  have e0 : s₁.heap = h0 := by rw [← hh, Bd.state]; rfl
  rw [hent m]
  exact body p e s m below meth c s₁ Bd.exec Bd.bytes hml0 (findClass_of_methodNamed Bd.named) (name_of_methodNamed Bd.named Bd.method).1 Bd.notSynchronized Bd.returns hZ (Stand.of_body Bd) e0
/-! OWN KIT 3: doubles by their value in units of 2^-1074; rounding is monotone; what is a whole number of 2^-g and small is exact -/
def own_z (a : UInt64) : Int := FP.Core.zval FP.Core.b64 (FP.Core.val64 a)
def own_num (a : UInt64) : Prop := FP.Core.val64 a ≠ .nan
theorem own_fin_num {a : UInt64} (h : FP.Core.DFin a) : own_num a := FP.Core.DFin.ne_nan h
theorem own_nn {a : UInt64} (h : own_num a) : Jvm.Free.Fl.NoNaN64 a := Jvm.Free.Fl.val64_no.mpr h
theorem own_cmp {a b : UInt64} (ha : own_num a) (hb : own_num b) : FP.dcmp a b = some (compare (own_z a) (own_z b)) := FP.Core.dcmp_zval ha hb
theorem own_lt {a b : UInt64} (ha : own_num a) (hb : own_num b) (h : own_z a < own_z b) : FP.dcmp a b = some .lt := FP.Core.dcmp_lt.mpr ⟨ha, hb, h⟩
theorem own_gt {a b : UInt64} (ha : own_num a) (hb : own_num b) (h : own_z b < own_z a) : FP.dcmp a b = some .gt := FP.Core.dcmp_gt.mpr ⟨ha, hb, h⟩
theorem own_eq {a b : UInt64} (ha : own_num a) (hb : own_num b) (h : own_z a = own_z b) : FP.dcmp a b = some .eq := FP.Core.dcmp_eq.mpr ⟨ha, hb, h⟩
theorem own_num_add {a b : UInt64} (ha : FP.Core.DFin a) (hb : FP.Core.DFin b) : own_num (FP.dadd a b) :=
  Jvm.Free.Fl.val64_no.mp (Jvm.Free.Fl.dadd_out (own_nn (own_fin_num ha)) (Jvm.Free.Fl.fin64_core.mpr hb))
theorem own_num_sub {a b : UInt64} (ha : FP.Core.DFin a) (hb : FP.Core.DFin b) : own_num (FP.dsub a b) :=
  Jvm.Free.Fl.val64_no.mp (Jvm.Free.Fl.dsub_out (own_nn (own_fin_num ha)) (Jvm.Free.Fl.fin64_core.mpr hb))
theorem own_num_mul {a b : UInt64} (ha : FP.Core.DFin a) (hb : FP.Core.DFin b) : own_num (FP.dmul a b) :=
  Jvm.Free.Fl.val64_no.mp (Jvm.Free.Fl.dmul_out (Jvm.Free.Fl.fin64_core.mpr ha) (Jvm.Free.Fl.fin64_core.mpr hb))
theorem own_num_div {a b : UInt64} (ha : own_num a) (hb : FP.Core.DFin b) (hz : own_z b ≠ 0) : own_num (FP.ddiv a b) := by
  refine Jvm.Free.Fl.val64_no.mp (Jvm.Free.Fl.ddiv_out (own_nn ha) (Jvm.Free.Fl.fin64_core.mpr hb) ((Jvm.Free.Fl.nz64_iff b).mpr fun q => hz ?_))
  exact (FP.Core.zval_eq_zero (own_fin_num hb)).mpr q
theorem own_add_le {a b v : UInt64} (ha : FP.Core.DFin a) (hb : FP.Core.DFin b) (hv : own_num v) (h : own_z a + own_z b ≤ own_z v) : own_z (FP.dadd a b) ≤ own_z v := by
  show FP.Core.zval FP.Core.b64 (FP.Core.val64 (FP.Core.dadd a b)) ≤ _
  rw [FP.Core.val64_dadd]
  exact FP.Core.sum_le FP.Core.good_b64 ha hb (FP.Core.val64_fits _) (FP.Core.val64_fits _) (FP.Core.val64_fits _) hv h
theorem own_add_ge {a b v : UInt64} (ha : FP.Core.DFin a) (hb : FP.Core.DFin b) (hv : own_num v) (h : own_z v ≤ own_z a + own_z b) : own_z v ≤ own_z (FP.dadd a b) := by
  show _ ≤ FP.Core.zval FP.Core.b64 (FP.Core.val64 (FP.Core.dadd a b))
  rw [FP.Core.val64_dadd]
  exact FP.Core.sum_ge FP.Core.good_b64 ha hb (FP.Core.val64_fits _) (FP.Core.val64_fits _) (FP.Core.val64_fits _) hv h
theorem own_neg_fin {b : UInt64} (hb : FP.Core.DFin b) : ∃ s c q, FP.Core.negate (FP.Core.val64 b) = .fin s c q := by
  obtain ⟨s, c, q, e⟩ := hb
  exact ⟨!s, c, q, by rw [e]; rfl⟩
theorem own_sub_le {a b v : UInt64} (ha : FP.Core.DFin a) (hb : FP.Core.DFin b) (hv : own_num v) (h : own_z a - own_z b ≤ own_z v) : own_z (FP.dsub a b) ≤ own_z v := by
  show FP.Core.zval FP.Core.b64 (FP.Core.val64 (FP.Core.dsub a b)) ≤ _
  rw [FP.Core.val64_dsub]
  exact FP.Core.sum_le FP.Core.good_b64 ha (own_neg_fin hb) (FP.Core.val64_fits _) (FP.Core.negate_fits (FP.Core.val64_fits _)) (FP.Core.val64_fits _) hv (by rw [FP.Core.zval_negate]; exact h)
theorem own_sub_ge {a b v : UInt64} (ha : FP.Core.DFin a) (hb : FP.Core.DFin b) (hv : own_num v) (h : own_z v ≤ own_z a - own_z b) : own_z v ≤ own_z (FP.dsub a b) := by
  show _ ≤ FP.Core.zval FP.Core.b64 (FP.Core.val64 (FP.Core.dsub a b))
  rw [FP.Core.val64_dsub]
  exact FP.Core.sum_ge FP.Core.good_b64 ha (own_neg_fin hb) (FP.Core.val64_fits _) (FP.Core.negate_fits (FP.Core.val64_fits _)) (FP.Core.val64_fits _) hv (by rw [FP.Core.zval_negate]; exact h)
theorem own_pow1 : 2 ^ (FP.Core.b64.qmin - 2 * FP.Core.b64.qmin).toNat = FP.Core.one64 := by
  rw [← FP.Core.pow_qmin64, FP.Core.qmin_b64]; rfl
theorem own_mul_le {a b v : UInt64} (ha : FP.Core.DFin a) (hb : FP.Core.DFin b) (hv : own_num v) (h : own_z a * own_z b ≤ own_z v * (FP.Core.one64 : Int)) : own_z (FP.dmul a b) ≤ own_z v := by
  obtain ⟨s, c, q, e1⟩ := ha
  obtain ⟨t, d, r, e2⟩ := hb
  have f1 : FP.Core.fits FP.Core.b64 (.fin s c q) := e1 ▸ FP.Core.val64_fits a
  have f2 : FP.Core.fits FP.Core.b64 (.fin t d r) := e2 ▸ FP.Core.val64_fits b
  obtain ⟨g1, g2, g3⟩ := FP.Core.product_units f1 f2
  show FP.Core.zval FP.Core.b64 (FP.Core.val64 (FP.Core.dmul a b)) ≤ FP.Core.zval FP.Core.b64 (FP.Core.val64 v)
  unfold own_z at h
  rw [FP.Core.val64_dmul, e1, e2, g1]
  rw [e1, e2] at h
  have hq := FP.Core.qmin_neg FP.Core.good_b64
  refine FP.Core.zval_round_le FP.Core.good_b64 (e0 := 2 * FP.Core.b64.qmin) (FP.Core.val64_fits v) hv (by omega) g2 ?_
  rw [g3, own_pow1, FP.Core.signed_xor]
  exact h
theorem own_mul_ge {a b v : UInt64} (ha : FP.Core.DFin a) (hb : FP.Core.DFin b) (hv : own_num v) (h : own_z v * (FP.Core.one64 : Int) ≤ own_z a * own_z b) : own_z v ≤ own_z (FP.dmul a b) := by
  obtain ⟨s, c, q, e1⟩ := ha
  obtain ⟨t, d, r, e2⟩ := hb
  have f1 : FP.Core.fits FP.Core.b64 (.fin s c q) := e1 ▸ FP.Core.val64_fits a
  have f2 : FP.Core.fits FP.Core.b64 (.fin t d r) := e2 ▸ FP.Core.val64_fits b
  obtain ⟨g1, g2, g3⟩ := FP.Core.product_units f1 f2
  show FP.Core.zval FP.Core.b64 (FP.Core.val64 v) ≤ FP.Core.zval FP.Core.b64 (FP.Core.val64 (FP.Core.dmul a b))
  unfold own_z at h
  rw [FP.Core.val64_dmul, e1, e2, g1]
  rw [e1, e2] at h
  have hq := FP.Core.qmin_neg FP.Core.good_b64
  refine FP.Core.zval_round_ge FP.Core.good_b64 (e0 := 2 * FP.Core.b64.qmin) (FP.Core.val64_fits v) hv (by omega) g2 ?_
  rw [g3, own_pow1, FP.Core.signed_xor]
  exact h
/-- the quotient's magnitude against a double's -/
theorem own_div_mag {a b v : UInt64} {s t : Bool} {c d : Nat} {q r : Int} (e1 : FP.Core.val64 a = .fin s c q) (e2 : FP.Core.val64 b = .fin t d r) (hd : 0 < d) (hv : own_num v) :
    FP.Core.val64 (FP.ddiv a b) = FP.Core.roundRatio FP.Core.b64 (s != t) c d (q - r) ∧
    (FP.Core.zmag FP.Core.b64 (FP.Core.val64 a) * FP.Core.one64 ≤ FP.Core.zmag FP.Core.b64 (FP.Core.val64 v) * FP.Core.zmag FP.Core.b64 (FP.Core.val64 b) → FP.Core.zmag FP.Core.b64 (FP.Core.val64 (FP.ddiv a b)) ≤ FP.Core.zmag FP.Core.b64 (FP.Core.val64 v)) ∧
    (FP.Core.zmag FP.Core.b64 (FP.Core.val64 v) * FP.Core.zmag FP.Core.b64 (FP.Core.val64 b) ≤ FP.Core.zmag FP.Core.b64 (FP.Core.val64 a) * FP.Core.one64 → FP.Core.zmag FP.Core.b64 (FP.Core.val64 v) ≤ FP.Core.zmag FP.Core.b64 (FP.Core.val64 (FP.ddiv a b))) := by
  have f1 : FP.Core.fits FP.Core.b64 (.fin s c q) := e1 ▸ FP.Core.val64_fits a
  have f2 : FP.Core.fits FP.Core.b64 (.fin t d r) := e2 ▸ FP.Core.val64_fits b
  have hq := FP.Core.qmin_b64
  have k1 := f1.2.1
  have k2 := f2.2.1
  have E : FP.Core.val64 (FP.ddiv a b) = FP.Core.roundRatio FP.Core.b64 (s != t) c d (q - r) := by
    show FP.Core.val64 (FP.Core.ddiv a b) = _
    rw [FP.Core.val64_ddiv, e1, e2]
    show (if d = 0 then _ else _) = _
    rw [if_neg (by omega)]
  have A1 : FP.Core.inUnits c (q - r) (FP.Core.b64.qmin - (r - FP.Core.b64.qmin)) = FP.Core.zmag FP.Core.b64 (FP.Core.val64 a) * FP.Core.one64 := by
    rw [e1]
    show c * 2 ^ _ = c * 2 ^ _ * 2 ^ 1074
    rw [Nat.mul_assoc, ← Nat.pow_add]
    congr 2
    omega
  have A2 : 2 ^ (FP.Core.b64.qmin - (FP.Core.b64.qmin - (r - FP.Core.b64.qmin))).toNat * d = FP.Core.zmag FP.Core.b64 (FP.Core.val64 b) := by
    rw [e2]
    show _ = d * 2 ^ _
    rw [Nat.mul_comm]
    congr 2
    omega
  refine ⟨E, fun h => ?_, fun h => ?_⟩
  · rw [E]
    refine FP.Core.zmag_roundRatio_le FP.Core.good_b64 (e0 := FP.Core.b64.qmin - (r - FP.Core.b64.qmin)) hd (FP.Core.val64_fits v) hv (by omega) (by omega) ?_
    rw [A1, Nat.mul_assoc, A2]; exact h
  · rw [E]
    refine FP.Core.zmag_roundRatio_ge FP.Core.good_b64 (e0 := FP.Core.b64.qmin - (r - FP.Core.b64.qmin)) hd (FP.Core.val64_fits v) (by omega) (by omega) ?_
    rw [A1, Nat.mul_assoc, A2]; exact h
theorem own_signed_cases (s : Bool) (m : Nat) : (s = false ∧ FP.Core.signed s m = (m : Int)) ∨ (s = true ∧ FP.Core.signed s m = -(m : Int)) := by
  cases s
  · exact Or.inl ⟨rfl, rfl⟩
  · exact Or.inr ⟨rfl, rfl⟩
theorem own_div_le {a b v : UInt64} (ha : FP.Core.DFin a) (hb : FP.Core.DFin b) (hv : own_num v) (hp : 0 < own_z b) (h : own_z a * (FP.Core.one64 : Int) ≤ own_z v * own_z b) : own_z (FP.ddiv a b) ≤ own_z v := by
  obtain ⟨s, c, q, e1⟩ := ha
  obtain ⟨t, d, r, e2⟩ := hb
  have hz : own_z b = FP.Core.signed t (FP.Core.zmag FP.Core.b64 (FP.Core.val64 b)) := by unfold own_z FP.Core.zval; rw [e2]; rfl
  have ht : t = false := by
    rcases own_signed_cases t (FP.Core.zmag FP.Core.b64 (FP.Core.val64 b)) with q | q
    · exact q.1
    · rw [hz, q.2] at hp; omega
  subst ht
  have hz' : own_z b = (FP.Core.zmag FP.Core.b64 (FP.Core.val64 b) : Int) := hz
  have hd : 0 < d := by
    rcases Nat.eq_zero_or_pos d with q0 | q0
    · subst q0
      rw [hz', e2] at hp
      have : FP.Core.zmag FP.Core.b64 (.fin false 0 r) = 0 := Nat.zero_mul _
      rw [this] at hp; omega
    · exact q0
  obtain ⟨E, L, G⟩ := own_div_mag (v := v) e1 e2 hd hv
  have hsr : FP.Core.sgn (FP.Core.val64 (FP.ddiv a b)) = s := by rw [E, FP.Core.sgn_roundRatio]; cases s <;> rfl
  have za : own_z a = FP.Core.signed s (FP.Core.zmag FP.Core.b64 (FP.Core.val64 a)) := by unfold own_z FP.Core.zval; rw [e1]; rfl
  have zr : own_z (FP.ddiv a b) = FP.Core.signed s (FP.Core.zmag FP.Core.b64 (FP.Core.val64 (FP.ddiv a b))) := by unfold own_z FP.Core.zval; rw [hsr]
  have zv : own_z v = FP.Core.signed (FP.Core.sgn (FP.Core.val64 v)) (FP.Core.zmag FP.Core.b64 (FP.Core.val64 v)) := rfl
  rw [za, hz'] at h
  rw [hz'] at hp
  rw [zr]
  generalize FP.Core.zmag FP.Core.b64 (FP.Core.val64 (FP.ddiv a b)) = R at *
  generalize FP.Core.zmag FP.Core.b64 (FP.Core.val64 a) = A at *
  generalize FP.Core.zmag FP.Core.b64 (FP.Core.val64 b) = B at *
  generalize FP.Core.zmag FP.Core.b64 (FP.Core.val64 v) = V at *
  have hU := FP.Core.one64_pos
  generalize FP.Core.one64 = U at *
  rcases own_signed_cases s A with ⟨rfl, h1⟩ | ⟨rfl, h1⟩
  · rw [h1] at h
    have hn : 0 ≤ own_z v := by
      rcases Int.lt_or_le (own_z v) 0 with q | q
      · have := Int.mul_neg_of_neg_of_pos q hp
        have := Int.mul_nonneg (Int.natCast_nonneg A) (Int.natCast_nonneg U)
        omega
      · exact q
    have hvV : own_z v = (V : Int) := by
      rcases own_signed_cases (FP.Core.sgn (FP.Core.val64 v)) V with q | q
      · rw [zv]; exact q.2
      · rw [zv, q.2] at hn; rw [zv, q.2]; omega
    rw [hvV] at h ⊢
    have := L (by exact_mod_cast h)
    show (R : Int) ≤ V
    omega
  · rw [h1] at h
    show -(R : Int) ≤ own_z v
    rcases Int.lt_or_le (own_z v) 0 with q | q
    · have hvV : own_z v = -(V : Int) := by
        rcases own_signed_cases (FP.Core.sgn (FP.Core.val64 v)) V with q' | q'
        · rw [zv, q'.2] at q; omega
        · rw [zv]; exact q'.2
      rw [hvV] at h ⊢
      rw [Int.neg_mul, Int.neg_mul] at h
      have := G (by exact_mod_cast (by omega : (V : Int) * B ≤ A * U))
      omega
    · omega
theorem own_div_ge {a b v : UInt64} (ha : FP.Core.DFin a) (hb : FP.Core.DFin b) (hv : own_num v) (hp : 0 < own_z b) (h : own_z v * own_z b ≤ own_z a * (FP.Core.one64 : Int)) : own_z v ≤ own_z (FP.ddiv a b) := by
  have nz : ∀ x : UInt64, own_z (FP.Core.dneg x) = -own_z x := fun x => by
    unfold own_z
    rw [FP.Core.val64_dneg, FP.Core.zval_negate]
  have nf : FP.Core.DFin (FP.Core.dneg a) := by
    obtain ⟨s, c, q, e⟩ := ha
    exact ⟨!s, c, q, by rw [FP.Core.val64_dneg, e]; rfl⟩
  have nn : own_num (FP.Core.dneg v) := by
    unfold own_num
    rw [FP.Core.val64_dneg]
    exact FP.Core.negate_ne_nan hv
  have q := own_div_le (a := FP.Core.dneg a) (v := FP.Core.dneg v) nf hb nn hp (by rw [nz, nz, Int.neg_mul, Int.neg_mul]; omega)
  have e : FP.ddiv (FP.Core.dneg a) b = FP.Core.dneg (FP.ddiv a b) := FP.Core.ddiv_dneg a b
  rw [e, nz, nz] at q
  omega
/-- a is the number N / 2^g -/
def own_D (g : Nat) (N : Int) (a : UInt64) : Prop := FP.Core.DFin a ∧ own_z a = N * ((2 ^ (1074 - g) : Nat) : Int)
theorem own_rep (g : Nat) (hg : g ≤ 1074) (N : Int) (hN : N.natAbs < 9007199254740992) : ∃ v, own_D g N v := by
  have hq := FP.Core.qmin_b64
  obtain ⟨c', q', e1, e2⟩ := FP.Core.round_exact FP.Core.good_b64 (decide (N < 0)) (c := N.natAbs) (q := -(g : Int)) (by rw [show (2 : Nat) ^ FP.Core.b64.p = 9007199254740992 from by decide]; exact hN) (by omega) (by rw [show FP.Core.b64.qmax = 971 from by decide]; omega)
  have e3 : FP.Core.val64 (FP.Core.of64 (FP.Core.round FP.Core.b64 (.fin (decide (N < 0)) N.natAbs (-(g : Int))))) = .fin (decide (N < 0)) c' q' := by
    rw [FP.Core.val64_of64 (FP.Core.round_fits FP.Core.good_b64 _), e1]
  refine ⟨_, ⟨_, _, _, e3⟩, ?_⟩
  unfold own_z
  rw [e3]
  show FP.Core.signed (decide (N < 0)) (FP.Core.inUnits c' q' FP.Core.b64.qmin) = _
  rw [e2]
  have e4 : FP.Core.inUnits N.natAbs (-(g : Int)) FP.Core.b64.qmin = N.natAbs * 2 ^ (1074 - g) := by
    show _ * 2 ^ _ = _
    rw [hq, show (-(g : Int) - -1074).toNat = 1074 - g by omega]
  rw [e4, FP.Core.signed_mul]
  congr 1
  rcases own_signed_cases (decide (N < 0)) N.natAbs with ⟨h1, h2⟩ | ⟨h1, h2⟩
  · rw [h2]
    have := of_decide_eq_false h1
    omega
  · rw [h2]
    have := of_decide_eq_true h1
    omega
theorem own_D.num {g : Nat} {N : Int} {a : UInt64} (h : own_D g N a) : own_num a := own_fin_num h.1
theorem own_u_pos (g : Nat) : (0 : Int) < ((2 ^ (1074 - g) : Nat) : Int) := by
  have := Nat.two_pow_pos (1074 - g)
  omega
theorem own_one (g : Nat) (hg : g ≤ 1074) : (FP.Core.one64 : Int) = ((2 ^ g : Nat) : Int) * ((2 ^ (1074 - g) : Nat) : Int) := by
  rw [← Int.natCast_mul, ← Nat.pow_add, show g + (1074 - g) = 1074 by omega]
  rfl
theorem own_fin_of {r c : UInt64} (hr : own_num r) (hc : FP.Core.DFin c) (h : own_z r = own_z c) : FP.Core.DFin r := by
  have h1 := FP.Core.DFin.zval_lt hc
  cases hv : FP.Core.val64 r with
  | nan => exact absurd hv hr
  | fin s c q => exact ⟨s, c, q, hv⟩
  | inf s =>
    exfalso
    unfold own_z FP.Core.zval at h
    rw [hv] at h
    have h2 := congrArg Int.natAbs h
    rw [FP.Core.natAbs_signed, FP.Core.natAbs_signed] at h2
    rw [← h2] at h1
    exact Nat.lt_irrefl _ h1
theorem own_D.of_le_ge {g : Nat} {N : Int} {r v : UInt64} (hr : own_num r) (hv : own_D g N v) (h1 : own_z r ≤ own_z v) (h2 : own_z v ≤ own_z r) : own_D g N r := by
  have e : own_z r = own_z v := by omega
  exact ⟨own_fin_of hr hv.1 e, e.trans hv.2⟩
theorem own_D.add {g : Nat} (hg : g ≤ 1074) {N M : Int} {a b : UInt64} (ha : own_D g N a) (hb : own_D g M b) (h : (N + M).natAbs < 9007199254740992) : own_D g (N + M) (FP.dadd a b) := by
  obtain ⟨v, hv⟩ := own_rep g hg _ h
  have e : own_z a + own_z b = own_z v := by rw [ha.2, hb.2, hv.2, Int.add_mul]
  exact own_D.of_le_ge (own_num_add ha.1 hb.1) hv (own_add_le ha.1 hb.1 hv.num (by omega)) (own_add_ge ha.1 hb.1 hv.num (by omega))
theorem own_D.sub {g : Nat} (hg : g ≤ 1074) {N M : Int} {a b : UInt64} (ha : own_D g N a) (hb : own_D g M b) (h : (N - M).natAbs < 9007199254740992) : own_D g (N - M) (FP.dsub a b) := by
  obtain ⟨v, hv⟩ := own_rep g hg _ h
  have e : own_z a - own_z b = own_z v := by rw [ha.2, hb.2, hv.2, Int.sub_mul]
  exact own_D.of_le_ge (own_num_sub ha.1 hb.1) hv (own_sub_le ha.1 hb.1 hv.num (by omega)) (own_sub_ge ha.1 hb.1 hv.num (by omega))
/-- the value of a product against K / 2^g -/
theorem own_mul_z {g : Nat} (hg : g ≤ 1074) {N M K : Int} {a b v : UInt64} (ha : own_D g N a) (hb : own_D g M b) (hv : own_D g K v) :
    (N * M ≤ K * ((2 ^ g : Nat) : Int) → own_z a * own_z b ≤ own_z v * (FP.Core.one64 : Int)) ∧ (K * ((2 ^ g : Nat) : Int) ≤ N * M → own_z v * (FP.Core.one64 : Int) ≤ own_z a * own_z b) := by
  rw [ha.2, hb.2, hv.2, own_one g hg]
  have hu := own_u_pos g
  generalize ((2 ^ (1074 - g) : Nat) : Int) = u at *
  generalize ((2 ^ g : Nat) : Int) = G at *
  have e1 : N * u * (M * u) = (N * M) * (u * u) := by rw [Int.mul_assoc, Int.mul_left_comm u M u, ← Int.mul_assoc N M]
  have e2 : K * u * (G * u) = (K * G) * (u * u) := by rw [Int.mul_assoc, Int.mul_left_comm u G u, ← Int.mul_assoc K G]
  rw [e1, e2]
  have hp : 0 ≤ u * u := Int.mul_nonneg (by omega) (by omega)
  exact ⟨fun h => Int.mul_le_mul_of_nonneg_right h hp, fun h => Int.mul_le_mul_of_nonneg_right h hp⟩
theorem own_D.mul {g : Nat} (hg : g ≤ 1074) {N M K : Int} {a b : UInt64} (ha : own_D g N a) (hb : own_D g M b) (e : N * M = K * ((2 ^ g : Nat) : Int)) (h : K.natAbs < 9007199254740992) : own_D g K (FP.dmul a b) := by
  obtain ⟨v, hv⟩ := own_rep g hg _ h
  have q := own_mul_z hg ha hb hv
  exact own_D.of_le_ge (own_num_mul ha.1 hb.1) hv (own_mul_le ha.1 hb.1 hv.num (q.1 (by omega))) (own_mul_ge ha.1 hb.1 hv.num (q.2 (by omega)))
theorem own_div_z {g : Nat} (hg : g ≤ 1074) {N M K : Int} {a b v : UInt64} (ha : own_D g N a) (hb : own_D g M b) (hv : own_D g K v) :
    (N * ((2 ^ g : Nat) : Int) ≤ K * M → own_z a * (FP.Core.one64 : Int) ≤ own_z v * own_z b) ∧ (K * M ≤ N * ((2 ^ g : Nat) : Int) → own_z v * own_z b ≤ own_z a * (FP.Core.one64 : Int)) := by
  rw [ha.2, hb.2, hv.2, own_one g hg]
  have hu := own_u_pos g
  generalize ((2 ^ (1074 - g) : Nat) : Int) = u at *
  generalize ((2 ^ g : Nat) : Int) = G at *
  have e1 : N * u * (G * u) = (N * G) * (u * u) := by rw [Int.mul_assoc, Int.mul_left_comm u G u, ← Int.mul_assoc N G]
  have e2 : K * u * (M * u) = (K * M) * (u * u) := by rw [Int.mul_assoc, Int.mul_left_comm u M u, ← Int.mul_assoc K M]
  rw [e1, e2]
  have hp : 0 ≤ u * u := Int.mul_nonneg (by omega) (by omega)
  exact ⟨fun h => Int.mul_le_mul_of_nonneg_right h hp, fun h => Int.mul_le_mul_of_nonneg_right h hp⟩
theorem own_D.pos {g : Nat} {M : Int} {b : UInt64} (hb : own_D g M b) (h : 0 < M) : 0 < own_z b := by
  rw [hb.2]
  exact Int.mul_pos h (own_u_pos g)
theorem own_D.ne {g : Nat} {M : Int} {b : UInt64} (hb : own_D g M b) (h : M ≠ 0) : own_z b ≠ 0 := by
  rw [hb.2]
  exact Int.mul_ne_zero h (by have := own_u_pos g; omega)
theorem own_D.div {g : Nat} (hg : g ≤ 1074) {N M K : Int} {a b : UInt64} (ha : own_D g N a) (hb : own_D g M b) (hM : 0 < M) (e : N * ((2 ^ g : Nat) : Int) = K * M) (h : K.natAbs < 9007199254740992) : own_D g K (FP.ddiv a b) := by
  obtain ⟨v, hv⟩ := own_rep g hg _ h
  have q := own_div_z hg ha hb hv
  exact own_D.of_le_ge (own_num_div ha.num hb.1 (hb.ne (by omega))) hv (own_div_le ha.1 hb.1 hv.num (hb.pos hM) (q.1 (by omega))) (own_div_ge ha.1 hb.1 hv.num (hb.pos hM) (q.2 (by omega)))
/-- bounds on a rounded quotient, by numbers K / 2^g -/
theorem own_div_hi {g : Nat} (hg : g ≤ 1074) {N M K : Int} {a b : UInt64} (ha : own_D g N a) (hb : own_D g M b) (hM : 0 < M) (h : N * ((2 ^ g : Nat) : Int) ≤ K * M) (hK : K.natAbs < 9007199254740992) : own_z (FP.ddiv a b) ≤ K * ((2 ^ (1074 - g) : Nat) : Int) := by
  obtain ⟨v, hv⟩ := own_rep g hg _ hK
  rw [← hv.2]
  exact own_div_le ha.1 hb.1 hv.num (hb.pos hM) ((own_div_z hg ha hb hv).1 h)
theorem own_div_lo {g : Nat} (hg : g ≤ 1074) {N M K : Int} {a b : UInt64} (ha : own_D g N a) (hb : own_D g M b) (hM : 0 < M) (h : K * M ≤ N * ((2 ^ g : Nat) : Int)) (hK : K.natAbs < 9007199254740992) : K * ((2 ^ (1074 - g) : Nat) : Int) ≤ own_z (FP.ddiv a b) := by
  obtain ⟨v, hv⟩ := own_rep g hg _ hK
  rw [← hv.2]
  exact own_div_ge ha.1 hb.1 hv.num (hb.pos hM) ((own_div_z hg ha hb hv).2 h)
/-- a number between two doubles' values is finite -/
theorem own_fin_btw {g : Nat} (hg : g ≤ 1074) {A B : Int} {r : UInt64} (hr : own_num r) (h1 : A * ((2 ^ (1074 - g) : Nat) : Int) ≤ own_z r) (h2 : own_z r ≤ B * ((2 ^ (1074 - g) : Nat) : Int)) (hA : A.natAbs < 9007199254740992) (hB : B.natAbs < 9007199254740992) : FP.Core.DFin r := by
  obtain ⟨va, ha⟩ := own_rep g hg _ hA
  obtain ⟨vb, hb⟩ := own_rep g hg _ hB
  rw [← ha.2] at h1
  rw [← hb.2] at h2
  cases hv : FP.Core.val64 r with
  | nan => exact absurd hv hr
  | fin s c q => exact ⟨s, c, q, hv⟩
  | inf s =>
    exfalso
    have la := FP.Core.DFin.zval_lt ha.1
    have lb := FP.Core.DFin.zval_lt hb.1
    have e : own_z r = FP.Core.signed s (FP.Core.b64.tails * 2 ^ (FP.Core.b64.exps - 2)) := by unfold own_z FP.Core.zval; rw [hv]; rfl
    have na : (own_z va).natAbs = FP.Core.zmag FP.Core.b64 (FP.Core.val64 va) := FP.Core.natAbs_signed _ _
    have nb : (own_z vb).natAbs = FP.Core.zmag FP.Core.b64 (FP.Core.val64 vb) := FP.Core.natAbs_signed _ _
    rw [← na] at la
    rw [← nb] at lb
    generalize FP.Core.b64.tails * 2 ^ (FP.Core.b64.exps - 2) = top at *
    rcases own_signed_cases s top with ⟨-, q⟩ | ⟨-, q⟩ <;> rw [q] at e <;> omega
theorem own_D.up {g : Nat} {N : Int} {a : UInt64} (h : own_D g N a) (j : Nat) (hj : g + j ≤ 1074) : own_D (g + j) (N * ((2 ^ j : Nat) : Int)) a := by
  refine ⟨h.1, ?_⟩
  rw [h.2, Int.mul_assoc, ← Int.natCast_mul, ← Nat.pow_add, show j + (1074 - (g + j)) = 1074 - g by omega]
theorem own_D.int {i : Int} {a : UInt64} (h : FP.Core.DInt i a) : own_D 0 i a := by
  refine ⟨?_, ?_⟩
  · have h' : FP.Core.Whole i (FP.Core.val64 a) := h
    cases hv : FP.Core.val64 a with
    | nan => rw [hv] at h'; exact h'.elim
    | inf s => rw [hv] at h'; exact h'.elim
    | fin s c q => exact ⟨s, c, q, hv⟩
  · exact FP.Core.DInt_zval h
theorem own_D.i2d (x : Int32) : own_D 0 x.toInt (FP.i2d x) := own_D.int (FP.Core.i2d_int x)
theorem own_D.l2d {x : Int64} (h : x.toInt.natAbs ≤ 9007199254740992) : own_D 0 x.toInt (FP.l2d x) := own_D.int (FP.Core.l2d_int h)
/-- an int at the granularity g -/
theorem own_D.i2dg (g : Nat) (hg : g ≤ 1074) (x : Int32) : own_D g (x.toInt * ((2 ^ g : Nat) : Int)) (FP.i2d x) := by
  have := (own_D.i2d x).up g (by omega)
  rw [Nat.zero_add] at this
  exact this
theorem own_D.l2dg (g : Nat) (hg : g ≤ 1074) {x : Int64} (h : x.toInt.natAbs ≤ 9007199254740992) : own_D g (x.toInt * ((2 ^ g : Nat) : Int)) (FP.l2d x) := by
  have := (own_D.l2d h).up g (by omega)
  rw [Nat.zero_add] at this
  exact this
theorem own_D.lt {g : Nat} {N M : Int} {a b : UInt64} (ha : own_D g N a) (hb : own_D g M b) (h : N < M) : FP.dcmp a b = some .lt := own_lt ha.num hb.num (by rw [ha.2, hb.2]; exact Int.mul_lt_mul_of_pos_right h (own_u_pos g))
theorem own_D.gt {g : Nat} {N M : Int} {a b : UInt64} (ha : own_D g N a) (hb : own_D g M b) (h : M < N) : FP.dcmp a b = some .gt := own_gt ha.num hb.num (by rw [ha.2, hb.2]; exact Int.mul_lt_mul_of_pos_right h (own_u_pos g))
theorem own_D.eq {g : Nat} {N M : Int} {a b : UInt64} (ha : own_D g N a) (hb : own_D g M b) (h : N = M) : FP.dcmp a b = some .eq := own_eq ha.num hb.num (by rw [ha.2, hb.2, h])
theorem own_z_neg (a : UInt64) : own_z (FP.dneg a) = -own_z a := by
  unfold own_z
  rw [FP.val64_dneg, FP.Core.zval_negate]
theorem own_D.neg {g : Nat} {N : Int} {a : UInt64} (h : own_D g N a) : own_D g (-N) (FP.dneg a) := by
  refine ⟨?_, by rw [own_z_neg, h.2, Int.neg_mul]⟩
  obtain ⟨s, c, q, e⟩ := h.1
  exact ⟨!s, c, q, by rw [FP.val64_dneg, e]; rfl⟩
/-- (k t + r) / t, rounded, against k + c / 2^g -/
theorem own_quot {g : Nat} (hg : g ≤ 1074) {k r : Int} {T : Int64} {t : Int32} (hT : T.toInt = k * t.toInt + r) (hb : T.toInt.natAbs ≤ 9007199254740992) (ht : 0 < t.toInt) :
    own_num (FP.ddiv (FP.l2d T) (FP.i2d t)) ∧
    (r = 0 → (k * ((2 ^ g : Nat) : Int)).natAbs < 9007199254740992 → own_D g (k * ((2 ^ g : Nat) : Int)) (FP.ddiv (FP.l2d T) (FP.i2d t))) ∧
    (∀ c : Int, c * t.toInt ≤ r * ((2 ^ g : Nat) : Int) → (k * ((2 ^ g : Nat) : Int) + c).natAbs < 9007199254740992 → (k * ((2 ^ g : Nat) : Int) + c) * ((2 ^ (1074 - g) : Nat) : Int) ≤ own_z (FP.ddiv (FP.l2d T) (FP.i2d t))) ∧
    (∀ c : Int, r * ((2 ^ g : Nat) : Int) ≤ c * t.toInt → (k * ((2 ^ g : Nat) : Int) + c).natAbs < 9007199254740992 → own_z (FP.ddiv (FP.l2d T) (FP.i2d t)) ≤ (k * ((2 ^ g : Nat) : Int) + c) * ((2 ^ (1074 - g) : Nat) : Int)) ∧
    (∀ c : Int, r * ((2 ^ g : Nat) : Int) = c * t.toInt → (k * ((2 ^ g : Nat) : Int) + c).natAbs < 9007199254740992 → own_D g (k * ((2 ^ g : Nat) : Int) + c) (FP.ddiv (FP.l2d T) (FP.i2d t))) := by
  have d1 := own_D.l2dg g hg hb
  have d2 := own_D.i2dg g hg t
  have hG : (0 : Int) < ((2 ^ g : Nat) : Int) := by have := Nat.two_pow_pos g; omega
  have hM : 0 < t.toInt * ((2 ^ g : Nat) : Int) := Int.mul_pos ht hG
  have key : ∀ c : Int, (k * ((2 ^ g : Nat) : Int) + c) * (t.toInt * ((2 ^ g : Nat) : Int)) = (k * t.toInt * ((2 ^ g : Nat) : Int) + c * t.toInt) * ((2 ^ g : Nat) : Int) := by
    intro c
    rw [← Int.mul_assoc, Int.add_mul, Int.mul_right_comm]
  have key2 : T.toInt * ((2 ^ g : Nat) : Int) * ((2 ^ g : Nat) : Int) = (k * t.toInt * ((2 ^ g : Nat) : Int) + r * ((2 ^ g : Nat) : Int)) * ((2 ^ g : Nat) : Int) := by
    rw [hT, Int.add_mul (k * t.toInt)]
  have hn : own_num (FP.ddiv (FP.l2d T) (FP.i2d t)) := own_num_div d1.num d2.1 (d2.ne (by omega))
  have ex : ∀ c : Int, r * ((2 ^ g : Nat) : Int) = c * t.toInt → (k * ((2 ^ g : Nat) : Int) + c).natAbs < 9007199254740992 → own_D g (k * ((2 ^ g : Nat) : Int) + c) (FP.ddiv (FP.l2d T) (FP.i2d t)) :=
    fun c h hc => d1.div hg d2 hM (by rw [key, key2, h]) hc
  refine ⟨hn, fun h0 hc => ?_, fun c h hc => ?_, fun c h hc => ?_, ex⟩
  · have := ex 0 (by rw [h0]; omega) (by rw [Int.add_zero]; exact hc)
    rwa [Int.add_zero] at this
  · refine own_div_lo hg d1 d2 hM ?_ hc
    rw [key, key2]
    exact Int.mul_le_mul_of_nonneg_right (by omega) (by omega)
  · refine own_div_hi hg d1 d2 hM ?_ hc
    rw [key, key2]
    exact Int.mul_le_mul_of_nonneg_right (by omega) (by omega)
theorem own_D.uniq {g : Nat} {N M : Int} {a b : UInt64} (ha : own_D g N a) (hb : own_D g M b) (e : N = M) (h : M ≠ 0) : a = b :=
  FP.Core.eq_bits (fun z => hb.ne h (FP.Core.DZero.zval z)) (ha.eq hb e)
/-! OWN KIT 4: ints and longs by their whole numbers -/
theorem own_and32 (x m : Int32) (h : 0 ≤ m.toInt) : 0 ≤ (x &&& m).toInt ∧ (x &&& m).toInt ≤ m.toInt := by
  have e : (x &&& m).toBitVec.toNat = x.toBitVec.toNat &&& m.toBitVec.toNat := by
    show (x.toBitVec &&& m.toBitVec).toNat = _
    rw [BitVec.toNat_and]
  have h1 : x.toBitVec.toNat &&& m.toBitVec.toNat ≤ m.toBitVec.toNat := Nat.and_le_right
  have h2 := m.toBitVec.isLt
  have h3 : 0 ≤ m.toBitVec.toInt := h
  show 0 ≤ (x &&& m).toBitVec.toInt ∧ (x &&& m).toBitVec.toInt ≤ m.toBitVec.toInt
  rw [BitVec.toInt_eq_toNat_cond] at h3 ⊢
  rw [BitVec.toInt_eq_toNat_cond, e]
  split at h3
  · rw [if_pos (by omega), if_pos (by omega)]; omega
  · omega
theorem own_and64 (x m : Int64) (h : 0 ≤ m.toInt) : 0 ≤ (x &&& m).toInt ∧ (x &&& m).toInt ≤ m.toInt := by
  have e : (x &&& m).toBitVec.toNat = x.toBitVec.toNat &&& m.toBitVec.toNat := by
    show (x.toBitVec &&& m.toBitVec).toNat = _
    rw [BitVec.toNat_and]
  have h1 : x.toBitVec.toNat &&& m.toBitVec.toNat ≤ m.toBitVec.toNat := Nat.and_le_right
  have h2 := m.toBitVec.isLt
  have h3 : 0 ≤ m.toBitVec.toInt := h
  show 0 ≤ (x &&& m).toBitVec.toInt ∧ (x &&& m).toBitVec.toInt ≤ m.toBitVec.toInt
  rw [BitVec.toInt_eq_toNat_cond] at h3 ⊢
  rw [BitVec.toInt_eq_toNat_cond, e]
  split at h3
  · rw [if_pos (by omega), if_pos (by omega)]; omega
  · omega
theorem own_rng32 (x : Int32) : -2147483648 ≤ x.toInt ∧ x.toInt < 2147483648 := ⟨Int32.le_toInt x, Int32.toInt_lt x⟩
theorem own_rng64 (x : Int64) : -9223372036854775808 ≤ x.toInt ∧ x.toInt < 9223372036854775808 := ⟨Int64.le_toInt x, Int64.toInt_lt x⟩
theorem own_i2l (x : Int32) : x.toInt64.toInt = x.toInt := Int32.toInt_toInt64 x
theorem own_add64 {a b : Int64} (h : -9223372036854775808 ≤ a.toInt + b.toInt) (h' : a.toInt + b.toInt < 9223372036854775808) : (a + b).toInt = a.toInt + b.toInt := FP.Core.int64_add h h'
theorem own_sub64 {a b : Int64} (h : -9223372036854775808 ≤ a.toInt - b.toInt) (h' : a.toInt - b.toInt < 9223372036854775808) : (a - b).toInt = a.toInt - b.toInt := FP.Core.int64_sub h h'
theorem own_mul64 {a b : Int64} (h : -9223372036854775808 ≤ a.toInt * b.toInt) (h' : a.toInt * b.toInt < 9223372036854775808) : (a * b).toInt = a.toInt * b.toInt := FP.Core.int64_mul h h'
theorem own_add32 {a b : Int32} (h : -2147483648 ≤ a.toInt + b.toInt) (h' : a.toInt + b.toInt < 2147483648) : (a + b).toInt = a.toInt + b.toInt := by
  rw [Int32.toInt_add, Int.bmod_eq_of_le (by omega) (by omega)]
theorem own_sub32 {a b : Int32} (h : -2147483648 ≤ a.toInt - b.toInt) (h' : a.toInt - b.toInt < 2147483648) : (a - b).toInt = a.toInt - b.toInt := by
  rw [Int32.toInt_sub, Int.bmod_eq_of_le (by omega) (by omega)]
theorem own_mul32 {a b : Int32} (h : -2147483648 ≤ a.toInt * b.toInt) (h' : a.toInt * b.toInt < 2147483648) : (a * b).toInt = a.toInt * b.toInt := by
  rw [Int32.toInt_mul, Int.bmod_eq_of_le (by omega) (by omega)]
theorem own_rem32 (a b : Int32) : (a % b).toInt = a.toInt.tmod b.toInt := Int32.toInt_mod a b
theorem own_rem_pos {a b : Int32} (ha : 0 ≤ a.toInt) (hb : 0 < b.toInt) : 0 ≤ (a % b).toInt ∧ (a % b).toInt < b.toInt := by
  rw [own_rem32, Int.tmod_eq_emod_of_nonneg ha]
  exact ⟨Int.emod_nonneg _ (by omega), Int.emod_lt_of_pos _ hb⟩
/-- what a comparison of doubles pushes -/
theorem own_cv_lt {a b : UInt64} (h : FP.dcmp a b = some .lt) (o : CmpOp) : (cmpValue (FP.dcmp a b) o).toInt = -1 := by rw [h]; rfl
theorem own_cv_eq {a b : UInt64} (h : FP.dcmp a b = some .eq) (o : CmpOp) : (cmpValue (FP.dcmp a b) o).toInt = 0 := by rw [h]; rfl
theorem own_cv_gt {a b : UInt64} (h : FP.dcmp a b = some .gt) (o : CmpOp) : (cmpValue (FP.dcmp a b) o).toInt = 1 := by rw [h]; rfl
theorem own_z0 : own_D 0 0 0 := ⟨(FP.Core.fin_bits _).mpr (by decide +kernel), by decide +kernel⟩
theorem own_next (l : Int64) (d : Int32) (h1 : -3000000000 ≤ l.toInt) (h2 : l.toInt ≤ 3000000000) : (l + (d &&& (65535 : Int32)).toInt64 + (1 : Int64)).toInt = l.toInt + (d &&& (65535 : Int32)).toInt + 1 ∧ 0 ≤ (d &&& (65535 : Int32)).toInt ∧ (d &&& (65535 : Int32)).toInt ≤ 65535 := by
  have h3 := own_and32 d 65535 (by decide)
  have h4 : (65535 : Int32).toInt = 65535 := rfl
  have h5 : (1 : Int64).toInt = 1 := rfl
  have e1 : (l + (d &&& (65535 : Int32)).toInt64).toInt = l.toInt + (d &&& (65535 : Int32)).toInt := by rw [own_add64 (by rw [own_i2l]; omega) (by rw [own_i2l]; omega), own_i2l]
  refine ⟨?_, h3.1, by omega⟩
  rw [own_add64 (by rw [e1, h5]; omega) (by rw [e1, h5]; omega), e1, h5]
def tab0 : List (Nat × Instr) := [(0, .iload 4), (2, .iconst 3), (3, .iand), (4, .iconst 1), (5, .iadd), (6, .istore 5), (8, .iload 4), (10, .iconst 2), (11, .iushr), (12, .iconst 3), (13, .iand), (14, .iload 5), (16, .irem), (17, .istore 6), (19, .iload 4), (21, .bipush 16), (23, .iand), (24, .ifCond .eq 7), (27, .iconst 1), (28, .goto 4), (31, .iconst 0), (32, .istore 7), (34, .iload_n 0), (35, .i2l), (36, .lstore 8), (38, .lload 8), (40, .iload_n 1), (41, .ldc 7), (43, .iand), (44, .i2l), (45, .ladd), (46, .lconst 1), (47, .ladd), (48, .lstore 10), (50, .lload 10), (52, .iload_n 2), (53, .ldc 7), (55, .iand), (56, .i2l), (57, .ladd), (58, .lconst 1), (59, .ladd), (60, .lstore 12), (62, .lload 12), (64, .iload_n 3), (65, .ldc 7), (67, .iand), (68, .i2l), (69, .ladd), (70, .lconst 1), (71, .ladd), (72, .lstore 14), (74, .lload 8), (76, .l2d), (77, .dstore 16), (79, .lload 10), (81, .l2d), (82, .dstore 18), (84, .lload 12), (86, .l2d), (87, .dstore 20), (89, .lload 14), (91, .l2d), (92, .dstore 22), (94, .iload 5), (96, .iconst 1), (97, .if_icmp .ne 16), (100, .iconst 1), (101, .newarray .double), (103, .dup), (104, .iconst 0), (105, .dload 16), (107, .dastore), (108, .astore 24), (110, .goto 81), (113, .iload 5), (115, .iconst 2), (116, .if_icmp .ne 21), (119, .iconst 2), (120, .newarray .double), (122, .dup), (123, .iconst 0), (124, .dload 16), (126, .dastore), (127, .dup), (128, .iconst 1), (129, .dload 18), (131, .dastore), (132, .astore 24), (134, .goto 57), (137, .iload 5), (139, .iconst 3), (140, .if_icmp .ne 26), (143, .iconst 3), (144, .newarray .double), (146, .dup), (147, .iconst 0), (148, .dload 16), (150, .dastore), (151, .dup), (152, .iconst 1), (153, .dload 18), (155, .dastore), (156, .dup), (157, .iconst 2), (158, .dload 20), (160, .dastore), (161, .astore 24), (163, .goto 28), (166, .iconst 4), (167, .newarray .double), (169, .dup), (170, .iconst 0), (171, .dload 16), (173, .dastore), (174, .dup), (175, .iconst 1), (176, .dload 18), (178, .dastore), (179, .dup), (180, .iconst 2), (181, .dload 20), (183, .dastore), (184, .dup), (185, .iconst 3), (186, .dload 22), (188, .dastore), (189, .astore 24), (191, .iload 6), (193, .ifCond .ne 10), (196, .dload 16), (198, .dstore 25), (200, .goto 33), (203, .iload 6), (205, .iconst 1), (206, .if_icmp .ne 10), (209, .dload 18), (211, .dstore 25), (213, .goto 20), (216, .iload 6), (218, .iconst 2), (219, .if_icmp .ne 10), (222, .dload 20), (224, .dstore 25), (226, .goto 7), (229, .dload 22), (231, .dstore 25), (233, .dload 25), (235, .dstore 27), (237, .iload 7), (239, .ifCond .eq 15), (242, .dload 25), (244, .dconst 0), (245, .dcmp .l), (246, .ifCond .ne 8), (249, .dload 25), (251, .dneg), (252, .dstore 27), (254, .new 8), (257, .dup), (258, .aload 24), (260, .iconst 5), (261, .newarray .int), (263, .invokespecial 10), (266, .astore 29), (268, .aload 29), (270, .dload 27), (272, .invokevirtual 13), (275, .iload 6), (277, .if_icmp .ne 7), (280, .iconst 1), (281, .goto 4), (284, .iconst 0), (285, .ireturn)]
set_option maxRecDepth 65536 in
theorem dec0 : own_dec code tab0 := by
  show ∀ e ∈ tab0, decode code e.1 = .ok (e.2, own_len e.2)
  decide +kernel
theorem seq0 : own_seq tab0 = true := by decide +kernel
def kt0 : List (Nat × Value) := [(7, .int 65535)]
def ft0 : List (Nat × String × String × String) := []
theorem pn0 : plainName "com/example/binwright/binwright/binning/DistinctValuesIndexOfPinLaw" = true := by first | (simp [plainName, overriddenIn]; done) | decide +kernel
theorem pd0 : parseMethodDescriptor "(IIIII)Z" = some ⟨[.int, .int, .int, .int, .int], some .boolean⟩ := by decide +kernel
def tab1 : List (Nat × Instr) := [(0, .aload_n 0), (1, .invokespecial 1), (4, .aload_n 0), (5, .aload_n 1), (6, .putfield 7), (9, .aload_n 0), (10, .aload_n 2), (11, .putfield 13), (14, .return_)]
set_option maxRecDepth 65536 in
theorem dec1 : own_dec prog_6_method_1_code tab1 := by
  show ∀ e ∈ tab1, decode prog_6_method_1_code e.1 = .ok (e.2, own_len e.2)
  decide +kernel
theorem seq1 : own_seq tab1 = true := by decide +kernel
theorem d1_1 : decode prog_6_method_1_code 1 = .ok (.invokespecial 1, 3) := by decide +kernel
theorem d1_6 : decode prog_6_method_1_code 6 = .ok (.putfield 7, 3) := by decide +kernel
theorem d1_11 : decode prog_6_method_1_code 11 = .ok (.putfield 13, 3) := by decide +kernel
theorem d1_14 : decode prog_6_method_1_code 14 = .ok (.return_, 1) := by decide +kernel
def kt1 : List (Nat × Value) := []
def ft1 : List (Nat × String × String × String) := [(7, "com/example/binwright/binwright/binning/DistinctValues", "values", "[D"), (13, "com/example/binwright/binwright/binning/DistinctValues", "before", "[I")]
theorem pn1 : plainName "com/example/binwright/binwright/binning/DistinctValues" = true := by first | (simp [plainName, overriddenIn]; done) | decide +kernel
theorem pd1 : parseMethodDescriptor "([D[I)V" = some ⟨[(.array .double), (.array .int)], none⟩ := by decide +kernel
def tab2 : List (Nat × Instr) := [(0, .aload_n 0), (1, .invokespecial 1), (4, .return_)]
set_option maxRecDepth 65536 in
theorem dec2 : own_dec jdk_30_method_1_code tab2 := by
  show ∀ e ∈ tab2, decode jdk_30_method_1_code e.1 = .ok (e.2, own_len e.2)
  decide +kernel
theorem seq2 : own_seq tab2 = true := by decide +kernel
theorem d2_1 : decode jdk_30_method_1_code 1 = .ok (.invokespecial 1, 3) := by decide +kernel
theorem d2_4 : decode jdk_30_method_1_code 4 = .ok (.return_, 1) := by decide +kernel
def kt2 : List (Nat × Value) := []
def ft2 : List (Nat × String × String × String) := []
theorem pn2 : plainName "java/lang/Record" = true := by first | (simp [plainName, overriddenIn]; done) | decide +kernel
theorem pd2 : parseMethodDescriptor "()V" = some ⟨[], none⟩ := by decide +kernel
def tab4 : List (Nat × Instr) := [(0, .iconst 0), (1, .istore_n 3), (2, .aload_n 0), (3, .getfield 7), (6, .arraylength), (7, .iconst 1), (8, .isub), (9, .istore 4), (11, .iload_n 3), (12, .iload 4), (14, .if_icmp .ge 38), (17, .iload_n 3), (18, .iload 4), (20, .iadd), (21, .iconst 1), (22, .iushr), (23, .istore 5), (25, .aload_n 0), (26, .getfield 7), (29, .iload 5), (31, .daload), (32, .dload_n 1), (33, .dcmp .g), (34, .ifCond .ge 11), (37, .iload 5), (39, .iconst 1), (40, .iadd), (41, .istore_n 3), (42, .goto 7), (45, .iload 5), (47, .istore 4), (49, .goto (-38)), (52, .iload_n 3), (53, .ireturn)]
set_option maxRecDepth 65536 in
theorem dec4 : own_dec prog_6_method_3_code tab4 := by
  show ∀ e ∈ tab4, decode prog_6_method_3_code e.1 = .ok (e.2, own_len e.2)
  decide +kernel
theorem seq4 : own_seq tab4 = true := by decide +kernel
theorem d4_53 : decode prog_6_method_3_code 53 = .ok (.ireturn, 1) := by decide +kernel
def kt4 : List (Nat × Value) := []
def ft4 : List (Nat × String × String × String) := [(7, "com/example/binwright/binwright/binning/DistinctValues", "values", "[D"), (13, "com/example/binwright/binwright/binning/DistinctValues", "before", "[I")]
theorem pn4 : plainName "com/example/binwright/binwright/binning/DistinctValues" = true := by first | (simp [plainName, overriddenIn]; done) | decide +kernel
theorem pd4 : parseMethodDescriptor "(D)I" = some ⟨[.double], some .int⟩ := by decide +kernel
set_option maxRecDepth 65536 in
set_option maxHeartbeats 40000000 in
theorem rm2 (l : Launch) (Z : State) (a0 : Array Value) (hw : ∀ d ∈ tables_1, d.before a0 Z = true) (ws : List Jvm.Cond) (a : Addr) (h0 : Heap) (n0 : Nat) (Z0 : n0 ≤ h0.size)  :
    MetFree l (⟨"java/lang/Record", "<init>", "()V"⟩ : MethodName) (head1 (Jvm.Cond.code (⟨"java/lang/Record", "<init>", "()V"⟩ : MethodName) jdk_30_method_1_code 1 none :: ws) ({ frames := 1, cells := 0, slots := 0, locals := 12 } : Room)) (fun as_ U => as_ = #[.ref a] ∧ Z.Warmed39 U.vm ∧ U.heap = h0) (fun _ _ _ _ _ => True) (fun _ U o U' => own_Fin U ({ frames := 1, cells := 0, slots := 0, locals := 12 } : Room).cells ({ frames := 1, cells := 0, slots := 0, locals := 12 } : Room).slots (fun v h L => v = none ∧ Fr n0 L ∧ h = h0) o U') := by
  refine own_body (plainFor_of_name pn2) (ls0 := [.val (.ref a)]) (fun m => by first | (simp [entryFrame, mkF, argsToLocals, Value.category, maxLocals]; done) | rfl) ?_
  intro p e s m below meth c T0 hx hby hml hown hnm hlk hret hZ X0 e0
  have hK : own_ks "java/lang/Record" a0 Z kt2 := trivial
  have hF : own_fs "java/lang/Record" a0 Z ft2 := trivial
  have N0 := Fr.nil n0
  refine own_blk dec2 seq2 hby hx hZ hown hK hF 1 [] [] X0 e0 ?_
  show own_Aft X0 h0 _ 1 [.val (.ref a)] [.ref a]
  refine fun T1 X1 eh1 => ?_
  refine own_initO X1 hx hZ hown (hw _ (List.mem_of_getElem? (i := 14) rfl)) (hw _ (List.mem_of_getElem? (i := 15) rfl)) (hw _ (List.mem_of_getElem? (i := 16) rfl)) eh1 (by rw [hml]; rfl) (hb hby d2_1) (by decide) 0 (Nat.le_of_eq rfl) (by decide) (fun T2 X2 eh2 => ?_)
  exact own_retV X2 hx hlk eh2 hret (hb hby d2_4) (by decide) (by decide) (⟨rfl, N0, rfl⟩)
set_option maxRecDepth 65536 in
set_option maxHeartbeats 40000000 in
theorem rm1 (l : Launch) (Z : State) (a0 : Array Value) (hw : ∀ d ∈ tables_1, d.before a0 Z = true) (ws : List Jvm.Cond) (a x1 x2 : Addr) (h0 : Heap) (n0 : Nat) (Z0 : n0 ≤ h0.size) (E0 : Exa Z h0 a "com/example/binwright/binwright/binning/DistinctValues") (na : n0 ≤ a) (F0_values : Fld Z h0 a "com/example/binwright/binwright/binning/DistinctValues" "values" "[D" .null) (F0_before : Fld Z h0 a "com/example/binwright/binwright/binning/DistinctValues" "before" "[I" .null) :
    MetFree l (⟨"com/example/binwright/binwright/binning/DistinctValues", "<init>", "([D[I)V"⟩ : MethodName) (head1 (Jvm.Cond.code (⟨"com/example/binwright/binwright/binning/DistinctValues", "<init>", "([D[I)V"⟩ : MethodName) prog_6_method_1_code 3 none :: ws) ({ frames := 2, cells := 0, slots := 0, locals := 24 } : Room)) (fun as_ U => as_ = #[.ref a, .ref x1, .ref x2] ∧ Z.Warmed39 U.vm ∧ U.heap = h0) (fun _ _ _ _ _ => True) (fun _ U o U' => own_Fin U ({ frames := 2, cells := 0, slots := 0, locals := 24 } : Room).cells ({ frames := 2, cells := 0, slots := 0, locals := 24 } : Room).slots (fun v h L => v = none ∧ Fr n0 L ∧ Keep h0 h [a] ∧ Exa Z h a "com/example/binwright/binwright/binning/DistinctValues" ∧ Fld Z h a "com/example/binwright/binwright/binning/DistinctValues" "values" "[D" (.ref x1) ∧ Fld Z h a "com/example/binwright/binwright/binning/DistinctValues" "before" "[I" (.ref x2)) o U') := by
  refine own_body (plainFor_of_name pn1) (ls0 := [.val (.ref a), .val (.ref x1), .val (.ref x2)]) (fun m => by first | (simp [entryFrame, mkF, argsToLocals, Value.category, maxLocals]; done) | rfl) ?_
  intro p e s m below meth c T0 hx hby hml hown hnm hlk hret hZ X0 e0
  have hK : own_ks "com/example/binwright/binwright/binning/DistinctValues" a0 Z kt1 := trivial
  have hF : own_fs "com/example/binwright/binwright/binning/DistinctValues" a0 Z ft1 := ⟨hw _ (List.mem_of_getElem? (i := 17) rfl), hw _ (List.mem_of_getElem? (i := 19) rfl), trivial⟩
  have N0 := Fr.nil n0
  have K0 := Keep.refl h0 [a]
  refine own_blk dec1 seq1 hby hx hZ hown hK hF 1 [] [] X0 e0 ?_
  show own_Aft X0 h0 _ 1 [.val (.ref a), .val (.ref x1), .val (.ref x2)] [.ref a]
  refine fun T1 X1 eh1 => ?_
  refine own_callI X1 hx hZ hown rfl (hw _ (List.mem_of_getElem? (i := 9) rfl)) (hw _ (List.mem_of_getElem? (i := 10) rfl)) (hw _ (List.mem_of_getElem? (i := 12) rfl)) (hw _ (List.mem_of_getElem? (i := 13) rfl)) (by decide) eh1 a [] pd2 rfl (rm := ({ frames := 1, cells := 0, slots := 0, locals := 12 } : Room)) (rm2 l Z a0 hw [] a h0 n0 Z0) (by rw [hml]; rfl) 0 rfl (Nat.le_of_eq rfl) (hb hby d1_1) (by decide) (by decide) (by decide) (by decide) (fun T2 rv2 Lc2 X2 qc2 => ?_)
  obtain ⟨rfl, M0, hh⟩ := qc2
  show own_Go p.tables e below _ (T2.setTop (mkF m 4 (Array.mk [.val (.ref a), .val (.ref x1), .val (.ref x2)]) []))
  have N0 := Fr.app N0 M0
  refine own_blk dec1 seq1 hby hx hZ hown hK hF 2 [] [] X2 hh ?_
  show own_Aft X2 h0 _ 6 [.val (.ref a), .val (.ref x1), .val (.ref x2)] [.ref x1, .ref a]
  refine fun T3 X3 eh3 => ?_
  refine own_putF X3 hx hZ hown (hw _ (List.mem_of_getElem? (i := 17) rfl)) eh3 F0_values E0 (Or.inr ⟨(hw _ (List.mem_of_getElem? (i := 18) rfl)), rfl, hnm⟩) (hw _ (List.mem_of_getElem? (i := 3) rfl)) (ty := (.array .double)) (by decide) rfl rfl (hb hby d1_6) (fun T4 hp4 X4 eh4 Wr4 Fd4 Ea4 => ?_)
  have F0_before_4 := Fld.other Wr4 F0_before (Or.inr (slot_ne (Or.inr (hw _ (List.mem_of_getElem? (i := 20) rfl))) (Or.inr (hw _ (List.mem_of_getElem? (i := 18) rfl))) (by decide) (t := (.array .int)) (t' := (.array .double)) (by decide) (by decide)))
  have Nf4 := Fr.snoc X4 N0 na
  have Z_4 : n0 ≤ hp4.size := by rw [Wr.size Wr4]; exact Z0
  have K_4 := Keep.wr K0 Wr4 (Or.inl (List.mem_of_getElem? (i := 0) rfl))
  refine own_blk dec1 seq1 hby hx hZ hown hK hF 2 [] [] X4 eh4 ?_
  show own_Aft X4 hp4 _ 11 [.val (.ref a), .val (.ref x1), .val (.ref x2)] [.ref x2, .ref a]
  refine fun T5 X5 eh5 => ?_
  refine own_putF X5 hx hZ hown (hw _ (List.mem_of_getElem? (i := 19) rfl)) eh5 F0_before_4 Ea4 (Or.inr ⟨(hw _ (List.mem_of_getElem? (i := 20) rfl)), rfl, hnm⟩) (hw _ (List.mem_of_getElem? (i := 3) rfl)) (ty := (.array .int)) (by decide) rfl rfl (hb hby d1_11) (fun T6 hp6 X6 eh6 Wr6 Fd6 Ea6 => ?_)
  have Fd4_6 := Fld.other Wr6 Fd4 (Or.inr (slot_ne (Or.inr (hw _ (List.mem_of_getElem? (i := 18) rfl))) (Or.inr (hw _ (List.mem_of_getElem? (i := 20) rfl))) (by decide) (t := (.array .double)) (t' := (.array .int)) (by decide) (by decide)))
  have Nf6 := Fr.snoc X6 Nf4 na
  have Z_6 : n0 ≤ hp6.size := by rw [Wr.size Wr6]; exact Z_4
  have K_6 := Keep.wr K_4 Wr6 (Or.inl (List.mem_of_getElem? (i := 0) rfl))
  exact own_retV X6 hx hlk eh6 hret (hb hby d1_14) (by decide) (by decide) (⟨rfl, Nf6, K_6, Ea6, Fd4_6, Fd6⟩)
set_option maxRecDepth 65536 in
set_option maxHeartbeats 40000000 in
theorem rm4_1_0 (l : Launch) (Z : State) (a0 : Array Value) (hw : ∀ d ∈ tables_1, d.before a0 Z = true) (ws : List Jvm.Cond) (a va : Addr) (qq : UInt64) (v0 : UInt64) (m0 : Int) (h0 : Heap) (n0 : Nat) (Z0 : n0 ≤ h0.size) (F1 : Fld Z h0 a "com/example/binwright/binwright/binning/DistinctValues" "values" "[D" (.ref va)) (A1 : own_A Z h0 va .double [.double v0]) (Dq : own_D 0 m0 qq) (D0 : own_D 0 m0 v0) :
    MetFree l (⟨"com/example/binwright/binwright/binning/DistinctValues", "indexOf", "(D)I"⟩ : MethodName) (head1 (Jvm.Cond.code (⟨"com/example/binwright/binwright/binning/DistinctValues", "indexOf", "(D)I"⟩ : MethodName) prog_6_method_3_code 6 (some .int) :: ws) ({ frames := 0, cells := 0, slots := 0, locals := 0 } : Room)) (fun as_ U => as_ = #[.ref a, .double qq] ∧ Z.Warmed39 U.vm ∧ U.heap = h0) (fun _ _ _ _ _ => True) (fun _ U o U' => own_Fin U ({ frames := 0, cells := 0, slots := 0, locals := 0 } : Room).cells ({ frames := 0, cells := 0, slots := 0, locals := 0 } : Room).slots (fun v h L => v = some (.int 0) ∧ Fr n0 L ∧ h = h0) o U') := by
  refine own_body (plainFor_of_name pn4) (ls0 := [.val (.ref a), .val (.double qq), .second, .unset, .unset, .unset]) (fun m => by first | (simp [entryFrame, mkF, argsToLocals, Value.category, maxLocals]; done) | rfl) ?_
  intro p e s m below meth c T0 hx hby hml hown hnm hlk hret hZ X0 e0
  have hK : own_ks "com/example/binwright/binwright/binning/DistinctValues" a0 Z kt4 := trivial
  have hF : own_fs "com/example/binwright/binwright/binning/DistinctValues" a0 Z ft4 := ⟨hw _ (List.mem_of_getElem? (i := 17) rfl), hw _ (List.mem_of_getElem? (i := 19) rfl), trivial⟩
  have N0 := Fr.nil n0
  refine own_blk dec4 seq4 hby hx hZ hown hK hF 12 [true] [.ref va, .int (1 : Int32)] X0 e0 ?_
  show (Fld Z h0 a "com/example/binwright/binwright/binning/DistinctValues" "values" "[D" (.ref va)) ∧ (own_ln Z h0 va (1 : Int32)) ∧ (((0 : Int32)).toInt ≤ ((0 : Int32)).toInt) ∧ own_Aft X0 h0 _ 53 [.val (.ref a), .val (.double qq), .second, .val (.int (0 : Int32)), .val (.int (0 : Int32)), .unset] [.int (0 : Int32)]
  refine ⟨F1, A1.ln (1 : Int32) rfl, by decide, fun T1 X1 eh1 => ?_⟩
  exact own_ret X1 hx hlk eh1 hret (by first | rfl | decide) (Or.inl ⟨rfl, by simp, _, rfl⟩) (hb hby d4_53) (by decide) (by decide) (⟨rfl, N0, rfl⟩)
set_option maxRecDepth 65536 in
set_option maxHeartbeats 40000000 in
theorem rm4_2_0 (l : Launch) (Z : State) (a0 : Array Value) (hw : ∀ d ∈ tables_1, d.before a0 Z = true) (ws : List Jvm.Cond) (a va : Addr) (qq : UInt64) (v0 : UInt64) (m0 : Int) (v1 : UInt64) (m1 : Int) (h0 : Heap) (n0 : Nat) (Z0 : n0 ≤ h0.size) (F1 : Fld Z h0 a "com/example/binwright/binwright/binning/DistinctValues" "values" "[D" (.ref va)) (A1 : own_A Z h0 va .double [.double v0, .double v1]) (Dq : own_D 0 m0 qq) (D0 : own_D 0 m0 v0) (D1 : own_D 0 m1 v1) (u0 : m0 < m1) :
    MetFree l (⟨"com/example/binwright/binwright/binning/DistinctValues", "indexOf", "(D)I"⟩ : MethodName) (head1 (Jvm.Cond.code (⟨"com/example/binwright/binwright/binning/DistinctValues", "indexOf", "(D)I"⟩ : MethodName) prog_6_method_3_code 6 (some .int) :: ws) ({ frames := 0, cells := 0, slots := 0, locals := 0 } : Room)) (fun as_ U => as_ = #[.ref a, .double qq] ∧ Z.Warmed39 U.vm ∧ U.heap = h0) (fun _ _ _ _ _ => True) (fun _ U o U' => own_Fin U ({ frames := 0, cells := 0, slots := 0, locals := 0 } : Room).cells ({ frames := 0, cells := 0, slots := 0, locals := 0 } : Room).slots (fun v h L => v = some (.int 0) ∧ Fr n0 L ∧ h = h0) o U') := by
  refine own_body (plainFor_of_name pn4) (ls0 := [.val (.ref a), .val (.double qq), .second, .unset, .unset, .unset]) (fun m => by first | (simp [entryFrame, mkF, argsToLocals, Value.category, maxLocals]; done) | rfl) ?_
  intro p e s m below meth c T0 hx hby hml hown hnm hlk hret hZ X0 e0
  have hK : own_ks "com/example/binwright/binwright/binning/DistinctValues" a0 Z kt4 := trivial
  have hF : own_fs "com/example/binwright/binwright/binning/DistinctValues" a0 Z ft4 := ⟨hw _ (List.mem_of_getElem? (i := 17) rfl), hw _ (List.mem_of_getElem? (i := 19) rfl), trivial⟩
  have N0 := Fr.nil n0
  refine own_blk dec4 seq4 hby hx hZ hown hK hF 12 [false] [.ref va, .int (2 : Int32)] X0 e0 ?_
  show (Fld Z h0 a "com/example/binwright/binwright/binning/DistinctValues" "values" "[D" (.ref va)) ∧ (own_ln Z h0 va (2 : Int32)) ∧ (¬ (((1 : Int32)).toInt ≤ ((0 : Int32)).toInt)) ∧ own_Aft X0 h0 _ 18 [.val (.ref a), .val (.double qq), .second, .val (.int (0 : Int32)), .val (.int (1 : Int32)), .unset] [.int (0 : Int32)]
  refine ⟨F1, A1.ln (2 : Int32) rfl, by decide, fun T1 X1 eh1 => ?_⟩
  refine own_blk dec4 seq4 hby hx hZ hown hK hF 12 [true] [.ref va, .double v0] X1 eh1 ?_
  show (Fld Z h0 a "com/example/binwright/binwright/binning/DistinctValues" "values" "[D" (.ref va)) ∧ (own_at Z h0 va .double (0 : Int32) (.double v0)) ∧ (0 ≤ (cmpValue (FP.dcmp v0 qq) .g).toInt) ∧ own_Aft X1 h0 _ 45 [.val (.ref a), .val (.double qq), .second, .val (.int (0 : Int32)), .val (.int (1 : Int32)), .val (.int (0 : Int32))] []
  refine ⟨F1, A1.at (0 : Int32) 0 rfl rfl, by rw [own_cv_eq (D0.eq Dq rfl)]; omega, fun T2 X2 eh2 => ?_⟩
  refine own_blk dec4 seq4 hby hx hZ hown hK hF 7 [true] [] X2 eh2 ?_
  show (((0 : Int32)).toInt ≤ ((0 : Int32)).toInt) ∧ own_Aft X2 h0 _ 53 [.val (.ref a), .val (.double qq), .second, .val (.int (0 : Int32)), .val (.int (0 : Int32)), .val (.int (0 : Int32))] [.int (0 : Int32)]
  refine ⟨by decide, fun T3 X3 eh3 => ?_⟩
  exact own_ret X3 hx hlk eh3 hret (by first | rfl | decide) (Or.inl ⟨rfl, by simp, _, rfl⟩) (hb hby d4_53) (by decide) (by decide) (⟨rfl, N0, rfl⟩)
set_option maxRecDepth 65536 in
set_option maxHeartbeats 40000000 in
theorem rm4_2_1 (l : Launch) (Z : State) (a0 : Array Value) (hw : ∀ d ∈ tables_1, d.before a0 Z = true) (ws : List Jvm.Cond) (a va : Addr) (qq : UInt64) (v0 : UInt64) (m0 : Int) (v1 : UInt64) (m1 : Int) (h0 : Heap) (n0 : Nat) (Z0 : n0 ≤ h0.size) (F1 : Fld Z h0 a "com/example/binwright/binwright/binning/DistinctValues" "values" "[D" (.ref va)) (A1 : own_A Z h0 va .double [.double v0, .double v1]) (Dq : own_D 0 m1 qq) (D0 : own_D 0 m0 v0) (D1 : own_D 0 m1 v1) (u0 : m0 < m1) :
    MetFree l (⟨"com/example/binwright/binwright/binning/DistinctValues", "indexOf", "(D)I"⟩ : MethodName) (head1 (Jvm.Cond.code (⟨"com/example/binwright/binwright/binning/DistinctValues", "indexOf", "(D)I"⟩ : MethodName) prog_6_method_3_code 6 (some .int) :: ws) ({ frames := 0, cells := 0, slots := 0, locals := 0 } : Room)) (fun as_ U => as_ = #[.ref a, .double qq] ∧ Z.Warmed39 U.vm ∧ U.heap = h0) (fun _ _ _ _ _ => True) (fun _ U o U' => own_Fin U ({ frames := 0, cells := 0, slots := 0, locals := 0 } : Room).cells ({ frames := 0, cells := 0, slots := 0, locals := 0 } : Room).slots (fun v h L => v = some (.int 1) ∧ Fr n0 L ∧ h = h0) o U') := by
  refine own_body (plainFor_of_name pn4) (ls0 := [.val (.ref a), .val (.double qq), .second, .unset, .unset, .unset]) (fun m => by first | (simp [entryFrame, mkF, argsToLocals, Value.category, maxLocals]; done) | rfl) ?_
  intro p e s m below meth c T0 hx hby hml hown hnm hlk hret hZ X0 e0
  have hK : own_ks "com/example/binwright/binwright/binning/DistinctValues" a0 Z kt4 := trivial
  have hF : own_fs "com/example/binwright/binwright/binning/DistinctValues" a0 Z ft4 := ⟨hw _ (List.mem_of_getElem? (i := 17) rfl), hw _ (List.mem_of_getElem? (i := 19) rfl), trivial⟩
  have N0 := Fr.nil n0
  refine own_blk dec4 seq4 hby hx hZ hown hK hF 12 [false] [.ref va, .int (2 : Int32)] X0 e0 ?_
  show (Fld Z h0 a "com/example/binwright/binwright/binning/DistinctValues" "values" "[D" (.ref va)) ∧ (own_ln Z h0 va (2 : Int32)) ∧ (¬ (((1 : Int32)).toInt ≤ ((0 : Int32)).toInt)) ∧ own_Aft X0 h0 _ 18 [.val (.ref a), .val (.double qq), .second, .val (.int (0 : Int32)), .val (.int (1 : Int32)), .unset] [.int (0 : Int32)]
  refine ⟨F1, A1.ln (2 : Int32) rfl, by decide, fun T1 X1 eh1 => ?_⟩
  refine own_blk dec4 seq4 hby hx hZ hown hK hF 12 [false] [.ref va, .double v0] X1 eh1 ?_
  show (Fld Z h0 a "com/example/binwright/binwright/binning/DistinctValues" "values" "[D" (.ref va)) ∧ (own_at Z h0 va .double (0 : Int32) (.double v0)) ∧ (¬ (0 ≤ (cmpValue (FP.dcmp v0 qq) .g).toInt)) ∧ own_Aft X1 h0 _ 37 [.val (.ref a), .val (.double qq), .second, .val (.int (0 : Int32)), .val (.int (1 : Int32)), .val (.int (0 : Int32))] []
  refine ⟨F1, A1.at (0 : Int32) 0 rfl rfl, by rw [own_cv_lt (D0.lt Dq (by omega))]; omega, fun T2 X2 eh2 => ?_⟩
  refine own_blk dec4 seq4 hby hx hZ hown hK hF 10 [true] [] X2 eh2 ?_
  show (((1 : Int32)).toInt ≤ ((1 : Int32)).toInt) ∧ own_Aft X2 h0 _ 53 [.val (.ref a), .val (.double qq), .second, .val (.int (1 : Int32)), .val (.int (1 : Int32)), .val (.int (0 : Int32))] [.int (1 : Int32)]
  refine ⟨by decide, fun T3 X3 eh3 => ?_⟩
  exact own_ret X3 hx hlk eh3 hret (by first | rfl | decide) (Or.inl ⟨rfl, by simp, _, rfl⟩) (hb hby d4_53) (by decide) (by decide) (⟨rfl, N0, rfl⟩)
set_option maxRecDepth 65536 in
set_option maxHeartbeats 40000000 in
theorem rm4_3_0 (l : Launch) (Z : State) (a0 : Array Value) (hw : ∀ d ∈ tables_1, d.before a0 Z = true) (ws : List Jvm.Cond) (a va : Addr) (qq : UInt64) (v0 : UInt64) (m0 : Int) (v1 : UInt64) (m1 : Int) (v2 : UInt64) (m2 : Int) (h0 : Heap) (n0 : Nat) (Z0 : n0 ≤ h0.size) (F1 : Fld Z h0 a "com/example/binwright/binwright/binning/DistinctValues" "values" "[D" (.ref va)) (A1 : own_A Z h0 va .double [.double v0, .double v1, .double v2]) (Dq : own_D 0 m0 qq) (D0 : own_D 0 m0 v0) (D1 : own_D 0 m1 v1) (D2 : own_D 0 m2 v2) (u0 : m0 < m1) (u1 : m1 < m2) :
    MetFree l (⟨"com/example/binwright/binwright/binning/DistinctValues", "indexOf", "(D)I"⟩ : MethodName) (head1 (Jvm.Cond.code (⟨"com/example/binwright/binwright/binning/DistinctValues", "indexOf", "(D)I"⟩ : MethodName) prog_6_method_3_code 6 (some .int) :: ws) ({ frames := 0, cells := 0, slots := 0, locals := 0 } : Room)) (fun as_ U => as_ = #[.ref a, .double qq] ∧ Z.Warmed39 U.vm ∧ U.heap = h0) (fun _ _ _ _ _ => True) (fun _ U o U' => own_Fin U ({ frames := 0, cells := 0, slots := 0, locals := 0 } : Room).cells ({ frames := 0, cells := 0, slots := 0, locals := 0 } : Room).slots (fun v h L => v = some (.int 0) ∧ Fr n0 L ∧ h = h0) o U') := by
  refine own_body (plainFor_of_name pn4) (ls0 := [.val (.ref a), .val (.double qq), .second, .unset, .unset, .unset]) (fun m => by first | (simp [entryFrame, mkF, argsToLocals, Value.category, maxLocals]; done) | rfl) ?_
  intro p e s m below meth c T0 hx hby hml hown hnm hlk hret hZ X0 e0
  have hK : own_ks "com/example/binwright/binwright/binning/DistinctValues" a0 Z kt4 := trivial
  have hF : own_fs "com/example/binwright/binwright/binning/DistinctValues" a0 Z ft4 := ⟨hw _ (List.mem_of_getElem? (i := 17) rfl), hw _ (List.mem_of_getElem? (i := 19) rfl), trivial⟩
  have N0 := Fr.nil n0
  refine own_blk dec4 seq4 hby hx hZ hown hK hF 12 [false] [.ref va, .int (3 : Int32)] X0 e0 ?_
  show (Fld Z h0 a "com/example/binwright/binwright/binning/DistinctValues" "values" "[D" (.ref va)) ∧ (own_ln Z h0 va (3 : Int32)) ∧ (¬ (((2 : Int32)).toInt ≤ ((0 : Int32)).toInt)) ∧ own_Aft X0 h0 _ 18 [.val (.ref a), .val (.double qq), .second, .val (.int (0 : Int32)), .val (.int (2 : Int32)), .unset] [.int (0 : Int32)]
  refine ⟨F1, A1.ln (3 : Int32) rfl, by decide, fun T1 X1 eh1 => ?_⟩
  refine own_blk dec4 seq4 hby hx hZ hown hK hF 12 [true] [.ref va, .double v1] X1 eh1 ?_
  show (Fld Z h0 a "com/example/binwright/binwright/binning/DistinctValues" "values" "[D" (.ref va)) ∧ (own_at Z h0 va .double (1 : Int32) (.double v1)) ∧ (0 ≤ (cmpValue (FP.dcmp v1 qq) .g).toInt) ∧ own_Aft X1 h0 _ 45 [.val (.ref a), .val (.double qq), .second, .val (.int (0 : Int32)), .val (.int (2 : Int32)), .val (.int (1 : Int32))] []
  refine ⟨F1, A1.at (1 : Int32) 1 rfl rfl, by rw [own_cv_gt (D1.gt Dq (by omega))]; omega, fun T2 X2 eh2 => ?_⟩
  refine own_blk dec4 seq4 hby hx hZ hown hK hF 12 [false] [] X2 eh2 ?_
  show (¬ (((1 : Int32)).toInt ≤ ((0 : Int32)).toInt)) ∧ own_Aft X2 h0 _ 25 [.val (.ref a), .val (.double qq), .second, .val (.int (0 : Int32)), .val (.int (1 : Int32)), .val (.int (0 : Int32))] []
  refine ⟨by decide, fun T3 X3 eh3 => ?_⟩
  refine own_blk dec4 seq4 hby hx hZ hown hK hF 12 [true] [.ref va, .double v0] X3 eh3 ?_
  show (Fld Z h0 a "com/example/binwright/binwright/binning/DistinctValues" "values" "[D" (.ref va)) ∧ (own_at Z h0 va .double (0 : Int32) (.double v0)) ∧ (0 ≤ (cmpValue (FP.dcmp v0 qq) .g).toInt) ∧ own_Aft X3 h0 _ 14 [.val (.ref a), .val (.double qq), .second, .val (.int (0 : Int32)), .val (.int (0 : Int32)), .val (.int (0 : Int32))] [.int (0 : Int32), .int (0 : Int32)]
  refine ⟨F1, A1.at (0 : Int32) 0 rfl rfl, by rw [own_cv_eq (D0.eq Dq rfl)]; omega, fun T4 X4 eh4 => ?_⟩
  refine own_blk dec4 seq4 hby hx hZ hown hK hF 2 [true] [] X4 eh4 ?_
  show (((0 : Int32)).toInt ≤ ((0 : Int32)).toInt) ∧ own_Aft X4 h0 _ 53 [.val (.ref a), .val (.double qq), .second, .val (.int (0 : Int32)), .val (.int (0 : Int32)), .val (.int (0 : Int32))] [.int (0 : Int32)]
  refine ⟨by decide, fun T5 X5 eh5 => ?_⟩
  exact own_ret X5 hx hlk eh5 hret (by first | rfl | decide) (Or.inl ⟨rfl, by simp, _, rfl⟩) (hb hby d4_53) (by decide) (by decide) (⟨rfl, N0, rfl⟩)
set_option maxRecDepth 65536 in
set_option maxHeartbeats 40000000 in
theorem rm4_3_1 (l : Launch) (Z : State) (a0 : Array Value) (hw : ∀ d ∈ tables_1, d.before a0 Z = true) (ws : List Jvm.Cond) (a va : Addr) (qq : UInt64) (v0 : UInt64) (m0 : Int) (v1 : UInt64) (m1 : Int) (v2 : UInt64) (m2 : Int) (h0 : Heap) (n0 : Nat) (Z0 : n0 ≤ h0.size) (F1 : Fld Z h0 a "com/example/binwright/binwright/binning/DistinctValues" "values" "[D" (.ref va)) (A1 : own_A Z h0 va .double [.double v0, .double v1, .double v2]) (Dq : own_D 0 m1 qq) (D0 : own_D 0 m0 v0) (D1 : own_D 0 m1 v1) (D2 : own_D 0 m2 v2) (u0 : m0 < m1) (u1 : m1 < m2) :
    MetFree l (⟨"com/example/binwright/binwright/binning/DistinctValues", "indexOf", "(D)I"⟩ : MethodName) (head1 (Jvm.Cond.code (⟨"com/example/binwright/binwright/binning/DistinctValues", "indexOf", "(D)I"⟩ : MethodName) prog_6_method_3_code 6 (some .int) :: ws) ({ frames := 0, cells := 0, slots := 0, locals := 0 } : Room)) (fun as_ U => as_ = #[.ref a, .double qq] ∧ Z.Warmed39 U.vm ∧ U.heap = h0) (fun _ _ _ _ _ => True) (fun _ U o U' => own_Fin U ({ frames := 0, cells := 0, slots := 0, locals := 0 } : Room).cells ({ frames := 0, cells := 0, slots := 0, locals := 0 } : Room).slots (fun v h L => v = some (.int 1) ∧ Fr n0 L ∧ h = h0) o U') := by
  refine own_body (plainFor_of_name pn4) (ls0 := [.val (.ref a), .val (.double qq), .second, .unset, .unset, .unset]) (fun m => by first | (simp [entryFrame, mkF, argsToLocals, Value.category, maxLocals]; done) | rfl) ?_
  intro p e s m below meth c T0 hx hby hml hown hnm hlk hret hZ X0 e0
  have hK : own_ks "com/example/binwright/binwright/binning/DistinctValues" a0 Z kt4 := trivial
  have hF : own_fs "com/example/binwright/binwright/binning/DistinctValues" a0 Z ft4 := ⟨hw _ (List.mem_of_getElem? (i := 17) rfl), hw _ (List.mem_of_getElem? (i := 19) rfl), trivial⟩
  have N0 := Fr.nil n0
  refine own_blk dec4 seq4 hby hx hZ hown hK hF 12 [false] [.ref va, .int (3 : Int32)] X0 e0 ?_
  show (Fld Z h0 a "com/example/binwright/binwright/binning/DistinctValues" "values" "[D" (.ref va)) ∧ (own_ln Z h0 va (3 : Int32)) ∧ (¬ (((2 : Int32)).toInt ≤ ((0 : Int32)).toInt)) ∧ own_Aft X0 h0 _ 18 [.val (.ref a), .val (.double qq), .second, .val (.int (0 : Int32)), .val (.int (2 : Int32)), .unset] [.int (0 : Int32)]
  refine ⟨F1, A1.ln (3 : Int32) rfl, by decide, fun T1 X1 eh1 => ?_⟩
  refine own_blk dec4 seq4 hby hx hZ hown hK hF 12 [true] [.ref va, .double v1] X1 eh1 ?_
  show (Fld Z h0 a "com/example/binwright/binwright/binning/DistinctValues" "values" "[D" (.ref va)) ∧ (own_at Z h0 va .double (1 : Int32) (.double v1)) ∧ (0 ≤ (cmpValue (FP.dcmp v1 qq) .g).toInt) ∧ own_Aft X1 h0 _ 45 [.val (.ref a), .val (.double qq), .second, .val (.int (0 : Int32)), .val (.int (2 : Int32)), .val (.int (1 : Int32))] []
  refine ⟨F1, A1.at (1 : Int32) 1 rfl rfl, by rw [own_cv_eq (D1.eq Dq rfl)]; omega, fun T2 X2 eh2 => ?_⟩
  refine own_blk dec4 seq4 hby hx hZ hown hK hF 12 [false] [] X2 eh2 ?_
  show (¬ (((1 : Int32)).toInt ≤ ((0 : Int32)).toInt)) ∧ own_Aft X2 h0 _ 25 [.val (.ref a), .val (.double qq), .second, .val (.int (0 : Int32)), .val (.int (1 : Int32)), .val (.int (0 : Int32))] []
  refine ⟨by decide, fun T3 X3 eh3 => ?_⟩
  refine own_blk dec4 seq4 hby hx hZ hown hK hF 12 [false] [.ref va, .double v0] X3 eh3 ?_
  show (Fld Z h0 a "com/example/binwright/binwright/binning/DistinctValues" "values" "[D" (.ref va)) ∧ (own_at Z h0 va .double (0 : Int32) (.double v0)) ∧ (¬ (0 ≤ (cmpValue (FP.dcmp v0 qq) .g).toInt)) ∧ own_Aft X3 h0 _ 49 [.val (.ref a), .val (.double qq), .second, .val (.int (1 : Int32)), .val (.int (1 : Int32)), .val (.int (0 : Int32))] []
  refine ⟨F1, A1.at (0 : Int32) 0 rfl rfl, by rw [own_cv_lt (D0.lt Dq (by omega))]; omega, fun T4 X4 eh4 => ?_⟩
  refine own_blk dec4 seq4 hby hx hZ hown hK hF 5 [true] [] X4 eh4 ?_
  show (((1 : Int32)).toInt ≤ ((1 : Int32)).toInt) ∧ own_Aft X4 h0 _ 53 [.val (.ref a), .val (.double qq), .second, .val (.int (1 : Int32)), .val (.int (1 : Int32)), .val (.int (0 : Int32))] [.int (1 : Int32)]
  refine ⟨by decide, fun T5 X5 eh5 => ?_⟩
  exact own_ret X5 hx hlk eh5 hret (by first | rfl | decide) (Or.inl ⟨rfl, by simp, _, rfl⟩) (hb hby d4_53) (by decide) (by decide) (⟨rfl, N0, rfl⟩)
set_option maxRecDepth 65536 in
set_option maxHeartbeats 40000000 in
theorem rm4_3_2 (l : Launch) (Z : State) (a0 : Array Value) (hw : ∀ d ∈ tables_1, d.before a0 Z = true) (ws : List Jvm.Cond) (a va : Addr) (qq : UInt64) (v0 : UInt64) (m0 : Int) (v1 : UInt64) (m1 : Int) (v2 : UInt64) (m2 : Int) (h0 : Heap) (n0 : Nat) (Z0 : n0 ≤ h0.size) (F1 : Fld Z h0 a "com/example/binwright/binwright/binning/DistinctValues" "values" "[D" (.ref va)) (A1 : own_A Z h0 va .double [.double v0, .double v1, .double v2]) (Dq : own_D 0 m2 qq) (D0 : own_D 0 m0 v0) (D1 : own_D 0 m1 v1) (D2 : own_D 0 m2 v2) (u0 : m0 < m1) (u1 : m1 < m2) :
    MetFree l (⟨"com/example/binwright/binwright/binning/DistinctValues", "indexOf", "(D)I"⟩ : MethodName) (head1 (Jvm.Cond.code (⟨"com/example/binwright/binwright/binning/DistinctValues", "indexOf", "(D)I"⟩ : MethodName) prog_6_method_3_code 6 (some .int) :: ws) ({ frames := 0, cells := 0, slots := 0, locals := 0 } : Room)) (fun as_ U => as_ = #[.ref a, .double qq] ∧ Z.Warmed39 U.vm ∧ U.heap = h0) (fun _ _ _ _ _ => True) (fun _ U o U' => own_Fin U ({ frames := 0, cells := 0, slots := 0, locals := 0 } : Room).cells ({ frames := 0, cells := 0, slots := 0, locals := 0 } : Room).slots (fun v h L => v = some (.int 2) ∧ Fr n0 L ∧ h = h0) o U') := by
  refine own_body (plainFor_of_name pn4) (ls0 := [.val (.ref a), .val (.double qq), .second, .unset, .unset, .unset]) (fun m => by first | (simp [entryFrame, mkF, argsToLocals, Value.category, maxLocals]; done) | rfl) ?_
  intro p e s m below meth c T0 hx hby hml hown hnm hlk hret hZ X0 e0
  have hK : own_ks "com/example/binwright/binwright/binning/DistinctValues" a0 Z kt4 := trivial
  have hF : own_fs "com/example/binwright/binwright/binning/DistinctValues" a0 Z ft4 := ⟨hw _ (List.mem_of_getElem? (i := 17) rfl), hw _ (List.mem_of_getElem? (i := 19) rfl), trivial⟩
  have N0 := Fr.nil n0
  refine own_blk dec4 seq4 hby hx hZ hown hK hF 12 [false] [.ref va, .int (3 : Int32)] X0 e0 ?_
  show (Fld Z h0 a "com/example/binwright/binwright/binning/DistinctValues" "values" "[D" (.ref va)) ∧ (own_ln Z h0 va (3 : Int32)) ∧ (¬ (((2 : Int32)).toInt ≤ ((0 : Int32)).toInt)) ∧ own_Aft X0 h0 _ 18 [.val (.ref a), .val (.double qq), .second, .val (.int (0 : Int32)), .val (.int (2 : Int32)), .unset] [.int (0 : Int32)]
  refine ⟨F1, A1.ln (3 : Int32) rfl, by decide, fun T1 X1 eh1 => ?_⟩
  refine own_blk dec4 seq4 hby hx hZ hown hK hF 12 [false] [.ref va, .double v1] X1 eh1 ?_
  show (Fld Z h0 a "com/example/binwright/binwright/binning/DistinctValues" "values" "[D" (.ref va)) ∧ (own_at Z h0 va .double (1 : Int32) (.double v1)) ∧ (¬ (0 ≤ (cmpValue (FP.dcmp v1 qq) .g).toInt)) ∧ own_Aft X1 h0 _ 37 [.val (.ref a), .val (.double qq), .second, .val (.int (0 : Int32)), .val (.int (2 : Int32)), .val (.int (1 : Int32))] []
  refine ⟨F1, A1.at (1 : Int32) 1 rfl rfl, by rw [own_cv_lt (D1.lt Dq (by omega))]; omega, fun T2 X2 eh2 => ?_⟩
  refine own_blk dec4 seq4 hby hx hZ hown hK hF 10 [true] [] X2 eh2 ?_
  show (((2 : Int32)).toInt ≤ ((2 : Int32)).toInt) ∧ own_Aft X2 h0 _ 53 [.val (.ref a), .val (.double qq), .second, .val (.int (2 : Int32)), .val (.int (2 : Int32)), .val (.int (1 : Int32))] [.int (2 : Int32)]
  refine ⟨by decide, fun T3 X3 eh3 => ?_⟩
  exact own_ret X3 hx hlk eh3 hret (by first | rfl | decide) (Or.inl ⟨rfl, by simp, _, rfl⟩) (hb hby d4_53) (by decide) (by decide) (⟨rfl, N0, rfl⟩)
set_option maxRecDepth 65536 in
set_option maxHeartbeats 40000000 in
theorem rm4_4_0 (l : Launch) (Z : State) (a0 : Array Value) (hw : ∀ d ∈ tables_1, d.before a0 Z = true) (ws : List Jvm.Cond) (a va : Addr) (qq : UInt64) (v0 : UInt64) (m0 : Int) (v1 : UInt64) (m1 : Int) (v2 : UInt64) (m2 : Int) (v3 : UInt64) (m3 : Int) (h0 : Heap) (n0 : Nat) (Z0 : n0 ≤ h0.size) (F1 : Fld Z h0 a "com/example/binwright/binwright/binning/DistinctValues" "values" "[D" (.ref va)) (A1 : own_A Z h0 va .double [.double v0, .double v1, .double v2, .double v3]) (Dq : own_D 0 m0 qq) (D0 : own_D 0 m0 v0) (D1 : own_D 0 m1 v1) (D2 : own_D 0 m2 v2) (D3 : own_D 0 m3 v3) (u0 : m0 < m1) (u1 : m1 < m2) (u2 : m2 < m3) :
    MetFree l (⟨"com/example/binwright/binwright/binning/DistinctValues", "indexOf", "(D)I"⟩ : MethodName) (head1 (Jvm.Cond.code (⟨"com/example/binwright/binwright/binning/DistinctValues", "indexOf", "(D)I"⟩ : MethodName) prog_6_method_3_code 6 (some .int) :: ws) ({ frames := 0, cells := 0, slots := 0, locals := 0 } : Room)) (fun as_ U => as_ = #[.ref a, .double qq] ∧ Z.Warmed39 U.vm ∧ U.heap = h0) (fun _ _ _ _ _ => True) (fun _ U o U' => own_Fin U ({ frames := 0, cells := 0, slots := 0, locals := 0 } : Room).cells ({ frames := 0, cells := 0, slots := 0, locals := 0 } : Room).slots (fun v h L => v = some (.int 0) ∧ Fr n0 L ∧ h = h0) o U') := by
  refine own_body (plainFor_of_name pn4) (ls0 := [.val (.ref a), .val (.double qq), .second, .unset, .unset, .unset]) (fun m => by first | (simp [entryFrame, mkF, argsToLocals, Value.category, maxLocals]; done) | rfl) ?_
  intro p e s m below meth c T0 hx hby hml hown hnm hlk hret hZ X0 e0
  have hK : own_ks "com/example/binwright/binwright/binning/DistinctValues" a0 Z kt4 := trivial
  have hF : own_fs "com/example/binwright/binwright/binning/DistinctValues" a0 Z ft4 := ⟨hw _ (List.mem_of_getElem? (i := 17) rfl), hw _ (List.mem_of_getElem? (i := 19) rfl), trivial⟩
  have N0 := Fr.nil n0
  refine own_blk dec4 seq4 hby hx hZ hown hK hF 12 [false] [.ref va, .int (4 : Int32)] X0 e0 ?_
  show (Fld Z h0 a "com/example/binwright/binwright/binning/DistinctValues" "values" "[D" (.ref va)) ∧ (own_ln Z h0 va (4 : Int32)) ∧ (¬ (((3 : Int32)).toInt ≤ ((0 : Int32)).toInt)) ∧ own_Aft X0 h0 _ 18 [.val (.ref a), .val (.double qq), .second, .val (.int (0 : Int32)), .val (.int (3 : Int32)), .unset] [.int (0 : Int32)]
  refine ⟨F1, A1.ln (4 : Int32) rfl, by decide, fun T1 X1 eh1 => ?_⟩
  refine own_blk dec4 seq4 hby hx hZ hown hK hF 12 [true] [.ref va, .double v1] X1 eh1 ?_
  show (Fld Z h0 a "com/example/binwright/binwright/binning/DistinctValues" "values" "[D" (.ref va)) ∧ (own_at Z h0 va .double (1 : Int32) (.double v1)) ∧ (0 ≤ (cmpValue (FP.dcmp v1 qq) .g).toInt) ∧ own_Aft X1 h0 _ 45 [.val (.ref a), .val (.double qq), .second, .val (.int (0 : Int32)), .val (.int (3 : Int32)), .val (.int (1 : Int32))] []
  refine ⟨F1, A1.at (1 : Int32) 1 rfl rfl, by rw [own_cv_gt (D1.gt Dq (by omega))]; omega, fun T2 X2 eh2 => ?_⟩
  refine own_blk dec4 seq4 hby hx hZ hown hK hF 12 [false] [] X2 eh2 ?_
  show (¬ (((1 : Int32)).toInt ≤ ((0 : Int32)).toInt)) ∧ own_Aft X2 h0 _ 25 [.val (.ref a), .val (.double qq), .second, .val (.int (0 : Int32)), .val (.int (1 : Int32)), .val (.int (0 : Int32))] []
  refine ⟨by decide, fun T3 X3 eh3 => ?_⟩
  refine own_blk dec4 seq4 hby hx hZ hown hK hF 12 [true] [.ref va, .double v0] X3 eh3 ?_
  show (Fld Z h0 a "com/example/binwright/binwright/binning/DistinctValues" "values" "[D" (.ref va)) ∧ (own_at Z h0 va .double (0 : Int32) (.double v0)) ∧ (0 ≤ (cmpValue (FP.dcmp v0 qq) .g).toInt) ∧ own_Aft X3 h0 _ 14 [.val (.ref a), .val (.double qq), .second, .val (.int (0 : Int32)), .val (.int (0 : Int32)), .val (.int (0 : Int32))] [.int (0 : Int32), .int (0 : Int32)]
  refine ⟨F1, A1.at (0 : Int32) 0 rfl rfl, by rw [own_cv_eq (D0.eq Dq rfl)]; omega, fun T4 X4 eh4 => ?_⟩
  refine own_blk dec4 seq4 hby hx hZ hown hK hF 2 [true] [] X4 eh4 ?_
  show (((0 : Int32)).toInt ≤ ((0 : Int32)).toInt) ∧ own_Aft X4 h0 _ 53 [.val (.ref a), .val (.double qq), .second, .val (.int (0 : Int32)), .val (.int (0 : Int32)), .val (.int (0 : Int32))] [.int (0 : Int32)]
  refine ⟨by decide, fun T5 X5 eh5 => ?_⟩
  exact own_ret X5 hx hlk eh5 hret (by first | rfl | decide) (Or.inl ⟨rfl, by simp, _, rfl⟩) (hb hby d4_53) (by decide) (by decide) (⟨rfl, N0, rfl⟩)
set_option maxRecDepth 65536 in
set_option maxHeartbeats 40000000 in
theorem rm4_4_1 (l : Launch) (Z : State) (a0 : Array Value) (hw : ∀ d ∈ tables_1, d.before a0 Z = true) (ws : List Jvm.Cond) (a va : Addr) (qq : UInt64) (v0 : UInt64) (m0 : Int) (v1 : UInt64) (m1 : Int) (v2 : UInt64) (m2 : Int) (v3 : UInt64) (m3 : Int) (h0 : Heap) (n0 : Nat) (Z0 : n0 ≤ h0.size) (F1 : Fld Z h0 a "com/example/binwright/binwright/binning/DistinctValues" "values" "[D" (.ref va)) (A1 : own_A Z h0 va .double [.double v0, .double v1, .double v2, .double v3]) (Dq : own_D 0 m1 qq) (D0 : own_D 0 m0 v0) (D1 : own_D 0 m1 v1) (D2 : own_D 0 m2 v2) (D3 : own_D 0 m3 v3) (u0 : m0 < m1) (u1 : m1 < m2) (u2 : m2 < m3) :
    MetFree l (⟨"com/example/binwright/binwright/binning/DistinctValues", "indexOf", "(D)I"⟩ : MethodName) (head1 (Jvm.Cond.code (⟨"com/example/binwright/binwright/binning/DistinctValues", "indexOf", "(D)I"⟩ : MethodName) prog_6_method_3_code 6 (some .int) :: ws) ({ frames := 0, cells := 0, slots := 0, locals := 0 } : Room)) (fun as_ U => as_ = #[.ref a, .double qq] ∧ Z.Warmed39 U.vm ∧ U.heap = h0) (fun _ _ _ _ _ => True) (fun _ U o U' => own_Fin U ({ frames := 0, cells := 0, slots := 0, locals := 0 } : Room).cells ({ frames := 0, cells := 0, slots := 0, locals := 0 } : Room).slots (fun v h L => v = some (.int 1) ∧ Fr n0 L ∧ h = h0) o U') := by
  refine own_body (plainFor_of_name pn4) (ls0 := [.val (.ref a), .val (.double qq), .second, .unset, .unset, .unset]) (fun m => by first | (simp [entryFrame, mkF, argsToLocals, Value.category, maxLocals]; done) | rfl) ?_
  intro p e s m below meth c T0 hx hby hml hown hnm hlk hret hZ X0 e0
  have hK : own_ks "com/example/binwright/binwright/binning/DistinctValues" a0 Z kt4 := trivial
  have hF : own_fs "com/example/binwright/binwright/binning/DistinctValues" a0 Z ft4 := ⟨hw _ (List.mem_of_getElem? (i := 17) rfl), hw _ (List.mem_of_getElem? (i := 19) rfl), trivial⟩
  have N0 := Fr.nil n0
  refine own_blk dec4 seq4 hby hx hZ hown hK hF 12 [false] [.ref va, .int (4 : Int32)] X0 e0 ?_
  show (Fld Z h0 a "com/example/binwright/binwright/binning/DistinctValues" "values" "[D" (.ref va)) ∧ (own_ln Z h0 va (4 : Int32)) ∧ (¬ (((3 : Int32)).toInt ≤ ((0 : Int32)).toInt)) ∧ own_Aft X0 h0 _ 18 [.val (.ref a), .val (.double qq), .second, .val (.int (0 : Int32)), .val (.int (3 : Int32)), .unset] [.int (0 : Int32)]
  refine ⟨F1, A1.ln (4 : Int32) rfl, by decide, fun T1 X1 eh1 => ?_⟩
  refine own_blk dec4 seq4 hby hx hZ hown hK hF 12 [true] [.ref va, .double v1] X1 eh1 ?_
  show (Fld Z h0 a "com/example/binwright/binwright/binning/DistinctValues" "values" "[D" (.ref va)) ∧ (own_at Z h0 va .double (1 : Int32) (.double v1)) ∧ (0 ≤ (cmpValue (FP.dcmp v1 qq) .g).toInt) ∧ own_Aft X1 h0 _ 45 [.val (.ref a), .val (.double qq), .second, .val (.int (0 : Int32)), .val (.int (3 : Int32)), .val (.int (1 : Int32))] []
  refine ⟨F1, A1.at (1 : Int32) 1 rfl rfl, by rw [own_cv_eq (D1.eq Dq rfl)]; omega, fun T2 X2 eh2 => ?_⟩
  refine own_blk dec4 seq4 hby hx hZ hown hK hF 12 [false] [] X2 eh2 ?_
  show (¬ (((1 : Int32)).toInt ≤ ((0 : Int32)).toInt)) ∧ own_Aft X2 h0 _ 25 [.val (.ref a), .val (.double qq), .second, .val (.int (0 : Int32)), .val (.int (1 : Int32)), .val (.int (0 : Int32))] []
  refine ⟨by decide, fun T3 X3 eh3 => ?_⟩
  refine own_blk dec4 seq4 hby hx hZ hown hK hF 12 [false] [.ref va, .double v0] X3 eh3 ?_
  show (Fld Z h0 a "com/example/binwright/binwright/binning/DistinctValues" "values" "[D" (.ref va)) ∧ (own_at Z h0 va .double (0 : Int32) (.double v0)) ∧ (¬ (0 ≤ (cmpValue (FP.dcmp v0 qq) .g).toInt)) ∧ own_Aft X3 h0 _ 49 [.val (.ref a), .val (.double qq), .second, .val (.int (1 : Int32)), .val (.int (1 : Int32)), .val (.int (0 : Int32))] []
  refine ⟨F1, A1.at (0 : Int32) 0 rfl rfl, by rw [own_cv_lt (D0.lt Dq (by omega))]; omega, fun T4 X4 eh4 => ?_⟩
  refine own_blk dec4 seq4 hby hx hZ hown hK hF 5 [true] [] X4 eh4 ?_
  show (((1 : Int32)).toInt ≤ ((1 : Int32)).toInt) ∧ own_Aft X4 h0 _ 53 [.val (.ref a), .val (.double qq), .second, .val (.int (1 : Int32)), .val (.int (1 : Int32)), .val (.int (0 : Int32))] [.int (1 : Int32)]
  refine ⟨by decide, fun T5 X5 eh5 => ?_⟩
  exact own_ret X5 hx hlk eh5 hret (by first | rfl | decide) (Or.inl ⟨rfl, by simp, _, rfl⟩) (hb hby d4_53) (by decide) (by decide) (⟨rfl, N0, rfl⟩)
set_option maxRecDepth 65536 in
set_option maxHeartbeats 40000000 in
theorem rm4_4_2 (l : Launch) (Z : State) (a0 : Array Value) (hw : ∀ d ∈ tables_1, d.before a0 Z = true) (ws : List Jvm.Cond) (a va : Addr) (qq : UInt64) (v0 : UInt64) (m0 : Int) (v1 : UInt64) (m1 : Int) (v2 : UInt64) (m2 : Int) (v3 : UInt64) (m3 : Int) (h0 : Heap) (n0 : Nat) (Z0 : n0 ≤ h0.size) (F1 : Fld Z h0 a "com/example/binwright/binwright/binning/DistinctValues" "values" "[D" (.ref va)) (A1 : own_A Z h0 va .double [.double v0, .double v1, .double v2, .double v3]) (Dq : own_D 0 m2 qq) (D0 : own_D 0 m0 v0) (D1 : own_D 0 m1 v1) (D2 : own_D 0 m2 v2) (D3 : own_D 0 m3 v3) (u0 : m0 < m1) (u1 : m1 < m2) (u2 : m2 < m3) :
    MetFree l (⟨"com/example/binwright/binwright/binning/DistinctValues", "indexOf", "(D)I"⟩ : MethodName) (head1 (Jvm.Cond.code (⟨"com/example/binwright/binwright/binning/DistinctValues", "indexOf", "(D)I"⟩ : MethodName) prog_6_method_3_code 6 (some .int) :: ws) ({ frames := 0, cells := 0, slots := 0, locals := 0 } : Room)) (fun as_ U => as_ = #[.ref a, .double qq] ∧ Z.Warmed39 U.vm ∧ U.heap = h0) (fun _ _ _ _ _ => True) (fun _ U o U' => own_Fin U ({ frames := 0, cells := 0, slots := 0, locals := 0 } : Room).cells ({ frames := 0, cells := 0, slots := 0, locals := 0 } : Room).slots (fun v h L => v = some (.int 2) ∧ Fr n0 L ∧ h = h0) o U') := by
  refine own_body (plainFor_of_name pn4) (ls0 := [.val (.ref a), .val (.double qq), .second, .unset, .unset, .unset]) (fun m => by first | (simp [entryFrame, mkF, argsToLocals, Value.category, maxLocals]; done) | rfl) ?_
  intro p e s m below meth c T0 hx hby hml hown hnm hlk hret hZ X0 e0
  have hK : own_ks "com/example/binwright/binwright/binning/DistinctValues" a0 Z kt4 := trivial
  have hF : own_fs "com/example/binwright/binwright/binning/DistinctValues" a0 Z ft4 := ⟨hw _ (List.mem_of_getElem? (i := 17) rfl), hw _ (List.mem_of_getElem? (i := 19) rfl), trivial⟩
  have N0 := Fr.nil n0
  refine own_blk dec4 seq4 hby hx hZ hown hK hF 12 [false] [.ref va, .int (4 : Int32)] X0 e0 ?_
  show (Fld Z h0 a "com/example/binwright/binwright/binning/DistinctValues" "values" "[D" (.ref va)) ∧ (own_ln Z h0 va (4 : Int32)) ∧ (¬ (((3 : Int32)).toInt ≤ ((0 : Int32)).toInt)) ∧ own_Aft X0 h0 _ 18 [.val (.ref a), .val (.double qq), .second, .val (.int (0 : Int32)), .val (.int (3 : Int32)), .unset] [.int (0 : Int32)]
  refine ⟨F1, A1.ln (4 : Int32) rfl, by decide, fun T1 X1 eh1 => ?_⟩
  refine own_blk dec4 seq4 hby hx hZ hown hK hF 12 [false] [.ref va, .double v1] X1 eh1 ?_
  show (Fld Z h0 a "com/example/binwright/binwright/binning/DistinctValues" "values" "[D" (.ref va)) ∧ (own_at Z h0 va .double (1 : Int32) (.double v1)) ∧ (¬ (0 ≤ (cmpValue (FP.dcmp v1 qq) .g).toInt)) ∧ own_Aft X1 h0 _ 37 [.val (.ref a), .val (.double qq), .second, .val (.int (0 : Int32)), .val (.int (3 : Int32)), .val (.int (1 : Int32))] []
  refine ⟨F1, A1.at (1 : Int32) 1 rfl rfl, by rw [own_cv_lt (D1.lt Dq (by omega))]; omega, fun T2 X2 eh2 => ?_⟩
  refine own_blk dec4 seq4 hby hx hZ hown hK hF 12 [false] [] X2 eh2 ?_
  show (¬ (((3 : Int32)).toInt ≤ ((2 : Int32)).toInt)) ∧ own_Aft X2 h0 _ 21 [.val (.ref a), .val (.double qq), .second, .val (.int (2 : Int32)), .val (.int (3 : Int32)), .val (.int (1 : Int32))] [.int (5 : Int32)]
  refine ⟨by decide, fun T3 X3 eh3 => ?_⟩
  refine own_blk dec4 seq4 hby hx hZ hown hK hF 12 [true] [.ref va, .double v2] X3 eh3 ?_
  show (Fld Z h0 a "com/example/binwright/binwright/binning/DistinctValues" "values" "[D" (.ref va)) ∧ (own_at Z h0 va .double (2 : Int32) (.double v2)) ∧ (0 ≤ (cmpValue (FP.dcmp v2 qq) .g).toInt) ∧ own_Aft X3 h0 _ 49 [.val (.ref a), .val (.double qq), .second, .val (.int (2 : Int32)), .val (.int (2 : Int32)), .val (.int (2 : Int32))] []
  refine ⟨F1, A1.at (2 : Int32) 2 rfl rfl, by rw [own_cv_eq (D2.eq Dq rfl)]; omega, fun T4 X4 eh4 => ?_⟩
  refine own_blk dec4 seq4 hby hx hZ hown hK hF 5 [true] [] X4 eh4 ?_
  show (((2 : Int32)).toInt ≤ ((2 : Int32)).toInt) ∧ own_Aft X4 h0 _ 53 [.val (.ref a), .val (.double qq), .second, .val (.int (2 : Int32)), .val (.int (2 : Int32)), .val (.int (2 : Int32))] [.int (2 : Int32)]
  refine ⟨by decide, fun T5 X5 eh5 => ?_⟩
  exact own_ret X5 hx hlk eh5 hret (by first | rfl | decide) (Or.inl ⟨rfl, by simp, _, rfl⟩) (hb hby d4_53) (by decide) (by decide) (⟨rfl, N0, rfl⟩)
set_option maxRecDepth 65536 in
set_option maxHeartbeats 40000000 in
theorem rm4_4_3 (l : Launch) (Z : State) (a0 : Array Value) (hw : ∀ d ∈ tables_1, d.before a0 Z = true) (ws : List Jvm.Cond) (a va : Addr) (qq : UInt64) (v0 : UInt64) (m0 : Int) (v1 : UInt64) (m1 : Int) (v2 : UInt64) (m2 : Int) (v3 : UInt64) (m3 : Int) (h0 : Heap) (n0 : Nat) (Z0 : n0 ≤ h0.size) (F1 : Fld Z h0 a "com/example/binwright/binwright/binning/DistinctValues" "values" "[D" (.ref va)) (A1 : own_A Z h0 va .double [.double v0, .double v1, .double v2, .double v3]) (Dq : own_D 0 m3 qq) (D0 : own_D 0 m0 v0) (D1 : own_D 0 m1 v1) (D2 : own_D 0 m2 v2) (D3 : own_D 0 m3 v3) (u0 : m0 < m1) (u1 : m1 < m2) (u2 : m2 < m3) :
    MetFree l (⟨"com/example/binwright/binwright/binning/DistinctValues", "indexOf", "(D)I"⟩ : MethodName) (head1 (Jvm.Cond.code (⟨"com/example/binwright/binwright/binning/DistinctValues", "indexOf", "(D)I"⟩ : MethodName) prog_6_method_3_code 6 (some .int) :: ws) ({ frames := 0, cells := 0, slots := 0, locals := 0 } : Room)) (fun as_ U => as_ = #[.ref a, .double qq] ∧ Z.Warmed39 U.vm ∧ U.heap = h0) (fun _ _ _ _ _ => True) (fun _ U o U' => own_Fin U ({ frames := 0, cells := 0, slots := 0, locals := 0 } : Room).cells ({ frames := 0, cells := 0, slots := 0, locals := 0 } : Room).slots (fun v h L => v = some (.int 3) ∧ Fr n0 L ∧ h = h0) o U') := by
  refine own_body (plainFor_of_name pn4) (ls0 := [.val (.ref a), .val (.double qq), .second, .unset, .unset, .unset]) (fun m => by first | (simp [entryFrame, mkF, argsToLocals, Value.category, maxLocals]; done) | rfl) ?_
  intro p e s m below meth c T0 hx hby hml hown hnm hlk hret hZ X0 e0
  have hK : own_ks "com/example/binwright/binwright/binning/DistinctValues" a0 Z kt4 := trivial
  have hF : own_fs "com/example/binwright/binwright/binning/DistinctValues" a0 Z ft4 := ⟨hw _ (List.mem_of_getElem? (i := 17) rfl), hw _ (List.mem_of_getElem? (i := 19) rfl), trivial⟩
  have N0 := Fr.nil n0
  refine own_blk dec4 seq4 hby hx hZ hown hK hF 12 [false] [.ref va, .int (4 : Int32)] X0 e0 ?_
  show (Fld Z h0 a "com/example/binwright/binwright/binning/DistinctValues" "values" "[D" (.ref va)) ∧ (own_ln Z h0 va (4 : Int32)) ∧ (¬ (((3 : Int32)).toInt ≤ ((0 : Int32)).toInt)) ∧ own_Aft X0 h0 _ 18 [.val (.ref a), .val (.double qq), .second, .val (.int (0 : Int32)), .val (.int (3 : Int32)), .unset] [.int (0 : Int32)]
  refine ⟨F1, A1.ln (4 : Int32) rfl, by decide, fun T1 X1 eh1 => ?_⟩
  refine own_blk dec4 seq4 hby hx hZ hown hK hF 12 [false] [.ref va, .double v1] X1 eh1 ?_
  show (Fld Z h0 a "com/example/binwright/binwright/binning/DistinctValues" "values" "[D" (.ref va)) ∧ (own_at Z h0 va .double (1 : Int32) (.double v1)) ∧ (¬ (0 ≤ (cmpValue (FP.dcmp v1 qq) .g).toInt)) ∧ own_Aft X1 h0 _ 37 [.val (.ref a), .val (.double qq), .second, .val (.int (0 : Int32)), .val (.int (3 : Int32)), .val (.int (1 : Int32))] []
  refine ⟨F1, A1.at (1 : Int32) 1 rfl rfl, by rw [own_cv_lt (D1.lt Dq (by omega))]; omega, fun T2 X2 eh2 => ?_⟩
  refine own_blk dec4 seq4 hby hx hZ hown hK hF 12 [false] [] X2 eh2 ?_
  show (¬ (((3 : Int32)).toInt ≤ ((2 : Int32)).toInt)) ∧ own_Aft X2 h0 _ 21 [.val (.ref a), .val (.double qq), .second, .val (.int (2 : Int32)), .val (.int (3 : Int32)), .val (.int (1 : Int32))] [.int (5 : Int32)]
  refine ⟨by decide, fun T3 X3 eh3 => ?_⟩
  refine own_blk dec4 seq4 hby hx hZ hown hK hF 12 [false] [.ref va, .double v2] X3 eh3 ?_
  show (Fld Z h0 a "com/example/binwright/binwright/binning/DistinctValues" "values" "[D" (.ref va)) ∧ (own_at Z h0 va .double (2 : Int32) (.double v2)) ∧ (¬ (0 ≤ (cmpValue (FP.dcmp v2 qq) .g).toInt)) ∧ own_Aft X3 h0 _ 40 [.val (.ref a), .val (.double qq), .second, .val (.int (2 : Int32)), .val (.int (3 : Int32)), .val (.int (2 : Int32))] [.int (1 : Int32), .int (2 : Int32)]
  refine ⟨F1, A1.at (2 : Int32) 2 rfl rfl, by rw [own_cv_lt (D2.lt Dq (by omega))]; omega, fun T4 X4 eh4 => ?_⟩
  refine own_blk dec4 seq4 hby hx hZ hown hK hF 8 [true] [] X4 eh4 ?_
  show (((3 : Int32)).toInt ≤ ((3 : Int32)).toInt) ∧ own_Aft X4 h0 _ 53 [.val (.ref a), .val (.double qq), .second, .val (.int (3 : Int32)), .val (.int (3 : Int32)), .val (.int (2 : Int32))] [.int (3 : Int32)]
  refine ⟨by decide, fun T5 X5 eh5 => ?_⟩
  exact own_ret X5 hx hlk eh5 hret (by first | rfl | decide) (Or.inl ⟨rfl, by simp, _, rfl⟩) (hb hby d4_53) (by decide) (by decide) (⟨rfl, N0, rfl⟩)
set_option maxRecDepth 65536 in
set_option maxHeartbeats 40000000 in
theorem rm0 (l : Launch) (Z : State) (a0 : Array Value) (hw : ∀ d ∈ tables_1, d.before a0 Z = true) (ws : List Jvm.Cond) (a1 d1 d2 d3 sel : Int32) (h0 : Heap) (n0 : Nat) (Z0 : n0 ≤ h0.size)  :
    MetFree l x (head1 (Jvm.Cond.code x code maxLocals ret :: ws) room_1) (fun as_ U => as_ = #[.int a1, .int d1, .int d2, .int d3, .int sel] ∧ Z.Warmed39 U.vm ∧ U.heap = h0) (fun _ _ _ _ _ => True) (fun _ U o U' => own_Fin U 16 128 (fun v h L => v = some (.int 1) ∧ Fr n0 L) o U') := by
  refine own_body (plainFor_of_name pn0) (ls0 := [.val (.int a1), .val (.int d1), .val (.int d2), .val (.int d3), .val (.int sel), .unset, .unset, .unset, .unset, .unset, .unset, .unset, .unset, .unset, .unset, .unset, .unset, .unset, .unset, .unset, .unset, .unset, .unset, .unset, .unset, .unset, .unset, .unset, .unset, .unset]) (fun m => by first | (simp [entryFrame, mkF, argsToLocals, Value.category, maxLocals]; done) | rfl) ?_
  intro p e s m below meth c T0 hx hby hml hown hnm hlk hret hZ X0 e0
  have hK : own_ks "com/example/binwright/binwright/binning/DistinctValuesIndexOfPinLaw" a0 Z kt0 := ⟨hw _ (List.mem_of_getElem? (i := 0) rfl), trivial⟩
  have hF : own_fs "com/example/binwright/binwright/binning/DistinctValuesIndexOfPinLaw" a0 Z ft0 := trivial
  have N0 := Fr.nil n0
  have s1 := own_and32 sel 3 (by decide)
  have s2 : (3 : Int32).toInt = 3 := rfl
  have s3 : (1 : Int32).toInt = 1 := rfl
  have s4 : ((sel &&& (3 : Int32)) + (1 : Int32)).toInt = (sel &&& (3 : Int32)).toInt + 1 := own_add32 (by omega) (by omega)
  have s5 := own_and32 (Jvm.Free.XT.ushr sel (2 : Int32)) 3 (by decide)
  refine own_blk dec0 seq0 hby hx hZ hown hK hF 12 [] [] X0 e0 ?_
  show own_Aft X0 h0 _ 16 [.val (.int a1), .val (.int d1), .val (.int d2), .val (.int d3), .val (.int sel), .val (.int ((sel &&& (3 : Int32)) + (1 : Int32))), .unset, .unset, .unset, .unset, .unset, .unset, .unset, .unset, .unset, .unset, .unset, .unset, .unset, .unset, .unset, .unset, .unset, .unset, .unset, .unset, .unset, .unset, .unset, .unset] [.int ((sel &&& (3 : Int32)) + (1 : Int32)), .int ((Jvm.Free.XT.ushr sel (2 : Int32)) &&& (3 : Int32))]
  refine fun T1 X1 eh1 => ?_
  refine own_blk dec0 seq0 hby hx hZ hown hK hF 2 [] [] X1 eh1 ?_
  show (((sel &&& (3 : Int32)) + (1 : Int32)) ≠ 0) ∧ own_Aft X1 h0 _ 19 [.val (.int a1), .val (.int d1), .val (.int d2), .val (.int d3), .val (.int sel), .val (.int ((sel &&& (3 : Int32)) + (1 : Int32))), .val (.int (((Jvm.Free.XT.ushr sel (2 : Int32)) &&& (3 : Int32)) % ((sel &&& (3 : Int32)) + (1 : Int32)))), .unset, .unset, .unset, .unset, .unset, .unset, .unset, .unset, .unset, .unset, .unset, .unset, .unset, .unset, .unset, .unset, .unset, .unset, .unset, .unset, .unset, .unset, .unset] []
  refine ⟨fun q => by rw [q] at s4; have : (0 : Int32).toInt = 0 := rfl; omega, fun T2 X2 eh2 => ?_⟩
  generalize (sel &&& (3 : Int32)) + (1 : Int32) = nn at s4 ⊢
  generalize Jvm.Free.XT.ushr sel (2 : Int32) &&& (3 : Int32) = k3 at s5 ⊢
  have s6 := own_rem_pos s5.1 (b := nn) (by omega)
  generalize k3 % nn = kk at s6 ⊢
  show own_Go p.tables e below _ (T2.setTop (mkF m 19 (Array.mk [.val (.int a1), .val (.int d1), .val (.int d2), .val (.int d3), .val (.int sel), .val (.int nn), .val (.int kk), .unset, .unset, .unset, .unset, .unset, .unset, .unset, .unset, .unset, .unset, .unset, .unset, .unset, .unset, .unset, .unset, .unset, .unset, .unset, .unset, .unset, .unset, .unset]) []))
  suffices tl3 : ∀ (ng : Int32) (_ : ng = 0 ∨ ng = 1), own_Aft X2 h0 (own_Fin s 16 128 (fun v h L => v = some (.int 1) ∧ Fr n0 L)) 34 [.val (.int a1), .val (.int d1), .val (.int d2), .val (.int d3), .val (.int sel), .val (.int nn), .val (.int kk), .val (.int ng), .unset, .unset, .unset, .unset, .unset, .unset, .unset, .unset, .unset, .unset, .unset, .unset, .unset, .unset, .unset, .unset, .unset, .unset, .unset, .unset, .unset, .unset] [] by
    by_cases hf : (sel &&& (16 : Int32)).toInt = 0
    · skip
      refine own_blk dec0 seq0 hby hx hZ hown hK hF 6 [true] [.int (16 : Int32)] X2 eh2 ?_
      show ((Int8.ofInt 16).toInt32 = (16 : Int32)) ∧ ((sel &&& (16 : Int32)).toInt = 0) ∧ own_Aft X2 h0 _ 34 [.val (.int a1), .val (.int d1), .val (.int d2), .val (.int d3), .val (.int sel), .val (.int nn), .val (.int kk), .val (.int (0 : Int32)), .unset, .unset, .unset, .unset, .unset, .unset, .unset, .unset, .unset, .unset, .unset, .unset, .unset, .unset, .unset, .unset, .unset, .unset, .unset, .unset, .unset, .unset] []
      refine ⟨by decide +kernel, hf, fun T4 X4 eh4 => ?_⟩
      exact tl3 0 (Or.inl rfl) T4 X4 eh4
    · skip
      refine own_blk dec0 seq0 hby hx hZ hown hK hF 7 [false] [.int (16 : Int32)] X2 eh2 ?_
      show ((Int8.ofInt 16).toInt32 = (16 : Int32)) ∧ (¬ ((sel &&& (16 : Int32)).toInt = 0)) ∧ own_Aft X2 h0 _ 34 [.val (.int a1), .val (.int d1), .val (.int d2), .val (.int d3), .val (.int sel), .val (.int nn), .val (.int kk), .val (.int (1 : Int32)), .unset, .unset, .unset, .unset, .unset, .unset, .unset, .unset, .unset, .unset, .unset, .unset, .unset, .unset, .unset, .unset, .unset, .unset, .unset, .unset, .unset, .unset] []
      refine ⟨by decide +kernel, hf, fun T5 X5 eh5 => ?_⟩
      exact tl3 1 (Or.inr rfl) T5 X5 eh5
  intro ng hng T3 X3 eh3
  have ra := own_rng32 a1
  have e0 := own_i2l a1
  refine own_blk dec0 seq0 hby hx hZ hown hK hF 3 [] [] X3 eh3 ?_
  show own_Aft X3 h0 _ 38 [.val (.int a1), .val (.int d1), .val (.int d2), .val (.int d3), .val (.int sel), .val (.int nn), .val (.int kk), .val (.int ng), .val (.long a1.toInt64), .second, .unset, .unset, .unset, .unset, .unset, .unset, .unset, .unset, .unset, .unset, .unset, .unset, .unset, .unset, .unset, .unset, .unset, .unset, .unset, .unset] []
  refine fun T6 X6 eh6 => ?_
  generalize a1.toInt64 = l0 at e0 ⊢
  show own_Go p.tables e below _ (T6.setTop (mkF m 38 (Array.mk [.val (.int a1), .val (.int d1), .val (.int d2), .val (.int d3), .val (.int sel), .val (.int nn), .val (.int kk), .val (.int ng), .val (.long l0), .second, .unset, .unset, .unset, .unset, .unset, .unset, .unset, .unset, .unset, .unset, .unset, .unset, .unset, .unset, .unset, .unset, .unset, .unset, .unset, .unset]) []))
  obtain ⟨f0, f00, f01⟩ := own_next l0 d1 (by omega) (by omega)
  refine own_blk dec0 seq0 hby hx hZ hown hK hF 9 [] [] X6 eh6 ?_
  show own_Aft X6 h0 _ 50 [.val (.int a1), .val (.int d1), .val (.int d2), .val (.int d3), .val (.int sel), .val (.int nn), .val (.int kk), .val (.int ng), .val (.long l0), .second, .val (.long ((l0 + ((d1 &&& (65535 : Int32)).toInt64)) + (1 : Int64))), .second, .unset, .unset, .unset, .unset, .unset, .unset, .unset, .unset, .unset, .unset, .unset, .unset, .unset, .unset, .unset, .unset, .unset, .unset] []
  refine fun T7 X7 eh7 => ?_
  generalize l0 + (d1 &&& (65535 : Int32)).toInt64 + (1 : Int64) = l1 at f0 ⊢
  show own_Go p.tables e below _ (T7.setTop (mkF m 50 (Array.mk [.val (.int a1), .val (.int d1), .val (.int d2), .val (.int d3), .val (.int sel), .val (.int nn), .val (.int kk), .val (.int ng), .val (.long l0), .second, .val (.long l1), .second, .unset, .unset, .unset, .unset, .unset, .unset, .unset, .unset, .unset, .unset, .unset, .unset, .unset, .unset, .unset, .unset, .unset, .unset]) []))
  obtain ⟨f1, f10, f11⟩ := own_next l1 d2 (by omega) (by omega)
  refine own_blk dec0 seq0 hby hx hZ hown hK hF 9 [] [] X7 eh7 ?_
  show own_Aft X7 h0 _ 62 [.val (.int a1), .val (.int d1), .val (.int d2), .val (.int d3), .val (.int sel), .val (.int nn), .val (.int kk), .val (.int ng), .val (.long l0), .second, .val (.long l1), .second, .val (.long ((l1 + ((d2 &&& (65535 : Int32)).toInt64)) + (1 : Int64))), .second, .unset, .unset, .unset, .unset, .unset, .unset, .unset, .unset, .unset, .unset, .unset, .unset, .unset, .unset, .unset, .unset] []
  refine fun T8 X8 eh8 => ?_
  generalize l1 + (d2 &&& (65535 : Int32)).toInt64 + (1 : Int64) = l2 at f1 ⊢
  show own_Go p.tables e below _ (T8.setTop (mkF m 62 (Array.mk [.val (.int a1), .val (.int d1), .val (.int d2), .val (.int d3), .val (.int sel), .val (.int nn), .val (.int kk), .val (.int ng), .val (.long l0), .second, .val (.long l1), .second, .val (.long l2), .second, .unset, .unset, .unset, .unset, .unset, .unset, .unset, .unset, .unset, .unset, .unset, .unset, .unset, .unset, .unset, .unset]) []))
  obtain ⟨f2, f20, f21⟩ := own_next l2 d3 (by omega) (by omega)
  refine own_blk dec0 seq0 hby hx hZ hown hK hF 9 [] [] X8 eh8 ?_
  show own_Aft X8 h0 _ 74 [.val (.int a1), .val (.int d1), .val (.int d2), .val (.int d3), .val (.int sel), .val (.int nn), .val (.int kk), .val (.int ng), .val (.long l0), .second, .val (.long l1), .second, .val (.long l2), .second, .val (.long ((l2 + ((d3 &&& (65535 : Int32)).toInt64)) + (1 : Int64))), .second, .unset, .unset, .unset, .unset, .unset, .unset, .unset, .unset, .unset, .unset, .unset, .unset, .unset, .unset] []
  refine fun T9 X9 eh9 => ?_
  generalize l2 + (d3 &&& (65535 : Int32)).toInt64 + (1 : Int64) = l3 at f2 ⊢
  show own_Go p.tables e below _ (T9.setTop (mkF m 74 (Array.mk [.val (.int a1), .val (.int d1), .val (.int d2), .val (.int d3), .val (.int sel), .val (.int nn), .val (.int kk), .val (.int ng), .val (.long l0), .second, .val (.long l1), .second, .val (.long l2), .second, .val (.long l3), .second, .unset, .unset, .unset, .unset, .unset, .unset, .unset, .unset, .unset, .unset, .unset, .unset, .unset, .unset]) []))
  have D0 := own_D.l2d (x := l0) (by omega)
  have D1 := own_D.l2d (x := l1) (by omega)
  have D2 := own_D.l2d (x := l2) (by omega)
  have D3 := own_D.l2d (x := l3) (by omega)
  refine own_blk dec0 seq0 hby hx hZ hown hK hF 12 [] [] X9 eh9 ?_
  show own_Aft X9 h0 _ 94 [.val (.int a1), .val (.int d1), .val (.int d2), .val (.int d3), .val (.int sel), .val (.int nn), .val (.int kk), .val (.int ng), .val (.long l0), .second, .val (.long l1), .second, .val (.long l2), .second, .val (.long l3), .second, .val (.double (FP.l2d l0)), .second, .val (.double (FP.l2d l1)), .second, .val (.double (FP.l2d l2)), .second, .val (.double (FP.l2d l3)), .second, .unset, .unset, .unset, .unset, .unset, .unset] []
  refine fun T10 X10 eh10 => ?_
  generalize FP.l2d l0 = v0 at D0 ⊢
  generalize FP.l2d l1 = v1 at D1 ⊢
  generalize FP.l2d l2 = v2 at D2 ⊢
  generalize FP.l2d l3 = v3 at D3 ⊢
  show own_Go p.tables e below _ (T10.setTop (mkF m 94 (Array.mk [.val (.int a1), .val (.int d1), .val (.int d2), .val (.int d3), .val (.int sel), .val (.int nn), .val (.int kk), .val (.int ng), .val (.long l0), .second, .val (.long l1), .second, .val (.long l2), .second, .val (.long l3), .second, .val (.double v0), .second, .val (.double v1), .second, .val (.double v2), .second, .val (.double v3), .second, .unset, .unset, .unset, .unset, .unset, .unset]) []))
  have u0 : l0.toInt < l1.toInt := by omega
  have u1 : l1.toInt < l2.toInt := by omega
  have u2 : l2.toInt < l3.toInt := by omega
  obtain hn | hn | hn | hn : nn.toInt = (1 : Int32).toInt ∨ nn.toInt = (2 : Int32).toInt ∨ nn.toInt = (3 : Int32).toInt ∨ nn.toInt = (4 : Int32).toInt := by show nn.toInt = 1 ∨ nn.toInt = 2 ∨ nn.toInt = 3 ∨ nn.toInt = 4; omega
  · skip
    obtain rfl : nn = (1 : Int32) := Int32.toInt_inj.mp hn
    have hnn : (1 : Int32).toInt = 1 := rfl
    have hk : kk.toInt = (0 : Int32).toInt := by show _ = 0; omega
    obtain rfl : kk = (0 : Int32) := Int32.toInt_inj.mp hk
    show own_Go p.tables e below _ (T10.setTop (mkF m 94 (Array.mk [.val (.int a1), .val (.int d1), .val (.int d2), .val (.int d3), .val (.int sel), .val (.int (1 : Int32)), .val (.int (0 : Int32)), .val (.int ng), .val (.long l0), .second, .val (.long l1), .second, .val (.long l2), .second, .val (.long l3), .second, .val (.double v0), .second, .val (.double v1), .second, .val (.double v2), .second, .val (.double v3), .second, .unset, .unset, .unset, .unset, .unset, .unset]) []))
    refine own_blk dec0 seq0 hby hx hZ hown hK hF 4 [false] [] X10 eh10 ?_
    show (¬ (((1 : Int32)).toInt ≠ ((1 : Int32)).toInt)) ∧ own_Aft X10 h0 _ 101 [.val (.int a1), .val (.int d1), .val (.int d2), .val (.int d3), .val (.int sel), .val (.int (1 : Int32)), .val (.int (0 : Int32)), .val (.int ng), .val (.long l0), .second, .val (.long l1), .second, .val (.long l2), .second, .val (.long l3), .second, .val (.double v0), .second, .val (.double v1), .second, .val (.double v2), .second, .val (.double v3), .second, .unset, .unset, .unset, .unset, .unset, .unset] [.int (1 : Int32)]
    refine ⟨by decide, fun T11 X11 eh11 => ?_⟩
    refine own_newP X11 hx hZ (hw _ (List.mem_of_getElem? (i := 1) rfl)) eh11 1 rfl (cap := 1) (by decide) (by decide) (hb hby at_101) (by decide) (by decide) (fun T12 hp12 va ga12 X12 eh12 Ex12 Ar12 => ?_)
    have nw_va : n0 ≤ va := by rw [ga12]; exact Z0
    have Z_12 : n0 ≤ hp12.size := Nat.le_trans Z0 Ex12.1
    have Ar12' : own_A Z hp12 va .double [.double 0] := Ar12
    show own_Go p.tables e below _ (T12.setTop (mkF m 103 (Array.mk [.val (.int a1), .val (.int d1), .val (.int d2), .val (.int d3), .val (.int sel), .val (.int (1 : Int32)), .val (.int (0 : Int32)), .val (.int ng), .val (.long l0), .second, .val (.long l1), .second, .val (.long l2), .second, .val (.long l3), .second, .val (.double v0), .second, .val (.double v1), .second, .val (.double v2), .second, .val (.double v3), .second, .unset, .unset, .unset, .unset, .unset, .unset]) [.ref va]))
    refine own_blk dec0 seq0 hby hx hZ hown hK hF 3 [] [] X12 eh12 ?_
    show own_Aft X12 hp12 _ 107 [.val (.int a1), .val (.int d1), .val (.int d2), .val (.int d3), .val (.int sel), .val (.int (1 : Int32)), .val (.int (0 : Int32)), .val (.int ng), .val (.long l0), .second, .val (.long l1), .second, .val (.long l2), .second, .val (.long l3), .second, .val (.double v0), .second, .val (.double v1), .second, .val (.double v2), .second, .val (.double v3), .second, .unset, .unset, .unset, .unset, .unset, .unset] [.double v0, .int (0 : Int32), .ref va, .ref va]
    refine fun T13 X13 eh13 => ?_
    refine own_sD X13 hx hZ eh13 Ar12' 0 rfl (by show 0 < 1; decide) (hb hby at_107) (fun T14 hp14 X14 eh14 Wr14 Ar14 => ?_)
    have Ar14' : own_A Z hp14 va .double [.double v0] := Ar14
    have Nf14 := Fr.snoc X14 N0 nw_va
    have Z_14 : n0 ≤ hp14.size := by rw [Wr.size Wr14]; exact Z_12
    refine own_blk dec0 seq0 hby hx hZ hown hK hF 9 [false] [] X14 eh14 ?_
    show (¬ (((0 : Int32)).toInt ≠ 0)) ∧ own_Aft X14 hp14 _ 237 [.val (.int a1), .val (.int d1), .val (.int d2), .val (.int d3), .val (.int sel), .val (.int (1 : Int32)), .val (.int (0 : Int32)), .val (.int ng), .val (.long l0), .second, .val (.long l1), .second, .val (.long l2), .second, .val (.long l3), .second, .val (.double v0), .second, .val (.double v1), .second, .val (.double v2), .second, .val (.double v3), .second, .val (.ref va), .val (.double v0), .second, .val (.double v0), .second, .unset] []
    refine ⟨by decide, fun T15 X15 eh15 => ?_⟩
    suffices tl16 : ∀ (qq : UInt64) (_ : own_D 0 l0.toInt qq), own_Aft X15 hp14 (own_Fin s 16 128 (fun v h L => v = some (.int 1) ∧ Fr n0 L)) 254 [.val (.int a1), .val (.int d1), .val (.int d2), .val (.int d3), .val (.int sel), .val (.int (1 : Int32)), .val (.int (0 : Int32)), .val (.int ng), .val (.long l0), .second, .val (.long l1), .second, .val (.long l2), .second, .val (.long l3), .second, .val (.double v0), .second, .val (.double v1), .second, .val (.double v2), .second, .val (.double v3), .second, .val (.ref va), .val (.double v0), .second, .val (.double qq), .second, .unset] [] by
      rcases hng with hz | hz
      · skip
        obtain rfl : ng = (0 : Int32) := hz
        show own_Go p.tables e below _ (T15.setTop (mkF m 237 (Array.mk [.val (.int a1), .val (.int d1), .val (.int d2), .val (.int d3), .val (.int sel), .val (.int (1 : Int32)), .val (.int (0 : Int32)), .val (.int (0 : Int32)), .val (.long l0), .second, .val (.long l1), .second, .val (.long l2), .second, .val (.long l3), .second, .val (.double v0), .second, .val (.double v1), .second, .val (.double v2), .second, .val (.double v3), .second, .val (.ref va), .val (.double v0), .second, .val (.double v0), .second, .unset]) []))
        refine own_blk dec0 seq0 hby hx hZ hown hK hF 2 [true] [] X15 eh15 ?_
        show (((0 : Int32)).toInt = 0) ∧ own_Aft X15 hp14 _ 254 [.val (.int a1), .val (.int d1), .val (.int d2), .val (.int d3), .val (.int sel), .val (.int (1 : Int32)), .val (.int (0 : Int32)), .val (.int (0 : Int32)), .val (.long l0), .second, .val (.long l1), .second, .val (.long l2), .second, .val (.long l3), .second, .val (.double v0), .second, .val (.double v1), .second, .val (.double v2), .second, .val (.double v3), .second, .val (.ref va), .val (.double v0), .second, .val (.double v0), .second, .unset] []
        refine ⟨by decide, fun T17 X17 eh17 => ?_⟩
        exact tl16 _ D0 T17 X17 eh17
      · skip
        obtain rfl : ng = (1 : Int32) := hz
        show own_Go p.tables e below _ (T15.setTop (mkF m 237 (Array.mk [.val (.int a1), .val (.int d1), .val (.int d2), .val (.int d3), .val (.int sel), .val (.int (1 : Int32)), .val (.int (0 : Int32)), .val (.int (1 : Int32)), .val (.long l0), .second, .val (.long l1), .second, .val (.long l2), .second, .val (.long l3), .second, .val (.double v0), .second, .val (.double v1), .second, .val (.double v2), .second, .val (.double v3), .second, .val (.ref va), .val (.double v0), .second, .val (.double v0), .second, .unset]) []))
        refine own_blk dec0 seq0 hby hx hZ hown hK hF 5 [false] [] X15 eh15 ?_
        show (¬ (((1 : Int32)).toInt = 0)) ∧ own_Aft X15 hp14 _ 246 [.val (.int a1), .val (.int d1), .val (.int d2), .val (.int d3), .val (.int sel), .val (.int (1 : Int32)), .val (.int (0 : Int32)), .val (.int (1 : Int32)), .val (.long l0), .second, .val (.long l1), .second, .val (.long l2), .second, .val (.long l3), .second, .val (.double v0), .second, .val (.double v1), .second, .val (.double v2), .second, .val (.double v3), .second, .val (.ref va), .val (.double v0), .second, .val (.double v0), .second, .unset] [.int (cmpValue (FP.dcmp v0 0) .l)]
        refine ⟨by decide, fun T18 X18 eh18 => ?_⟩
        by_cases ht : l0.toInt = 0
        · skip
          refine own_blk dec0 seq0 hby hx hZ hown hK hF 4 [false] [] X18 eh18 ?_
          show (¬ ((cmpValue (FP.dcmp v0 0) .l).toInt ≠ 0)) ∧ own_Aft X18 hp14 _ 254 [.val (.int a1), .val (.int d1), .val (.int d2), .val (.int d3), .val (.int sel), .val (.int (1 : Int32)), .val (.int (0 : Int32)), .val (.int (1 : Int32)), .val (.long l0), .second, .val (.long l1), .second, .val (.long l2), .second, .val (.long l3), .second, .val (.double v0), .second, .val (.double v1), .second, .val (.double v2), .second, .val (.double v3), .second, .val (.ref va), .val (.double v0), .second, .val (.double (FP.dneg v0)), .second, .unset] []
          refine ⟨by rw [own_cv_eq (D0.eq own_z0 ht)]; omega, fun T19 X19 eh19 => ?_⟩
          exact tl16 _ (by have := D0.neg; rwa [ht, Int.neg_zero, ← ht] at this) T19 X19 eh19
        · skip
          refine own_blk dec0 seq0 hby hx hZ hown hK hF 1 [true] [] X18 eh18 ?_
          show ((cmpValue (FP.dcmp v0 0) .l).toInt ≠ 0) ∧ own_Aft X18 hp14 _ 254 [.val (.int a1), .val (.int d1), .val (.int d2), .val (.int d3), .val (.int sel), .val (.int (1 : Int32)), .val (.int (0 : Int32)), .val (.int (1 : Int32)), .val (.long l0), .second, .val (.long l1), .second, .val (.long l2), .second, .val (.long l3), .second, .val (.double v0), .second, .val (.double v1), .second, .val (.double v2), .second, .val (.double v3), .second, .val (.ref va), .val (.double v0), .second, .val (.double v0), .second, .unset] []
          refine ⟨by rcases Int.lt_or_gt_of_ne ht with q | q <;> first | (rw [own_cv_lt (D0.lt own_z0 q)]; omega) | (rw [own_cv_gt (D0.gt own_z0 q)]; omega), fun T20 X20 eh20 => ?_⟩
          exact tl16 _ D0 T20 X20 eh20
    intro qq Dq T16 X16 eh16
    refine own_new X16 hx hZ hown (hw _ (List.mem_of_getElem? (i := 2) rfl)) (hw _ (List.mem_of_getElem? (i := 3) rfl)) (hw _ (List.mem_of_getElem? (i := 4) rfl)) eh16 (hb hby at_254) (by decide) (by decide) (fun T21 hp21 ao ga21 X21 eh21 Ex21 Ea21 Dn21 => ?_)
    have ne_va_ao : va ≠ ao := fun q => absurd Ar14'.lt (by rw [q, ga21]; exact Nat.lt_irrefl _)
    have nw_ao : n0 ≤ ao := by rw [ga21]; exact Z_14
    have Ar14'_21 := Ar14'.ext Ex21
    have Z_21 : n0 ≤ hp21.size := Nat.le_trans Z_14 Ex21.1
    have Fn21_values : Fld Z hp21 ao "com/example/binwright/binwright/binning/DistinctValues" "values" "[D" (.null) := Dn21 (Or.inr (hw _ (List.mem_of_getElem? (i := 18) rfl))) (ty := (.array .double)) (by decide)
    have Fn21_before : Fld Z hp21 ao "com/example/binwright/binwright/binning/DistinctValues" "before" "[I" (.null) := Dn21 (Or.inr (hw _ (List.mem_of_getElem? (i := 20) rfl))) (ty := (.array .int)) (by decide)
    show own_Go p.tables e below _ (T21.setTop (mkF m 257 (Array.mk [.val (.int a1), .val (.int d1), .val (.int d2), .val (.int d3), .val (.int sel), .val (.int (1 : Int32)), .val (.int (0 : Int32)), .val (.int ng), .val (.long l0), .second, .val (.long l1), .second, .val (.long l2), .second, .val (.long l3), .second, .val (.double v0), .second, .val (.double v1), .second, .val (.double v2), .second, .val (.double v3), .second, .val (.ref va), .val (.double v0), .second, .val (.double qq), .second, .unset]) [.ref ao]))
    refine own_blk dec0 seq0 hby hx hZ hown hK hF 3 [] [] X21 eh21 ?_
    show own_Aft X21 hp21 _ 261 [.val (.int a1), .val (.int d1), .val (.int d2), .val (.int d3), .val (.int sel), .val (.int (1 : Int32)), .val (.int (0 : Int32)), .val (.int ng), .val (.long l0), .second, .val (.long l1), .second, .val (.long l2), .second, .val (.long l3), .second, .val (.double v0), .second, .val (.double v1), .second, .val (.double v2), .second, .val (.double v3), .second, .val (.ref va), .val (.double v0), .second, .val (.double qq), .second, .unset] [.int (5 : Int32), .ref va, .ref ao, .ref ao]
    refine fun T22 X22 eh22 => ?_
    refine own_newP X22 hx hZ (hw _ (List.mem_of_getElem? (i := 5) rfl)) eh22 5 rfl (cap := 5) (by decide) (by decide) (hb hby at_261) (by decide) (by decide) (fun T23 hp23 ib ga23 X23 eh23 Ex23 Ar23 => ?_)
    have ne_va_ib : va ≠ ib := fun q => absurd Ar14'_21.lt (by rw [q, ga23]; exact Nat.lt_irrefl _)
    have ne_ao_ib : ao ≠ ib := fun q => absurd Ea21.lt (by rw [q, ga23]; exact Nat.lt_irrefl _)
    have nw_ib : n0 ≤ ib := by rw [ga23]; exact Z_21
    have Ar14'_23 := Ar14'_21.ext Ex23
    have Ea21_23 := Exa.ext Ex23 Ea21
    have Fn21_values_23 := Fld.ext Ex23 Fn21_values
    have Fn21_before_23 := Fld.ext Ex23 Fn21_before
    have Z_23 : n0 ≤ hp23.size := Nat.le_trans Z_21 Ex23.1
    show own_Go p.tables e below _ (T23.setTop (mkF m 263 (Array.mk [.val (.int a1), .val (.int d1), .val (.int d2), .val (.int d3), .val (.int sel), .val (.int (1 : Int32)), .val (.int (0 : Int32)), .val (.int ng), .val (.long l0), .second, .val (.long l1), .second, .val (.long l2), .second, .val (.long l3), .second, .val (.double v0), .second, .val (.double v1), .second, .val (.double v2), .second, .val (.double v3), .second, .val (.ref va), .val (.double v0), .second, .val (.double qq), .second, .unset]) [.ref ib, .ref va, .ref ao, .ref ao]))
    refine own_callI X23 hx hZ hown rfl (hw _ (List.mem_of_getElem? (i := 6) rfl)) (hw _ (List.mem_of_getElem? (i := 7) rfl)) (hw _ (List.mem_of_getElem? (i := 4) rfl)) (hw _ (List.mem_of_getElem? (i := 8) rfl)) (by decide) eh23 ao [.ref va, .ref ib] pd1 rfl (rm := ({ frames := 2, cells := 0, slots := 0, locals := 24 } : Room)) (rm1 l Z a0 hw [] ao va ib hp23 n0 Z_23 Ea21_23 nw_ao Fn21_values_23 Fn21_before_23) (by rw [hml]; rfl) 1 rfl (Nat.le_of_eq rfl) (hb hby at_263) (by decide) (by decide) (by decide) (by decide) (fun T24 rv24 Lc24 X24 qc24 => ?_)
    obtain ⟨rfl, M1, KK, EE, G1, G2⟩ := qc24
    have AA1 := Ar14'_23.keep KK (fun q => ne_va_ao (List.mem_singleton.mp q))
    have Z_c : n0 ≤ T24.heap.size := Nat.le_trans Z_23 KK.1
    show own_Go p.tables e below _ (T24.setTop (mkF m 266 (Array.mk [.val (.int a1), .val (.int d1), .val (.int d2), .val (.int d3), .val (.int sel), .val (.int (1 : Int32)), .val (.int (0 : Int32)), .val (.int ng), .val (.long l0), .second, .val (.long l1), .second, .val (.long l2), .second, .val (.long l3), .second, .val (.double v0), .second, .val (.double v1), .second, .val (.double v2), .second, .val (.double v3), .second, .val (.ref va), .val (.double v0), .second, .val (.double qq), .second, .unset]) [.ref ao]))
    refine own_blk dec0 seq0 hby hx hZ hown hK hF 3 [] [] X24 rfl ?_
    show own_Aft X24 T24.heap _ 272 [.val (.int a1), .val (.int d1), .val (.int d2), .val (.int d3), .val (.int sel), .val (.int (1 : Int32)), .val (.int (0 : Int32)), .val (.int ng), .val (.long l0), .second, .val (.long l1), .second, .val (.long l2), .second, .val (.long l3), .second, .val (.double v0), .second, .val (.double v1), .second, .val (.double v2), .second, .val (.double v3), .second, .val (.ref va), .val (.double v0), .second, .val (.double qq), .second, .val (.ref ao)] [.double qq, .ref ao]
    refine fun T25 X25 eh25 => ?_
    refine own_callV X25 hx hZ hown (hw _ (List.mem_of_getElem? (i := 21) rfl)) (hw _ (List.mem_of_getElem? (i := 22) rfl)) (hw _ (List.mem_of_getElem? (i := 24) rfl)) (hw _ (List.mem_of_getElem? (i := 23) rfl)) (hw _ (List.mem_of_getElem? (i := 4) rfl)) (hw _ (List.mem_of_getElem? (i := 25) rfl)) (by decide) eh25 EE [.double qq] pd4 rfl (rm := ({ frames := 0, cells := 0, slots := 0, locals := 0 } : Room)) (rm4_1_0 l Z a0 hw [] ao va qq v0 _ T24.heap n0 Z_c G1 AA1 Dq D0 ) (by rw [hml]; rfl) 0 rfl (Nat.le_of_eq rfl) (hb hby at_272) (by decide) (by decide) (by decide) (by decide) (fun T26 rv26 Lc26 X26 qc26 => ?_)
    obtain ⟨rfl, M2, hh⟩ := qc26
    show own_Go p.tables e below _ (T26.setTop (mkF m 275 (Array.mk [.val (.int a1), .val (.int d1), .val (.int d2), .val (.int d3), .val (.int sel), .val (.int (1 : Int32)), .val (.int (0 : Int32)), .val (.int ng), .val (.long l0), .second, .val (.long l1), .second, .val (.long l2), .second, .val (.long l3), .second, .val (.double v0), .second, .val (.double v1), .second, .val (.double v2), .second, .val (.double v3), .second, .val (.ref va), .val (.double v0), .second, .val (.double qq), .second, .val (.ref ao)]) [.int (0 : Int32)]))
    refine own_blk dec0 seq0 hby hx hZ hown hK hF 4 [false] [] X26 hh ?_
    show (¬ (((0 : Int32)).toInt ≠ ((0 : Int32)).toInt)) ∧ own_Aft X26 T24.heap _ 285 [.val (.int a1), .val (.int d1), .val (.int d2), .val (.int d3), .val (.int sel), .val (.int (1 : Int32)), .val (.int (0 : Int32)), .val (.int ng), .val (.long l0), .second, .val (.long l1), .second, .val (.long l2), .second, .val (.long l3), .second, .val (.double v0), .second, .val (.double v1), .second, .val (.double v2), .second, .val (.double v3), .second, .val (.ref va), .val (.double v0), .second, .val (.double qq), .second, .val (.ref ao)] [.int (1 : Int32)]
    refine ⟨by decide, fun T27 X27 eh27 => ?_⟩
    exact own_ret X27 hx hlk eh27 hret (by first | rfl | decide) (Or.inl ⟨rfl, by simp, _, rfl⟩) (hb hby at_285) (by decide) (by decide) (⟨rfl, Fr.app (Fr.app Nf14 M1) M2⟩)
  · skip
    obtain rfl : nn = (2 : Int32) := Int32.toInt_inj.mp hn
    have hnn : (2 : Int32).toInt = 2 := rfl
    obtain hk | hk : kk.toInt = (0 : Int32).toInt ∨ kk.toInt = (1 : Int32).toInt := by first | omega | (show kk.toInt = 0 ∨ kk.toInt = 1; omega)
    · skip
      obtain rfl : kk = (0 : Int32) := Int32.toInt_inj.mp hk
      show own_Go p.tables e below _ (T10.setTop (mkF m 94 (Array.mk [.val (.int a1), .val (.int d1), .val (.int d2), .val (.int d3), .val (.int sel), .val (.int (2 : Int32)), .val (.int (0 : Int32)), .val (.int ng), .val (.long l0), .second, .val (.long l1), .second, .val (.long l2), .second, .val (.long l3), .second, .val (.double v0), .second, .val (.double v1), .second, .val (.double v2), .second, .val (.double v3), .second, .unset, .unset, .unset, .unset, .unset, .unset]) []))
      refine own_blk dec0 seq0 hby hx hZ hown hK hF 7 [true, false] [] X10 eh10 ?_
      show (((2 : Int32)).toInt ≠ ((1 : Int32)).toInt) ∧ (¬ (((2 : Int32)).toInt ≠ ((2 : Int32)).toInt)) ∧ own_Aft X10 h0 _ 120 [.val (.int a1), .val (.int d1), .val (.int d2), .val (.int d3), .val (.int sel), .val (.int (2 : Int32)), .val (.int (0 : Int32)), .val (.int ng), .val (.long l0), .second, .val (.long l1), .second, .val (.long l2), .second, .val (.long l3), .second, .val (.double v0), .second, .val (.double v1), .second, .val (.double v2), .second, .val (.double v3), .second, .unset, .unset, .unset, .unset, .unset, .unset] [.int (2 : Int32)]
      refine ⟨by decide, by decide, fun T28 X28 eh28 => ?_⟩
      refine own_newP X28 hx hZ (hw _ (List.mem_of_getElem? (i := 1) rfl)) eh28 2 rfl (cap := 2) (by decide) (by decide) (hb hby at_120) (by decide) (by decide) (fun T29 hp29 va ga29 X29 eh29 Ex29 Ar29 => ?_)
      have nw_va : n0 ≤ va := by rw [ga29]; exact Z0
      have Z_29 : n0 ≤ hp29.size := Nat.le_trans Z0 Ex29.1
      have Ar29' : own_A Z hp29 va .double [.double 0, .double 0] := Ar29
      show own_Go p.tables e below _ (T29.setTop (mkF m 122 (Array.mk [.val (.int a1), .val (.int d1), .val (.int d2), .val (.int d3), .val (.int sel), .val (.int (2 : Int32)), .val (.int (0 : Int32)), .val (.int ng), .val (.long l0), .second, .val (.long l1), .second, .val (.long l2), .second, .val (.long l3), .second, .val (.double v0), .second, .val (.double v1), .second, .val (.double v2), .second, .val (.double v3), .second, .unset, .unset, .unset, .unset, .unset, .unset]) [.ref va]))
      refine own_blk dec0 seq0 hby hx hZ hown hK hF 3 [] [] X29 eh29 ?_
      show own_Aft X29 hp29 _ 126 [.val (.int a1), .val (.int d1), .val (.int d2), .val (.int d3), .val (.int sel), .val (.int (2 : Int32)), .val (.int (0 : Int32)), .val (.int ng), .val (.long l0), .second, .val (.long l1), .second, .val (.long l2), .second, .val (.long l3), .second, .val (.double v0), .second, .val (.double v1), .second, .val (.double v2), .second, .val (.double v3), .second, .unset, .unset, .unset, .unset, .unset, .unset] [.double v0, .int (0 : Int32), .ref va, .ref va]
      refine fun T30 X30 eh30 => ?_
      refine own_sD X30 hx hZ eh30 Ar29' 0 rfl (by show 0 < 2; decide) (hb hby at_126) (fun T31 hp31 X31 eh31 Wr31 Ar31 => ?_)
      have Ar31' : own_A Z hp31 va .double [.double v0, .double 0] := Ar31
      have Nf31 := Fr.snoc X31 N0 nw_va
      have Z_31 : n0 ≤ hp31.size := by rw [Wr.size Wr31]; exact Z_29
      refine own_blk dec0 seq0 hby hx hZ hown hK hF 3 [] [] X31 eh31 ?_
      show own_Aft X31 hp31 _ 131 [.val (.int a1), .val (.int d1), .val (.int d2), .val (.int d3), .val (.int sel), .val (.int (2 : Int32)), .val (.int (0 : Int32)), .val (.int ng), .val (.long l0), .second, .val (.long l1), .second, .val (.long l2), .second, .val (.long l3), .second, .val (.double v0), .second, .val (.double v1), .second, .val (.double v2), .second, .val (.double v3), .second, .unset, .unset, .unset, .unset, .unset, .unset] [.double v1, .int (1 : Int32), .ref va, .ref va]
      refine fun T32 X32 eh32 => ?_
      refine own_sD X32 hx hZ eh32 Ar31' 1 rfl (by show 1 < 2; decide) (hb hby at_131) (fun T33 hp33 X33 eh33 Wr33 Ar33 => ?_)
      have Ar33' : own_A Z hp33 va .double [.double v0, .double v1] := Ar33
      have Nf33 := Fr.snoc X33 Nf31 nw_va
      have Z_33 : n0 ≤ hp33.size := by rw [Wr.size Wr33]; exact Z_31
      refine own_blk dec0 seq0 hby hx hZ hown hK hF 9 [false] [] X33 eh33 ?_
      show (¬ (((0 : Int32)).toInt ≠ 0)) ∧ own_Aft X33 hp33 _ 237 [.val (.int a1), .val (.int d1), .val (.int d2), .val (.int d3), .val (.int sel), .val (.int (2 : Int32)), .val (.int (0 : Int32)), .val (.int ng), .val (.long l0), .second, .val (.long l1), .second, .val (.long l2), .second, .val (.long l3), .second, .val (.double v0), .second, .val (.double v1), .second, .val (.double v2), .second, .val (.double v3), .second, .val (.ref va), .val (.double v0), .second, .val (.double v0), .second, .unset] []
      refine ⟨by decide, fun T34 X34 eh34 => ?_⟩
      suffices tl35 : ∀ (qq : UInt64) (_ : own_D 0 l0.toInt qq), own_Aft X34 hp33 (own_Fin s 16 128 (fun v h L => v = some (.int 1) ∧ Fr n0 L)) 254 [.val (.int a1), .val (.int d1), .val (.int d2), .val (.int d3), .val (.int sel), .val (.int (2 : Int32)), .val (.int (0 : Int32)), .val (.int ng), .val (.long l0), .second, .val (.long l1), .second, .val (.long l2), .second, .val (.long l3), .second, .val (.double v0), .second, .val (.double v1), .second, .val (.double v2), .second, .val (.double v3), .second, .val (.ref va), .val (.double v0), .second, .val (.double qq), .second, .unset] [] by
        rcases hng with hz | hz
        · skip
          obtain rfl : ng = (0 : Int32) := hz
          show own_Go p.tables e below _ (T34.setTop (mkF m 237 (Array.mk [.val (.int a1), .val (.int d1), .val (.int d2), .val (.int d3), .val (.int sel), .val (.int (2 : Int32)), .val (.int (0 : Int32)), .val (.int (0 : Int32)), .val (.long l0), .second, .val (.long l1), .second, .val (.long l2), .second, .val (.long l3), .second, .val (.double v0), .second, .val (.double v1), .second, .val (.double v2), .second, .val (.double v3), .second, .val (.ref va), .val (.double v0), .second, .val (.double v0), .second, .unset]) []))
          refine own_blk dec0 seq0 hby hx hZ hown hK hF 2 [true] [] X34 eh34 ?_
          show (((0 : Int32)).toInt = 0) ∧ own_Aft X34 hp33 _ 254 [.val (.int a1), .val (.int d1), .val (.int d2), .val (.int d3), .val (.int sel), .val (.int (2 : Int32)), .val (.int (0 : Int32)), .val (.int (0 : Int32)), .val (.long l0), .second, .val (.long l1), .second, .val (.long l2), .second, .val (.long l3), .second, .val (.double v0), .second, .val (.double v1), .second, .val (.double v2), .second, .val (.double v3), .second, .val (.ref va), .val (.double v0), .second, .val (.double v0), .second, .unset] []
          refine ⟨by decide, fun T36 X36 eh36 => ?_⟩
          exact tl35 _ D0 T36 X36 eh36
        · skip
          obtain rfl : ng = (1 : Int32) := hz
          show own_Go p.tables e below _ (T34.setTop (mkF m 237 (Array.mk [.val (.int a1), .val (.int d1), .val (.int d2), .val (.int d3), .val (.int sel), .val (.int (2 : Int32)), .val (.int (0 : Int32)), .val (.int (1 : Int32)), .val (.long l0), .second, .val (.long l1), .second, .val (.long l2), .second, .val (.long l3), .second, .val (.double v0), .second, .val (.double v1), .second, .val (.double v2), .second, .val (.double v3), .second, .val (.ref va), .val (.double v0), .second, .val (.double v0), .second, .unset]) []))
          refine own_blk dec0 seq0 hby hx hZ hown hK hF 5 [false] [] X34 eh34 ?_
          show (¬ (((1 : Int32)).toInt = 0)) ∧ own_Aft X34 hp33 _ 246 [.val (.int a1), .val (.int d1), .val (.int d2), .val (.int d3), .val (.int sel), .val (.int (2 : Int32)), .val (.int (0 : Int32)), .val (.int (1 : Int32)), .val (.long l0), .second, .val (.long l1), .second, .val (.long l2), .second, .val (.long l3), .second, .val (.double v0), .second, .val (.double v1), .second, .val (.double v2), .second, .val (.double v3), .second, .val (.ref va), .val (.double v0), .second, .val (.double v0), .second, .unset] [.int (cmpValue (FP.dcmp v0 0) .l)]
          refine ⟨by decide, fun T37 X37 eh37 => ?_⟩
          by_cases ht : l0.toInt = 0
          · skip
            refine own_blk dec0 seq0 hby hx hZ hown hK hF 4 [false] [] X37 eh37 ?_
            show (¬ ((cmpValue (FP.dcmp v0 0) .l).toInt ≠ 0)) ∧ own_Aft X37 hp33 _ 254 [.val (.int a1), .val (.int d1), .val (.int d2), .val (.int d3), .val (.int sel), .val (.int (2 : Int32)), .val (.int (0 : Int32)), .val (.int (1 : Int32)), .val (.long l0), .second, .val (.long l1), .second, .val (.long l2), .second, .val (.long l3), .second, .val (.double v0), .second, .val (.double v1), .second, .val (.double v2), .second, .val (.double v3), .second, .val (.ref va), .val (.double v0), .second, .val (.double (FP.dneg v0)), .second, .unset] []
            refine ⟨by rw [own_cv_eq (D0.eq own_z0 ht)]; omega, fun T38 X38 eh38 => ?_⟩
            exact tl35 _ (by have := D0.neg; rwa [ht, Int.neg_zero, ← ht] at this) T38 X38 eh38
          · skip
            refine own_blk dec0 seq0 hby hx hZ hown hK hF 1 [true] [] X37 eh37 ?_
            show ((cmpValue (FP.dcmp v0 0) .l).toInt ≠ 0) ∧ own_Aft X37 hp33 _ 254 [.val (.int a1), .val (.int d1), .val (.int d2), .val (.int d3), .val (.int sel), .val (.int (2 : Int32)), .val (.int (0 : Int32)), .val (.int (1 : Int32)), .val (.long l0), .second, .val (.long l1), .second, .val (.long l2), .second, .val (.long l3), .second, .val (.double v0), .second, .val (.double v1), .second, .val (.double v2), .second, .val (.double v3), .second, .val (.ref va), .val (.double v0), .second, .val (.double v0), .second, .unset] []
            refine ⟨by rcases Int.lt_or_gt_of_ne ht with q | q <;> first | (rw [own_cv_lt (D0.lt own_z0 q)]; omega) | (rw [own_cv_gt (D0.gt own_z0 q)]; omega), fun T39 X39 eh39 => ?_⟩
            exact tl35 _ D0 T39 X39 eh39
      intro qq Dq T35 X35 eh35
      refine own_new X35 hx hZ hown (hw _ (List.mem_of_getElem? (i := 2) rfl)) (hw _ (List.mem_of_getElem? (i := 3) rfl)) (hw _ (List.mem_of_getElem? (i := 4) rfl)) eh35 (hb hby at_254) (by decide) (by decide) (fun T40 hp40 ao ga40 X40 eh40 Ex40 Ea40 Dn40 => ?_)
      have ne_va_ao : va ≠ ao := fun q => absurd Ar33'.lt (by rw [q, ga40]; exact Nat.lt_irrefl _)
      have nw_ao : n0 ≤ ao := by rw [ga40]; exact Z_33
      have Ar33'_40 := Ar33'.ext Ex40
      have Z_40 : n0 ≤ hp40.size := Nat.le_trans Z_33 Ex40.1
      have Fn40_values : Fld Z hp40 ao "com/example/binwright/binwright/binning/DistinctValues" "values" "[D" (.null) := Dn40 (Or.inr (hw _ (List.mem_of_getElem? (i := 18) rfl))) (ty := (.array .double)) (by decide)
      have Fn40_before : Fld Z hp40 ao "com/example/binwright/binwright/binning/DistinctValues" "before" "[I" (.null) := Dn40 (Or.inr (hw _ (List.mem_of_getElem? (i := 20) rfl))) (ty := (.array .int)) (by decide)
      show own_Go p.tables e below _ (T40.setTop (mkF m 257 (Array.mk [.val (.int a1), .val (.int d1), .val (.int d2), .val (.int d3), .val (.int sel), .val (.int (2 : Int32)), .val (.int (0 : Int32)), .val (.int ng), .val (.long l0), .second, .val (.long l1), .second, .val (.long l2), .second, .val (.long l3), .second, .val (.double v0), .second, .val (.double v1), .second, .val (.double v2), .second, .val (.double v3), .second, .val (.ref va), .val (.double v0), .second, .val (.double qq), .second, .unset]) [.ref ao]))
      refine own_blk dec0 seq0 hby hx hZ hown hK hF 3 [] [] X40 eh40 ?_
      show own_Aft X40 hp40 _ 261 [.val (.int a1), .val (.int d1), .val (.int d2), .val (.int d3), .val (.int sel), .val (.int (2 : Int32)), .val (.int (0 : Int32)), .val (.int ng), .val (.long l0), .second, .val (.long l1), .second, .val (.long l2), .second, .val (.long l3), .second, .val (.double v0), .second, .val (.double v1), .second, .val (.double v2), .second, .val (.double v3), .second, .val (.ref va), .val (.double v0), .second, .val (.double qq), .second, .unset] [.int (5 : Int32), .ref va, .ref ao, .ref ao]
      refine fun T41 X41 eh41 => ?_
      refine own_newP X41 hx hZ (hw _ (List.mem_of_getElem? (i := 5) rfl)) eh41 5 rfl (cap := 5) (by decide) (by decide) (hb hby at_261) (by decide) (by decide) (fun T42 hp42 ib ga42 X42 eh42 Ex42 Ar42 => ?_)
      have ne_va_ib : va ≠ ib := fun q => absurd Ar33'_40.lt (by rw [q, ga42]; exact Nat.lt_irrefl _)
      have ne_ao_ib : ao ≠ ib := fun q => absurd Ea40.lt (by rw [q, ga42]; exact Nat.lt_irrefl _)
      have nw_ib : n0 ≤ ib := by rw [ga42]; exact Z_40
      have Ar33'_42 := Ar33'_40.ext Ex42
      have Ea40_42 := Exa.ext Ex42 Ea40
      have Fn40_values_42 := Fld.ext Ex42 Fn40_values
      have Fn40_before_42 := Fld.ext Ex42 Fn40_before
      have Z_42 : n0 ≤ hp42.size := Nat.le_trans Z_40 Ex42.1
      show own_Go p.tables e below _ (T42.setTop (mkF m 263 (Array.mk [.val (.int a1), .val (.int d1), .val (.int d2), .val (.int d3), .val (.int sel), .val (.int (2 : Int32)), .val (.int (0 : Int32)), .val (.int ng), .val (.long l0), .second, .val (.long l1), .second, .val (.long l2), .second, .val (.long l3), .second, .val (.double v0), .second, .val (.double v1), .second, .val (.double v2), .second, .val (.double v3), .second, .val (.ref va), .val (.double v0), .second, .val (.double qq), .second, .unset]) [.ref ib, .ref va, .ref ao, .ref ao]))
      refine own_callI X42 hx hZ hown rfl (hw _ (List.mem_of_getElem? (i := 6) rfl)) (hw _ (List.mem_of_getElem? (i := 7) rfl)) (hw _ (List.mem_of_getElem? (i := 4) rfl)) (hw _ (List.mem_of_getElem? (i := 8) rfl)) (by decide) eh42 ao [.ref va, .ref ib] pd1 rfl (rm := ({ frames := 2, cells := 0, slots := 0, locals := 24 } : Room)) (rm1 l Z a0 hw [] ao va ib hp42 n0 Z_42 Ea40_42 nw_ao Fn40_values_42 Fn40_before_42) (by rw [hml]; rfl) 1 rfl (Nat.le_of_eq rfl) (hb hby at_263) (by decide) (by decide) (by decide) (by decide) (fun T43 rv43 Lc43 X43 qc43 => ?_)
      obtain ⟨rfl, M1, KK, EE, G1, G2⟩ := qc43
      have AA1 := Ar33'_42.keep KK (fun q => ne_va_ao (List.mem_singleton.mp q))
      have Z_c : n0 ≤ T43.heap.size := Nat.le_trans Z_42 KK.1
      show own_Go p.tables e below _ (T43.setTop (mkF m 266 (Array.mk [.val (.int a1), .val (.int d1), .val (.int d2), .val (.int d3), .val (.int sel), .val (.int (2 : Int32)), .val (.int (0 : Int32)), .val (.int ng), .val (.long l0), .second, .val (.long l1), .second, .val (.long l2), .second, .val (.long l3), .second, .val (.double v0), .second, .val (.double v1), .second, .val (.double v2), .second, .val (.double v3), .second, .val (.ref va), .val (.double v0), .second, .val (.double qq), .second, .unset]) [.ref ao]))
      refine own_blk dec0 seq0 hby hx hZ hown hK hF 3 [] [] X43 rfl ?_
      show own_Aft X43 T43.heap _ 272 [.val (.int a1), .val (.int d1), .val (.int d2), .val (.int d3), .val (.int sel), .val (.int (2 : Int32)), .val (.int (0 : Int32)), .val (.int ng), .val (.long l0), .second, .val (.long l1), .second, .val (.long l2), .second, .val (.long l3), .second, .val (.double v0), .second, .val (.double v1), .second, .val (.double v2), .second, .val (.double v3), .second, .val (.ref va), .val (.double v0), .second, .val (.double qq), .second, .val (.ref ao)] [.double qq, .ref ao]
      refine fun T44 X44 eh44 => ?_
      refine own_callV X44 hx hZ hown (hw _ (List.mem_of_getElem? (i := 21) rfl)) (hw _ (List.mem_of_getElem? (i := 22) rfl)) (hw _ (List.mem_of_getElem? (i := 24) rfl)) (hw _ (List.mem_of_getElem? (i := 23) rfl)) (hw _ (List.mem_of_getElem? (i := 4) rfl)) (hw _ (List.mem_of_getElem? (i := 25) rfl)) (by decide) eh44 EE [.double qq] pd4 rfl (rm := ({ frames := 0, cells := 0, slots := 0, locals := 0 } : Room)) (rm4_2_0 l Z a0 hw [] ao va qq v0 _ v1 _ T43.heap n0 Z_c G1 AA1 Dq D0 D1 u0) (by rw [hml]; rfl) 0 rfl (Nat.le_of_eq rfl) (hb hby at_272) (by decide) (by decide) (by decide) (by decide) (fun T45 rv45 Lc45 X45 qc45 => ?_)
      obtain ⟨rfl, M2, hh⟩ := qc45
      show own_Go p.tables e below _ (T45.setTop (mkF m 275 (Array.mk [.val (.int a1), .val (.int d1), .val (.int d2), .val (.int d3), .val (.int sel), .val (.int (2 : Int32)), .val (.int (0 : Int32)), .val (.int ng), .val (.long l0), .second, .val (.long l1), .second, .val (.long l2), .second, .val (.long l3), .second, .val (.double v0), .second, .val (.double v1), .second, .val (.double v2), .second, .val (.double v3), .second, .val (.ref va), .val (.double v0), .second, .val (.double qq), .second, .val (.ref ao)]) [.int (0 : Int32)]))
      refine own_blk dec0 seq0 hby hx hZ hown hK hF 4 [false] [] X45 hh ?_
      show (¬ (((0 : Int32)).toInt ≠ ((0 : Int32)).toInt)) ∧ own_Aft X45 T43.heap _ 285 [.val (.int a1), .val (.int d1), .val (.int d2), .val (.int d3), .val (.int sel), .val (.int (2 : Int32)), .val (.int (0 : Int32)), .val (.int ng), .val (.long l0), .second, .val (.long l1), .second, .val (.long l2), .second, .val (.long l3), .second, .val (.double v0), .second, .val (.double v1), .second, .val (.double v2), .second, .val (.double v3), .second, .val (.ref va), .val (.double v0), .second, .val (.double qq), .second, .val (.ref ao)] [.int (1 : Int32)]
      refine ⟨by decide, fun T46 X46 eh46 => ?_⟩
      exact own_ret X46 hx hlk eh46 hret (by first | rfl | decide) (Or.inl ⟨rfl, by simp, _, rfl⟩) (hb hby at_285) (by decide) (by decide) (⟨rfl, Fr.app (Fr.app Nf33 M1) M2⟩)
    · skip
      obtain rfl : kk = (1 : Int32) := Int32.toInt_inj.mp hk
      show own_Go p.tables e below _ (T10.setTop (mkF m 94 (Array.mk [.val (.int a1), .val (.int d1), .val (.int d2), .val (.int d3), .val (.int sel), .val (.int (2 : Int32)), .val (.int (1 : Int32)), .val (.int ng), .val (.long l0), .second, .val (.long l1), .second, .val (.long l2), .second, .val (.long l3), .second, .val (.double v0), .second, .val (.double v1), .second, .val (.double v2), .second, .val (.double v3), .second, .unset, .unset, .unset, .unset, .unset, .unset]) []))
      refine own_blk dec0 seq0 hby hx hZ hown hK hF 7 [true, false] [] X10 eh10 ?_
      show (((2 : Int32)).toInt ≠ ((1 : Int32)).toInt) ∧ (¬ (((2 : Int32)).toInt ≠ ((2 : Int32)).toInt)) ∧ own_Aft X10 h0 _ 120 [.val (.int a1), .val (.int d1), .val (.int d2), .val (.int d3), .val (.int sel), .val (.int (2 : Int32)), .val (.int (1 : Int32)), .val (.int ng), .val (.long l0), .second, .val (.long l1), .second, .val (.long l2), .second, .val (.long l3), .second, .val (.double v0), .second, .val (.double v1), .second, .val (.double v2), .second, .val (.double v3), .second, .unset, .unset, .unset, .unset, .unset, .unset] [.int (2 : Int32)]
      refine ⟨by decide, by decide, fun T47 X47 eh47 => ?_⟩
      refine own_newP X47 hx hZ (hw _ (List.mem_of_getElem? (i := 1) rfl)) eh47 2 rfl (cap := 2) (by decide) (by decide) (hb hby at_120) (by decide) (by decide) (fun T48 hp48 va ga48 X48 eh48 Ex48 Ar48 => ?_)
      have nw_va : n0 ≤ va := by rw [ga48]; exact Z0
      have Z_48 : n0 ≤ hp48.size := Nat.le_trans Z0 Ex48.1
      have Ar48' : own_A Z hp48 va .double [.double 0, .double 0] := Ar48
      show own_Go p.tables e below _ (T48.setTop (mkF m 122 (Array.mk [.val (.int a1), .val (.int d1), .val (.int d2), .val (.int d3), .val (.int sel), .val (.int (2 : Int32)), .val (.int (1 : Int32)), .val (.int ng), .val (.long l0), .second, .val (.long l1), .second, .val (.long l2), .second, .val (.long l3), .second, .val (.double v0), .second, .val (.double v1), .second, .val (.double v2), .second, .val (.double v3), .second, .unset, .unset, .unset, .unset, .unset, .unset]) [.ref va]))
      refine own_blk dec0 seq0 hby hx hZ hown hK hF 3 [] [] X48 eh48 ?_
      show own_Aft X48 hp48 _ 126 [.val (.int a1), .val (.int d1), .val (.int d2), .val (.int d3), .val (.int sel), .val (.int (2 : Int32)), .val (.int (1 : Int32)), .val (.int ng), .val (.long l0), .second, .val (.long l1), .second, .val (.long l2), .second, .val (.long l3), .second, .val (.double v0), .second, .val (.double v1), .second, .val (.double v2), .second, .val (.double v3), .second, .unset, .unset, .unset, .unset, .unset, .unset] [.double v0, .int (0 : Int32), .ref va, .ref va]
      refine fun T49 X49 eh49 => ?_
      refine own_sD X49 hx hZ eh49 Ar48' 0 rfl (by show 0 < 2; decide) (hb hby at_126) (fun T50 hp50 X50 eh50 Wr50 Ar50 => ?_)
      have Ar50' : own_A Z hp50 va .double [.double v0, .double 0] := Ar50
      have Nf50 := Fr.snoc X50 N0 nw_va
      have Z_50 : n0 ≤ hp50.size := by rw [Wr.size Wr50]; exact Z_48
      refine own_blk dec0 seq0 hby hx hZ hown hK hF 3 [] [] X50 eh50 ?_
      show own_Aft X50 hp50 _ 131 [.val (.int a1), .val (.int d1), .val (.int d2), .val (.int d3), .val (.int sel), .val (.int (2 : Int32)), .val (.int (1 : Int32)), .val (.int ng), .val (.long l0), .second, .val (.long l1), .second, .val (.long l2), .second, .val (.long l3), .second, .val (.double v0), .second, .val (.double v1), .second, .val (.double v2), .second, .val (.double v3), .second, .unset, .unset, .unset, .unset, .unset, .unset] [.double v1, .int (1 : Int32), .ref va, .ref va]
      refine fun T51 X51 eh51 => ?_
      refine own_sD X51 hx hZ eh51 Ar50' 1 rfl (by show 1 < 2; decide) (hb hby at_131) (fun T52 hp52 X52 eh52 Wr52 Ar52 => ?_)
      have Ar52' : own_A Z hp52 va .double [.double v0, .double v1] := Ar52
      have Nf52 := Fr.snoc X52 Nf50 nw_va
      have Z_52 : n0 ≤ hp52.size := by rw [Wr.size Wr52]; exact Z_50
      refine own_blk dec0 seq0 hby hx hZ hown hK hF 12 [true, false] [] X52 eh52 ?_
      show (((1 : Int32)).toInt ≠ 0) ∧ (¬ (((1 : Int32)).toInt ≠ ((1 : Int32)).toInt)) ∧ own_Aft X52 hp52 _ 237 [.val (.int a1), .val (.int d1), .val (.int d2), .val (.int d3), .val (.int sel), .val (.int (2 : Int32)), .val (.int (1 : Int32)), .val (.int ng), .val (.long l0), .second, .val (.long l1), .second, .val (.long l2), .second, .val (.long l3), .second, .val (.double v0), .second, .val (.double v1), .second, .val (.double v2), .second, .val (.double v3), .second, .val (.ref va), .val (.double v1), .second, .val (.double v1), .second, .unset] []
      refine ⟨by decide, by decide, fun T53 X53 eh53 => ?_⟩
      suffices tl54 : ∀ (qq : UInt64) (_ : own_D 0 l1.toInt qq), own_Aft X53 hp52 (own_Fin s 16 128 (fun v h L => v = some (.int 1) ∧ Fr n0 L)) 254 [.val (.int a1), .val (.int d1), .val (.int d2), .val (.int d3), .val (.int sel), .val (.int (2 : Int32)), .val (.int (1 : Int32)), .val (.int ng), .val (.long l0), .second, .val (.long l1), .second, .val (.long l2), .second, .val (.long l3), .second, .val (.double v0), .second, .val (.double v1), .second, .val (.double v2), .second, .val (.double v3), .second, .val (.ref va), .val (.double v1), .second, .val (.double qq), .second, .unset] [] by
        rcases hng with hz | hz
        · skip
          obtain rfl : ng = (0 : Int32) := hz
          show own_Go p.tables e below _ (T53.setTop (mkF m 237 (Array.mk [.val (.int a1), .val (.int d1), .val (.int d2), .val (.int d3), .val (.int sel), .val (.int (2 : Int32)), .val (.int (1 : Int32)), .val (.int (0 : Int32)), .val (.long l0), .second, .val (.long l1), .second, .val (.long l2), .second, .val (.long l3), .second, .val (.double v0), .second, .val (.double v1), .second, .val (.double v2), .second, .val (.double v3), .second, .val (.ref va), .val (.double v1), .second, .val (.double v1), .second, .unset]) []))
          refine own_blk dec0 seq0 hby hx hZ hown hK hF 2 [true] [] X53 eh53 ?_
          show (((0 : Int32)).toInt = 0) ∧ own_Aft X53 hp52 _ 254 [.val (.int a1), .val (.int d1), .val (.int d2), .val (.int d3), .val (.int sel), .val (.int (2 : Int32)), .val (.int (1 : Int32)), .val (.int (0 : Int32)), .val (.long l0), .second, .val (.long l1), .second, .val (.long l2), .second, .val (.long l3), .second, .val (.double v0), .second, .val (.double v1), .second, .val (.double v2), .second, .val (.double v3), .second, .val (.ref va), .val (.double v1), .second, .val (.double v1), .second, .unset] []
          refine ⟨by decide, fun T55 X55 eh55 => ?_⟩
          exact tl54 _ D1 T55 X55 eh55
        · skip
          obtain rfl : ng = (1 : Int32) := hz
          show own_Go p.tables e below _ (T53.setTop (mkF m 237 (Array.mk [.val (.int a1), .val (.int d1), .val (.int d2), .val (.int d3), .val (.int sel), .val (.int (2 : Int32)), .val (.int (1 : Int32)), .val (.int (1 : Int32)), .val (.long l0), .second, .val (.long l1), .second, .val (.long l2), .second, .val (.long l3), .second, .val (.double v0), .second, .val (.double v1), .second, .val (.double v2), .second, .val (.double v3), .second, .val (.ref va), .val (.double v1), .second, .val (.double v1), .second, .unset]) []))
          refine own_blk dec0 seq0 hby hx hZ hown hK hF 5 [false] [] X53 eh53 ?_
          show (¬ (((1 : Int32)).toInt = 0)) ∧ own_Aft X53 hp52 _ 246 [.val (.int a1), .val (.int d1), .val (.int d2), .val (.int d3), .val (.int sel), .val (.int (2 : Int32)), .val (.int (1 : Int32)), .val (.int (1 : Int32)), .val (.long l0), .second, .val (.long l1), .second, .val (.long l2), .second, .val (.long l3), .second, .val (.double v0), .second, .val (.double v1), .second, .val (.double v2), .second, .val (.double v3), .second, .val (.ref va), .val (.double v1), .second, .val (.double v1), .second, .unset] [.int (cmpValue (FP.dcmp v1 0) .l)]
          refine ⟨by decide, fun T56 X56 eh56 => ?_⟩
          by_cases ht : l1.toInt = 0
          · skip
            refine own_blk dec0 seq0 hby hx hZ hown hK hF 4 [false] [] X56 eh56 ?_
            show (¬ ((cmpValue (FP.dcmp v1 0) .l).toInt ≠ 0)) ∧ own_Aft X56 hp52 _ 254 [.val (.int a1), .val (.int d1), .val (.int d2), .val (.int d3), .val (.int sel), .val (.int (2 : Int32)), .val (.int (1 : Int32)), .val (.int (1 : Int32)), .val (.long l0), .second, .val (.long l1), .second, .val (.long l2), .second, .val (.long l3), .second, .val (.double v0), .second, .val (.double v1), .second, .val (.double v2), .second, .val (.double v3), .second, .val (.ref va), .val (.double v1), .second, .val (.double (FP.dneg v1)), .second, .unset] []
            refine ⟨by rw [own_cv_eq (D1.eq own_z0 ht)]; omega, fun T57 X57 eh57 => ?_⟩
            exact tl54 _ (by have := D1.neg; rwa [ht, Int.neg_zero, ← ht] at this) T57 X57 eh57
          · skip
            refine own_blk dec0 seq0 hby hx hZ hown hK hF 1 [true] [] X56 eh56 ?_
            show ((cmpValue (FP.dcmp v1 0) .l).toInt ≠ 0) ∧ own_Aft X56 hp52 _ 254 [.val (.int a1), .val (.int d1), .val (.int d2), .val (.int d3), .val (.int sel), .val (.int (2 : Int32)), .val (.int (1 : Int32)), .val (.int (1 : Int32)), .val (.long l0), .second, .val (.long l1), .second, .val (.long l2), .second, .val (.long l3), .second, .val (.double v0), .second, .val (.double v1), .second, .val (.double v2), .second, .val (.double v3), .second, .val (.ref va), .val (.double v1), .second, .val (.double v1), .second, .unset] []
            refine ⟨by rcases Int.lt_or_gt_of_ne ht with q | q <;> first | (rw [own_cv_lt (D1.lt own_z0 q)]; omega) | (rw [own_cv_gt (D1.gt own_z0 q)]; omega), fun T58 X58 eh58 => ?_⟩
            exact tl54 _ D1 T58 X58 eh58
      intro qq Dq T54 X54 eh54
      refine own_new X54 hx hZ hown (hw _ (List.mem_of_getElem? (i := 2) rfl)) (hw _ (List.mem_of_getElem? (i := 3) rfl)) (hw _ (List.mem_of_getElem? (i := 4) rfl)) eh54 (hb hby at_254) (by decide) (by decide) (fun T59 hp59 ao ga59 X59 eh59 Ex59 Ea59 Dn59 => ?_)
      have ne_va_ao : va ≠ ao := fun q => absurd Ar52'.lt (by rw [q, ga59]; exact Nat.lt_irrefl _)
      have nw_ao : n0 ≤ ao := by rw [ga59]; exact Z_52
      have Ar52'_59 := Ar52'.ext Ex59
      have Z_59 : n0 ≤ hp59.size := Nat.le_trans Z_52 Ex59.1
      have Fn59_values : Fld Z hp59 ao "com/example/binwright/binwright/binning/DistinctValues" "values" "[D" (.null) := Dn59 (Or.inr (hw _ (List.mem_of_getElem? (i := 18) rfl))) (ty := (.array .double)) (by decide)
      have Fn59_before : Fld Z hp59 ao "com/example/binwright/binwright/binning/DistinctValues" "before" "[I" (.null) := Dn59 (Or.inr (hw _ (List.mem_of_getElem? (i := 20) rfl))) (ty := (.array .int)) (by decide)
      show own_Go p.tables e below _ (T59.setTop (mkF m 257 (Array.mk [.val (.int a1), .val (.int d1), .val (.int d2), .val (.int d3), .val (.int sel), .val (.int (2 : Int32)), .val (.int (1 : Int32)), .val (.int ng), .val (.long l0), .second, .val (.long l1), .second, .val (.long l2), .second, .val (.long l3), .second, .val (.double v0), .second, .val (.double v1), .second, .val (.double v2), .second, .val (.double v3), .second, .val (.ref va), .val (.double v1), .second, .val (.double qq), .second, .unset]) [.ref ao]))
      refine own_blk dec0 seq0 hby hx hZ hown hK hF 3 [] [] X59 eh59 ?_
      show own_Aft X59 hp59 _ 261 [.val (.int a1), .val (.int d1), .val (.int d2), .val (.int d3), .val (.int sel), .val (.int (2 : Int32)), .val (.int (1 : Int32)), .val (.int ng), .val (.long l0), .second, .val (.long l1), .second, .val (.long l2), .second, .val (.long l3), .second, .val (.double v0), .second, .val (.double v1), .second, .val (.double v2), .second, .val (.double v3), .second, .val (.ref va), .val (.double v1), .second, .val (.double qq), .second, .unset] [.int (5 : Int32), .ref va, .ref ao, .ref ao]
      refine fun T60 X60 eh60 => ?_
      refine own_newP X60 hx hZ (hw _ (List.mem_of_getElem? (i := 5) rfl)) eh60 5 rfl (cap := 5) (by decide) (by decide) (hb hby at_261) (by decide) (by decide) (fun T61 hp61 ib ga61 X61 eh61 Ex61 Ar61 => ?_)
      have ne_va_ib : va ≠ ib := fun q => absurd Ar52'_59.lt (by rw [q, ga61]; exact Nat.lt_irrefl _)
      have ne_ao_ib : ao ≠ ib := fun q => absurd Ea59.lt (by rw [q, ga61]; exact Nat.lt_irrefl _)
      have nw_ib : n0 ≤ ib := by rw [ga61]; exact Z_59
      have Ar52'_61 := Ar52'_59.ext Ex61
      have Ea59_61 := Exa.ext Ex61 Ea59
      have Fn59_values_61 := Fld.ext Ex61 Fn59_values
      have Fn59_before_61 := Fld.ext Ex61 Fn59_before
      have Z_61 : n0 ≤ hp61.size := Nat.le_trans Z_59 Ex61.1
      show own_Go p.tables e below _ (T61.setTop (mkF m 263 (Array.mk [.val (.int a1), .val (.int d1), .val (.int d2), .val (.int d3), .val (.int sel), .val (.int (2 : Int32)), .val (.int (1 : Int32)), .val (.int ng), .val (.long l0), .second, .val (.long l1), .second, .val (.long l2), .second, .val (.long l3), .second, .val (.double v0), .second, .val (.double v1), .second, .val (.double v2), .second, .val (.double v3), .second, .val (.ref va), .val (.double v1), .second, .val (.double qq), .second, .unset]) [.ref ib, .ref va, .ref ao, .ref ao]))
      refine own_callI X61 hx hZ hown rfl (hw _ (List.mem_of_getElem? (i := 6) rfl)) (hw _ (List.mem_of_getElem? (i := 7) rfl)) (hw _ (List.mem_of_getElem? (i := 4) rfl)) (hw _ (List.mem_of_getElem? (i := 8) rfl)) (by decide) eh61 ao [.ref va, .ref ib] pd1 rfl (rm := ({ frames := 2, cells := 0, slots := 0, locals := 24 } : Room)) (rm1 l Z a0 hw [] ao va ib hp61 n0 Z_61 Ea59_61 nw_ao Fn59_values_61 Fn59_before_61) (by rw [hml]; rfl) 1 rfl (Nat.le_of_eq rfl) (hb hby at_263) (by decide) (by decide) (by decide) (by decide) (fun T62 rv62 Lc62 X62 qc62 => ?_)
      obtain ⟨rfl, M1, KK, EE, G1, G2⟩ := qc62
      have AA1 := Ar52'_61.keep KK (fun q => ne_va_ao (List.mem_singleton.mp q))
      have Z_c : n0 ≤ T62.heap.size := Nat.le_trans Z_61 KK.1
      show own_Go p.tables e below _ (T62.setTop (mkF m 266 (Array.mk [.val (.int a1), .val (.int d1), .val (.int d2), .val (.int d3), .val (.int sel), .val (.int (2 : Int32)), .val (.int (1 : Int32)), .val (.int ng), .val (.long l0), .second, .val (.long l1), .second, .val (.long l2), .second, .val (.long l3), .second, .val (.double v0), .second, .val (.double v1), .second, .val (.double v2), .second, .val (.double v3), .second, .val (.ref va), .val (.double v1), .second, .val (.double qq), .second, .unset]) [.ref ao]))
      refine own_blk dec0 seq0 hby hx hZ hown hK hF 3 [] [] X62 rfl ?_
      show own_Aft X62 T62.heap _ 272 [.val (.int a1), .val (.int d1), .val (.int d2), .val (.int d3), .val (.int sel), .val (.int (2 : Int32)), .val (.int (1 : Int32)), .val (.int ng), .val (.long l0), .second, .val (.long l1), .second, .val (.long l2), .second, .val (.long l3), .second, .val (.double v0), .second, .val (.double v1), .second, .val (.double v2), .second, .val (.double v3), .second, .val (.ref va), .val (.double v1), .second, .val (.double qq), .second, .val (.ref ao)] [.double qq, .ref ao]
      refine fun T63 X63 eh63 => ?_
      refine own_callV X63 hx hZ hown (hw _ (List.mem_of_getElem? (i := 21) rfl)) (hw _ (List.mem_of_getElem? (i := 22) rfl)) (hw _ (List.mem_of_getElem? (i := 24) rfl)) (hw _ (List.mem_of_getElem? (i := 23) rfl)) (hw _ (List.mem_of_getElem? (i := 4) rfl)) (hw _ (List.mem_of_getElem? (i := 25) rfl)) (by decide) eh63 EE [.double qq] pd4 rfl (rm := ({ frames := 0, cells := 0, slots := 0, locals := 0 } : Room)) (rm4_2_1 l Z a0 hw [] ao va qq v0 _ v1 _ T62.heap n0 Z_c G1 AA1 Dq D0 D1 u0) (by rw [hml]; rfl) 0 rfl (Nat.le_of_eq rfl) (hb hby at_272) (by decide) (by decide) (by decide) (by decide) (fun T64 rv64 Lc64 X64 qc64 => ?_)
      obtain ⟨rfl, M2, hh⟩ := qc64
      show own_Go p.tables e below _ (T64.setTop (mkF m 275 (Array.mk [.val (.int a1), .val (.int d1), .val (.int d2), .val (.int d3), .val (.int sel), .val (.int (2 : Int32)), .val (.int (1 : Int32)), .val (.int ng), .val (.long l0), .second, .val (.long l1), .second, .val (.long l2), .second, .val (.long l3), .second, .val (.double v0), .second, .val (.double v1), .second, .val (.double v2), .second, .val (.double v3), .second, .val (.ref va), .val (.double v1), .second, .val (.double qq), .second, .val (.ref ao)]) [.int (1 : Int32)]))
      refine own_blk dec0 seq0 hby hx hZ hown hK hF 4 [false] [] X64 hh ?_
      show (¬ (((1 : Int32)).toInt ≠ ((1 : Int32)).toInt)) ∧ own_Aft X64 T62.heap _ 285 [.val (.int a1), .val (.int d1), .val (.int d2), .val (.int d3), .val (.int sel), .val (.int (2 : Int32)), .val (.int (1 : Int32)), .val (.int ng), .val (.long l0), .second, .val (.long l1), .second, .val (.long l2), .second, .val (.long l3), .second, .val (.double v0), .second, .val (.double v1), .second, .val (.double v2), .second, .val (.double v3), .second, .val (.ref va), .val (.double v1), .second, .val (.double qq), .second, .val (.ref ao)] [.int (1 : Int32)]
      refine ⟨by decide, fun T65 X65 eh65 => ?_⟩
      exact own_ret X65 hx hlk eh65 hret (by first | rfl | decide) (Or.inl ⟨rfl, by simp, _, rfl⟩) (hb hby at_285) (by decide) (by decide) (⟨rfl, Fr.app (Fr.app Nf52 M1) M2⟩)
  · skip
    obtain rfl : nn = (3 : Int32) := Int32.toInt_inj.mp hn
    have hnn : (3 : Int32).toInt = 3 := rfl
    obtain hk | hk | hk : kk.toInt = (0 : Int32).toInt ∨ kk.toInt = (1 : Int32).toInt ∨ kk.toInt = (2 : Int32).toInt := by first | omega | (show kk.toInt = 0 ∨ kk.toInt = 1 ∨ kk.toInt = 2; omega)
    · skip
      obtain rfl : kk = (0 : Int32) := Int32.toInt_inj.mp hk
      show own_Go p.tables e below _ (T10.setTop (mkF m 94 (Array.mk [.val (.int a1), .val (.int d1), .val (.int d2), .val (.int d3), .val (.int sel), .val (.int (3 : Int32)), .val (.int (0 : Int32)), .val (.int ng), .val (.long l0), .second, .val (.long l1), .second, .val (.long l2), .second, .val (.long l3), .second, .val (.double v0), .second, .val (.double v1), .second, .val (.double v2), .second, .val (.double v3), .second, .unset, .unset, .unset, .unset, .unset, .unset]) []))
      refine own_blk dec0 seq0 hby hx hZ hown hK hF 10 [true, true, false] [] X10 eh10 ?_
      show (((3 : Int32)).toInt ≠ ((1 : Int32)).toInt) ∧ (((3 : Int32)).toInt ≠ ((2 : Int32)).toInt) ∧ (¬ (((3 : Int32)).toInt ≠ ((3 : Int32)).toInt)) ∧ own_Aft X10 h0 _ 144 [.val (.int a1), .val (.int d1), .val (.int d2), .val (.int d3), .val (.int sel), .val (.int (3 : Int32)), .val (.int (0 : Int32)), .val (.int ng), .val (.long l0), .second, .val (.long l1), .second, .val (.long l2), .second, .val (.long l3), .second, .val (.double v0), .second, .val (.double v1), .second, .val (.double v2), .second, .val (.double v3), .second, .unset, .unset, .unset, .unset, .unset, .unset] [.int (3 : Int32)]
      refine ⟨by decide, by decide, by decide, fun T66 X66 eh66 => ?_⟩
      refine own_newP X66 hx hZ (hw _ (List.mem_of_getElem? (i := 1) rfl)) eh66 3 rfl (cap := 3) (by decide) (by decide) (hb hby at_144) (by decide) (by decide) (fun T67 hp67 va ga67 X67 eh67 Ex67 Ar67 => ?_)
      have nw_va : n0 ≤ va := by rw [ga67]; exact Z0
      have Z_67 : n0 ≤ hp67.size := Nat.le_trans Z0 Ex67.1
      have Ar67' : own_A Z hp67 va .double [.double 0, .double 0, .double 0] := Ar67
      show own_Go p.tables e below _ (T67.setTop (mkF m 146 (Array.mk [.val (.int a1), .val (.int d1), .val (.int d2), .val (.int d3), .val (.int sel), .val (.int (3 : Int32)), .val (.int (0 : Int32)), .val (.int ng), .val (.long l0), .second, .val (.long l1), .second, .val (.long l2), .second, .val (.long l3), .second, .val (.double v0), .second, .val (.double v1), .second, .val (.double v2), .second, .val (.double v3), .second, .unset, .unset, .unset, .unset, .unset, .unset]) [.ref va]))
      refine own_blk dec0 seq0 hby hx hZ hown hK hF 3 [] [] X67 eh67 ?_
      show own_Aft X67 hp67 _ 150 [.val (.int a1), .val (.int d1), .val (.int d2), .val (.int d3), .val (.int sel), .val (.int (3 : Int32)), .val (.int (0 : Int32)), .val (.int ng), .val (.long l0), .second, .val (.long l1), .second, .val (.long l2), .second, .val (.long l3), .second, .val (.double v0), .second, .val (.double v1), .second, .val (.double v2), .second, .val (.double v3), .second, .unset, .unset, .unset, .unset, .unset, .unset] [.double v0, .int (0 : Int32), .ref va, .ref va]
      refine fun T68 X68 eh68 => ?_
      refine own_sD X68 hx hZ eh68 Ar67' 0 rfl (by show 0 < 3; decide) (hb hby at_150) (fun T69 hp69 X69 eh69 Wr69 Ar69 => ?_)
      have Ar69' : own_A Z hp69 va .double [.double v0, .double 0, .double 0] := Ar69
      have Nf69 := Fr.snoc X69 N0 nw_va
      have Z_69 : n0 ≤ hp69.size := by rw [Wr.size Wr69]; exact Z_67
      refine own_blk dec0 seq0 hby hx hZ hown hK hF 3 [] [] X69 eh69 ?_
      show own_Aft X69 hp69 _ 155 [.val (.int a1), .val (.int d1), .val (.int d2), .val (.int d3), .val (.int sel), .val (.int (3 : Int32)), .val (.int (0 : Int32)), .val (.int ng), .val (.long l0), .second, .val (.long l1), .second, .val (.long l2), .second, .val (.long l3), .second, .val (.double v0), .second, .val (.double v1), .second, .val (.double v2), .second, .val (.double v3), .second, .unset, .unset, .unset, .unset, .unset, .unset] [.double v1, .int (1 : Int32), .ref va, .ref va]
      refine fun T70 X70 eh70 => ?_
      refine own_sD X70 hx hZ eh70 Ar69' 1 rfl (by show 1 < 3; decide) (hb hby at_155) (fun T71 hp71 X71 eh71 Wr71 Ar71 => ?_)
      have Ar71' : own_A Z hp71 va .double [.double v0, .double v1, .double 0] := Ar71
      have Nf71 := Fr.snoc X71 Nf69 nw_va
      have Z_71 : n0 ≤ hp71.size := by rw [Wr.size Wr71]; exact Z_69
      refine own_blk dec0 seq0 hby hx hZ hown hK hF 3 [] [] X71 eh71 ?_
      show own_Aft X71 hp71 _ 160 [.val (.int a1), .val (.int d1), .val (.int d2), .val (.int d3), .val (.int sel), .val (.int (3 : Int32)), .val (.int (0 : Int32)), .val (.int ng), .val (.long l0), .second, .val (.long l1), .second, .val (.long l2), .second, .val (.long l3), .second, .val (.double v0), .second, .val (.double v1), .second, .val (.double v2), .second, .val (.double v3), .second, .unset, .unset, .unset, .unset, .unset, .unset] [.double v2, .int (2 : Int32), .ref va, .ref va]
      refine fun T72 X72 eh72 => ?_
      refine own_sD X72 hx hZ eh72 Ar71' 2 rfl (by show 2 < 3; decide) (hb hby at_160) (fun T73 hp73 X73 eh73 Wr73 Ar73 => ?_)
      have Ar73' : own_A Z hp73 va .double [.double v0, .double v1, .double v2] := Ar73
      have Nf73 := Fr.snoc X73 Nf71 nw_va
      have Z_73 : n0 ≤ hp73.size := by rw [Wr.size Wr73]; exact Z_71
      refine own_blk dec0 seq0 hby hx hZ hown hK hF 9 [false] [] X73 eh73 ?_
      show (¬ (((0 : Int32)).toInt ≠ 0)) ∧ own_Aft X73 hp73 _ 237 [.val (.int a1), .val (.int d1), .val (.int d2), .val (.int d3), .val (.int sel), .val (.int (3 : Int32)), .val (.int (0 : Int32)), .val (.int ng), .val (.long l0), .second, .val (.long l1), .second, .val (.long l2), .second, .val (.long l3), .second, .val (.double v0), .second, .val (.double v1), .second, .val (.double v2), .second, .val (.double v3), .second, .val (.ref va), .val (.double v0), .second, .val (.double v0), .second, .unset] []
      refine ⟨by decide, fun T74 X74 eh74 => ?_⟩
      suffices tl75 : ∀ (qq : UInt64) (_ : own_D 0 l0.toInt qq), own_Aft X74 hp73 (own_Fin s 16 128 (fun v h L => v = some (.int 1) ∧ Fr n0 L)) 254 [.val (.int a1), .val (.int d1), .val (.int d2), .val (.int d3), .val (.int sel), .val (.int (3 : Int32)), .val (.int (0 : Int32)), .val (.int ng), .val (.long l0), .second, .val (.long l1), .second, .val (.long l2), .second, .val (.long l3), .second, .val (.double v0), .second, .val (.double v1), .second, .val (.double v2), .second, .val (.double v3), .second, .val (.ref va), .val (.double v0), .second, .val (.double qq), .second, .unset] [] by
        rcases hng with hz | hz
        · skip
          obtain rfl : ng = (0 : Int32) := hz
          show own_Go p.tables e below _ (T74.setTop (mkF m 237 (Array.mk [.val (.int a1), .val (.int d1), .val (.int d2), .val (.int d3), .val (.int sel), .val (.int (3 : Int32)), .val (.int (0 : Int32)), .val (.int (0 : Int32)), .val (.long l0), .second, .val (.long l1), .second, .val (.long l2), .second, .val (.long l3), .second, .val (.double v0), .second, .val (.double v1), .second, .val (.double v2), .second, .val (.double v3), .second, .val (.ref va), .val (.double v0), .second, .val (.double v0), .second, .unset]) []))
          refine own_blk dec0 seq0 hby hx hZ hown hK hF 2 [true] [] X74 eh74 ?_
          show (((0 : Int32)).toInt = 0) ∧ own_Aft X74 hp73 _ 254 [.val (.int a1), .val (.int d1), .val (.int d2), .val (.int d3), .val (.int sel), .val (.int (3 : Int32)), .val (.int (0 : Int32)), .val (.int (0 : Int32)), .val (.long l0), .second, .val (.long l1), .second, .val (.long l2), .second, .val (.long l3), .second, .val (.double v0), .second, .val (.double v1), .second, .val (.double v2), .second, .val (.double v3), .second, .val (.ref va), .val (.double v0), .second, .val (.double v0), .second, .unset] []
          refine ⟨by decide, fun T76 X76 eh76 => ?_⟩
          exact tl75 _ D0 T76 X76 eh76
        · skip
          obtain rfl : ng = (1 : Int32) := hz
          show own_Go p.tables e below _ (T74.setTop (mkF m 237 (Array.mk [.val (.int a1), .val (.int d1), .val (.int d2), .val (.int d3), .val (.int sel), .val (.int (3 : Int32)), .val (.int (0 : Int32)), .val (.int (1 : Int32)), .val (.long l0), .second, .val (.long l1), .second, .val (.long l2), .second, .val (.long l3), .second, .val (.double v0), .second, .val (.double v1), .second, .val (.double v2), .second, .val (.double v3), .second, .val (.ref va), .val (.double v0), .second, .val (.double v0), .second, .unset]) []))
          refine own_blk dec0 seq0 hby hx hZ hown hK hF 5 [false] [] X74 eh74 ?_
          show (¬ (((1 : Int32)).toInt = 0)) ∧ own_Aft X74 hp73 _ 246 [.val (.int a1), .val (.int d1), .val (.int d2), .val (.int d3), .val (.int sel), .val (.int (3 : Int32)), .val (.int (0 : Int32)), .val (.int (1 : Int32)), .val (.long l0), .second, .val (.long l1), .second, .val (.long l2), .second, .val (.long l3), .second, .val (.double v0), .second, .val (.double v1), .second, .val (.double v2), .second, .val (.double v3), .second, .val (.ref va), .val (.double v0), .second, .val (.double v0), .second, .unset] [.int (cmpValue (FP.dcmp v0 0) .l)]
          refine ⟨by decide, fun T77 X77 eh77 => ?_⟩
          by_cases ht : l0.toInt = 0
          · skip
            refine own_blk dec0 seq0 hby hx hZ hown hK hF 4 [false] [] X77 eh77 ?_
            show (¬ ((cmpValue (FP.dcmp v0 0) .l).toInt ≠ 0)) ∧ own_Aft X77 hp73 _ 254 [.val (.int a1), .val (.int d1), .val (.int d2), .val (.int d3), .val (.int sel), .val (.int (3 : Int32)), .val (.int (0 : Int32)), .val (.int (1 : Int32)), .val (.long l0), .second, .val (.long l1), .second, .val (.long l2), .second, .val (.long l3), .second, .val (.double v0), .second, .val (.double v1), .second, .val (.double v2), .second, .val (.double v3), .second, .val (.ref va), .val (.double v0), .second, .val (.double (FP.dneg v0)), .second, .unset] []
            refine ⟨by rw [own_cv_eq (D0.eq own_z0 ht)]; omega, fun T78 X78 eh78 => ?_⟩
            exact tl75 _ (by have := D0.neg; rwa [ht, Int.neg_zero, ← ht] at this) T78 X78 eh78
          · skip
            refine own_blk dec0 seq0 hby hx hZ hown hK hF 1 [true] [] X77 eh77 ?_
            show ((cmpValue (FP.dcmp v0 0) .l).toInt ≠ 0) ∧ own_Aft X77 hp73 _ 254 [.val (.int a1), .val (.int d1), .val (.int d2), .val (.int d3), .val (.int sel), .val (.int (3 : Int32)), .val (.int (0 : Int32)), .val (.int (1 : Int32)), .val (.long l0), .second, .val (.long l1), .second, .val (.long l2), .second, .val (.long l3), .second, .val (.double v0), .second, .val (.double v1), .second, .val (.double v2), .second, .val (.double v3), .second, .val (.ref va), .val (.double v0), .second, .val (.double v0), .second, .unset] []
            refine ⟨by rcases Int.lt_or_gt_of_ne ht with q | q <;> first | (rw [own_cv_lt (D0.lt own_z0 q)]; omega) | (rw [own_cv_gt (D0.gt own_z0 q)]; omega), fun T79 X79 eh79 => ?_⟩
            exact tl75 _ D0 T79 X79 eh79
      intro qq Dq T75 X75 eh75
      refine own_new X75 hx hZ hown (hw _ (List.mem_of_getElem? (i := 2) rfl)) (hw _ (List.mem_of_getElem? (i := 3) rfl)) (hw _ (List.mem_of_getElem? (i := 4) rfl)) eh75 (hb hby at_254) (by decide) (by decide) (fun T80 hp80 ao ga80 X80 eh80 Ex80 Ea80 Dn80 => ?_)
      have ne_va_ao : va ≠ ao := fun q => absurd Ar73'.lt (by rw [q, ga80]; exact Nat.lt_irrefl _)
      have nw_ao : n0 ≤ ao := by rw [ga80]; exact Z_73
      have Ar73'_80 := Ar73'.ext Ex80
      have Z_80 : n0 ≤ hp80.size := Nat.le_trans Z_73 Ex80.1
      have Fn80_values : Fld Z hp80 ao "com/example/binwright/binwright/binning/DistinctValues" "values" "[D" (.null) := Dn80 (Or.inr (hw _ (List.mem_of_getElem? (i := 18) rfl))) (ty := (.array .double)) (by decide)
      have Fn80_before : Fld Z hp80 ao "com/example/binwright/binwright/binning/DistinctValues" "before" "[I" (.null) := Dn80 (Or.inr (hw _ (List.mem_of_getElem? (i := 20) rfl))) (ty := (.array .int)) (by decide)
      show own_Go p.tables e below _ (T80.setTop (mkF m 257 (Array.mk [.val (.int a1), .val (.int d1), .val (.int d2), .val (.int d3), .val (.int sel), .val (.int (3 : Int32)), .val (.int (0 : Int32)), .val (.int ng), .val (.long l0), .second, .val (.long l1), .second, .val (.long l2), .second, .val (.long l3), .second, .val (.double v0), .second, .val (.double v1), .second, .val (.double v2), .second, .val (.double v3), .second, .val (.ref va), .val (.double v0), .second, .val (.double qq), .second, .unset]) [.ref ao]))
      refine own_blk dec0 seq0 hby hx hZ hown hK hF 3 [] [] X80 eh80 ?_
      show own_Aft X80 hp80 _ 261 [.val (.int a1), .val (.int d1), .val (.int d2), .val (.int d3), .val (.int sel), .val (.int (3 : Int32)), .val (.int (0 : Int32)), .val (.int ng), .val (.long l0), .second, .val (.long l1), .second, .val (.long l2), .second, .val (.long l3), .second, .val (.double v0), .second, .val (.double v1), .second, .val (.double v2), .second, .val (.double v3), .second, .val (.ref va), .val (.double v0), .second, .val (.double qq), .second, .unset] [.int (5 : Int32), .ref va, .ref ao, .ref ao]
      refine fun T81 X81 eh81 => ?_
      refine own_newP X81 hx hZ (hw _ (List.mem_of_getElem? (i := 5) rfl)) eh81 5 rfl (cap := 5) (by decide) (by decide) (hb hby at_261) (by decide) (by decide) (fun T82 hp82 ib ga82 X82 eh82 Ex82 Ar82 => ?_)
      have ne_va_ib : va ≠ ib := fun q => absurd Ar73'_80.lt (by rw [q, ga82]; exact Nat.lt_irrefl _)
      have ne_ao_ib : ao ≠ ib := fun q => absurd Ea80.lt (by rw [q, ga82]; exact Nat.lt_irrefl _)
      have nw_ib : n0 ≤ ib := by rw [ga82]; exact Z_80
      have Ar73'_82 := Ar73'_80.ext Ex82
      have Ea80_82 := Exa.ext Ex82 Ea80
      have Fn80_values_82 := Fld.ext Ex82 Fn80_values
      have Fn80_before_82 := Fld.ext Ex82 Fn80_before
      have Z_82 : n0 ≤ hp82.size := Nat.le_trans Z_80 Ex82.1
      show own_Go p.tables e below _ (T82.setTop (mkF m 263 (Array.mk [.val (.int a1), .val (.int d1), .val (.int d2), .val (.int d3), .val (.int sel), .val (.int (3 : Int32)), .val (.int (0 : Int32)), .val (.int ng), .val (.long l0), .second, .val (.long l1), .second, .val (.long l2), .second, .val (.long l3), .second, .val (.double v0), .second, .val (.double v1), .second, .val (.double v2), .second, .val (.double v3), .second, .val (.ref va), .val (.double v0), .second, .val (.double qq), .second, .unset]) [.ref ib, .ref va, .ref ao, .ref ao]))
      refine own_callI X82 hx hZ hown rfl (hw _ (List.mem_of_getElem? (i := 6) rfl)) (hw _ (List.mem_of_getElem? (i := 7) rfl)) (hw _ (List.mem_of_getElem? (i := 4) rfl)) (hw _ (List.mem_of_getElem? (i := 8) rfl)) (by decide) eh82 ao [.ref va, .ref ib] pd1 rfl (rm := ({ frames := 2, cells := 0, slots := 0, locals := 24 } : Room)) (rm1 l Z a0 hw [] ao va ib hp82 n0 Z_82 Ea80_82 nw_ao Fn80_values_82 Fn80_before_82) (by rw [hml]; rfl) 1 rfl (Nat.le_of_eq rfl) (hb hby at_263) (by decide) (by decide) (by decide) (by decide) (fun T83 rv83 Lc83 X83 qc83 => ?_)
      obtain ⟨rfl, M1, KK, EE, G1, G2⟩ := qc83
      have AA1 := Ar73'_82.keep KK (fun q => ne_va_ao (List.mem_singleton.mp q))
      have Z_c : n0 ≤ T83.heap.size := Nat.le_trans Z_82 KK.1
      show own_Go p.tables e below _ (T83.setTop (mkF m 266 (Array.mk [.val (.int a1), .val (.int d1), .val (.int d2), .val (.int d3), .val (.int sel), .val (.int (3 : Int32)), .val (.int (0 : Int32)), .val (.int ng), .val (.long l0), .second, .val (.long l1), .second, .val (.long l2), .second, .val (.long l3), .second, .val (.double v0), .second, .val (.double v1), .second, .val (.double v2), .second, .val (.double v3), .second, .val (.ref va), .val (.double v0), .second, .val (.double qq), .second, .unset]) [.ref ao]))
      refine own_blk dec0 seq0 hby hx hZ hown hK hF 3 [] [] X83 rfl ?_
      show own_Aft X83 T83.heap _ 272 [.val (.int a1), .val (.int d1), .val (.int d2), .val (.int d3), .val (.int sel), .val (.int (3 : Int32)), .val (.int (0 : Int32)), .val (.int ng), .val (.long l0), .second, .val (.long l1), .second, .val (.long l2), .second, .val (.long l3), .second, .val (.double v0), .second, .val (.double v1), .second, .val (.double v2), .second, .val (.double v3), .second, .val (.ref va), .val (.double v0), .second, .val (.double qq), .second, .val (.ref ao)] [.double qq, .ref ao]
      refine fun T84 X84 eh84 => ?_
      refine own_callV X84 hx hZ hown (hw _ (List.mem_of_getElem? (i := 21) rfl)) (hw _ (List.mem_of_getElem? (i := 22) rfl)) (hw _ (List.mem_of_getElem? (i := 24) rfl)) (hw _ (List.mem_of_getElem? (i := 23) rfl)) (hw _ (List.mem_of_getElem? (i := 4) rfl)) (hw _ (List.mem_of_getElem? (i := 25) rfl)) (by decide) eh84 EE [.double qq] pd4 rfl (rm := ({ frames := 0, cells := 0, slots := 0, locals := 0 } : Room)) (rm4_3_0 l Z a0 hw [] ao va qq v0 _ v1 _ v2 _ T83.heap n0 Z_c G1 AA1 Dq D0 D1 D2 u0 u1) (by rw [hml]; rfl) 0 rfl (Nat.le_of_eq rfl) (hb hby at_272) (by decide) (by decide) (by decide) (by decide) (fun T85 rv85 Lc85 X85 qc85 => ?_)
      obtain ⟨rfl, M2, hh⟩ := qc85
      show own_Go p.tables e below _ (T85.setTop (mkF m 275 (Array.mk [.val (.int a1), .val (.int d1), .val (.int d2), .val (.int d3), .val (.int sel), .val (.int (3 : Int32)), .val (.int (0 : Int32)), .val (.int ng), .val (.long l0), .second, .val (.long l1), .second, .val (.long l2), .second, .val (.long l3), .second, .val (.double v0), .second, .val (.double v1), .second, .val (.double v2), .second, .val (.double v3), .second, .val (.ref va), .val (.double v0), .second, .val (.double qq), .second, .val (.ref ao)]) [.int (0 : Int32)]))
      refine own_blk dec0 seq0 hby hx hZ hown hK hF 4 [false] [] X85 hh ?_
      show (¬ (((0 : Int32)).toInt ≠ ((0 : Int32)).toInt)) ∧ own_Aft X85 T83.heap _ 285 [.val (.int a1), .val (.int d1), .val (.int d2), .val (.int d3), .val (.int sel), .val (.int (3 : Int32)), .val (.int (0 : Int32)), .val (.int ng), .val (.long l0), .second, .val (.long l1), .second, .val (.long l2), .second, .val (.long l3), .second, .val (.double v0), .second, .val (.double v1), .second, .val (.double v2), .second, .val (.double v3), .second, .val (.ref va), .val (.double v0), .second, .val (.double qq), .second, .val (.ref ao)] [.int (1 : Int32)]
      refine ⟨by decide, fun T86 X86 eh86 => ?_⟩
      exact own_ret X86 hx hlk eh86 hret (by first | rfl | decide) (Or.inl ⟨rfl, by simp, _, rfl⟩) (hb hby at_285) (by decide) (by decide) (⟨rfl, Fr.app (Fr.app Nf73 M1) M2⟩)
    · skip
      obtain rfl : kk = (1 : Int32) := Int32.toInt_inj.mp hk
      show own_Go p.tables e below _ (T10.setTop (mkF m 94 (Array.mk [.val (.int a1), .val (.int d1), .val (.int d2), .val (.int d3), .val (.int sel), .val (.int (3 : Int32)), .val (.int (1 : Int32)), .val (.int ng), .val (.long l0), .second, .val (.long l1), .second, .val (.long l2), .second, .val (.long l3), .second, .val (.double v0), .second, .val (.double v1), .second, .val (.double v2), .second, .val (.double v3), .second, .unset, .unset, .unset, .unset, .unset, .unset]) []))
      refine own_blk dec0 seq0 hby hx hZ hown hK hF 10 [true, true, false] [] X10 eh10 ?_
      show (((3 : Int32)).toInt ≠ ((1 : Int32)).toInt) ∧ (((3 : Int32)).toInt ≠ ((2 : Int32)).toInt) ∧ (¬ (((3 : Int32)).toInt ≠ ((3 : Int32)).toInt)) ∧ own_Aft X10 h0 _ 144 [.val (.int a1), .val (.int d1), .val (.int d2), .val (.int d3), .val (.int sel), .val (.int (3 : Int32)), .val (.int (1 : Int32)), .val (.int ng), .val (.long l0), .second, .val (.long l1), .second, .val (.long l2), .second, .val (.long l3), .second, .val (.double v0), .second, .val (.double v1), .second, .val (.double v2), .second, .val (.double v3), .second, .unset, .unset, .unset, .unset, .unset, .unset] [.int (3 : Int32)]
      refine ⟨by decide, by decide, by decide, fun T87 X87 eh87 => ?_⟩
      refine own_newP X87 hx hZ (hw _ (List.mem_of_getElem? (i := 1) rfl)) eh87 3 rfl (cap := 3) (by decide) (by decide) (hb hby at_144) (by decide) (by decide) (fun T88 hp88 va ga88 X88 eh88 Ex88 Ar88 => ?_)
      have nw_va : n0 ≤ va := by rw [ga88]; exact Z0
      have Z_88 : n0 ≤ hp88.size := Nat.le_trans Z0 Ex88.1
      have Ar88' : own_A Z hp88 va .double [.double 0, .double 0, .double 0] := Ar88
      show own_Go p.tables e below _ (T88.setTop (mkF m 146 (Array.mk [.val (.int a1), .val (.int d1), .val (.int d2), .val (.int d3), .val (.int sel), .val (.int (3 : Int32)), .val (.int (1 : Int32)), .val (.int ng), .val (.long l0), .second, .val (.long l1), .second, .val (.long l2), .second, .val (.long l3), .second, .val (.double v0), .second, .val (.double v1), .second, .val (.double v2), .second, .val (.double v3), .second, .unset, .unset, .unset, .unset, .unset, .unset]) [.ref va]))
      refine own_blk dec0 seq0 hby hx hZ hown hK hF 3 [] [] X88 eh88 ?_
      show own_Aft X88 hp88 _ 150 [.val (.int a1), .val (.int d1), .val (.int d2), .val (.int d3), .val (.int sel), .val (.int (3 : Int32)), .val (.int (1 : Int32)), .val (.int ng), .val (.long l0), .second, .val (.long l1), .second, .val (.long l2), .second, .val (.long l3), .second, .val (.double v0), .second, .val (.double v1), .second, .val (.double v2), .second, .val (.double v3), .second, .unset, .unset, .unset, .unset, .unset, .unset] [.double v0, .int (0 : Int32), .ref va, .ref va]
      refine fun T89 X89 eh89 => ?_
      refine own_sD X89 hx hZ eh89 Ar88' 0 rfl (by show 0 < 3; decide) (hb hby at_150) (fun T90 hp90 X90 eh90 Wr90 Ar90 => ?_)
      have Ar90' : own_A Z hp90 va .double [.double v0, .double 0, .double 0] := Ar90
      have Nf90 := Fr.snoc X90 N0 nw_va
      have Z_90 : n0 ≤ hp90.size := by rw [Wr.size Wr90]; exact Z_88
      refine own_blk dec0 seq0 hby hx hZ hown hK hF 3 [] [] X90 eh90 ?_
      show own_Aft X90 hp90 _ 155 [.val (.int a1), .val (.int d1), .val (.int d2), .val (.int d3), .val (.int sel), .val (.int (3 : Int32)), .val (.int (1 : Int32)), .val (.int ng), .val (.long l0), .second, .val (.long l1), .second, .val (.long l2), .second, .val (.long l3), .second, .val (.double v0), .second, .val (.double v1), .second, .val (.double v2), .second, .val (.double v3), .second, .unset, .unset, .unset, .unset, .unset, .unset] [.double v1, .int (1 : Int32), .ref va, .ref va]
      refine fun T91 X91 eh91 => ?_
      refine own_sD X91 hx hZ eh91 Ar90' 1 rfl (by show 1 < 3; decide) (hb hby at_155) (fun T92 hp92 X92 eh92 Wr92 Ar92 => ?_)
      have Ar92' : own_A Z hp92 va .double [.double v0, .double v1, .double 0] := Ar92
      have Nf92 := Fr.snoc X92 Nf90 nw_va
      have Z_92 : n0 ≤ hp92.size := by rw [Wr.size Wr92]; exact Z_90
      refine own_blk dec0 seq0 hby hx hZ hown hK hF 3 [] [] X92 eh92 ?_
      show own_Aft X92 hp92 _ 160 [.val (.int a1), .val (.int d1), .val (.int d2), .val (.int d3), .val (.int sel), .val (.int (3 : Int32)), .val (.int (1 : Int32)), .val (.int ng), .val (.long l0), .second, .val (.long l1), .second, .val (.long l2), .second, .val (.long l3), .second, .val (.double v0), .second, .val (.double v1), .second, .val (.double v2), .second, .val (.double v3), .second, .unset, .unset, .unset, .unset, .unset, .unset] [.double v2, .int (2 : Int32), .ref va, .ref va]
      refine fun T93 X93 eh93 => ?_
      refine own_sD X93 hx hZ eh93 Ar92' 2 rfl (by show 2 < 3; decide) (hb hby at_160) (fun T94 hp94 X94 eh94 Wr94 Ar94 => ?_)
      have Ar94' : own_A Z hp94 va .double [.double v0, .double v1, .double v2] := Ar94
      have Nf94 := Fr.snoc X94 Nf92 nw_va
      have Z_94 : n0 ≤ hp94.size := by rw [Wr.size Wr94]; exact Z_92
      refine own_blk dec0 seq0 hby hx hZ hown hK hF 12 [true, false] [] X94 eh94 ?_
      show (((1 : Int32)).toInt ≠ 0) ∧ (¬ (((1 : Int32)).toInt ≠ ((1 : Int32)).toInt)) ∧ own_Aft X94 hp94 _ 237 [.val (.int a1), .val (.int d1), .val (.int d2), .val (.int d3), .val (.int sel), .val (.int (3 : Int32)), .val (.int (1 : Int32)), .val (.int ng), .val (.long l0), .second, .val (.long l1), .second, .val (.long l2), .second, .val (.long l3), .second, .val (.double v0), .second, .val (.double v1), .second, .val (.double v2), .second, .val (.double v3), .second, .val (.ref va), .val (.double v1), .second, .val (.double v1), .second, .unset] []
      refine ⟨by decide, by decide, fun T95 X95 eh95 => ?_⟩
      suffices tl96 : ∀ (qq : UInt64) (_ : own_D 0 l1.toInt qq), own_Aft X95 hp94 (own_Fin s 16 128 (fun v h L => v = some (.int 1) ∧ Fr n0 L)) 254 [.val (.int a1), .val (.int d1), .val (.int d2), .val (.int d3), .val (.int sel), .val (.int (3 : Int32)), .val (.int (1 : Int32)), .val (.int ng), .val (.long l0), .second, .val (.long l1), .second, .val (.long l2), .second, .val (.long l3), .second, .val (.double v0), .second, .val (.double v1), .second, .val (.double v2), .second, .val (.double v3), .second, .val (.ref va), .val (.double v1), .second, .val (.double qq), .second, .unset] [] by
        rcases hng with hz | hz
        · skip
          obtain rfl : ng = (0 : Int32) := hz
          show own_Go p.tables e below _ (T95.setTop (mkF m 237 (Array.mk [.val (.int a1), .val (.int d1), .val (.int d2), .val (.int d3), .val (.int sel), .val (.int (3 : Int32)), .val (.int (1 : Int32)), .val (.int (0 : Int32)), .val (.long l0), .second, .val (.long l1), .second, .val (.long l2), .second, .val (.long l3), .second, .val (.double v0), .second, .val (.double v1), .second, .val (.double v2), .second, .val (.double v3), .second, .val (.ref va), .val (.double v1), .second, .val (.double v1), .second, .unset]) []))
          refine own_blk dec0 seq0 hby hx hZ hown hK hF 2 [true] [] X95 eh95 ?_
          show (((0 : Int32)).toInt = 0) ∧ own_Aft X95 hp94 _ 254 [.val (.int a1), .val (.int d1), .val (.int d2), .val (.int d3), .val (.int sel), .val (.int (3 : Int32)), .val (.int (1 : Int32)), .val (.int (0 : Int32)), .val (.long l0), .second, .val (.long l1), .second, .val (.long l2), .second, .val (.long l3), .second, .val (.double v0), .second, .val (.double v1), .second, .val (.double v2), .second, .val (.double v3), .second, .val (.ref va), .val (.double v1), .second, .val (.double v1), .second, .unset] []
          refine ⟨by decide, fun T97 X97 eh97 => ?_⟩
          exact tl96 _ D1 T97 X97 eh97
        · skip
          obtain rfl : ng = (1 : Int32) := hz
          show own_Go p.tables e below _ (T95.setTop (mkF m 237 (Array.mk [.val (.int a1), .val (.int d1), .val (.int d2), .val (.int d3), .val (.int sel), .val (.int (3 : Int32)), .val (.int (1 : Int32)), .val (.int (1 : Int32)), .val (.long l0), .second, .val (.long l1), .second, .val (.long l2), .second, .val (.long l3), .second, .val (.double v0), .second, .val (.double v1), .second, .val (.double v2), .second, .val (.double v3), .second, .val (.ref va), .val (.double v1), .second, .val (.double v1), .second, .unset]) []))
          refine own_blk dec0 seq0 hby hx hZ hown hK hF 5 [false] [] X95 eh95 ?_
          show (¬ (((1 : Int32)).toInt = 0)) ∧ own_Aft X95 hp94 _ 246 [.val (.int a1), .val (.int d1), .val (.int d2), .val (.int d3), .val (.int sel), .val (.int (3 : Int32)), .val (.int (1 : Int32)), .val (.int (1 : Int32)), .val (.long l0), .second, .val (.long l1), .second, .val (.long l2), .second, .val (.long l3), .second, .val (.double v0), .second, .val (.double v1), .second, .val (.double v2), .second, .val (.double v3), .second, .val (.ref va), .val (.double v1), .second, .val (.double v1), .second, .unset] [.int (cmpValue (FP.dcmp v1 0) .l)]
          refine ⟨by decide, fun T98 X98 eh98 => ?_⟩
          by_cases ht : l1.toInt = 0
          · skip
            refine own_blk dec0 seq0 hby hx hZ hown hK hF 4 [false] [] X98 eh98 ?_
            show (¬ ((cmpValue (FP.dcmp v1 0) .l).toInt ≠ 0)) ∧ own_Aft X98 hp94 _ 254 [.val (.int a1), .val (.int d1), .val (.int d2), .val (.int d3), .val (.int sel), .val (.int (3 : Int32)), .val (.int (1 : Int32)), .val (.int (1 : Int32)), .val (.long l0), .second, .val (.long l1), .second, .val (.long l2), .second, .val (.long l3), .second, .val (.double v0), .second, .val (.double v1), .second, .val (.double v2), .second, .val (.double v3), .second, .val (.ref va), .val (.double v1), .second, .val (.double (FP.dneg v1)), .second, .unset] []
            refine ⟨by rw [own_cv_eq (D1.eq own_z0 ht)]; omega, fun T99 X99 eh99 => ?_⟩
            exact tl96 _ (by have := D1.neg; rwa [ht, Int.neg_zero, ← ht] at this) T99 X99 eh99
          · skip
            refine own_blk dec0 seq0 hby hx hZ hown hK hF 1 [true] [] X98 eh98 ?_
            show ((cmpValue (FP.dcmp v1 0) .l).toInt ≠ 0) ∧ own_Aft X98 hp94 _ 254 [.val (.int a1), .val (.int d1), .val (.int d2), .val (.int d3), .val (.int sel), .val (.int (3 : Int32)), .val (.int (1 : Int32)), .val (.int (1 : Int32)), .val (.long l0), .second, .val (.long l1), .second, .val (.long l2), .second, .val (.long l3), .second, .val (.double v0), .second, .val (.double v1), .second, .val (.double v2), .second, .val (.double v3), .second, .val (.ref va), .val (.double v1), .second, .val (.double v1), .second, .unset] []
            refine ⟨by rcases Int.lt_or_gt_of_ne ht with q | q <;> first | (rw [own_cv_lt (D1.lt own_z0 q)]; omega) | (rw [own_cv_gt (D1.gt own_z0 q)]; omega), fun T100 X100 eh100 => ?_⟩
            exact tl96 _ D1 T100 X100 eh100
      intro qq Dq T96 X96 eh96
      refine own_new X96 hx hZ hown (hw _ (List.mem_of_getElem? (i := 2) rfl)) (hw _ (List.mem_of_getElem? (i := 3) rfl)) (hw _ (List.mem_of_getElem? (i := 4) rfl)) eh96 (hb hby at_254) (by decide) (by decide) (fun T101 hp101 ao ga101 X101 eh101 Ex101 Ea101 Dn101 => ?_)
      have ne_va_ao : va ≠ ao := fun q => absurd Ar94'.lt (by rw [q, ga101]; exact Nat.lt_irrefl _)
      have nw_ao : n0 ≤ ao := by rw [ga101]; exact Z_94
      have Ar94'_101 := Ar94'.ext Ex101
      have Z_101 : n0 ≤ hp101.size := Nat.le_trans Z_94 Ex101.1
      have Fn101_values : Fld Z hp101 ao "com/example/binwright/binwright/binning/DistinctValues" "values" "[D" (.null) := Dn101 (Or.inr (hw _ (List.mem_of_getElem? (i := 18) rfl))) (ty := (.array .double)) (by decide)
      have Fn101_before : Fld Z hp101 ao "com/example/binwright/binwright/binning/DistinctValues" "before" "[I" (.null) := Dn101 (Or.inr (hw _ (List.mem_of_getElem? (i := 20) rfl))) (ty := (.array .int)) (by decide)
      show own_Go p.tables e below _ (T101.setTop (mkF m 257 (Array.mk [.val (.int a1), .val (.int d1), .val (.int d2), .val (.int d3), .val (.int sel), .val (.int (3 : Int32)), .val (.int (1 : Int32)), .val (.int ng), .val (.long l0), .second, .val (.long l1), .second, .val (.long l2), .second, .val (.long l3), .second, .val (.double v0), .second, .val (.double v1), .second, .val (.double v2), .second, .val (.double v3), .second, .val (.ref va), .val (.double v1), .second, .val (.double qq), .second, .unset]) [.ref ao]))
      refine own_blk dec0 seq0 hby hx hZ hown hK hF 3 [] [] X101 eh101 ?_
      show own_Aft X101 hp101 _ 261 [.val (.int a1), .val (.int d1), .val (.int d2), .val (.int d3), .val (.int sel), .val (.int (3 : Int32)), .val (.int (1 : Int32)), .val (.int ng), .val (.long l0), .second, .val (.long l1), .second, .val (.long l2), .second, .val (.long l3), .second, .val (.double v0), .second, .val (.double v1), .second, .val (.double v2), .second, .val (.double v3), .second, .val (.ref va), .val (.double v1), .second, .val (.double qq), .second, .unset] [.int (5 : Int32), .ref va, .ref ao, .ref ao]
      refine fun T102 X102 eh102 => ?_
      refine own_newP X102 hx hZ (hw _ (List.mem_of_getElem? (i := 5) rfl)) eh102 5 rfl (cap := 5) (by decide) (by decide) (hb hby at_261) (by decide) (by decide) (fun T103 hp103 ib ga103 X103 eh103 Ex103 Ar103 => ?_)
      have ne_va_ib : va ≠ ib := fun q => absurd Ar94'_101.lt (by rw [q, ga103]; exact Nat.lt_irrefl _)
      have ne_ao_ib : ao ≠ ib := fun q => absurd Ea101.lt (by rw [q, ga103]; exact Nat.lt_irrefl _)
      have nw_ib : n0 ≤ ib := by rw [ga103]; exact Z_101
      have Ar94'_103 := Ar94'_101.ext Ex103
      have Ea101_103 := Exa.ext Ex103 Ea101
      have Fn101_values_103 := Fld.ext Ex103 Fn101_values
      have Fn101_before_103 := Fld.ext Ex103 Fn101_before
      have Z_103 : n0 ≤ hp103.size := Nat.le_trans Z_101 Ex103.1
      show own_Go p.tables e below _ (T103.setTop (mkF m 263 (Array.mk [.val (.int a1), .val (.int d1), .val (.int d2), .val (.int d3), .val (.int sel), .val (.int (3 : Int32)), .val (.int (1 : Int32)), .val (.int ng), .val (.long l0), .second, .val (.long l1), .second, .val (.long l2), .second, .val (.long l3), .second, .val (.double v0), .second, .val (.double v1), .second, .val (.double v2), .second, .val (.double v3), .second, .val (.ref va), .val (.double v1), .second, .val (.double qq), .second, .unset]) [.ref ib, .ref va, .ref ao, .ref ao]))
      refine own_callI X103 hx hZ hown rfl (hw _ (List.mem_of_getElem? (i := 6) rfl)) (hw _ (List.mem_of_getElem? (i := 7) rfl)) (hw _ (List.mem_of_getElem? (i := 4) rfl)) (hw _ (List.mem_of_getElem? (i := 8) rfl)) (by decide) eh103 ao [.ref va, .ref ib] pd1 rfl (rm := ({ frames := 2, cells := 0, slots := 0, locals := 24 } : Room)) (rm1 l Z a0 hw [] ao va ib hp103 n0 Z_103 Ea101_103 nw_ao Fn101_values_103 Fn101_before_103) (by rw [hml]; rfl) 1 rfl (Nat.le_of_eq rfl) (hb hby at_263) (by decide) (by decide) (by decide) (by decide) (fun T104 rv104 Lc104 X104 qc104 => ?_)
      obtain ⟨rfl, M1, KK, EE, G1, G2⟩ := qc104
      have AA1 := Ar94'_103.keep KK (fun q => ne_va_ao (List.mem_singleton.mp q))
      have Z_c : n0 ≤ T104.heap.size := Nat.le_trans Z_103 KK.1
      show own_Go p.tables e below _ (T104.setTop (mkF m 266 (Array.mk [.val (.int a1), .val (.int d1), .val (.int d2), .val (.int d3), .val (.int sel), .val (.int (3 : Int32)), .val (.int (1 : Int32)), .val (.int ng), .val (.long l0), .second, .val (.long l1), .second, .val (.long l2), .second, .val (.long l3), .second, .val (.double v0), .second, .val (.double v1), .second, .val (.double v2), .second, .val (.double v3), .second, .val (.ref va), .val (.double v1), .second, .val (.double qq), .second, .unset]) [.ref ao]))
      refine own_blk dec0 seq0 hby hx hZ hown hK hF 3 [] [] X104 rfl ?_
      show own_Aft X104 T104.heap _ 272 [.val (.int a1), .val (.int d1), .val (.int d2), .val (.int d3), .val (.int sel), .val (.int (3 : Int32)), .val (.int (1 : Int32)), .val (.int ng), .val (.long l0), .second, .val (.long l1), .second, .val (.long l2), .second, .val (.long l3), .second, .val (.double v0), .second, .val (.double v1), .second, .val (.double v2), .second, .val (.double v3), .second, .val (.ref va), .val (.double v1), .second, .val (.double qq), .second, .val (.ref ao)] [.double qq, .ref ao]
      refine fun T105 X105 eh105 => ?_
      refine own_callV X105 hx hZ hown (hw _ (List.mem_of_getElem? (i := 21) rfl)) (hw _ (List.mem_of_getElem? (i := 22) rfl)) (hw _ (List.mem_of_getElem? (i := 24) rfl)) (hw _ (List.mem_of_getElem? (i := 23) rfl)) (hw _ (List.mem_of_getElem? (i := 4) rfl)) (hw _ (List.mem_of_getElem? (i := 25) rfl)) (by decide) eh105 EE [.double qq] pd4 rfl (rm := ({ frames := 0, cells := 0, slots := 0, locals := 0 } : Room)) (rm4_3_1 l Z a0 hw [] ao va qq v0 _ v1 _ v2 _ T104.heap n0 Z_c G1 AA1 Dq D0 D1 D2 u0 u1) (by rw [hml]; rfl) 0 rfl (Nat.le_of_eq rfl) (hb hby at_272) (by decide) (by decide) (by decide) (by decide) (fun T106 rv106 Lc106 X106 qc106 => ?_)
      obtain ⟨rfl, M2, hh⟩ := qc106
      show own_Go p.tables e below _ (T106.setTop (mkF m 275 (Array.mk [.val (.int a1), .val (.int d1), .val (.int d2), .val (.int d3), .val (.int sel), .val (.int (3 : Int32)), .val (.int (1 : Int32)), .val (.int ng), .val (.long l0), .second, .val (.long l1), .second, .val (.long l2), .second, .val (.long l3), .second, .val (.double v0), .second, .val (.double v1), .second, .val (.double v2), .second, .val (.double v3), .second, .val (.ref va), .val (.double v1), .second, .val (.double qq), .second, .val (.ref ao)]) [.int (1 : Int32)]))
      refine own_blk dec0 seq0 hby hx hZ hown hK hF 4 [false] [] X106 hh ?_
      show (¬ (((1 : Int32)).toInt ≠ ((1 : Int32)).toInt)) ∧ own_Aft X106 T104.heap _ 285 [.val (.int a1), .val (.int d1), .val (.int d2), .val (.int d3), .val (.int sel), .val (.int (3 : Int32)), .val (.int (1 : Int32)), .val (.int ng), .val (.long l0), .second, .val (.long l1), .second, .val (.long l2), .second, .val (.long l3), .second, .val (.double v0), .second, .val (.double v1), .second, .val (.double v2), .second, .val (.double v3), .second, .val (.ref va), .val (.double v1), .second, .val (.double qq), .second, .val (.ref ao)] [.int (1 : Int32)]
      refine ⟨by decide, fun T107 X107 eh107 => ?_⟩
      exact own_ret X107 hx hlk eh107 hret (by first | rfl | decide) (Or.inl ⟨rfl, by simp, _, rfl⟩) (hb hby at_285) (by decide) (by decide) (⟨rfl, Fr.app (Fr.app Nf94 M1) M2⟩)
    · skip
      obtain rfl : kk = (2 : Int32) := Int32.toInt_inj.mp hk
      show own_Go p.tables e below _ (T10.setTop (mkF m 94 (Array.mk [.val (.int a1), .val (.int d1), .val (.int d2), .val (.int d3), .val (.int sel), .val (.int (3 : Int32)), .val (.int (2 : Int32)), .val (.int ng), .val (.long l0), .second, .val (.long l1), .second, .val (.long l2), .second, .val (.long l3), .second, .val (.double v0), .second, .val (.double v1), .second, .val (.double v2), .second, .val (.double v3), .second, .unset, .unset, .unset, .unset, .unset, .unset]) []))
      refine own_blk dec0 seq0 hby hx hZ hown hK hF 10 [true, true, false] [] X10 eh10 ?_
      show (((3 : Int32)).toInt ≠ ((1 : Int32)).toInt) ∧ (((3 : Int32)).toInt ≠ ((2 : Int32)).toInt) ∧ (¬ (((3 : Int32)).toInt ≠ ((3 : Int32)).toInt)) ∧ own_Aft X10 h0 _ 144 [.val (.int a1), .val (.int d1), .val (.int d2), .val (.int d3), .val (.int sel), .val (.int (3 : Int32)), .val (.int (2 : Int32)), .val (.int ng), .val (.long l0), .second, .val (.long l1), .second, .val (.long l2), .second, .val (.long l3), .second, .val (.double v0), .second, .val (.double v1), .second, .val (.double v2), .second, .val (.double v3), .second, .unset, .unset, .unset, .unset, .unset, .unset] [.int (3 : Int32)]
      refine ⟨by decide, by decide, by decide, fun T108 X108 eh108 => ?_⟩
      refine own_newP X108 hx hZ (hw _ (List.mem_of_getElem? (i := 1) rfl)) eh108 3 rfl (cap := 3) (by decide) (by decide) (hb hby at_144) (by decide) (by decide) (fun T109 hp109 va ga109 X109 eh109 Ex109 Ar109 => ?_)
      have nw_va : n0 ≤ va := by rw [ga109]; exact Z0
      have Z_109 : n0 ≤ hp109.size := Nat.le_trans Z0 Ex109.1
      have Ar109' : own_A Z hp109 va .double [.double 0, .double 0, .double 0] := Ar109
      show own_Go p.tables e below _ (T109.setTop (mkF m 146 (Array.mk [.val (.int a1), .val (.int d1), .val (.int d2), .val (.int d3), .val (.int sel), .val (.int (3 : Int32)), .val (.int (2 : Int32)), .val (.int ng), .val (.long l0), .second, .val (.long l1), .second, .val (.long l2), .second, .val (.long l3), .second, .val (.double v0), .second, .val (.double v1), .second, .val (.double v2), .second, .val (.double v3), .second, .unset, .unset, .unset, .unset, .unset, .unset]) [.ref va]))
      refine own_blk dec0 seq0 hby hx hZ hown hK hF 3 [] [] X109 eh109 ?_
      show own_Aft X109 hp109 _ 150 [.val (.int a1), .val (.int d1), .val (.int d2), .val (.int d3), .val (.int sel), .val (.int (3 : Int32)), .val (.int (2 : Int32)), .val (.int ng), .val (.long l0), .second, .val (.long l1), .second, .val (.long l2), .second, .val (.long l3), .second, .val (.double v0), .second, .val (.double v1), .second, .val (.double v2), .second, .val (.double v3), .second, .unset, .unset, .unset, .unset, .unset, .unset] [.double v0, .int (0 : Int32), .ref va, .ref va]
      refine fun T110 X110 eh110 => ?_
      refine own_sD X110 hx hZ eh110 Ar109' 0 rfl (by show 0 < 3; decide) (hb hby at_150) (fun T111 hp111 X111 eh111 Wr111 Ar111 => ?_)
      have Ar111' : own_A Z hp111 va .double [.double v0, .double 0, .double 0] := Ar111
      have Nf111 := Fr.snoc X111 N0 nw_va
      have Z_111 : n0 ≤ hp111.size := by rw [Wr.size Wr111]; exact Z_109
      refine own_blk dec0 seq0 hby hx hZ hown hK hF 3 [] [] X111 eh111 ?_
      show own_Aft X111 hp111 _ 155 [.val (.int a1), .val (.int d1), .val (.int d2), .val (.int d3), .val (.int sel), .val (.int (3 : Int32)), .val (.int (2 : Int32)), .val (.int ng), .val (.long l0), .second, .val (.long l1), .second, .val (.long l2), .second, .val (.long l3), .second, .val (.double v0), .second, .val (.double v1), .second, .val (.double v2), .second, .val (.double v3), .second, .unset, .unset, .unset, .unset, .unset, .unset] [.double v1, .int (1 : Int32), .ref va, .ref va]
      refine fun T112 X112 eh112 => ?_
      refine own_sD X112 hx hZ eh112 Ar111' 1 rfl (by show 1 < 3; decide) (hb hby at_155) (fun T113 hp113 X113 eh113 Wr113 Ar113 => ?_)
      have Ar113' : own_A Z hp113 va .double [.double v0, .double v1, .double 0] := Ar113
      have Nf113 := Fr.snoc X113 Nf111 nw_va
      have Z_113 : n0 ≤ hp113.size := by rw [Wr.size Wr113]; exact Z_111
      refine own_blk dec0 seq0 hby hx hZ hown hK hF 3 [] [] X113 eh113 ?_
      show own_Aft X113 hp113 _ 160 [.val (.int a1), .val (.int d1), .val (.int d2), .val (.int d3), .val (.int sel), .val (.int (3 : Int32)), .val (.int (2 : Int32)), .val (.int ng), .val (.long l0), .second, .val (.long l1), .second, .val (.long l2), .second, .val (.long l3), .second, .val (.double v0), .second, .val (.double v1), .second, .val (.double v2), .second, .val (.double v3), .second, .unset, .unset, .unset, .unset, .unset, .unset] [.double v2, .int (2 : Int32), .ref va, .ref va]
      refine fun T114 X114 eh114 => ?_
      refine own_sD X114 hx hZ eh114 Ar113' 2 rfl (by show 2 < 3; decide) (hb hby at_160) (fun T115 hp115 X115 eh115 Wr115 Ar115 => ?_)
      have Ar115' : own_A Z hp115 va .double [.double v0, .double v1, .double v2] := Ar115
      have Nf115 := Fr.snoc X115 Nf113 nw_va
      have Z_115 : n0 ≤ hp115.size := by rw [Wr.size Wr115]; exact Z_113
      refine own_blk dec0 seq0 hby hx hZ hown hK hF 12 [true, true, false] [] X115 eh115 ?_
      show (((2 : Int32)).toInt ≠ 0) ∧ (((2 : Int32)).toInt ≠ ((1 : Int32)).toInt) ∧ (¬ (((2 : Int32)).toInt ≠ ((2 : Int32)).toInt)) ∧ own_Aft X115 hp115 _ 226 [.val (.int a1), .val (.int d1), .val (.int d2), .val (.int d3), .val (.int sel), .val (.int (3 : Int32)), .val (.int (2 : Int32)), .val (.int ng), .val (.long l0), .second, .val (.long l1), .second, .val (.long l2), .second, .val (.long l3), .second, .val (.double v0), .second, .val (.double v1), .second, .val (.double v2), .second, .val (.double v3), .second, .val (.ref va), .val (.double v2), .second, .unset, .unset, .unset] []
      refine ⟨by decide, by decide, by decide, fun T116 X116 eh116 => ?_⟩
      refine own_blk dec0 seq0 hby hx hZ hown hK hF 3 [] [] X116 eh116 ?_
      show own_Aft X116 hp115 _ 237 [.val (.int a1), .val (.int d1), .val (.int d2), .val (.int d3), .val (.int sel), .val (.int (3 : Int32)), .val (.int (2 : Int32)), .val (.int ng), .val (.long l0), .second, .val (.long l1), .second, .val (.long l2), .second, .val (.long l3), .second, .val (.double v0), .second, .val (.double v1), .second, .val (.double v2), .second, .val (.double v3), .second, .val (.ref va), .val (.double v2), .second, .val (.double v2), .second, .unset] []
      refine fun T117 X117 eh117 => ?_
      suffices tl118 : ∀ (qq : UInt64) (_ : own_D 0 l2.toInt qq), own_Aft X117 hp115 (own_Fin s 16 128 (fun v h L => v = some (.int 1) ∧ Fr n0 L)) 254 [.val (.int a1), .val (.int d1), .val (.int d2), .val (.int d3), .val (.int sel), .val (.int (3 : Int32)), .val (.int (2 : Int32)), .val (.int ng), .val (.long l0), .second, .val (.long l1), .second, .val (.long l2), .second, .val (.long l3), .second, .val (.double v0), .second, .val (.double v1), .second, .val (.double v2), .second, .val (.double v3), .second, .val (.ref va), .val (.double v2), .second, .val (.double qq), .second, .unset] [] by
        rcases hng with hz | hz
        · skip
          obtain rfl : ng = (0 : Int32) := hz
          show own_Go p.tables e below _ (T117.setTop (mkF m 237 (Array.mk [.val (.int a1), .val (.int d1), .val (.int d2), .val (.int d3), .val (.int sel), .val (.int (3 : Int32)), .val (.int (2 : Int32)), .val (.int (0 : Int32)), .val (.long l0), .second, .val (.long l1), .second, .val (.long l2), .second, .val (.long l3), .second, .val (.double v0), .second, .val (.double v1), .second, .val (.double v2), .second, .val (.double v3), .second, .val (.ref va), .val (.double v2), .second, .val (.double v2), .second, .unset]) []))
          refine own_blk dec0 seq0 hby hx hZ hown hK hF 2 [true] [] X117 eh117 ?_
          show (((0 : Int32)).toInt = 0) ∧ own_Aft X117 hp115 _ 254 [.val (.int a1), .val (.int d1), .val (.int d2), .val (.int d3), .val (.int sel), .val (.int (3 : Int32)), .val (.int (2 : Int32)), .val (.int (0 : Int32)), .val (.long l0), .second, .val (.long l1), .second, .val (.long l2), .second, .val (.long l3), .second, .val (.double v0), .second, .val (.double v1), .second, .val (.double v2), .second, .val (.double v3), .second, .val (.ref va), .val (.double v2), .second, .val (.double v2), .second, .unset] []
          refine ⟨by decide, fun T119 X119 eh119 => ?_⟩
          exact tl118 _ D2 T119 X119 eh119
        · skip
          obtain rfl : ng = (1 : Int32) := hz
          show own_Go p.tables e below _ (T117.setTop (mkF m 237 (Array.mk [.val (.int a1), .val (.int d1), .val (.int d2), .val (.int d3), .val (.int sel), .val (.int (3 : Int32)), .val (.int (2 : Int32)), .val (.int (1 : Int32)), .val (.long l0), .second, .val (.long l1), .second, .val (.long l2), .second, .val (.long l3), .second, .val (.double v0), .second, .val (.double v1), .second, .val (.double v2), .second, .val (.double v3), .second, .val (.ref va), .val (.double v2), .second, .val (.double v2), .second, .unset]) []))
          refine own_blk dec0 seq0 hby hx hZ hown hK hF 5 [false] [] X117 eh117 ?_
          show (¬ (((1 : Int32)).toInt = 0)) ∧ own_Aft X117 hp115 _ 246 [.val (.int a1), .val (.int d1), .val (.int d2), .val (.int d3), .val (.int sel), .val (.int (3 : Int32)), .val (.int (2 : Int32)), .val (.int (1 : Int32)), .val (.long l0), .second, .val (.long l1), .second, .val (.long l2), .second, .val (.long l3), .second, .val (.double v0), .second, .val (.double v1), .second, .val (.double v2), .second, .val (.double v3), .second, .val (.ref va), .val (.double v2), .second, .val (.double v2), .second, .unset] [.int (cmpValue (FP.dcmp v2 0) .l)]
          refine ⟨by decide, fun T120 X120 eh120 => ?_⟩
          by_cases ht : l2.toInt = 0
          · skip
            refine own_blk dec0 seq0 hby hx hZ hown hK hF 4 [false] [] X120 eh120 ?_
            show (¬ ((cmpValue (FP.dcmp v2 0) .l).toInt ≠ 0)) ∧ own_Aft X120 hp115 _ 254 [.val (.int a1), .val (.int d1), .val (.int d2), .val (.int d3), .val (.int sel), .val (.int (3 : Int32)), .val (.int (2 : Int32)), .val (.int (1 : Int32)), .val (.long l0), .second, .val (.long l1), .second, .val (.long l2), .second, .val (.long l3), .second, .val (.double v0), .second, .val (.double v1), .second, .val (.double v2), .second, .val (.double v3), .second, .val (.ref va), .val (.double v2), .second, .val (.double (FP.dneg v2)), .second, .unset] []
            refine ⟨by rw [own_cv_eq (D2.eq own_z0 ht)]; omega, fun T121 X121 eh121 => ?_⟩
            exact tl118 _ (by have := D2.neg; rwa [ht, Int.neg_zero, ← ht] at this) T121 X121 eh121
          · skip
            refine own_blk dec0 seq0 hby hx hZ hown hK hF 1 [true] [] X120 eh120 ?_
            show ((cmpValue (FP.dcmp v2 0) .l).toInt ≠ 0) ∧ own_Aft X120 hp115 _ 254 [.val (.int a1), .val (.int d1), .val (.int d2), .val (.int d3), .val (.int sel), .val (.int (3 : Int32)), .val (.int (2 : Int32)), .val (.int (1 : Int32)), .val (.long l0), .second, .val (.long l1), .second, .val (.long l2), .second, .val (.long l3), .second, .val (.double v0), .second, .val (.double v1), .second, .val (.double v2), .second, .val (.double v3), .second, .val (.ref va), .val (.double v2), .second, .val (.double v2), .second, .unset] []
            refine ⟨by rcases Int.lt_or_gt_of_ne ht with q | q <;> first | (rw [own_cv_lt (D2.lt own_z0 q)]; omega) | (rw [own_cv_gt (D2.gt own_z0 q)]; omega), fun T122 X122 eh122 => ?_⟩
            exact tl118 _ D2 T122 X122 eh122
      intro qq Dq T118 X118 eh118
      refine own_new X118 hx hZ hown (hw _ (List.mem_of_getElem? (i := 2) rfl)) (hw _ (List.mem_of_getElem? (i := 3) rfl)) (hw _ (List.mem_of_getElem? (i := 4) rfl)) eh118 (hb hby at_254) (by decide) (by decide) (fun T123 hp123 ao ga123 X123 eh123 Ex123 Ea123 Dn123 => ?_)
      have ne_va_ao : va ≠ ao := fun q => absurd Ar115'.lt (by rw [q, ga123]; exact Nat.lt_irrefl _)
      have nw_ao : n0 ≤ ao := by rw [ga123]; exact Z_115
      have Ar115'_123 := Ar115'.ext Ex123
      have Z_123 : n0 ≤ hp123.size := Nat.le_trans Z_115 Ex123.1
      have Fn123_values : Fld Z hp123 ao "com/example/binwright/binwright/binning/DistinctValues" "values" "[D" (.null) := Dn123 (Or.inr (hw _ (List.mem_of_getElem? (i := 18) rfl))) (ty := (.array .double)) (by decide)
      have Fn123_before : Fld Z hp123 ao "com/example/binwright/binwright/binning/DistinctValues" "before" "[I" (.null) := Dn123 (Or.inr (hw _ (List.mem_of_getElem? (i := 20) rfl))) (ty := (.array .int)) (by decide)
      show own_Go p.tables e below _ (T123.setTop (mkF m 257 (Array.mk [.val (.int a1), .val (.int d1), .val (.int d2), .val (.int d3), .val (.int sel), .val (.int (3 : Int32)), .val (.int (2 : Int32)), .val (.int ng), .val (.long l0), .second, .val (.long l1), .second, .val (.long l2), .second, .val (.long l3), .second, .val (.double v0), .second, .val (.double v1), .second, .val (.double v2), .second, .val (.double v3), .second, .val (.ref va), .val (.double v2), .second, .val (.double qq), .second, .unset]) [.ref ao]))
      refine own_blk dec0 seq0 hby hx hZ hown hK hF 3 [] [] X123 eh123 ?_
      show own_Aft X123 hp123 _ 261 [.val (.int a1), .val (.int d1), .val (.int d2), .val (.int d3), .val (.int sel), .val (.int (3 : Int32)), .val (.int (2 : Int32)), .val (.int ng), .val (.long l0), .second, .val (.long l1), .second, .val (.long l2), .second, .val (.long l3), .second, .val (.double v0), .second, .val (.double v1), .second, .val (.double v2), .second, .val (.double v3), .second, .val (.ref va), .val (.double v2), .second, .val (.double qq), .second, .unset] [.int (5 : Int32), .ref va, .ref ao, .ref ao]
      refine fun T124 X124 eh124 => ?_
      refine own_newP X124 hx hZ (hw _ (List.mem_of_getElem? (i := 5) rfl)) eh124 5 rfl (cap := 5) (by decide) (by decide) (hb hby at_261) (by decide) (by decide) (fun T125 hp125 ib ga125 X125 eh125 Ex125 Ar125 => ?_)
      have ne_va_ib : va ≠ ib := fun q => absurd Ar115'_123.lt (by rw [q, ga125]; exact Nat.lt_irrefl _)
      have ne_ao_ib : ao ≠ ib := fun q => absurd Ea123.lt (by rw [q, ga125]; exact Nat.lt_irrefl _)
      have nw_ib : n0 ≤ ib := by rw [ga125]; exact Z_123
      have Ar115'_125 := Ar115'_123.ext Ex125
      have Ea123_125 := Exa.ext Ex125 Ea123
      have Fn123_values_125 := Fld.ext Ex125 Fn123_values
      have Fn123_before_125 := Fld.ext Ex125 Fn123_before
      have Z_125 : n0 ≤ hp125.size := Nat.le_trans Z_123 Ex125.1
      show own_Go p.tables e below _ (T125.setTop (mkF m 263 (Array.mk [.val (.int a1), .val (.int d1), .val (.int d2), .val (.int d3), .val (.int sel), .val (.int (3 : Int32)), .val (.int (2 : Int32)), .val (.int ng), .val (.long l0), .second, .val (.long l1), .second, .val (.long l2), .second, .val (.long l3), .second, .val (.double v0), .second, .val (.double v1), .second, .val (.double v2), .second, .val (.double v3), .second, .val (.ref va), .val (.double v2), .second, .val (.double qq), .second, .unset]) [.ref ib, .ref va, .ref ao, .ref ao]))
      refine own_callI X125 hx hZ hown rfl (hw _ (List.mem_of_getElem? (i := 6) rfl)) (hw _ (List.mem_of_getElem? (i := 7) rfl)) (hw _ (List.mem_of_getElem? (i := 4) rfl)) (hw _ (List.mem_of_getElem? (i := 8) rfl)) (by decide) eh125 ao [.ref va, .ref ib] pd1 rfl (rm := ({ frames := 2, cells := 0, slots := 0, locals := 24 } : Room)) (rm1 l Z a0 hw [] ao va ib hp125 n0 Z_125 Ea123_125 nw_ao Fn123_values_125 Fn123_before_125) (by rw [hml]; rfl) 1 rfl (Nat.le_of_eq rfl) (hb hby at_263) (by decide) (by decide) (by decide) (by decide) (fun T126 rv126 Lc126 X126 qc126 => ?_)
      obtain ⟨rfl, M1, KK, EE, G1, G2⟩ := qc126
      have AA1 := Ar115'_125.keep KK (fun q => ne_va_ao (List.mem_singleton.mp q))
      have Z_c : n0 ≤ T126.heap.size := Nat.le_trans Z_125 KK.1
      show own_Go p.tables e below _ (T126.setTop (mkF m 266 (Array.mk [.val (.int a1), .val (.int d1), .val (.int d2), .val (.int d3), .val (.int sel), .val (.int (3 : Int32)), .val (.int (2 : Int32)), .val (.int ng), .val (.long l0), .second, .val (.long l1), .second, .val (.long l2), .second, .val (.long l3), .second, .val (.double v0), .second, .val (.double v1), .second, .val (.double v2), .second, .val (.double v3), .second, .val (.ref va), .val (.double v2), .second, .val (.double qq), .second, .unset]) [.ref ao]))
      refine own_blk dec0 seq0 hby hx hZ hown hK hF 3 [] [] X126 rfl ?_
      show own_Aft X126 T126.heap _ 272 [.val (.int a1), .val (.int d1), .val (.int d2), .val (.int d3), .val (.int sel), .val (.int (3 : Int32)), .val (.int (2 : Int32)), .val (.int ng), .val (.long l0), .second, .val (.long l1), .second, .val (.long l2), .second, .val (.long l3), .second, .val (.double v0), .second, .val (.double v1), .second, .val (.double v2), .second, .val (.double v3), .second, .val (.ref va), .val (.double v2), .second, .val (.double qq), .second, .val (.ref ao)] [.double qq, .ref ao]
      refine fun T127 X127 eh127 => ?_
      refine own_callV X127 hx hZ hown (hw _ (List.mem_of_getElem? (i := 21) rfl)) (hw _ (List.mem_of_getElem? (i := 22) rfl)) (hw _ (List.mem_of_getElem? (i := 24) rfl)) (hw _ (List.mem_of_getElem? (i := 23) rfl)) (hw _ (List.mem_of_getElem? (i := 4) rfl)) (hw _ (List.mem_of_getElem? (i := 25) rfl)) (by decide) eh127 EE [.double qq] pd4 rfl (rm := ({ frames := 0, cells := 0, slots := 0, locals := 0 } : Room)) (rm4_3_2 l Z a0 hw [] ao va qq v0 _ v1 _ v2 _ T126.heap n0 Z_c G1 AA1 Dq D0 D1 D2 u0 u1) (by rw [hml]; rfl) 0 rfl (Nat.le_of_eq rfl) (hb hby at_272) (by decide) (by decide) (by decide) (by decide) (fun T128 rv128 Lc128 X128 qc128 => ?_)
      obtain ⟨rfl, M2, hh⟩ := qc128
      show own_Go p.tables e below _ (T128.setTop (mkF m 275 (Array.mk [.val (.int a1), .val (.int d1), .val (.int d2), .val (.int d3), .val (.int sel), .val (.int (3 : Int32)), .val (.int (2 : Int32)), .val (.int ng), .val (.long l0), .second, .val (.long l1), .second, .val (.long l2), .second, .val (.long l3), .second, .val (.double v0), .second, .val (.double v1), .second, .val (.double v2), .second, .val (.double v3), .second, .val (.ref va), .val (.double v2), .second, .val (.double qq), .second, .val (.ref ao)]) [.int (2 : Int32)]))
      refine own_blk dec0 seq0 hby hx hZ hown hK hF 4 [false] [] X128 hh ?_
      show (¬ (((2 : Int32)).toInt ≠ ((2 : Int32)).toInt)) ∧ own_Aft X128 T126.heap _ 285 [.val (.int a1), .val (.int d1), .val (.int d2), .val (.int d3), .val (.int sel), .val (.int (3 : Int32)), .val (.int (2 : Int32)), .val (.int ng), .val (.long l0), .second, .val (.long l1), .second, .val (.long l2), .second, .val (.long l3), .second, .val (.double v0), .second, .val (.double v1), .second, .val (.double v2), .second, .val (.double v3), .second, .val (.ref va), .val (.double v2), .second, .val (.double qq), .second, .val (.ref ao)] [.int (1 : Int32)]
      refine ⟨by decide, fun T129 X129 eh129 => ?_⟩
      exact own_ret X129 hx hlk eh129 hret (by first | rfl | decide) (Or.inl ⟨rfl, by simp, _, rfl⟩) (hb hby at_285) (by decide) (by decide) (⟨rfl, Fr.app (Fr.app Nf115 M1) M2⟩)
  · skip
    obtain rfl : nn = (4 : Int32) := Int32.toInt_inj.mp hn
    have hnn : (4 : Int32).toInt = 4 := rfl
    obtain hk | hk | hk | hk : kk.toInt = (0 : Int32).toInt ∨ kk.toInt = (1 : Int32).toInt ∨ kk.toInt = (2 : Int32).toInt ∨ kk.toInt = (3 : Int32).toInt := by first | omega | (show kk.toInt = 0 ∨ kk.toInt = 1 ∨ kk.toInt = 2 ∨ kk.toInt = 3; omega)
    · skip
      obtain rfl : kk = (0 : Int32) := Int32.toInt_inj.mp hk
      show own_Go p.tables e below _ (T10.setTop (mkF m 94 (Array.mk [.val (.int a1), .val (.int d1), .val (.int d2), .val (.int d3), .val (.int sel), .val (.int (4 : Int32)), .val (.int (0 : Int32)), .val (.int ng), .val (.long l0), .second, .val (.long l1), .second, .val (.long l2), .second, .val (.long l3), .second, .val (.double v0), .second, .val (.double v1), .second, .val (.double v2), .second, .val (.double v3), .second, .unset, .unset, .unset, .unset, .unset, .unset]) []))
      refine own_blk dec0 seq0 hby hx hZ hown hK hF 10 [true, true, true] [] X10 eh10 ?_
      show (((4 : Int32)).toInt ≠ ((1 : Int32)).toInt) ∧ (((4 : Int32)).toInt ≠ ((2 : Int32)).toInt) ∧ (((4 : Int32)).toInt ≠ ((3 : Int32)).toInt) ∧ own_Aft X10 h0 _ 167 [.val (.int a1), .val (.int d1), .val (.int d2), .val (.int d3), .val (.int sel), .val (.int (4 : Int32)), .val (.int (0 : Int32)), .val (.int ng), .val (.long l0), .second, .val (.long l1), .second, .val (.long l2), .second, .val (.long l3), .second, .val (.double v0), .second, .val (.double v1), .second, .val (.double v2), .second, .val (.double v3), .second, .unset, .unset, .unset, .unset, .unset, .unset] [.int (4 : Int32)]
      refine ⟨by decide, by decide, by decide, fun T130 X130 eh130 => ?_⟩
      refine own_newP X130 hx hZ (hw _ (List.mem_of_getElem? (i := 1) rfl)) eh130 4 rfl (cap := 4) (by decide) (by decide) (hb hby at_167) (by decide) (by decide) (fun T131 hp131 va ga131 X131 eh131 Ex131 Ar131 => ?_)
      have nw_va : n0 ≤ va := by rw [ga131]; exact Z0
      have Z_131 : n0 ≤ hp131.size := Nat.le_trans Z0 Ex131.1
      have Ar131' : own_A Z hp131 va .double [.double 0, .double 0, .double 0, .double 0] := Ar131
      show own_Go p.tables e below _ (T131.setTop (mkF m 169 (Array.mk [.val (.int a1), .val (.int d1), .val (.int d2), .val (.int d3), .val (.int sel), .val (.int (4 : Int32)), .val (.int (0 : Int32)), .val (.int ng), .val (.long l0), .second, .val (.long l1), .second, .val (.long l2), .second, .val (.long l3), .second, .val (.double v0), .second, .val (.double v1), .second, .val (.double v2), .second, .val (.double v3), .second, .unset, .unset, .unset, .unset, .unset, .unset]) [.ref va]))
      refine own_blk dec0 seq0 hby hx hZ hown hK hF 3 [] [] X131 eh131 ?_
      show own_Aft X131 hp131 _ 173 [.val (.int a1), .val (.int d1), .val (.int d2), .val (.int d3), .val (.int sel), .val (.int (4 : Int32)), .val (.int (0 : Int32)), .val (.int ng), .val (.long l0), .second, .val (.long l1), .second, .val (.long l2), .second, .val (.long l3), .second, .val (.double v0), .second, .val (.double v1), .second, .val (.double v2), .second, .val (.double v3), .second, .unset, .unset, .unset, .unset, .unset, .unset] [.double v0, .int (0 : Int32), .ref va, .ref va]
      refine fun T132 X132 eh132 => ?_
      refine own_sD X132 hx hZ eh132 Ar131' 0 rfl (by show 0 < 4; decide) (hb hby at_173) (fun T133 hp133 X133 eh133 Wr133 Ar133 => ?_)
      have Ar133' : own_A Z hp133 va .double [.double v0, .double 0, .double 0, .double 0] := Ar133
      have Nf133 := Fr.snoc X133 N0 nw_va
      have Z_133 : n0 ≤ hp133.size := by rw [Wr.size Wr133]; exact Z_131
      refine own_blk dec0 seq0 hby hx hZ hown hK hF 3 [] [] X133 eh133 ?_
      show own_Aft X133 hp133 _ 178 [.val (.int a1), .val (.int d1), .val (.int d2), .val (.int d3), .val (.int sel), .val (.int (4 : Int32)), .val (.int (0 : Int32)), .val (.int ng), .val (.long l0), .second, .val (.long l1), .second, .val (.long l2), .second, .val (.long l3), .second, .val (.double v0), .second, .val (.double v1), .second, .val (.double v2), .second, .val (.double v3), .second, .unset, .unset, .unset, .unset, .unset, .unset] [.double v1, .int (1 : Int32), .ref va, .ref va]
      refine fun T134 X134 eh134 => ?_
      refine own_sD X134 hx hZ eh134 Ar133' 1 rfl (by show 1 < 4; decide) (hb hby at_178) (fun T135 hp135 X135 eh135 Wr135 Ar135 => ?_)
      have Ar135' : own_A Z hp135 va .double [.double v0, .double v1, .double 0, .double 0] := Ar135
      have Nf135 := Fr.snoc X135 Nf133 nw_va
      have Z_135 : n0 ≤ hp135.size := by rw [Wr.size Wr135]; exact Z_133
      refine own_blk dec0 seq0 hby hx hZ hown hK hF 3 [] [] X135 eh135 ?_
      show own_Aft X135 hp135 _ 183 [.val (.int a1), .val (.int d1), .val (.int d2), .val (.int d3), .val (.int sel), .val (.int (4 : Int32)), .val (.int (0 : Int32)), .val (.int ng), .val (.long l0), .second, .val (.long l1), .second, .val (.long l2), .second, .val (.long l3), .second, .val (.double v0), .second, .val (.double v1), .second, .val (.double v2), .second, .val (.double v3), .second, .unset, .unset, .unset, .unset, .unset, .unset] [.double v2, .int (2 : Int32), .ref va, .ref va]
      refine fun T136 X136 eh136 => ?_
      refine own_sD X136 hx hZ eh136 Ar135' 2 rfl (by show 2 < 4; decide) (hb hby at_183) (fun T137 hp137 X137 eh137 Wr137 Ar137 => ?_)
      have Ar137' : own_A Z hp137 va .double [.double v0, .double v1, .double v2, .double 0] := Ar137
      have Nf137 := Fr.snoc X137 Nf135 nw_va
      have Z_137 : n0 ≤ hp137.size := by rw [Wr.size Wr137]; exact Z_135
      refine own_blk dec0 seq0 hby hx hZ hown hK hF 3 [] [] X137 eh137 ?_
      show own_Aft X137 hp137 _ 188 [.val (.int a1), .val (.int d1), .val (.int d2), .val (.int d3), .val (.int sel), .val (.int (4 : Int32)), .val (.int (0 : Int32)), .val (.int ng), .val (.long l0), .second, .val (.long l1), .second, .val (.long l2), .second, .val (.long l3), .second, .val (.double v0), .second, .val (.double v1), .second, .val (.double v2), .second, .val (.double v3), .second, .unset, .unset, .unset, .unset, .unset, .unset] [.double v3, .int (3 : Int32), .ref va, .ref va]
      refine fun T138 X138 eh138 => ?_
      refine own_sD X138 hx hZ eh138 Ar137' 3 rfl (by show 3 < 4; decide) (hb hby at_188) (fun T139 hp139 X139 eh139 Wr139 Ar139 => ?_)
      have Ar139' : own_A Z hp139 va .double [.double v0, .double v1, .double v2, .double v3] := Ar139
      have Nf139 := Fr.snoc X139 Nf137 nw_va
      have Z_139 : n0 ≤ hp139.size := by rw [Wr.size Wr139]; exact Z_137
      refine own_blk dec0 seq0 hby hx hZ hown hK hF 8 [false] [] X139 eh139 ?_
      show (¬ (((0 : Int32)).toInt ≠ 0)) ∧ own_Aft X139 hp139 _ 237 [.val (.int a1), .val (.int d1), .val (.int d2), .val (.int d3), .val (.int sel), .val (.int (4 : Int32)), .val (.int (0 : Int32)), .val (.int ng), .val (.long l0), .second, .val (.long l1), .second, .val (.long l2), .second, .val (.long l3), .second, .val (.double v0), .second, .val (.double v1), .second, .val (.double v2), .second, .val (.double v3), .second, .val (.ref va), .val (.double v0), .second, .val (.double v0), .second, .unset] []
      refine ⟨by decide, fun T140 X140 eh140 => ?_⟩
      suffices tl141 : ∀ (qq : UInt64) (_ : own_D 0 l0.toInt qq), own_Aft X140 hp139 (own_Fin s 16 128 (fun v h L => v = some (.int 1) ∧ Fr n0 L)) 254 [.val (.int a1), .val (.int d1), .val (.int d2), .val (.int d3), .val (.int sel), .val (.int (4 : Int32)), .val (.int (0 : Int32)), .val (.int ng), .val (.long l0), .second, .val (.long l1), .second, .val (.long l2), .second, .val (.long l3), .second, .val (.double v0), .second, .val (.double v1), .second, .val (.double v2), .second, .val (.double v3), .second, .val (.ref va), .val (.double v0), .second, .val (.double qq), .second, .unset] [] by
        rcases hng with hz | hz
        · skip
          obtain rfl : ng = (0 : Int32) := hz
          show own_Go p.tables e below _ (T140.setTop (mkF m 237 (Array.mk [.val (.int a1), .val (.int d1), .val (.int d2), .val (.int d3), .val (.int sel), .val (.int (4 : Int32)), .val (.int (0 : Int32)), .val (.int (0 : Int32)), .val (.long l0), .second, .val (.long l1), .second, .val (.long l2), .second, .val (.long l3), .second, .val (.double v0), .second, .val (.double v1), .second, .val (.double v2), .second, .val (.double v3), .second, .val (.ref va), .val (.double v0), .second, .val (.double v0), .second, .unset]) []))
          refine own_blk dec0 seq0 hby hx hZ hown hK hF 2 [true] [] X140 eh140 ?_
          show (((0 : Int32)).toInt = 0) ∧ own_Aft X140 hp139 _ 254 [.val (.int a1), .val (.int d1), .val (.int d2), .val (.int d3), .val (.int sel), .val (.int (4 : Int32)), .val (.int (0 : Int32)), .val (.int (0 : Int32)), .val (.long l0), .second, .val (.long l1), .second, .val (.long l2), .second, .val (.long l3), .second, .val (.double v0), .second, .val (.double v1), .second, .val (.double v2), .second, .val (.double v3), .second, .val (.ref va), .val (.double v0), .second, .val (.double v0), .second, .unset] []
          refine ⟨by decide, fun T142 X142 eh142 => ?_⟩
          exact tl141 _ D0 T142 X142 eh142
        · skip
          obtain rfl : ng = (1 : Int32) := hz
          show own_Go p.tables e below _ (T140.setTop (mkF m 237 (Array.mk [.val (.int a1), .val (.int d1), .val (.int d2), .val (.int d3), .val (.int sel), .val (.int (4 : Int32)), .val (.int (0 : Int32)), .val (.int (1 : Int32)), .val (.long l0), .second, .val (.long l1), .second, .val (.long l2), .second, .val (.long l3), .second, .val (.double v0), .second, .val (.double v1), .second, .val (.double v2), .second, .val (.double v3), .second, .val (.ref va), .val (.double v0), .second, .val (.double v0), .second, .unset]) []))
          refine own_blk dec0 seq0 hby hx hZ hown hK hF 5 [false] [] X140 eh140 ?_
          show (¬ (((1 : Int32)).toInt = 0)) ∧ own_Aft X140 hp139 _ 246 [.val (.int a1), .val (.int d1), .val (.int d2), .val (.int d3), .val (.int sel), .val (.int (4 : Int32)), .val (.int (0 : Int32)), .val (.int (1 : Int32)), .val (.long l0), .second, .val (.long l1), .second, .val (.long l2), .second, .val (.long l3), .second, .val (.double v0), .second, .val (.double v1), .second, .val (.double v2), .second, .val (.double v3), .second, .val (.ref va), .val (.double v0), .second, .val (.double v0), .second, .unset] [.int (cmpValue (FP.dcmp v0 0) .l)]
          refine ⟨by decide, fun T143 X143 eh143 => ?_⟩
          by_cases ht : l0.toInt = 0
          · skip
            refine own_blk dec0 seq0 hby hx hZ hown hK hF 4 [false] [] X143 eh143 ?_
            show (¬ ((cmpValue (FP.dcmp v0 0) .l).toInt ≠ 0)) ∧ own_Aft X143 hp139 _ 254 [.val (.int a1), .val (.int d1), .val (.int d2), .val (.int d3), .val (.int sel), .val (.int (4 : Int32)), .val (.int (0 : Int32)), .val (.int (1 : Int32)), .val (.long l0), .second, .val (.long l1), .second, .val (.long l2), .second, .val (.long l3), .second, .val (.double v0), .second, .val (.double v1), .second, .val (.double v2), .second, .val (.double v3), .second, .val (.ref va), .val (.double v0), .second, .val (.double (FP.dneg v0)), .second, .unset] []
            refine ⟨by rw [own_cv_eq (D0.eq own_z0 ht)]; omega, fun T144 X144 eh144 => ?_⟩
            exact tl141 _ (by have := D0.neg; rwa [ht, Int.neg_zero, ← ht] at this) T144 X144 eh144
          · skip
            refine own_blk dec0 seq0 hby hx hZ hown hK hF 1 [true] [] X143 eh143 ?_
            show ((cmpValue (FP.dcmp v0 0) .l).toInt ≠ 0) ∧ own_Aft X143 hp139 _ 254 [.val (.int a1), .val (.int d1), .val (.int d2), .val (.int d3), .val (.int sel), .val (.int (4 : Int32)), .val (.int (0 : Int32)), .val (.int (1 : Int32)), .val (.long l0), .second, .val (.long l1), .second, .val (.long l2), .second, .val (.long l3), .second, .val (.double v0), .second, .val (.double v1), .second, .val (.double v2), .second, .val (.double v3), .second, .val (.ref va), .val (.double v0), .second, .val (.double v0), .second, .unset] []
            refine ⟨by rcases Int.lt_or_gt_of_ne ht with q | q <;> first | (rw [own_cv_lt (D0.lt own_z0 q)]; omega) | (rw [own_cv_gt (D0.gt own_z0 q)]; omega), fun T145 X145 eh145 => ?_⟩
            exact tl141 _ D0 T145 X145 eh145
      intro qq Dq T141 X141 eh141
      refine own_new X141 hx hZ hown (hw _ (List.mem_of_getElem? (i := 2) rfl)) (hw _ (List.mem_of_getElem? (i := 3) rfl)) (hw _ (List.mem_of_getElem? (i := 4) rfl)) eh141 (hb hby at_254) (by decide) (by decide) (fun T146 hp146 ao ga146 X146 eh146 Ex146 Ea146 Dn146 => ?_)
      have ne_va_ao : va ≠ ao := fun q => absurd Ar139'.lt (by rw [q, ga146]; exact Nat.lt_irrefl _)
      have nw_ao : n0 ≤ ao := by rw [ga146]; exact Z_139
      have Ar139'_146 := Ar139'.ext Ex146
      have Z_146 : n0 ≤ hp146.size := Nat.le_trans Z_139 Ex146.1
      have Fn146_values : Fld Z hp146 ao "com/example/binwright/binwright/binning/DistinctValues" "values" "[D" (.null) := Dn146 (Or.inr (hw _ (List.mem_of_getElem? (i := 18) rfl))) (ty := (.array .double)) (by decide)
      have Fn146_before : Fld Z hp146 ao "com/example/binwright/binwright/binning/DistinctValues" "before" "[I" (.null) := Dn146 (Or.inr (hw _ (List.mem_of_getElem? (i := 20) rfl))) (ty := (.array .int)) (by decide)
      show own_Go p.tables e below _ (T146.setTop (mkF m 257 (Array.mk [.val (.int a1), .val (.int d1), .val (.int d2), .val (.int d3), .val (.int sel), .val (.int (4 : Int32)), .val (.int (0 : Int32)), .val (.int ng), .val (.long l0), .second, .val (.long l1), .second, .val (.long l2), .second, .val (.long l3), .second, .val (.double v0), .second, .val (.double v1), .second, .val (.double v2), .second, .val (.double v3), .second, .val (.ref va), .val (.double v0), .second, .val (.double qq), .second, .unset]) [.ref ao]))
      refine own_blk dec0 seq0 hby hx hZ hown hK hF 3 [] [] X146 eh146 ?_
      show own_Aft X146 hp146 _ 261 [.val (.int a1), .val (.int d1), .val (.int d2), .val (.int d3), .val (.int sel), .val (.int (4 : Int32)), .val (.int (0 : Int32)), .val (.int ng), .val (.long l0), .second, .val (.long l1), .second, .val (.long l2), .second, .val (.long l3), .second, .val (.double v0), .second, .val (.double v1), .second, .val (.double v2), .second, .val (.double v3), .second, .val (.ref va), .val (.double v0), .second, .val (.double qq), .second, .unset] [.int (5 : Int32), .ref va, .ref ao, .ref ao]
      refine fun T147 X147 eh147 => ?_
      refine own_newP X147 hx hZ (hw _ (List.mem_of_getElem? (i := 5) rfl)) eh147 5 rfl (cap := 5) (by decide) (by decide) (hb hby at_261) (by decide) (by decide) (fun T148 hp148 ib ga148 X148 eh148 Ex148 Ar148 => ?_)
      have ne_va_ib : va ≠ ib := fun q => absurd Ar139'_146.lt (by rw [q, ga148]; exact Nat.lt_irrefl _)
      have ne_ao_ib : ao ≠ ib := fun q => absurd Ea146.lt (by rw [q, ga148]; exact Nat.lt_irrefl _)
      have nw_ib : n0 ≤ ib := by rw [ga148]; exact Z_146
      have Ar139'_148 := Ar139'_146.ext Ex148
      have Ea146_148 := Exa.ext Ex148 Ea146
      have Fn146_values_148 := Fld.ext Ex148 Fn146_values
      have Fn146_before_148 := Fld.ext Ex148 Fn146_before
      have Z_148 : n0 ≤ hp148.size := Nat.le_trans Z_146 Ex148.1
      show own_Go p.tables e below _ (T148.setTop (mkF m 263 (Array.mk [.val (.int a1), .val (.int d1), .val (.int d2), .val (.int d3), .val (.int sel), .val (.int (4 : Int32)), .val (.int (0 : Int32)), .val (.int ng), .val (.long l0), .second, .val (.long l1), .second, .val (.long l2), .second, .val (.long l3), .second, .val (.double v0), .second, .val (.double v1), .second, .val (.double v2), .second, .val (.double v3), .second, .val (.ref va), .val (.double v0), .second, .val (.double qq), .second, .unset]) [.ref ib, .ref va, .ref ao, .ref ao]))
      refine own_callI X148 hx hZ hown rfl (hw _ (List.mem_of_getElem? (i := 6) rfl)) (hw _ (List.mem_of_getElem? (i := 7) rfl)) (hw _ (List.mem_of_getElem? (i := 4) rfl)) (hw _ (List.mem_of_getElem? (i := 8) rfl)) (by decide) eh148 ao [.ref va, .ref ib] pd1 rfl (rm := ({ frames := 2, cells := 0, slots := 0, locals := 24 } : Room)) (rm1 l Z a0 hw [] ao va ib hp148 n0 Z_148 Ea146_148 nw_ao Fn146_values_148 Fn146_before_148) (by rw [hml]; rfl) 1 rfl (Nat.le_of_eq rfl) (hb hby at_263) (by decide) (by decide) (by decide) (by decide) (fun T149 rv149 Lc149 X149 qc149 => ?_)
      obtain ⟨rfl, M1, KK, EE, G1, G2⟩ := qc149
      have AA1 := Ar139'_148.keep KK (fun q => ne_va_ao (List.mem_singleton.mp q))
      have Z_c : n0 ≤ T149.heap.size := Nat.le_trans Z_148 KK.1
      show own_Go p.tables e below _ (T149.setTop (mkF m 266 (Array.mk [.val (.int a1), .val (.int d1), .val (.int d2), .val (.int d3), .val (.int sel), .val (.int (4 : Int32)), .val (.int (0 : Int32)), .val (.int ng), .val (.long l0), .second, .val (.long l1), .second, .val (.long l2), .second, .val (.long l3), .second, .val (.double v0), .second, .val (.double v1), .second, .val (.double v2), .second, .val (.double v3), .second, .val (.ref va), .val (.double v0), .second, .val (.double qq), .second, .unset]) [.ref ao]))
      refine own_blk dec0 seq0 hby hx hZ hown hK hF 3 [] [] X149 rfl ?_
      show own_Aft X149 T149.heap _ 272 [.val (.int a1), .val (.int d1), .val (.int d2), .val (.int d3), .val (.int sel), .val (.int (4 : Int32)), .val (.int (0 : Int32)), .val (.int ng), .val (.long l0), .second, .val (.long l1), .second, .val (.long l2), .second, .val (.long l3), .second, .val (.double v0), .second, .val (.double v1), .second, .val (.double v2), .second, .val (.double v3), .second, .val (.ref va), .val (.double v0), .second, .val (.double qq), .second, .val (.ref ao)] [.double qq, .ref ao]
      refine fun T150 X150 eh150 => ?_
      refine own_callV X150 hx hZ hown (hw _ (List.mem_of_getElem? (i := 21) rfl)) (hw _ (List.mem_of_getElem? (i := 22) rfl)) (hw _ (List.mem_of_getElem? (i := 24) rfl)) (hw _ (List.mem_of_getElem? (i := 23) rfl)) (hw _ (List.mem_of_getElem? (i := 4) rfl)) (hw _ (List.mem_of_getElem? (i := 25) rfl)) (by decide) eh150 EE [.double qq] pd4 rfl (rm := ({ frames := 0, cells := 0, slots := 0, locals := 0 } : Room)) (rm4_4_0 l Z a0 hw [] ao va qq v0 _ v1 _ v2 _ v3 _ T149.heap n0 Z_c G1 AA1 Dq D0 D1 D2 D3 u0 u1 u2) (by rw [hml]; rfl) 0 rfl (Nat.le_of_eq rfl) (hb hby at_272) (by decide) (by decide) (by decide) (by decide) (fun T151 rv151 Lc151 X151 qc151 => ?_)
      obtain ⟨rfl, M2, hh⟩ := qc151
      show own_Go p.tables e below _ (T151.setTop (mkF m 275 (Array.mk [.val (.int a1), .val (.int d1), .val (.int d2), .val (.int d3), .val (.int sel), .val (.int (4 : Int32)), .val (.int (0 : Int32)), .val (.int ng), .val (.long l0), .second, .val (.long l1), .second, .val (.long l2), .second, .val (.long l3), .second, .val (.double v0), .second, .val (.double v1), .second, .val (.double v2), .second, .val (.double v3), .second, .val (.ref va), .val (.double v0), .second, .val (.double qq), .second, .val (.ref ao)]) [.int (0 : Int32)]))
      refine own_blk dec0 seq0 hby hx hZ hown hK hF 4 [false] [] X151 hh ?_
      show (¬ (((0 : Int32)).toInt ≠ ((0 : Int32)).toInt)) ∧ own_Aft X151 T149.heap _ 285 [.val (.int a1), .val (.int d1), .val (.int d2), .val (.int d3), .val (.int sel), .val (.int (4 : Int32)), .val (.int (0 : Int32)), .val (.int ng), .val (.long l0), .second, .val (.long l1), .second, .val (.long l2), .second, .val (.long l3), .second, .val (.double v0), .second, .val (.double v1), .second, .val (.double v2), .second, .val (.double v3), .second, .val (.ref va), .val (.double v0), .second, .val (.double qq), .second, .val (.ref ao)] [.int (1 : Int32)]
      refine ⟨by decide, fun T152 X152 eh152 => ?_⟩
      exact own_ret X152 hx hlk eh152 hret (by first | rfl | decide) (Or.inl ⟨rfl, by simp, _, rfl⟩) (hb hby at_285) (by decide) (by decide) (⟨rfl, Fr.app (Fr.app Nf139 M1) M2⟩)
    · skip
      obtain rfl : kk = (1 : Int32) := Int32.toInt_inj.mp hk
      show own_Go p.tables e below _ (T10.setTop (mkF m 94 (Array.mk [.val (.int a1), .val (.int d1), .val (.int d2), .val (.int d3), .val (.int sel), .val (.int (4 : Int32)), .val (.int (1 : Int32)), .val (.int ng), .val (.long l0), .second, .val (.long l1), .second, .val (.long l2), .second, .val (.long l3), .second, .val (.double v0), .second, .val (.double v1), .second, .val (.double v2), .second, .val (.double v3), .second, .unset, .unset, .unset, .unset, .unset, .unset]) []))
      refine own_blk dec0 seq0 hby hx hZ hown hK hF 10 [true, true, true] [] X10 eh10 ?_
      show (((4 : Int32)).toInt ≠ ((1 : Int32)).toInt) ∧ (((4 : Int32)).toInt ≠ ((2 : Int32)).toInt) ∧ (((4 : Int32)).toInt ≠ ((3 : Int32)).toInt) ∧ own_Aft X10 h0 _ 167 [.val (.int a1), .val (.int d1), .val (.int d2), .val (.int d3), .val (.int sel), .val (.int (4 : Int32)), .val (.int (1 : Int32)), .val (.int ng), .val (.long l0), .second, .val (.long l1), .second, .val (.long l2), .second, .val (.long l3), .second, .val (.double v0), .second, .val (.double v1), .second, .val (.double v2), .second, .val (.double v3), .second, .unset, .unset, .unset, .unset, .unset, .unset] [.int (4 : Int32)]
      refine ⟨by decide, by decide, by decide, fun T153 X153 eh153 => ?_⟩
      refine own_newP X153 hx hZ (hw _ (List.mem_of_getElem? (i := 1) rfl)) eh153 4 rfl (cap := 4) (by decide) (by decide) (hb hby at_167) (by decide) (by decide) (fun T154 hp154 va ga154 X154 eh154 Ex154 Ar154 => ?_)
      have nw_va : n0 ≤ va := by rw [ga154]; exact Z0
      have Z_154 : n0 ≤ hp154.size := Nat.le_trans Z0 Ex154.1
      have Ar154' : own_A Z hp154 va .double [.double 0, .double 0, .double 0, .double 0] := Ar154
      show own_Go p.tables e below _ (T154.setTop (mkF m 169 (Array.mk [.val (.int a1), .val (.int d1), .val (.int d2), .val (.int d3), .val (.int sel), .val (.int (4 : Int32)), .val (.int (1 : Int32)), .val (.int ng), .val (.long l0), .second, .val (.long l1), .second, .val (.long l2), .second, .val (.long l3), .second, .val (.double v0), .second, .val (.double v1), .second, .val (.double v2), .second, .val (.double v3), .second, .unset, .unset, .unset, .unset, .unset, .unset]) [.ref va]))
      refine own_blk dec0 seq0 hby hx hZ hown hK hF 3 [] [] X154 eh154 ?_
      show own_Aft X154 hp154 _ 173 [.val (.int a1), .val (.int d1), .val (.int d2), .val (.int d3), .val (.int sel), .val (.int (4 : Int32)), .val (.int (1 : Int32)), .val (.int ng), .val (.long l0), .second, .val (.long l1), .second, .val (.long l2), .second, .val (.long l3), .second, .val (.double v0), .second, .val (.double v1), .second, .val (.double v2), .second, .val (.double v3), .second, .unset, .unset, .unset, .unset, .unset, .unset] [.double v0, .int (0 : Int32), .ref va, .ref va]
      refine fun T155 X155 eh155 => ?_
      refine own_sD X155 hx hZ eh155 Ar154' 0 rfl (by show 0 < 4; decide) (hb hby at_173) (fun T156 hp156 X156 eh156 Wr156 Ar156 => ?_)
      have Ar156' : own_A Z hp156 va .double [.double v0, .double 0, .double 0, .double 0] := Ar156
      have Nf156 := Fr.snoc X156 N0 nw_va
      have Z_156 : n0 ≤ hp156.size := by rw [Wr.size Wr156]; exact Z_154
      refine own_blk dec0 seq0 hby hx hZ hown hK hF 3 [] [] X156 eh156 ?_
      show own_Aft X156 hp156 _ 178 [.val (.int a1), .val (.int d1), .val (.int d2), .val (.int d3), .val (.int sel), .val (.int (4 : Int32)), .val (.int (1 : Int32)), .val (.int ng), .val (.long l0), .second, .val (.long l1), .second, .val (.long l2), .second, .val (.long l3), .second, .val (.double v0), .second, .val (.double v1), .second, .val (.double v2), .second, .val (.double v3), .second, .unset, .unset, .unset, .unset, .unset, .unset] [.double v1, .int (1 : Int32), .ref va, .ref va]
      refine fun T157 X157 eh157 => ?_
      refine own_sD X157 hx hZ eh157 Ar156' 1 rfl (by show 1 < 4; decide) (hb hby at_178) (fun T158 hp158 X158 eh158 Wr158 Ar158 => ?_)
      have Ar158' : own_A Z hp158 va .double [.double v0, .double v1, .double 0, .double 0] := Ar158
      have Nf158 := Fr.snoc X158 Nf156 nw_va
      have Z_158 : n0 ≤ hp158.size := by rw [Wr.size Wr158]; exact Z_156
      refine own_blk dec0 seq0 hby hx hZ hown hK hF 3 [] [] X158 eh158 ?_
      show own_Aft X158 hp158 _ 183 [.val (.int a1), .val (.int d1), .val (.int d2), .val (.int d3), .val (.int sel), .val (.int (4 : Int32)), .val (.int (1 : Int32)), .val (.int ng), .val (.long l0), .second, .val (.long l1), .second, .val (.long l2), .second, .val (.long l3), .second, .val (.double v0), .second, .val (.double v1), .second, .val (.double v2), .second, .val (.double v3), .second, .unset, .unset, .unset, .unset, .unset, .unset] [.double v2, .int (2 : Int32), .ref va, .ref va]
      refine fun T159 X159 eh159 => ?_
      refine own_sD X159 hx hZ eh159 Ar158' 2 rfl (by show 2 < 4; decide) (hb hby at_183) (fun T160 hp160 X160 eh160 Wr160 Ar160 => ?_)
      have Ar160' : own_A Z hp160 va .double [.double v0, .double v1, .double v2, .double 0] := Ar160
      have Nf160 := Fr.snoc X160 Nf158 nw_va
      have Z_160 : n0 ≤ hp160.size := by rw [Wr.size Wr160]; exact Z_158
      refine own_blk dec0 seq0 hby hx hZ hown hK hF 3 [] [] X160 eh160 ?_
      show own_Aft X160 hp160 _ 188 [.val (.int a1), .val (.int d1), .val (.int d2), .val (.int d3), .val (.int sel), .val (.int (4 : Int32)), .val (.int (1 : Int32)), .val (.int ng), .val (.long l0), .second, .val (.long l1), .second, .val (.long l2), .second, .val (.long l3), .second, .val (.double v0), .second, .val (.double v1), .second, .val (.double v2), .second, .val (.double v3), .second, .unset, .unset, .unset, .unset, .unset, .unset] [.double v3, .int (3 : Int32), .ref va, .ref va]
      refine fun T161 X161 eh161 => ?_
      refine own_sD X161 hx hZ eh161 Ar160' 3 rfl (by show 3 < 4; decide) (hb hby at_188) (fun T162 hp162 X162 eh162 Wr162 Ar162 => ?_)
      have Ar162' : own_A Z hp162 va .double [.double v0, .double v1, .double v2, .double v3] := Ar162
      have Nf162 := Fr.snoc X162 Nf160 nw_va
      have Z_162 : n0 ≤ hp162.size := by rw [Wr.size Wr162]; exact Z_160
      refine own_blk dec0 seq0 hby hx hZ hown hK hF 11 [true, false] [] X162 eh162 ?_
      show (((1 : Int32)).toInt ≠ 0) ∧ (¬ (((1 : Int32)).toInt ≠ ((1 : Int32)).toInt)) ∧ own_Aft X162 hp162 _ 237 [.val (.int a1), .val (.int d1), .val (.int d2), .val (.int d3), .val (.int sel), .val (.int (4 : Int32)), .val (.int (1 : Int32)), .val (.int ng), .val (.long l0), .second, .val (.long l1), .second, .val (.long l2), .second, .val (.long l3), .second, .val (.double v0), .second, .val (.double v1), .second, .val (.double v2), .second, .val (.double v3), .second, .val (.ref va), .val (.double v1), .second, .val (.double v1), .second, .unset] []
      refine ⟨by decide, by decide, fun T163 X163 eh163 => ?_⟩
      suffices tl164 : ∀ (qq : UInt64) (_ : own_D 0 l1.toInt qq), own_Aft X163 hp162 (own_Fin s 16 128 (fun v h L => v = some (.int 1) ∧ Fr n0 L)) 254 [.val (.int a1), .val (.int d1), .val (.int d2), .val (.int d3), .val (.int sel), .val (.int (4 : Int32)), .val (.int (1 : Int32)), .val (.int ng), .val (.long l0), .second, .val (.long l1), .second, .val (.long l2), .second, .val (.long l3), .second, .val (.double v0), .second, .val (.double v1), .second, .val (.double v2), .second, .val (.double v3), .second, .val (.ref va), .val (.double v1), .second, .val (.double qq), .second, .unset] [] by
        rcases hng with hz | hz
        · skip
          obtain rfl : ng = (0 : Int32) := hz
          show own_Go p.tables e below _ (T163.setTop (mkF m 237 (Array.mk [.val (.int a1), .val (.int d1), .val (.int d2), .val (.int d3), .val (.int sel), .val (.int (4 : Int32)), .val (.int (1 : Int32)), .val (.int (0 : Int32)), .val (.long l0), .second, .val (.long l1), .second, .val (.long l2), .second, .val (.long l3), .second, .val (.double v0), .second, .val (.double v1), .second, .val (.double v2), .second, .val (.double v3), .second, .val (.ref va), .val (.double v1), .second, .val (.double v1), .second, .unset]) []))
          refine own_blk dec0 seq0 hby hx hZ hown hK hF 2 [true] [] X163 eh163 ?_
          show (((0 : Int32)).toInt = 0) ∧ own_Aft X163 hp162 _ 254 [.val (.int a1), .val (.int d1), .val (.int d2), .val (.int d3), .val (.int sel), .val (.int (4 : Int32)), .val (.int (1 : Int32)), .val (.int (0 : Int32)), .val (.long l0), .second, .val (.long l1), .second, .val (.long l2), .second, .val (.long l3), .second, .val (.double v0), .second, .val (.double v1), .second, .val (.double v2), .second, .val (.double v3), .second, .val (.ref va), .val (.double v1), .second, .val (.double v1), .second, .unset] []
          refine ⟨by decide, fun T165 X165 eh165 => ?_⟩
          exact tl164 _ D1 T165 X165 eh165
        · skip
          obtain rfl : ng = (1 : Int32) := hz
          show own_Go p.tables e below _ (T163.setTop (mkF m 237 (Array.mk [.val (.int a1), .val (.int d1), .val (.int d2), .val (.int d3), .val (.int sel), .val (.int (4 : Int32)), .val (.int (1 : Int32)), .val (.int (1 : Int32)), .val (.long l0), .second, .val (.long l1), .second, .val (.long l2), .second, .val (.long l3), .second, .val (.double v0), .second, .val (.double v1), .second, .val (.double v2), .second, .val (.double v3), .second, .val (.ref va), .val (.double v1), .second, .val (.double v1), .second, .unset]) []))
          refine own_blk dec0 seq0 hby hx hZ hown hK hF 5 [false] [] X163 eh163 ?_
          show (¬ (((1 : Int32)).toInt = 0)) ∧ own_Aft X163 hp162 _ 246 [.val (.int a1), .val (.int d1), .val (.int d2), .val (.int d3), .val (.int sel), .val (.int (4 : Int32)), .val (.int (1 : Int32)), .val (.int (1 : Int32)), .val (.long l0), .second, .val (.long l1), .second, .val (.long l2), .second, .val (.long l3), .second, .val (.double v0), .second, .val (.double v1), .second, .val (.double v2), .second, .val (.double v3), .second, .val (.ref va), .val (.double v1), .second, .val (.double v1), .second, .unset] [.int (cmpValue (FP.dcmp v1 0) .l)]
          refine ⟨by decide, fun T166 X166 eh166 => ?_⟩
          by_cases ht : l1.toInt = 0
          · skip
            refine own_blk dec0 seq0 hby hx hZ hown hK hF 4 [false] [] X166 eh166 ?_
            show (¬ ((cmpValue (FP.dcmp v1 0) .l).toInt ≠ 0)) ∧ own_Aft X166 hp162 _ 254 [.val (.int a1), .val (.int d1), .val (.int d2), .val (.int d3), .val (.int sel), .val (.int (4 : Int32)), .val (.int (1 : Int32)), .val (.int (1 : Int32)), .val (.long l0), .second, .val (.long l1), .second, .val (.long l2), .second, .val (.long l3), .second, .val (.double v0), .second, .val (.double v1), .second, .val (.double v2), .second, .val (.double v3), .second, .val (.ref va), .val (.double v1), .second, .val (.double (FP.dneg v1)), .second, .unset] []
            refine ⟨by rw [own_cv_eq (D1.eq own_z0 ht)]; omega, fun T167 X167 eh167 => ?_⟩
            exact tl164 _ (by have := D1.neg; rwa [ht, Int.neg_zero, ← ht] at this) T167 X167 eh167
          · skip
            refine own_blk dec0 seq0 hby hx hZ hown hK hF 1 [true] [] X166 eh166 ?_
            show ((cmpValue (FP.dcmp v1 0) .l).toInt ≠ 0) ∧ own_Aft X166 hp162 _ 254 [.val (.int a1), .val (.int d1), .val (.int d2), .val (.int d3), .val (.int sel), .val (.int (4 : Int32)), .val (.int (1 : Int32)), .val (.int (1 : Int32)), .val (.long l0), .second, .val (.long l1), .second, .val (.long l2), .second, .val (.long l3), .second, .val (.double v0), .second, .val (.double v1), .second, .val (.double v2), .second, .val (.double v3), .second, .val (.ref va), .val (.double v1), .second, .val (.double v1), .second, .unset] []
            refine ⟨by rcases Int.lt_or_gt_of_ne ht with q | q <;> first | (rw [own_cv_lt (D1.lt own_z0 q)]; omega) | (rw [own_cv_gt (D1.gt own_z0 q)]; omega), fun T168 X168 eh168 => ?_⟩
            exact tl164 _ D1 T168 X168 eh168
      intro qq Dq T164 X164 eh164
      refine own_new X164 hx hZ hown (hw _ (List.mem_of_getElem? (i := 2) rfl)) (hw _ (List.mem_of_getElem? (i := 3) rfl)) (hw _ (List.mem_of_getElem? (i := 4) rfl)) eh164 (hb hby at_254) (by decide) (by decide) (fun T169 hp169 ao ga169 X169 eh169 Ex169 Ea169 Dn169 => ?_)
      have ne_va_ao : va ≠ ao := fun q => absurd Ar162'.lt (by rw [q, ga169]; exact Nat.lt_irrefl _)
      have nw_ao : n0 ≤ ao := by rw [ga169]; exact Z_162
      have Ar162'_169 := Ar162'.ext Ex169
      have Z_169 : n0 ≤ hp169.size := Nat.le_trans Z_162 Ex169.1
      have Fn169_values : Fld Z hp169 ao "com/example/binwright/binwright/binning/DistinctValues" "values" "[D" (.null) := Dn169 (Or.inr (hw _ (List.mem_of_getElem? (i := 18) rfl))) (ty := (.array .double)) (by decide)
      have Fn169_before : Fld Z hp169 ao "com/example/binwright/binwright/binning/DistinctValues" "before" "[I" (.null) := Dn169 (Or.inr (hw _ (List.mem_of_getElem? (i := 20) rfl))) (ty := (.array .int)) (by decide)
      show own_Go p.tables e below _ (T169.setTop (mkF m 257 (Array.mk [.val (.int a1), .val (.int d1), .val (.int d2), .val (.int d3), .val (.int sel), .val (.int (4 : Int32)), .val (.int (1 : Int32)), .val (.int ng), .val (.long l0), .second, .val (.long l1), .second, .val (.long l2), .second, .val (.long l3), .second, .val (.double v0), .second, .val (.double v1), .second, .val (.double v2), .second, .val (.double v3), .second, .val (.ref va), .val (.double v1), .second, .val (.double qq), .second, .unset]) [.ref ao]))
      refine own_blk dec0 seq0 hby hx hZ hown hK hF 3 [] [] X169 eh169 ?_
      show own_Aft X169 hp169 _ 261 [.val (.int a1), .val (.int d1), .val (.int d2), .val (.int d3), .val (.int sel), .val (.int (4 : Int32)), .val (.int (1 : Int32)), .val (.int ng), .val (.long l0), .second, .val (.long l1), .second, .val (.long l2), .second, .val (.long l3), .second, .val (.double v0), .second, .val (.double v1), .second, .val (.double v2), .second, .val (.double v3), .second, .val (.ref va), .val (.double v1), .second, .val (.double qq), .second, .unset] [.int (5 : Int32), .ref va, .ref ao, .ref ao]
      refine fun T170 X170 eh170 => ?_
      refine own_newP X170 hx hZ (hw _ (List.mem_of_getElem? (i := 5) rfl)) eh170 5 rfl (cap := 5) (by decide) (by decide) (hb hby at_261) (by decide) (by decide) (fun T171 hp171 ib ga171 X171 eh171 Ex171 Ar171 => ?_)
      have ne_va_ib : va ≠ ib := fun q => absurd Ar162'_169.lt (by rw [q, ga171]; exact Nat.lt_irrefl _)
      have ne_ao_ib : ao ≠ ib := fun q => absurd Ea169.lt (by rw [q, ga171]; exact Nat.lt_irrefl _)
      have nw_ib : n0 ≤ ib := by rw [ga171]; exact Z_169
      have Ar162'_171 := Ar162'_169.ext Ex171
      have Ea169_171 := Exa.ext Ex171 Ea169
      have Fn169_values_171 := Fld.ext Ex171 Fn169_values
      have Fn169_before_171 := Fld.ext Ex171 Fn169_before
      have Z_171 : n0 ≤ hp171.size := Nat.le_trans Z_169 Ex171.1
      show own_Go p.tables e below _ (T171.setTop (mkF m 263 (Array.mk [.val (.int a1), .val (.int d1), .val (.int d2), .val (.int d3), .val (.int sel), .val (.int (4 : Int32)), .val (.int (1 : Int32)), .val (.int ng), .val (.long l0), .second, .val (.long l1), .second, .val (.long l2), .second, .val (.long l3), .second, .val (.double v0), .second, .val (.double v1), .second, .val (.double v2), .second, .val (.double v3), .second, .val (.ref va), .val (.double v1), .second, .val (.double qq), .second, .unset]) [.ref ib, .ref va, .ref ao, .ref ao]))
      refine own_callI X171 hx hZ hown rfl (hw _ (List.mem_of_getElem? (i := 6) rfl)) (hw _ (List.mem_of_getElem? (i := 7) rfl)) (hw _ (List.mem_of_getElem? (i := 4) rfl)) (hw _ (List.mem_of_getElem? (i := 8) rfl)) (by decide) eh171 ao [.ref va, .ref ib] pd1 rfl (rm := ({ frames := 2, cells := 0, slots := 0, locals := 24 } : Room)) (rm1 l Z a0 hw [] ao va ib hp171 n0 Z_171 Ea169_171 nw_ao Fn169_values_171 Fn169_before_171) (by rw [hml]; rfl) 1 rfl (Nat.le_of_eq rfl) (hb hby at_263) (by decide) (by decide) (by decide) (by decide) (fun T172 rv172 Lc172 X172 qc172 => ?_)
      obtain ⟨rfl, M1, KK, EE, G1, G2⟩ := qc172
      have AA1 := Ar162'_171.keep KK (fun q => ne_va_ao (List.mem_singleton.mp q))
      have Z_c : n0 ≤ T172.heap.size := Nat.le_trans Z_171 KK.1
      show own_Go p.tables e below _ (T172.setTop (mkF m 266 (Array.mk [.val (.int a1), .val (.int d1), .val (.int d2), .val (.int d3), .val (.int sel), .val (.int (4 : Int32)), .val (.int (1 : Int32)), .val (.int ng), .val (.long l0), .second, .val (.long l1), .second, .val (.long l2), .second, .val (.long l3), .second, .val (.double v0), .second, .val (.double v1), .second, .val (.double v2), .second, .val (.double v3), .second, .val (.ref va), .val (.double v1), .second, .val (.double qq), .second, .unset]) [.ref ao]))
      refine own_blk dec0 seq0 hby hx hZ hown hK hF 3 [] [] X172 rfl ?_
      show own_Aft X172 T172.heap _ 272 [.val (.int a1), .val (.int d1), .val (.int d2), .val (.int d3), .val (.int sel), .val (.int (4 : Int32)), .val (.int (1 : Int32)), .val (.int ng), .val (.long l0), .second, .val (.long l1), .second, .val (.long l2), .second, .val (.long l3), .second, .val (.double v0), .second, .val (.double v1), .second, .val (.double v2), .second, .val (.double v3), .second, .val (.ref va), .val (.double v1), .second, .val (.double qq), .second, .val (.ref ao)] [.double qq, .ref ao]
      refine fun T173 X173 eh173 => ?_
      refine own_callV X173 hx hZ hown (hw _ (List.mem_of_getElem? (i := 21) rfl)) (hw _ (List.mem_of_getElem? (i := 22) rfl)) (hw _ (List.mem_of_getElem? (i := 24) rfl)) (hw _ (List.mem_of_getElem? (i := 23) rfl)) (hw _ (List.mem_of_getElem? (i := 4) rfl)) (hw _ (List.mem_of_getElem? (i := 25) rfl)) (by decide) eh173 EE [.double qq] pd4 rfl (rm := ({ frames := 0, cells := 0, slots := 0, locals := 0 } : Room)) (rm4_4_1 l Z a0 hw [] ao va qq v0 _ v1 _ v2 _ v3 _ T172.heap n0 Z_c G1 AA1 Dq D0 D1 D2 D3 u0 u1 u2) (by rw [hml]; rfl) 0 rfl (Nat.le_of_eq rfl) (hb hby at_272) (by decide) (by decide) (by decide) (by decide) (fun T174 rv174 Lc174 X174 qc174 => ?_)
      obtain ⟨rfl, M2, hh⟩ := qc174
      show own_Go p.tables e below _ (T174.setTop (mkF m 275 (Array.mk [.val (.int a1), .val (.int d1), .val (.int d2), .val (.int d3), .val (.int sel), .val (.int (4 : Int32)), .val (.int (1 : Int32)), .val (.int ng), .val (.long l0), .second, .val (.long l1), .second, .val (.long l2), .second, .val (.long l3), .second, .val (.double v0), .second, .val (.double v1), .second, .val (.double v2), .second, .val (.double v3), .second, .val (.ref va), .val (.double v1), .second, .val (.double qq), .second, .val (.ref ao)]) [.int (1 : Int32)]))
      refine own_blk dec0 seq0 hby hx hZ hown hK hF 4 [false] [] X174 hh ?_
      show (¬ (((1 : Int32)).toInt ≠ ((1 : Int32)).toInt)) ∧ own_Aft X174 T172.heap _ 285 [.val (.int a1), .val (.int d1), .val (.int d2), .val (.int d3), .val (.int sel), .val (.int (4 : Int32)), .val (.int (1 : Int32)), .val (.int ng), .val (.long l0), .second, .val (.long l1), .second, .val (.long l2), .second, .val (.long l3), .second, .val (.double v0), .second, .val (.double v1), .second, .val (.double v2), .second, .val (.double v3), .second, .val (.ref va), .val (.double v1), .second, .val (.double qq), .second, .val (.ref ao)] [.int (1 : Int32)]
      refine ⟨by decide, fun T175 X175 eh175 => ?_⟩
      exact own_ret X175 hx hlk eh175 hret (by first | rfl | decide) (Or.inl ⟨rfl, by simp, _, rfl⟩) (hb hby at_285) (by decide) (by decide) (⟨rfl, Fr.app (Fr.app Nf162 M1) M2⟩)
    · skip
      obtain rfl : kk = (2 : Int32) := Int32.toInt_inj.mp hk
      show own_Go p.tables e below _ (T10.setTop (mkF m 94 (Array.mk [.val (.int a1), .val (.int d1), .val (.int d2), .val (.int d3), .val (.int sel), .val (.int (4 : Int32)), .val (.int (2 : Int32)), .val (.int ng), .val (.long l0), .second, .val (.long l1), .second, .val (.long l2), .second, .val (.long l3), .second, .val (.double v0), .second, .val (.double v1), .second, .val (.double v2), .second, .val (.double v3), .second, .unset, .unset, .unset, .unset, .unset, .unset]) []))
      refine own_blk dec0 seq0 hby hx hZ hown hK hF 10 [true, true, true] [] X10 eh10 ?_
      show (((4 : Int32)).toInt ≠ ((1 : Int32)).toInt) ∧ (((4 : Int32)).toInt ≠ ((2 : Int32)).toInt) ∧ (((4 : Int32)).toInt ≠ ((3 : Int32)).toInt) ∧ own_Aft X10 h0 _ 167 [.val (.int a1), .val (.int d1), .val (.int d2), .val (.int d3), .val (.int sel), .val (.int (4 : Int32)), .val (.int (2 : Int32)), .val (.int ng), .val (.long l0), .second, .val (.long l1), .second, .val (.long l2), .second, .val (.long l3), .second, .val (.double v0), .second, .val (.double v1), .second, .val (.double v2), .second, .val (.double v3), .second, .unset, .unset, .unset, .unset, .unset, .unset] [.int (4 : Int32)]
      refine ⟨by decide, by decide, by decide, fun T176 X176 eh176 => ?_⟩
      refine own_newP X176 hx hZ (hw _ (List.mem_of_getElem? (i := 1) rfl)) eh176 4 rfl (cap := 4) (by decide) (by decide) (hb hby at_167) (by decide) (by decide) (fun T177 hp177 va ga177 X177 eh177 Ex177 Ar177 => ?_)
      have nw_va : n0 ≤ va := by rw [ga177]; exact Z0
      have Z_177 : n0 ≤ hp177.size := Nat.le_trans Z0 Ex177.1
      have Ar177' : own_A Z hp177 va .double [.double 0, .double 0, .double 0, .double 0] := Ar177
      show own_Go p.tables e below _ (T177.setTop (mkF m 169 (Array.mk [.val (.int a1), .val (.int d1), .val (.int d2), .val (.int d3), .val (.int sel), .val (.int (4 : Int32)), .val (.int (2 : Int32)), .val (.int ng), .val (.long l0), .second, .val (.long l1), .second, .val (.long l2), .second, .val (.long l3), .second, .val (.double v0), .second, .val (.double v1), .second, .val (.double v2), .second, .val (.double v3), .second, .unset, .unset, .unset, .unset, .unset, .unset]) [.ref va]))
      refine own_blk dec0 seq0 hby hx hZ hown hK hF 3 [] [] X177 eh177 ?_
      show own_Aft X177 hp177 _ 173 [.val (.int a1), .val (.int d1), .val (.int d2), .val (.int d3), .val (.int sel), .val (.int (4 : Int32)), .val (.int (2 : Int32)), .val (.int ng), .val (.long l0), .second, .val (.long l1), .second, .val (.long l2), .second, .val (.long l3), .second, .val (.double v0), .second, .val (.double v1), .second, .val (.double v2), .second, .val (.double v3), .second, .unset, .unset, .unset, .unset, .unset, .unset] [.double v0, .int (0 : Int32), .ref va, .ref va]
      refine fun T178 X178 eh178 => ?_
      refine own_sD X178 hx hZ eh178 Ar177' 0 rfl (by show 0 < 4; decide) (hb hby at_173) (fun T179 hp179 X179 eh179 Wr179 Ar179 => ?_)
      have Ar179' : own_A Z hp179 va .double [.double v0, .double 0, .double 0, .double 0] := Ar179
      have Nf179 := Fr.snoc X179 N0 nw_va
      have Z_179 : n0 ≤ hp179.size := by rw [Wr.size Wr179]; exact Z_177
      refine own_blk dec0 seq0 hby hx hZ hown hK hF 3 [] [] X179 eh179 ?_
      show own_Aft X179 hp179 _ 178 [.val (.int a1), .val (.int d1), .val (.int d2), .val (.int d3), .val (.int sel), .val (.int (4 : Int32)), .val (.int (2 : Int32)), .val (.int ng), .val (.long l0), .second, .val (.long l1), .second, .val (.long l2), .second, .val (.long l3), .second, .val (.double v0), .second, .val (.double v1), .second, .val (.double v2), .second, .val (.double v3), .second, .unset, .unset, .unset, .unset, .unset, .unset] [.double v1, .int (1 : Int32), .ref va, .ref va]
      refine fun T180 X180 eh180 => ?_
      refine own_sD X180 hx hZ eh180 Ar179' 1 rfl (by show 1 < 4; decide) (hb hby at_178) (fun T181 hp181 X181 eh181 Wr181 Ar181 => ?_)
      have Ar181' : own_A Z hp181 va .double [.double v0, .double v1, .double 0, .double 0] := Ar181
      have Nf181 := Fr.snoc X181 Nf179 nw_va
      have Z_181 : n0 ≤ hp181.size := by rw [Wr.size Wr181]; exact Z_179
      refine own_blk dec0 seq0 hby hx hZ hown hK hF 3 [] [] X181 eh181 ?_
      show own_Aft X181 hp181 _ 183 [.val (.int a1), .val (.int d1), .val (.int d2), .val (.int d3), .val (.int sel), .val (.int (4 : Int32)), .val (.int (2 : Int32)), .val (.int ng), .val (.long l0), .second, .val (.long l1), .second, .val (.long l2), .second, .val (.long l3), .second, .val (.double v0), .second, .val (.double v1), .second, .val (.double v2), .second, .val (.double v3), .second, .unset, .unset, .unset, .unset, .unset, .unset] [.double v2, .int (2 : Int32), .ref va, .ref va]
      refine fun T182 X182 eh182 => ?_
      refine own_sD X182 hx hZ eh182 Ar181' 2 rfl (by show 2 < 4; decide) (hb hby at_183) (fun T183 hp183 X183 eh183 Wr183 Ar183 => ?_)
      have Ar183' : own_A Z hp183 va .double [.double v0, .double v1, .double v2, .double 0] := Ar183
      have Nf183 := Fr.snoc X183 Nf181 nw_va
      have Z_183 : n0 ≤ hp183.size := by rw [Wr.size Wr183]; exact Z_181
      refine own_blk dec0 seq0 hby hx hZ hown hK hF 3 [] [] X183 eh183 ?_
      show own_Aft X183 hp183 _ 188 [.val (.int a1), .val (.int d1), .val (.int d2), .val (.int d3), .val (.int sel), .val (.int (4 : Int32)), .val (.int (2 : Int32)), .val (.int ng), .val (.long l0), .second, .val (.long l1), .second, .val (.long l2), .second, .val (.long l3), .second, .val (.double v0), .second, .val (.double v1), .second, .val (.double v2), .second, .val (.double v3), .second, .unset, .unset, .unset, .unset, .unset, .unset] [.double v3, .int (3 : Int32), .ref va, .ref va]
      refine fun T184 X184 eh184 => ?_
      refine own_sD X184 hx hZ eh184 Ar183' 3 rfl (by show 3 < 4; decide) (hb hby at_188) (fun T185 hp185 X185 eh185 Wr185 Ar185 => ?_)
      have Ar185' : own_A Z hp185 va .double [.double v0, .double v1, .double v2, .double v3] := Ar185
      have Nf185 := Fr.snoc X185 Nf183 nw_va
      have Z_185 : n0 ≤ hp185.size := by rw [Wr.size Wr185]; exact Z_183
      refine own_blk dec0 seq0 hby hx hZ hown hK hF 12 [true, true, false] [] X185 eh185 ?_
      show (((2 : Int32)).toInt ≠ 0) ∧ (((2 : Int32)).toInt ≠ ((1 : Int32)).toInt) ∧ (¬ (((2 : Int32)).toInt ≠ ((2 : Int32)).toInt)) ∧ own_Aft X185 hp185 _ 233 [.val (.int a1), .val (.int d1), .val (.int d2), .val (.int d3), .val (.int sel), .val (.int (4 : Int32)), .val (.int (2 : Int32)), .val (.int ng), .val (.long l0), .second, .val (.long l1), .second, .val (.long l2), .second, .val (.long l3), .second, .val (.double v0), .second, .val (.double v1), .second, .val (.double v2), .second, .val (.double v3), .second, .val (.ref va), .val (.double v2), .second, .unset, .unset, .unset] []
      refine ⟨by decide, by decide, by decide, fun T186 X186 eh186 => ?_⟩
      refine own_blk dec0 seq0 hby hx hZ hown hK hF 2 [] [] X186 eh186 ?_
      show own_Aft X186 hp185 _ 237 [.val (.int a1), .val (.int d1), .val (.int d2), .val (.int d3), .val (.int sel), .val (.int (4 : Int32)), .val (.int (2 : Int32)), .val (.int ng), .val (.long l0), .second, .val (.long l1), .second, .val (.long l2), .second, .val (.long l3), .second, .val (.double v0), .second, .val (.double v1), .second, .val (.double v2), .second, .val (.double v3), .second, .val (.ref va), .val (.double v2), .second, .val (.double v2), .second, .unset] []
      refine fun T187 X187 eh187 => ?_
      suffices tl188 : ∀ (qq : UInt64) (_ : own_D 0 l2.toInt qq), own_Aft X187 hp185 (own_Fin s 16 128 (fun v h L => v = some (.int 1) ∧ Fr n0 L)) 254 [.val (.int a1), .val (.int d1), .val (.int d2), .val (.int d3), .val (.int sel), .val (.int (4 : Int32)), .val (.int (2 : Int32)), .val (.int ng), .val (.long l0), .second, .val (.long l1), .second, .val (.long l2), .second, .val (.long l3), .second, .val (.double v0), .second, .val (.double v1), .second, .val (.double v2), .second, .val (.double v3), .second, .val (.ref va), .val (.double v2), .second, .val (.double qq), .second, .unset] [] by
        rcases hng with hz | hz
        · skip
          obtain rfl : ng = (0 : Int32) := hz
          show own_Go p.tables e below _ (T187.setTop (mkF m 237 (Array.mk [.val (.int a1), .val (.int d1), .val (.int d2), .val (.int d3), .val (.int sel), .val (.int (4 : Int32)), .val (.int (2 : Int32)), .val (.int (0 : Int32)), .val (.long l0), .second, .val (.long l1), .second, .val (.long l2), .second, .val (.long l3), .second, .val (.double v0), .second, .val (.double v1), .second, .val (.double v2), .second, .val (.double v3), .second, .val (.ref va), .val (.double v2), .second, .val (.double v2), .second, .unset]) []))
          refine own_blk dec0 seq0 hby hx hZ hown hK hF 2 [true] [] X187 eh187 ?_
          show (((0 : Int32)).toInt = 0) ∧ own_Aft X187 hp185 _ 254 [.val (.int a1), .val (.int d1), .val (.int d2), .val (.int d3), .val (.int sel), .val (.int (4 : Int32)), .val (.int (2 : Int32)), .val (.int (0 : Int32)), .val (.long l0), .second, .val (.long l1), .second, .val (.long l2), .second, .val (.long l3), .second, .val (.double v0), .second, .val (.double v1), .second, .val (.double v2), .second, .val (.double v3), .second, .val (.ref va), .val (.double v2), .second, .val (.double v2), .second, .unset] []
          refine ⟨by decide, fun T189 X189 eh189 => ?_⟩
          exact tl188 _ D2 T189 X189 eh189
        · skip
          obtain rfl : ng = (1 : Int32) := hz
          show own_Go p.tables e below _ (T187.setTop (mkF m 237 (Array.mk [.val (.int a1), .val (.int d1), .val (.int d2), .val (.int d3), .val (.int sel), .val (.int (4 : Int32)), .val (.int (2 : Int32)), .val (.int (1 : Int32)), .val (.long l0), .second, .val (.long l1), .second, .val (.long l2), .second, .val (.long l3), .second, .val (.double v0), .second, .val (.double v1), .second, .val (.double v2), .second, .val (.double v3), .second, .val (.ref va), .val (.double v2), .second, .val (.double v2), .second, .unset]) []))
          refine own_blk dec0 seq0 hby hx hZ hown hK hF 5 [false] [] X187 eh187 ?_
          show (¬ (((1 : Int32)).toInt = 0)) ∧ own_Aft X187 hp185 _ 246 [.val (.int a1), .val (.int d1), .val (.int d2), .val (.int d3), .val (.int sel), .val (.int (4 : Int32)), .val (.int (2 : Int32)), .val (.int (1 : Int32)), .val (.long l0), .second, .val (.long l1), .second, .val (.long l2), .second, .val (.long l3), .second, .val (.double v0), .second, .val (.double v1), .second, .val (.double v2), .second, .val (.double v3), .second, .val (.ref va), .val (.double v2), .second, .val (.double v2), .second, .unset] [.int (cmpValue (FP.dcmp v2 0) .l)]
          refine ⟨by decide, fun T190 X190 eh190 => ?_⟩
          by_cases ht : l2.toInt = 0
          · skip
            refine own_blk dec0 seq0 hby hx hZ hown hK hF 4 [false] [] X190 eh190 ?_
            show (¬ ((cmpValue (FP.dcmp v2 0) .l).toInt ≠ 0)) ∧ own_Aft X190 hp185 _ 254 [.val (.int a1), .val (.int d1), .val (.int d2), .val (.int d3), .val (.int sel), .val (.int (4 : Int32)), .val (.int (2 : Int32)), .val (.int (1 : Int32)), .val (.long l0), .second, .val (.long l1), .second, .val (.long l2), .second, .val (.long l3), .second, .val (.double v0), .second, .val (.double v1), .second, .val (.double v2), .second, .val (.double v3), .second, .val (.ref va), .val (.double v2), .second, .val (.double (FP.dneg v2)), .second, .unset] []
            refine ⟨by rw [own_cv_eq (D2.eq own_z0 ht)]; omega, fun T191 X191 eh191 => ?_⟩
            exact tl188 _ (by have := D2.neg; rwa [ht, Int.neg_zero, ← ht] at this) T191 X191 eh191
          · skip
            refine own_blk dec0 seq0 hby hx hZ hown hK hF 1 [true] [] X190 eh190 ?_
            show ((cmpValue (FP.dcmp v2 0) .l).toInt ≠ 0) ∧ own_Aft X190 hp185 _ 254 [.val (.int a1), .val (.int d1), .val (.int d2), .val (.int d3), .val (.int sel), .val (.int (4 : Int32)), .val (.int (2 : Int32)), .val (.int (1 : Int32)), .val (.long l0), .second, .val (.long l1), .second, .val (.long l2), .second, .val (.long l3), .second, .val (.double v0), .second, .val (.double v1), .second, .val (.double v2), .second, .val (.double v3), .second, .val (.ref va), .val (.double v2), .second, .val (.double v2), .second, .unset] []
            refine ⟨by rcases Int.lt_or_gt_of_ne ht with q | q <;> first | (rw [own_cv_lt (D2.lt own_z0 q)]; omega) | (rw [own_cv_gt (D2.gt own_z0 q)]; omega), fun T192 X192 eh192 => ?_⟩
            exact tl188 _ D2 T192 X192 eh192
      intro qq Dq T188 X188 eh188
      refine own_new X188 hx hZ hown (hw _ (List.mem_of_getElem? (i := 2) rfl)) (hw _ (List.mem_of_getElem? (i := 3) rfl)) (hw _ (List.mem_of_getElem? (i := 4) rfl)) eh188 (hb hby at_254) (by decide) (by decide) (fun T193 hp193 ao ga193 X193 eh193 Ex193 Ea193 Dn193 => ?_)
      have ne_va_ao : va ≠ ao := fun q => absurd Ar185'.lt (by rw [q, ga193]; exact Nat.lt_irrefl _)
      have nw_ao : n0 ≤ ao := by rw [ga193]; exact Z_185
      have Ar185'_193 := Ar185'.ext Ex193
      have Z_193 : n0 ≤ hp193.size := Nat.le_trans Z_185 Ex193.1
      have Fn193_values : Fld Z hp193 ao "com/example/binwright/binwright/binning/DistinctValues" "values" "[D" (.null) := Dn193 (Or.inr (hw _ (List.mem_of_getElem? (i := 18) rfl))) (ty := (.array .double)) (by decide)
      have Fn193_before : Fld Z hp193 ao "com/example/binwright/binwright/binning/DistinctValues" "before" "[I" (.null) := Dn193 (Or.inr (hw _ (List.mem_of_getElem? (i := 20) rfl))) (ty := (.array .int)) (by decide)
      show own_Go p.tables e below _ (T193.setTop (mkF m 257 (Array.mk [.val (.int a1), .val (.int d1), .val (.int d2), .val (.int d3), .val (.int sel), .val (.int (4 : Int32)), .val (.int (2 : Int32)), .val (.int ng), .val (.long l0), .second, .val (.long l1), .second, .val (.long l2), .second, .val (.long l3), .second, .val (.double v0), .second, .val (.double v1), .second, .val (.double v2), .second, .val (.double v3), .second, .val (.ref va), .val (.double v2), .second, .val (.double qq), .second, .unset]) [.ref ao]))
      refine own_blk dec0 seq0 hby hx hZ hown hK hF 3 [] [] X193 eh193 ?_
      show own_Aft X193 hp193 _ 261 [.val (.int a1), .val (.int d1), .val (.int d2), .val (.int d3), .val (.int sel), .val (.int (4 : Int32)), .val (.int (2 : Int32)), .val (.int ng), .val (.long l0), .second, .val (.long l1), .second, .val (.long l2), .second, .val (.long l3), .second, .val (.double v0), .second, .val (.double v1), .second, .val (.double v2), .second, .val (.double v3), .second, .val (.ref va), .val (.double v2), .second, .val (.double qq), .second, .unset] [.int (5 : Int32), .ref va, .ref ao, .ref ao]
      refine fun T194 X194 eh194 => ?_
      refine own_newP X194 hx hZ (hw _ (List.mem_of_getElem? (i := 5) rfl)) eh194 5 rfl (cap := 5) (by decide) (by decide) (hb hby at_261) (by decide) (by decide) (fun T195 hp195 ib ga195 X195 eh195 Ex195 Ar195 => ?_)
      have ne_va_ib : va ≠ ib := fun q => absurd Ar185'_193.lt (by rw [q, ga195]; exact Nat.lt_irrefl _)
      have ne_ao_ib : ao ≠ ib := fun q => absurd Ea193.lt (by rw [q, ga195]; exact Nat.lt_irrefl _)
      have nw_ib : n0 ≤ ib := by rw [ga195]; exact Z_193
      have Ar185'_195 := Ar185'_193.ext Ex195
      have Ea193_195 := Exa.ext Ex195 Ea193
      have Fn193_values_195 := Fld.ext Ex195 Fn193_values
      have Fn193_before_195 := Fld.ext Ex195 Fn193_before
      have Z_195 : n0 ≤ hp195.size := Nat.le_trans Z_193 Ex195.1
      show own_Go p.tables e below _ (T195.setTop (mkF m 263 (Array.mk [.val (.int a1), .val (.int d1), .val (.int d2), .val (.int d3), .val (.int sel), .val (.int (4 : Int32)), .val (.int (2 : Int32)), .val (.int ng), .val (.long l0), .second, .val (.long l1), .second, .val (.long l2), .second, .val (.long l3), .second, .val (.double v0), .second, .val (.double v1), .second, .val (.double v2), .second, .val (.double v3), .second, .val (.ref va), .val (.double v2), .second, .val (.double qq), .second, .unset]) [.ref ib, .ref va, .ref ao, .ref ao]))
      refine own_callI X195 hx hZ hown rfl (hw _ (List.mem_of_getElem? (i := 6) rfl)) (hw _ (List.mem_of_getElem? (i := 7) rfl)) (hw _ (List.mem_of_getElem? (i := 4) rfl)) (hw _ (List.mem_of_getElem? (i := 8) rfl)) (by decide) eh195 ao [.ref va, .ref ib] pd1 rfl (rm := ({ frames := 2, cells := 0, slots := 0, locals := 24 } : Room)) (rm1 l Z a0 hw [] ao va ib hp195 n0 Z_195 Ea193_195 nw_ao Fn193_values_195 Fn193_before_195) (by rw [hml]; rfl) 1 rfl (Nat.le_of_eq rfl) (hb hby at_263) (by decide) (by decide) (by decide) (by decide) (fun T196 rv196 Lc196 X196 qc196 => ?_)
      obtain ⟨rfl, M1, KK, EE, G1, G2⟩ := qc196
      have AA1 := Ar185'_195.keep KK (fun q => ne_va_ao (List.mem_singleton.mp q))
      have Z_c : n0 ≤ T196.heap.size := Nat.le_trans Z_195 KK.1
      show own_Go p.tables e below _ (T196.setTop (mkF m 266 (Array.mk [.val (.int a1), .val (.int d1), .val (.int d2), .val (.int d3), .val (.int sel), .val (.int (4 : Int32)), .val (.int (2 : Int32)), .val (.int ng), .val (.long l0), .second, .val (.long l1), .second, .val (.long l2), .second, .val (.long l3), .second, .val (.double v0), .second, .val (.double v1), .second, .val (.double v2), .second, .val (.double v3), .second, .val (.ref va), .val (.double v2), .second, .val (.double qq), .second, .unset]) [.ref ao]))
      refine own_blk dec0 seq0 hby hx hZ hown hK hF 3 [] [] X196 rfl ?_
      show own_Aft X196 T196.heap _ 272 [.val (.int a1), .val (.int d1), .val (.int d2), .val (.int d3), .val (.int sel), .val (.int (4 : Int32)), .val (.int (2 : Int32)), .val (.int ng), .val (.long l0), .second, .val (.long l1), .second, .val (.long l2), .second, .val (.long l3), .second, .val (.double v0), .second, .val (.double v1), .second, .val (.double v2), .second, .val (.double v3), .second, .val (.ref va), .val (.double v2), .second, .val (.double qq), .second, .val (.ref ao)] [.double qq, .ref ao]
      refine fun T197 X197 eh197 => ?_
      refine own_callV X197 hx hZ hown (hw _ (List.mem_of_getElem? (i := 21) rfl)) (hw _ (List.mem_of_getElem? (i := 22) rfl)) (hw _ (List.mem_of_getElem? (i := 24) rfl)) (hw _ (List.mem_of_getElem? (i := 23) rfl)) (hw _ (List.mem_of_getElem? (i := 4) rfl)) (hw _ (List.mem_of_getElem? (i := 25) rfl)) (by decide) eh197 EE [.double qq] pd4 rfl (rm := ({ frames := 0, cells := 0, slots := 0, locals := 0 } : Room)) (rm4_4_2 l Z a0 hw [] ao va qq v0 _ v1 _ v2 _ v3 _ T196.heap n0 Z_c G1 AA1 Dq D0 D1 D2 D3 u0 u1 u2) (by rw [hml]; rfl) 0 rfl (Nat.le_of_eq rfl) (hb hby at_272) (by decide) (by decide) (by decide) (by decide) (fun T198 rv198 Lc198 X198 qc198 => ?_)
      obtain ⟨rfl, M2, hh⟩ := qc198
      show own_Go p.tables e below _ (T198.setTop (mkF m 275 (Array.mk [.val (.int a1), .val (.int d1), .val (.int d2), .val (.int d3), .val (.int sel), .val (.int (4 : Int32)), .val (.int (2 : Int32)), .val (.int ng), .val (.long l0), .second, .val (.long l1), .second, .val (.long l2), .second, .val (.long l3), .second, .val (.double v0), .second, .val (.double v1), .second, .val (.double v2), .second, .val (.double v3), .second, .val (.ref va), .val (.double v2), .second, .val (.double qq), .second, .val (.ref ao)]) [.int (2 : Int32)]))
      refine own_blk dec0 seq0 hby hx hZ hown hK hF 4 [false] [] X198 hh ?_
      show (¬ (((2 : Int32)).toInt ≠ ((2 : Int32)).toInt)) ∧ own_Aft X198 T196.heap _ 285 [.val (.int a1), .val (.int d1), .val (.int d2), .val (.int d3), .val (.int sel), .val (.int (4 : Int32)), .val (.int (2 : Int32)), .val (.int ng), .val (.long l0), .second, .val (.long l1), .second, .val (.long l2), .second, .val (.long l3), .second, .val (.double v0), .second, .val (.double v1), .second, .val (.double v2), .second, .val (.double v3), .second, .val (.ref va), .val (.double v2), .second, .val (.double qq), .second, .val (.ref ao)] [.int (1 : Int32)]
      refine ⟨by decide, fun T199 X199 eh199 => ?_⟩
      exact own_ret X199 hx hlk eh199 hret (by first | rfl | decide) (Or.inl ⟨rfl, by simp, _, rfl⟩) (hb hby at_285) (by decide) (by decide) (⟨rfl, Fr.app (Fr.app Nf185 M1) M2⟩)
    · skip
      obtain rfl : kk = (3 : Int32) := Int32.toInt_inj.mp hk
      show own_Go p.tables e below _ (T10.setTop (mkF m 94 (Array.mk [.val (.int a1), .val (.int d1), .val (.int d2), .val (.int d3), .val (.int sel), .val (.int (4 : Int32)), .val (.int (3 : Int32)), .val (.int ng), .val (.long l0), .second, .val (.long l1), .second, .val (.long l2), .second, .val (.long l3), .second, .val (.double v0), .second, .val (.double v1), .second, .val (.double v2), .second, .val (.double v3), .second, .unset, .unset, .unset, .unset, .unset, .unset]) []))
      refine own_blk dec0 seq0 hby hx hZ hown hK hF 10 [true, true, true] [] X10 eh10 ?_
      show (((4 : Int32)).toInt ≠ ((1 : Int32)).toInt) ∧ (((4 : Int32)).toInt ≠ ((2 : Int32)).toInt) ∧ (((4 : Int32)).toInt ≠ ((3 : Int32)).toInt) ∧ own_Aft X10 h0 _ 167 [.val (.int a1), .val (.int d1), .val (.int d2), .val (.int d3), .val (.int sel), .val (.int (4 : Int32)), .val (.int (3 : Int32)), .val (.int ng), .val (.long l0), .second, .val (.long l1), .second, .val (.long l2), .second, .val (.long l3), .second, .val (.double v0), .second, .val (.double v1), .second, .val (.double v2), .second, .val (.double v3), .second, .unset, .unset, .unset, .unset, .unset, .unset] [.int (4 : Int32)]
      refine ⟨by decide, by decide, by decide, fun T200 X200 eh200 => ?_⟩
      refine own_newP X200 hx hZ (hw _ (List.mem_of_getElem? (i := 1) rfl)) eh200 4 rfl (cap := 4) (by decide) (by decide) (hb hby at_167) (by decide) (by decide) (fun T201 hp201 va ga201 X201 eh201 Ex201 Ar201 => ?_)
      have nw_va : n0 ≤ va := by rw [ga201]; exact Z0
      have Z_201 : n0 ≤ hp201.size := Nat.le_trans Z0 Ex201.1
      have Ar201' : own_A Z hp201 va .double [.double 0, .double 0, .double 0, .double 0] := Ar201
      show own_Go p.tables e below _ (T201.setTop (mkF m 169 (Array.mk [.val (.int a1), .val (.int d1), .val (.int d2), .val (.int d3), .val (.int sel), .val (.int (4 : Int32)), .val (.int (3 : Int32)), .val (.int ng), .val (.long l0), .second, .val (.long l1), .second, .val (.long l2), .second, .val (.long l3), .second, .val (.double v0), .second, .val (.double v1), .second, .val (.double v2), .second, .val (.double v3), .second, .unset, .unset, .unset, .unset, .unset, .unset]) [.ref va]))
      refine own_blk dec0 seq0 hby hx hZ hown hK hF 3 [] [] X201 eh201 ?_
      show own_Aft X201 hp201 _ 173 [.val (.int a1), .val (.int d1), .val (.int d2), .val (.int d3), .val (.int sel), .val (.int (4 : Int32)), .val (.int (3 : Int32)), .val (.int ng), .val (.long l0), .second, .val (.long l1), .second, .val (.long l2), .second, .val (.long l3), .second, .val (.double v0), .second, .val (.double v1), .second, .val (.double v2), .second, .val (.double v3), .second, .unset, .unset, .unset, .unset, .unset, .unset] [.double v0, .int (0 : Int32), .ref va, .ref va]
      refine fun T202 X202 eh202 => ?_
      refine own_sD X202 hx hZ eh202 Ar201' 0 rfl (by show 0 < 4; decide) (hb hby at_173) (fun T203 hp203 X203 eh203 Wr203 Ar203 => ?_)
      have Ar203' : own_A Z hp203 va .double [.double v0, .double 0, .double 0, .double 0] := Ar203
      have Nf203 := Fr.snoc X203 N0 nw_va
      have Z_203 : n0 ≤ hp203.size := by rw [Wr.size Wr203]; exact Z_201
      refine own_blk dec0 seq0 hby hx hZ hown hK hF 3 [] [] X203 eh203 ?_
      show own_Aft X203 hp203 _ 178 [.val (.int a1), .val (.int d1), .val (.int d2), .val (.int d3), .val (.int sel), .val (.int (4 : Int32)), .val (.int (3 : Int32)), .val (.int ng), .val (.long l0), .second, .val (.long l1), .second, .val (.long l2), .second, .val (.long l3), .second, .val (.double v0), .second, .val (.double v1), .second, .val (.double v2), .second, .val (.double v3), .second, .unset, .unset, .unset, .unset, .unset, .unset] [.double v1, .int (1 : Int32), .ref va, .ref va]
      refine fun T204 X204 eh204 => ?_
      refine own_sD X204 hx hZ eh204 Ar203' 1 rfl (by show 1 < 4; decide) (hb hby at_178) (fun T205 hp205 X205 eh205 Wr205 Ar205 => ?_)
      have Ar205' : own_A Z hp205 va .double [.double v0, .double v1, .double 0, .double 0] := Ar205
      have Nf205 := Fr.snoc X205 Nf203 nw_va
      have Z_205 : n0 ≤ hp205.size := by rw [Wr.size Wr205]; exact Z_203
      refine own_blk dec0 seq0 hby hx hZ hown hK hF 3 [] [] X205 eh205 ?_
      show own_Aft X205 hp205 _ 183 [.val (.int a1), .val (.int d1), .val (.int d2), .val (.int d3), .val (.int sel), .val (.int (4 : Int32)), .val (.int (3 : Int32)), .val (.int ng), .val (.long l0), .second, .val (.long l1), .second, .val (.long l2), .second, .val (.long l3), .second, .val (.double v0), .second, .val (.double v1), .second, .val (.double v2), .second, .val (.double v3), .second, .unset, .unset, .unset, .unset, .unset, .unset] [.double v2, .int (2 : Int32), .ref va, .ref va]
      refine fun T206 X206 eh206 => ?_
      refine own_sD X206 hx hZ eh206 Ar205' 2 rfl (by show 2 < 4; decide) (hb hby at_183) (fun T207 hp207 X207 eh207 Wr207 Ar207 => ?_)
      have Ar207' : own_A Z hp207 va .double [.double v0, .double v1, .double v2, .double 0] := Ar207
      have Nf207 := Fr.snoc X207 Nf205 nw_va
      have Z_207 : n0 ≤ hp207.size := by rw [Wr.size Wr207]; exact Z_205
      refine own_blk dec0 seq0 hby hx hZ hown hK hF 3 [] [] X207 eh207 ?_
      show own_Aft X207 hp207 _ 188 [.val (.int a1), .val (.int d1), .val (.int d2), .val (.int d3), .val (.int sel), .val (.int (4 : Int32)), .val (.int (3 : Int32)), .val (.int ng), .val (.long l0), .second, .val (.long l1), .second, .val (.long l2), .second, .val (.long l3), .second, .val (.double v0), .second, .val (.double v1), .second, .val (.double v2), .second, .val (.double v3), .second, .unset, .unset, .unset, .unset, .unset, .unset] [.double v3, .int (3 : Int32), .ref va, .ref va]
      refine fun T208 X208 eh208 => ?_
      refine own_sD X208 hx hZ eh208 Ar207' 3 rfl (by show 3 < 4; decide) (hb hby at_188) (fun T209 hp209 X209 eh209 Wr209 Ar209 => ?_)
      have Ar209' : own_A Z hp209 va .double [.double v0, .double v1, .double v2, .double v3] := Ar209
      have Nf209 := Fr.snoc X209 Nf207 nw_va
      have Z_209 : n0 ≤ hp209.size := by rw [Wr.size Wr209]; exact Z_207
      refine own_blk dec0 seq0 hby hx hZ hown hK hF 12 [true, true, true] [] X209 eh209 ?_
      show (((3 : Int32)).toInt ≠ 0) ∧ (((3 : Int32)).toInt ≠ ((1 : Int32)).toInt) ∧ (((3 : Int32)).toInt ≠ ((2 : Int32)).toInt) ∧ own_Aft X209 hp209 _ 235 [.val (.int a1), .val (.int d1), .val (.int d2), .val (.int d3), .val (.int sel), .val (.int (4 : Int32)), .val (.int (3 : Int32)), .val (.int ng), .val (.long l0), .second, .val (.long l1), .second, .val (.long l2), .second, .val (.long l3), .second, .val (.double v0), .second, .val (.double v1), .second, .val (.double v2), .second, .val (.double v3), .second, .val (.ref va), .val (.double v3), .second, .unset, .unset, .unset] [.double v3]
      refine ⟨by decide, by decide, by decide, fun T210 X210 eh210 => ?_⟩
      refine own_blk dec0 seq0 hby hx hZ hown hK hF 1 [] [] X210 eh210 ?_
      show own_Aft X210 hp209 _ 237 [.val (.int a1), .val (.int d1), .val (.int d2), .val (.int d3), .val (.int sel), .val (.int (4 : Int32)), .val (.int (3 : Int32)), .val (.int ng), .val (.long l0), .second, .val (.long l1), .second, .val (.long l2), .second, .val (.long l3), .second, .val (.double v0), .second, .val (.double v1), .second, .val (.double v2), .second, .val (.double v3), .second, .val (.ref va), .val (.double v3), .second, .val (.double v3), .second, .unset] []
      refine fun T211 X211 eh211 => ?_
      suffices tl212 : ∀ (qq : UInt64) (_ : own_D 0 l3.toInt qq), own_Aft X211 hp209 (own_Fin s 16 128 (fun v h L => v = some (.int 1) ∧ Fr n0 L)) 254 [.val (.int a1), .val (.int d1), .val (.int d2), .val (.int d3), .val (.int sel), .val (.int (4 : Int32)), .val (.int (3 : Int32)), .val (.int ng), .val (.long l0), .second, .val (.long l1), .second, .val (.long l2), .second, .val (.long l3), .second, .val (.double v0), .second, .val (.double v1), .second, .val (.double v2), .second, .val (.double v3), .second, .val (.ref va), .val (.double v3), .second, .val (.double qq), .second, .unset] [] by
        rcases hng with hz | hz
        · skip
          obtain rfl : ng = (0 : Int32) := hz
          show own_Go p.tables e below _ (T211.setTop (mkF m 237 (Array.mk [.val (.int a1), .val (.int d1), .val (.int d2), .val (.int d3), .val (.int sel), .val (.int (4 : Int32)), .val (.int (3 : Int32)), .val (.int (0 : Int32)), .val (.long l0), .second, .val (.long l1), .second, .val (.long l2), .second, .val (.long l3), .second, .val (.double v0), .second, .val (.double v1), .second, .val (.double v2), .second, .val (.double v3), .second, .val (.ref va), .val (.double v3), .second, .val (.double v3), .second, .unset]) []))
          refine own_blk dec0 seq0 hby hx hZ hown hK hF 2 [true] [] X211 eh211 ?_
          show (((0 : Int32)).toInt = 0) ∧ own_Aft X211 hp209 _ 254 [.val (.int a1), .val (.int d1), .val (.int d2), .val (.int d3), .val (.int sel), .val (.int (4 : Int32)), .val (.int (3 : Int32)), .val (.int (0 : Int32)), .val (.long l0), .second, .val (.long l1), .second, .val (.long l2), .second, .val (.long l3), .second, .val (.double v0), .second, .val (.double v1), .second, .val (.double v2), .second, .val (.double v3), .second, .val (.ref va), .val (.double v3), .second, .val (.double v3), .second, .unset] []
          refine ⟨by decide, fun T213 X213 eh213 => ?_⟩
          exact tl212 _ D3 T213 X213 eh213
        · skip
          obtain rfl : ng = (1 : Int32) := hz
          show own_Go p.tables e below _ (T211.setTop (mkF m 237 (Array.mk [.val (.int a1), .val (.int d1), .val (.int d2), .val (.int d3), .val (.int sel), .val (.int (4 : Int32)), .val (.int (3 : Int32)), .val (.int (1 : Int32)), .val (.long l0), .second, .val (.long l1), .second, .val (.long l2), .second, .val (.long l3), .second, .val (.double v0), .second, .val (.double v1), .second, .val (.double v2), .second, .val (.double v3), .second, .val (.ref va), .val (.double v3), .second, .val (.double v3), .second, .unset]) []))
          refine own_blk dec0 seq0 hby hx hZ hown hK hF 5 [false] [] X211 eh211 ?_
          show (¬ (((1 : Int32)).toInt = 0)) ∧ own_Aft X211 hp209 _ 246 [.val (.int a1), .val (.int d1), .val (.int d2), .val (.int d3), .val (.int sel), .val (.int (4 : Int32)), .val (.int (3 : Int32)), .val (.int (1 : Int32)), .val (.long l0), .second, .val (.long l1), .second, .val (.long l2), .second, .val (.long l3), .second, .val (.double v0), .second, .val (.double v1), .second, .val (.double v2), .second, .val (.double v3), .second, .val (.ref va), .val (.double v3), .second, .val (.double v3), .second, .unset] [.int (cmpValue (FP.dcmp v3 0) .l)]
          refine ⟨by decide, fun T214 X214 eh214 => ?_⟩
          by_cases ht : l3.toInt = 0
          · skip
            refine own_blk dec0 seq0 hby hx hZ hown hK hF 4 [false] [] X214 eh214 ?_
            show (¬ ((cmpValue (FP.dcmp v3 0) .l).toInt ≠ 0)) ∧ own_Aft X214 hp209 _ 254 [.val (.int a1), .val (.int d1), .val (.int d2), .val (.int d3), .val (.int sel), .val (.int (4 : Int32)), .val (.int (3 : Int32)), .val (.int (1 : Int32)), .val (.long l0), .second, .val (.long l1), .second, .val (.long l2), .second, .val (.long l3), .second, .val (.double v0), .second, .val (.double v1), .second, .val (.double v2), .second, .val (.double v3), .second, .val (.ref va), .val (.double v3), .second, .val (.double (FP.dneg v3)), .second, .unset] []
            refine ⟨by rw [own_cv_eq (D3.eq own_z0 ht)]; omega, fun T215 X215 eh215 => ?_⟩
            exact tl212 _ (by have := D3.neg; rwa [ht, Int.neg_zero, ← ht] at this) T215 X215 eh215
          · skip
            refine own_blk dec0 seq0 hby hx hZ hown hK hF 1 [true] [] X214 eh214 ?_
            show ((cmpValue (FP.dcmp v3 0) .l).toInt ≠ 0) ∧ own_Aft X214 hp209 _ 254 [.val (.int a1), .val (.int d1), .val (.int d2), .val (.int d3), .val (.int sel), .val (.int (4 : Int32)), .val (.int (3 : Int32)), .val (.int (1 : Int32)), .val (.long l0), .second, .val (.long l1), .second, .val (.long l2), .second, .val (.long l3), .second, .val (.double v0), .second, .val (.double v1), .second, .val (.double v2), .second, .val (.double v3), .second, .val (.ref va), .val (.double v3), .second, .val (.double v3), .second, .unset] []
            refine ⟨by rcases Int.lt_or_gt_of_ne ht with q | q <;> first | (rw [own_cv_lt (D3.lt own_z0 q)]; omega) | (rw [own_cv_gt (D3.gt own_z0 q)]; omega), fun T216 X216 eh216 => ?_⟩
            exact tl212 _ D3 T216 X216 eh216
      intro qq Dq T212 X212 eh212
      refine own_new X212 hx hZ hown (hw _ (List.mem_of_getElem? (i := 2) rfl)) (hw _ (List.mem_of_getElem? (i := 3) rfl)) (hw _ (List.mem_of_getElem? (i := 4) rfl)) eh212 (hb hby at_254) (by decide) (by decide) (fun T217 hp217 ao ga217 X217 eh217 Ex217 Ea217 Dn217 => ?_)
      have ne_va_ao : va ≠ ao := fun q => absurd Ar209'.lt (by rw [q, ga217]; exact Nat.lt_irrefl _)
      have nw_ao : n0 ≤ ao := by rw [ga217]; exact Z_209
      have Ar209'_217 := Ar209'.ext Ex217
      have Z_217 : n0 ≤ hp217.size := Nat.le_trans Z_209 Ex217.1
      have Fn217_values : Fld Z hp217 ao "com/example/binwright/binwright/binning/DistinctValues" "values" "[D" (.null) := Dn217 (Or.inr (hw _ (List.mem_of_getElem? (i := 18) rfl))) (ty := (.array .double)) (by decide)
      have Fn217_before : Fld Z hp217 ao "com/example/binwright/binwright/binning/DistinctValues" "before" "[I" (.null) := Dn217 (Or.inr (hw _ (List.mem_of_getElem? (i := 20) rfl))) (ty := (.array .int)) (by decide)
      show own_Go p.tables e below _ (T217.setTop (mkF m 257 (Array.mk [.val (.int a1), .val (.int d1), .val (.int d2), .val (.int d3), .val (.int sel), .val (.int (4 : Int32)), .val (.int (3 : Int32)), .val (.int ng), .val (.long l0), .second, .val (.long l1), .second, .val (.long l2), .second, .val (.long l3), .second, .val (.double v0), .second, .val (.double v1), .second, .val (.double v2), .second, .val (.double v3), .second, .val (.ref va), .val (.double v3), .second, .val (.double qq), .second, .unset]) [.ref ao]))
      refine own_blk dec0 seq0 hby hx hZ hown hK hF 3 [] [] X217 eh217 ?_
      show own_Aft X217 hp217 _ 261 [.val (.int a1), .val (.int d1), .val (.int d2), .val (.int d3), .val (.int sel), .val (.int (4 : Int32)), .val (.int (3 : Int32)), .val (.int ng), .val (.long l0), .second, .val (.long l1), .second, .val (.long l2), .second, .val (.long l3), .second, .val (.double v0), .second, .val (.double v1), .second, .val (.double v2), .second, .val (.double v3), .second, .val (.ref va), .val (.double v3), .second, .val (.double qq), .second, .unset] [.int (5 : Int32), .ref va, .ref ao, .ref ao]
      refine fun T218 X218 eh218 => ?_
      refine own_newP X218 hx hZ (hw _ (List.mem_of_getElem? (i := 5) rfl)) eh218 5 rfl (cap := 5) (by decide) (by decide) (hb hby at_261) (by decide) (by decide) (fun T219 hp219 ib ga219 X219 eh219 Ex219 Ar219 => ?_)
      have ne_va_ib : va ≠ ib := fun q => absurd Ar209'_217.lt (by rw [q, ga219]; exact Nat.lt_irrefl _)
      have ne_ao_ib : ao ≠ ib := fun q => absurd Ea217.lt (by rw [q, ga219]; exact Nat.lt_irrefl _)
      have nw_ib : n0 ≤ ib := by rw [ga219]; exact Z_217
      have Ar209'_219 := Ar209'_217.ext Ex219
      have Ea217_219 := Exa.ext Ex219 Ea217
      have Fn217_values_219 := Fld.ext Ex219 Fn217_values
      have Fn217_before_219 := Fld.ext Ex219 Fn217_before
      have Z_219 : n0 ≤ hp219.size := Nat.le_trans Z_217 Ex219.1
      show own_Go p.tables e below _ (T219.setTop (mkF m 263 (Array.mk [.val (.int a1), .val (.int d1), .val (.int d2), .val (.int d3), .val (.int sel), .val (.int (4 : Int32)), .val (.int (3 : Int32)), .val (.int ng), .val (.long l0), .second, .val (.long l1), .second, .val (.long l2), .second, .val (.long l3), .second, .val (.double v0), .second, .val (.double v1), .second, .val (.double v2), .second, .val (.double v3), .second, .val (.ref va), .val (.double v3), .second, .val (.double qq), .second, .unset]) [.ref ib, .ref va, .ref ao, .ref ao]))
      refine own_callI X219 hx hZ hown rfl (hw _ (List.mem_of_getElem? (i := 6) rfl)) (hw _ (List.mem_of_getElem? (i := 7) rfl)) (hw _ (List.mem_of_getElem? (i := 4) rfl)) (hw _ (List.mem_of_getElem? (i := 8) rfl)) (by decide) eh219 ao [.ref va, .ref ib] pd1 rfl (rm := ({ frames := 2, cells := 0, slots := 0, locals := 24 } : Room)) (rm1 l Z a0 hw [] ao va ib hp219 n0 Z_219 Ea217_219 nw_ao Fn217_values_219 Fn217_before_219) (by rw [hml]; rfl) 1 rfl (Nat.le_of_eq rfl) (hb hby at_263) (by decide) (by decide) (by decide) (by decide) (fun T220 rv220 Lc220 X220 qc220 => ?_)
      obtain ⟨rfl, M1, KK, EE, G1, G2⟩ := qc220
      have AA1 := Ar209'_219.keep KK (fun q => ne_va_ao (List.mem_singleton.mp q))
      have Z_c : n0 ≤ T220.heap.size := Nat.le_trans Z_219 KK.1
      show own_Go p.tables e below _ (T220.setTop (mkF m 266 (Array.mk [.val (.int a1), .val (.int d1), .val (.int d2), .val (.int d3), .val (.int sel), .val (.int (4 : Int32)), .val (.int (3 : Int32)), .val (.int ng), .val (.long l0), .second, .val (.long l1), .second, .val (.long l2), .second, .val (.long l3), .second, .val (.double v0), .second, .val (.double v1), .second, .val (.double v2), .second, .val (.double v3), .second, .val (.ref va), .val (.double v3), .second, .val (.double qq), .second, .unset]) [.ref ao]))
      refine own_blk dec0 seq0 hby hx hZ hown hK hF 3 [] [] X220 rfl ?_
      show own_Aft X220 T220.heap _ 272 [.val (.int a1), .val (.int d1), .val (.int d2), .val (.int d3), .val (.int sel), .val (.int (4 : Int32)), .val (.int (3 : Int32)), .val (.int ng), .val (.long l0), .second, .val (.long l1), .second, .val (.long l2), .second, .val (.long l3), .second, .val (.double v0), .second, .val (.double v1), .second, .val (.double v2), .second, .val (.double v3), .second, .val (.ref va), .val (.double v3), .second, .val (.double qq), .second, .val (.ref ao)] [.double qq, .ref ao]
      refine fun T221 X221 eh221 => ?_
      refine own_callV X221 hx hZ hown (hw _ (List.mem_of_getElem? (i := 21) rfl)) (hw _ (List.mem_of_getElem? (i := 22) rfl)) (hw _ (List.mem_of_getElem? (i := 24) rfl)) (hw _ (List.mem_of_getElem? (i := 23) rfl)) (hw _ (List.mem_of_getElem? (i := 4) rfl)) (hw _ (List.mem_of_getElem? (i := 25) rfl)) (by decide) eh221 EE [.double qq] pd4 rfl (rm := ({ frames := 0, cells := 0, slots := 0, locals := 0 } : Room)) (rm4_4_3 l Z a0 hw [] ao va qq v0 _ v1 _ v2 _ v3 _ T220.heap n0 Z_c G1 AA1 Dq D0 D1 D2 D3 u0 u1 u2) (by rw [hml]; rfl) 0 rfl (Nat.le_of_eq rfl) (hb hby at_272) (by decide) (by decide) (by decide) (by decide) (fun T222 rv222 Lc222 X222 qc222 => ?_)
      obtain ⟨rfl, M2, hh⟩ := qc222
      show own_Go p.tables e below _ (T222.setTop (mkF m 275 (Array.mk [.val (.int a1), .val (.int d1), .val (.int d2), .val (.int d3), .val (.int sel), .val (.int (4 : Int32)), .val (.int (3 : Int32)), .val (.int ng), .val (.long l0), .second, .val (.long l1), .second, .val (.long l2), .second, .val (.long l3), .second, .val (.double v0), .second, .val (.double v1), .second, .val (.double v2), .second, .val (.double v3), .second, .val (.ref va), .val (.double v3), .second, .val (.double qq), .second, .val (.ref ao)]) [.int (3 : Int32)]))
      refine own_blk dec0 seq0 hby hx hZ hown hK hF 4 [false] [] X222 hh ?_
      show (¬ (((3 : Int32)).toInt ≠ ((3 : Int32)).toInt)) ∧ own_Aft X222 T220.heap _ 285 [.val (.int a1), .val (.int d1), .val (.int d2), .val (.int d3), .val (.int sel), .val (.int (4 : Int32)), .val (.int (3 : Int32)), .val (.int ng), .val (.long l0), .second, .val (.long l1), .second, .val (.long l2), .second, .val (.long l3), .second, .val (.double v0), .second, .val (.double v1), .second, .val (.double v2), .second, .val (.double v3), .second, .val (.ref va), .val (.double v3), .second, .val (.double qq), .second, .val (.ref ao)] [.int (1 : Int32)]
      refine ⟨by decide, fun T223 X223 eh223 => ?_⟩
      exact own_ret X223 hx hlk eh223 hret (by first | rfl | decide) (Or.inl ⟨rfl, by simp, _, rfl⟩) (hb hby at_285) (by decide) (by decide) (⟨rfl, Fr.app (Fr.app Nf209 M1) M2⟩)
set_option maxRecDepth 65536 in
set_option maxHeartbeats 40000000 in
theorem comes_1 {Post : Tables → Env → Array Value → State → Outcome → State → Prop} (hpost : ∀ tb e args s v u, (limb_1_1.after args s (.returned v) u = true ∧ limb_1_2.after args s (.returned v) u = true ∧ True) → FrameEnd s (.returned v) u (Jvm.fieldLocs frame_1_writes args s ++ Jvm.arrayLocs frame_1_arrays args s ++ Jvm.staticLocs frame_1_statics s) 16 128 → Post tb e args s (.returned v) u) :
    ArmFor flags0 classFile x code maxLocals ret World_1 tables_1 room_1 Calls_1 rest_1 Pre_1 Post := by
  intro l hfl _ _ p e ha hc hk s m args below hf hA hF happ hP
  obtain ⟨hcalls, hrest, hpre⟩ := hP
  obtain ⟨-, -, -, hnamed, -, -, -, hat⟩ := (Spec.applies_iff hf).mp happ
  obtain ⟨hg, hn⟩ := and_e (Cond.before_iff.mp (show (Jvm.Cond.and given_1 narrow_1).before args s = true from hpre))
  obtain ⟨h1, g0⟩ := and_e hg
  obtain ⟨t0, g1⟩ := and_e g0
  obtain ⟨t1, g2⟩ := and_e g1
  obtain ⟨t2, g3⟩ := and_e g2
  obtain ⟨t3, g4⟩ := and_e g3
  obtain ⟨w0, w1, w2, w3, w4, rfl⟩ : ∃ w0 w1 w2 w3 w4 : Value, args = #[w0, w1, w2, w3, w4] := by
    have hs : args.size = 5 := by simpa [Cond.value, given_1] using h1
    obtain ⟨L⟩ := args
    match L, hs with
    | [w0, w1, w2, w3, w4], _ => exact ⟨w0, w1, w2, w3, w4, rfl⟩
  have hw := fun d (hd : d ∈ tables_1) => atoms_spec (ws := Jvm.Cond.code x code maxLocals ret :: tables_1) hat d (List.mem_cons_of_mem _ hd)
  obtain ⟨i0, e0⟩ := is_v t0
  obtain rfl : w0 = (.int i0) := Option.some.inj e0
  obtain ⟨i1, e1⟩ := is_v t1
  obtain rfl : w1 = (.int i1) := Option.some.inj e1
  obtain ⟨i2, e2⟩ := is_v t2
  obtain rfl : w2 = (.int i2) := Option.some.inj e2
  obtain ⟨i3, e3⟩ := is_v t3
  obtain rfl : w3 = (.int i3) := Option.some.inj e3
  obtain ⟨i4, e4⟩ := is_v g4
  obtain rfl : w4 = (.int i4) := Option.some.inj e4
  obtain ⟨n, o, h1, h2, h3, hfin⟩ := rm0 l s _ hw tables_1 i0 i1 i2 i3 i4 s.heap s.heap.size (Nat.le_refl _)  p e ha hc hk s m _ below hf ((Spec.applies_iff_loose hf).mp happ).1 ⟨rfl, State.Warmed39.refl s, rfl⟩ trivial
  obtain ⟨_, L, rfl, ⟨rfl, N⟩, hq⟩ := hfin
  refine ⟨n, _, h1, h2, h3, hpost _ _ _ _ _ _ ⟨Cond.after_iff.mpr rfl, Cond.after_iff.mpr (eq_i res_at (Term.int_eval (1)) rfl), trivial⟩ ⟨hq.1, hq.2.1, (hq.2.2.sift fun y hy => Or.inr (N y hy)).mono (by decide) (by decide)⟩⟩
theorem main_1_1 : Claimed_1_1 := comes_1 fun _ _ _ _ _ _ h hF => ⟨h.1, hF⟩
theorem main_1_2 : Claimed_1_2 := comes_1 fun _ _ _ _ _ _ h hF => ⟨h.2.1, hF⟩
end Jvm.Pilot.@@N@@
namespace Jvm.Pilot.@@N@@
open Jvm Jvm.ClassFile Sem Op Lib Jvm.Free Jvm.Stand Jvm.Pilot.@@N@@.Jvm.D
/-! MADE BY PROGRAM (witnessworld.py) out of the Statement's table words and the real class files: 12 classes; the members and pool entries that the words name. The judged class is class 1, her method 1. -/
namespace start1
open Jvm.ClassFile
def u (s : String) : CpInfo := .utf8 (stringToUtf16 s)
/-- a pool by its gaps: so many unusable entries, then the entry; so many at the end -/
def gap : Nat → List CpInfo → List CpInfo
  | 0, r => r
  | n + 1, r => .unusable :: gap n r
def poolList (es : List (Nat × CpInfo)) (last : Nat) : List CpInfo := es.foldr (fun e r => gap e.1 (e.2 :: r)) (gap last [])
def pool (es : List (Nat × CpInfo)) (last : Nat) : Array CpInfo := ⟨poolList es last⟩
def fileOf (pool : Array CpInfo) (this : Nat) (attrs : Array Attribute := #[]) (ms : Array MethodInfo := #[]) (fl : Nat := 33) (sup : Nat := 0) (ifs : Array Nat := #[]) (fds : Array FieldInfo := #[]) : ClassFile where
  minorVersion := 0
  majorVersion := 65
  constantPool := pool
  accessFlags := fl
  thisClass := this
  superClass := sup
  interfaces := ifs
  fields := fds
  methods := ms
  attributes := attrs
def plain (name : String) (sup : Option ClassId) : Class where
  name := name
  kind := .ordinary
  loader := none
  accessFlags := 33
  super := sup
  interfaces := #[]
  cf := none
  fields := #[]
  methods := #[]
  instanceTypes := #[]
  staticTypes := #[]
  resolved := #[]
  callSites := []
  init := .initialized
  statics := none
  mirror := none

def pool0 : Array CpInfo := pool [(5, u "<init>"), (0, u "()V"), (1, .class_ 10), (1, u "java/lang/Object")] 113

def k0c0 : Code := { maxStack := 0, maxLocals := 1, code := object_method_1_code, exceptionTable := #[], attributes := #[] }
def k0m0 : Method := { name := "<init>", desc := "()V", sig := { parameters := [], returnType := none }, accessFlags := 1, code := some k0c0 }
/-- java/lang/Object -/
def k0 : Class := { plain "java/lang/Object" none with
  accessFlags := 33
  interfaces := #[]
  cf := some (fileOf pool0 8 #[] #[{ accessFlags := 1, nameIndex := 5, descriptorIndex := 6, attributes := #[] }] 33 0 #[] #[])
  fields := #[]
  methods := #[k0m0]
  instanceTypes := #[]
  staticTypes := #[]
  resolved := Array.replicate 124 none
  statics := none }

def pool1 : Array CpInfo := pool [(2, .class_ 4), (1, u "java/lang/Object"), (0, u "<init>"), (0, u "()V"), (0, .integer 65535), (0, .class_ 9), (0, u "com/example/binwright/binwright/binning/DistinctValues"), (0, .methodref 8 11), (0, .nameAndType 5 12), (0, u "([D[I)V"), (0, .methodref 8 14), (0, .nameAndType 15 16), (0, u "indexOf"), (0, u "(D)I"), (0, .class_ 18), (0, u "com/example/binwright/binwright/binning/DistinctValuesIndexOfPinLaw"), (2, u "law"), (0, u "(IIIII)Z")] 5

def k1m0 : Method := { name := "<init>", desc := "()V", sig := { parameters := [], returnType := none }, accessFlags := 1, code := none }
def k1c1 : Code := { maxStack := 5, maxLocals := 30, code := code, exceptionTable := #[], attributes := #[] }
def k1m1 : Method := { name := "law", desc := "(IIIII)Z", sig := { parameters := [.int, .int, .int, .int, .int], returnType := some .boolean }, accessFlags := 9, code := some k1c1 }
/-- com/example/binwright/binwright/binning/DistinctValuesIndexOfPinLaw -/
def k1 : Class := { plain "com/example/binwright/binwright/binning/DistinctValuesIndexOfPinLaw" (some 0) with
  accessFlags := 49
  interfaces := #[]
  cf := some (fileOf pool1 17 #[] #[{ accessFlags := 1, nameIndex := 5, descriptorIndex := 6, attributes := #[] }, { accessFlags := 9, nameIndex := 21, descriptorIndex := 22, attributes := #[] }] 49 2 #[] #[])
  fields := #[]
  methods := #[k1m0, k1m1]
  instanceTypes := #[]
  staticTypes := #[]
  resolved := Array.replicate 28 none
  statics := none }

def pool2 : Array CpInfo := pool [(1, .methodref 2 3), (0, .class_ 4), (0, .nameAndType 5 6), (0, u "java/lang/Object"), (0, u "<init>"), (0, u "()V"), (0, .class_ 8), (0, u "java/lang/Record")] 13

def k2c0 : Code := { maxStack := 1, maxLocals := 1, code := jdk_30_method_1_code, exceptionTable := #[], attributes := #[] }
def k2m0 : Method := { name := "<init>", desc := "()V", sig := { parameters := [], returnType := none }, accessFlags := 4, code := some k2c0 }
/-- java/lang/Record -/
def k2 : Class := { plain "java/lang/Record" (some 0) with
  accessFlags := 1057
  interfaces := #[]
  cf := some (fileOf pool2 7 #[] #[{ accessFlags := 4, nameIndex := 5, descriptorIndex := 6, attributes := #[] }] 1057 2 #[] #[])
  fields := #[]
  methods := #[k2m0]
  instanceTypes := #[]
  staticTypes := #[]
  resolved := Array.replicate 22 none
  statics := none }

def pool3 : Array CpInfo := pool [(1, .methodref 2 3), (0, .class_ 4), (0, .nameAndType 5 6), (0, u "java/lang/Record"), (0, u "<init>"), (0, u "()V"), (0, .fieldref 8 9), (0, .class_ 10), (0, .nameAndType 11 12), (0, u "com/example/binwright/binwright/binning/DistinctValues"), (0, u "values"), (0, u "[D"), (0, .fieldref 8 14), (0, .nameAndType 15 16), (0, u "before"), (0, u "[I"), (11, u "([D[I)V"), (20, u "indexOf"), (0, u "(D)I")] 26

def k3c0 : Code := { maxStack := 2, maxLocals := 3, code := prog_6_method_1_code, exceptionTable := #[], attributes := #[] }
def k3m0 : Method := { name := "<init>", desc := "([D[I)V", sig := { parameters := [(.array .double), (.array .int)], returnType := none }, accessFlags := 0, code := some k3c0 }
def k3c1 : Code := { maxStack := 4, maxLocals := 6, code := prog_6_method_3_code, exceptionTable := #[], attributes := #[] }
def k3m1 : Method := { name := "indexOf", desc := "(D)I", sig := { parameters := [.double], returnType := some .int }, accessFlags := 0, code := some k3c1 }
/-- com/example/binwright/binwright/binning/DistinctValues -/
def k3 : Class := { plain "com/example/binwright/binwright/binning/DistinctValues" (some 2) with
  accessFlags := 48
  interfaces := #[]
  cf := some (fileOf pool3 8 #[] #[{ accessFlags := 0, nameIndex := 5, descriptorIndex := 28, attributes := #[] }, { accessFlags := 0, nameIndex := 49, descriptorIndex := 50, attributes := #[] }] 48 2 #[] #[{ accessFlags := 18, nameIndex := 11, descriptorIndex := 12, attributes := #[] }, { accessFlags := 18, nameIndex := 15, descriptorIndex := 16, attributes := #[] }])
  fields := #[{ name := "values", type := (.array .double), accessFlags := 18, slot := 0, constantValue := 0 }, { name := "before", type := (.array .int), accessFlags := 18, slot := 1, constantValue := 0 }]
  methods := #[k3m0, k3m1]
  instanceTypes := #[(.array .double), (.array .int)]
  staticTypes := #[]
  resolved := Array.replicate 77 none
  statics := none }

def pool4 : Array CpInfo := pool [(1, u "java/lang/Cloneable"), (0, .class_ 1), (0, u "java/lang/Object"), (0, .class_ 3)] 3

/-- java/lang/Cloneable -/
def k4 : Class := { plain "java/lang/Cloneable" (some 0) with
  accessFlags := 1537
  interfaces := #[]
  cf := some (fileOf pool4 2 #[] #[] 1537 4 #[] #[])
  fields := #[]
  methods := #[]
  instanceTypes := #[]
  staticTypes := #[]
  resolved := Array.replicate 8 none
  statics := none }

def pool5 : Array CpInfo := pool [(1, u "java/io/Serializable"), (0, .class_ 1), (0, u "java/lang/Object"), (0, .class_ 3)] 3

/-- java/io/Serializable -/
def k5 : Class := { plain "java/io/Serializable" (some 0) with
  accessFlags := 1537
  interfaces := #[]
  cf := some (fileOf pool5 2 #[] #[] 1537 4 #[] #[])
  fields := #[]
  methods := #[]
  instanceTypes := #[]
  staticTypes := #[]
  resolved := Array.replicate 8 none
  statics := none }

/-- the primitive byte -/
def k6 : Class := { plain "byte" none with kind := .primitive 'B', accessFlags := 0x411 }
/-- [B -/
def k7 : Class := { plain "[B" (some 0) with kind := .array 6 .byte, interfaces := #[4, 5], accessFlags := 1041 }

/-- the primitive double -/
def k8 : Class := { plain "double" none with kind := .primitive 'D', accessFlags := 0x411 }
/-- [D -/
def k9 : Class := { plain "[D" (some 0) with kind := .array 8 .double, interfaces := #[4, 5], accessFlags := 1041 }

/-- the primitive int -/
def k10 : Class := { plain "int" none with kind := .primitive 'I', accessFlags := 0x411 }
/-- [I -/
def k11 : Class := { plain "[I" (some 0) with kind := .array 10 .int, interfaces := #[4, 5], accessFlags := 1041 }

def heap : Heap := #[]
def classes : Array Class := #[k0, k1, k2, k3, k4, k5, k6, k7, k8, k9, k10, k11]
def interned : List (Array UInt16 × Addr) := []
def slotsUsed : Nat := 0
def theMethod : MethodId := ⟨1, 1⟩
def args0 : Array Value := #[.int 5, .int 6, .int 7, .int 8, .int 9]
def aboutOver (below : List Frame) : State where
  vm := { classes := classes, interned := interned.toArray }
  heap := heap
  slotsUsed := slotsUsed
  threads := #[{ frames := .invoking theMethod args0 :: below }]
def below0 : List Frame := [.native { method := ⟨0, 0⟩, args := #[] }]
def about1 : State := aboutOver below0
def p0 : Program := .bare "" "" ""
def e0 : Env := launch0.env 0 0 0
theorem w_frames : about1.frames = Frame.invoking theMethod args0 :: below0 := rfl
set_option maxRecDepth 65536 in
theorem w_args : argsFit about1.vm theMethod args0 = true := by decide +kernel
set_option maxRecDepth 65536 in
theorem w_heap : heapFits about1 = true := by decide +kernel
set_option maxRecDepth 65536 in
theorem w_runnable : about1.curStatus? = some .runnable := by decide +kernel
set_option maxRecDepth 65536 in
theorem w_alone : about1.alone = true := by decide +kernel
set_option maxRecDepth 65536 in
theorem w_named : about1.methodNamed? x = some theMethod := by decide +kernel
set_option maxRecDepth 65536 in
theorem w_hears : about1.hears theMethod below0 = true := by decide +kernel
set_option maxRecDepth 65536 in
theorem w_ripe : about1.ripe theMethod args0 below0 = true := by decide +kernel
theorem w_running : about1.status = .running := rfl
set_option maxRecDepth 65536 in
theorem w_room : about1.hasRoom e0.platform room_1 = true :=
  launch0.hasRoom_least _ room_1 (by decide +kernel) (by decide +kernel) (by decide +kernel) (by decide +kernel) (by decide +kernel) (by decide +kernel)
theorem allAtoms_all (ts : List Jvm.Cond) (a : Array Jvm.Value) (st : Jvm.State) : (allAtoms ts).before a st = ts.all (fun c => c.before a st) := by
  induction ts with
  | nil => rfl
  | cons c t ih =>
    show (Jvm.Cond.and c (allAtoms t)).before a st = _
    rw [Jvm.Cond.before_and, ih, List.all_cons]
def words1 : List Jvm.Cond := Jvm.Cond.code x code maxLocals ret :: tables_1
/-- a 'code' word, met by the world's own term for the bytes: nothing is compared byte by byte -/
theorem code_word {y : MethodName} {bytes : ByteArray} {mx : Nat} {rt : Option FieldType} {a : Array Value} {s : State} {m : MethodId} {meth : Method} {c : Code} (h1 : s.methodNamed? y = some m) (h2 : s.vm.method? m = some meth) (h3 : meth.code = some c) (h4 : c.code = bytes)
    (h5 : (c.maxLocals == mx && c.exceptionTable.isEmpty && decide (c.maxStack ≤ mostOperands) && decide (meth.sig.returnType = rt) && !meth.locks && decide (parseMethodDescriptor y.desc = some meth.sig)) = true) : (Jvm.Cond.code y bytes mx rt).before a s = true := by
  simp only [Bool.and_eq_true, beq_iff_eq, Bool.not_eq_true', decide_eq_true_eq] at h5
  obtain ⟨⟨⟨⟨⟨g1, g2⟩, g3⟩, g4⟩, g5⟩, g6⟩ := h5
  simp [Cond.before, Cond.holds, Cond.value, h1, h2, h3, h4, g1, g2, g3, g4, g5, g6]
def isCode : Jvm.Cond → Bool
  | .code _ _ _ _ => true
  | _ => false
theorem all_split {L : List Jvm.Cond} {P : Jvm.Cond → Bool} (h1 : L.all (fun c => isCode c || P c) = true) (h2 : ∀ c ∈ L.filter isCode, P c = true) : L.all P = true := by
  refine List.all_eq_true.mpr fun c hc => ?_
  have h := List.all_eq_true.mp h1 c hc
  rcases Bool.eq_false_or_eq_true (isCode c) with hi | hi
  · exact h2 c (List.mem_filter.mpr ⟨hc, hi⟩)
  · simpa [hi] using h
set_option maxRecDepth 65536 in
theorem w_c0 : (Jvm.Cond.code x code maxLocals ret).before args0 about1 = true := code_word (m := ⟨1, 1⟩) (meth := k1m1) (c := k1c1) (by decide +kernel) rfl rfl rfl (by decide +kernel)
set_option maxRecDepth 65536 in
theorem w_c1 : (Jvm.Cond.code ({ cls := "com/example/binwright/binwright/binning/DistinctValues", name := "<init>", desc := "([D[I)V" } : Jvm.MethodName) prog_6_method_1_code (3 : Nat) (Option.none : Option Jvm.ClassFile.FieldType)).before args0 about1 = true := code_word (m := ⟨3, 0⟩) (meth := k3m0) (c := k3c0) (by decide +kernel) rfl rfl rfl (by decide +kernel)
set_option maxRecDepth 65536 in
theorem w_c2 : (Jvm.Cond.code ({ cls := "java/lang/Record", name := "<init>", desc := "()V" } : Jvm.MethodName) jdk_30_method_1_code (1 : Nat) (Option.none : Option Jvm.ClassFile.FieldType)).before args0 about1 = true := code_word (m := ⟨2, 0⟩) (meth := k2m0) (c := k2c0) (by decide +kernel) rfl rfl rfl (by decide +kernel)
set_option maxRecDepth 65536 in
theorem w_c3 : (Jvm.Cond.code ({ cls := "java/lang/Object", name := "<init>", desc := "()V" } : Jvm.MethodName) object_method_1_code (1 : Nat) (Option.none : Option Jvm.ClassFile.FieldType)).before args0 about1 = true := code_word (m := ⟨0, 0⟩) (meth := k0m0) (c := k0c0) (by decide +kernel) rfl rfl rfl (by decide +kernel)
set_option maxRecDepth 65536 in
theorem w_c4 : (Jvm.Cond.code ({ cls := "com/example/binwright/binwright/binning/DistinctValues", name := "indexOf", desc := "(D)I" } : Jvm.MethodName) prog_6_method_3_code (6 : Nat) (Option.some Jvm.ClassFile.FieldType.int)).before args0 about1 = true := code_word (m := ⟨3, 1⟩) (meth := k3m1) (c := k3c1) (by decide +kernel) rfl rfl rfl (by decide +kernel)
def codes1 : List Jvm.Cond := [Jvm.Cond.code x code maxLocals ret, Jvm.Cond.code ({ cls := "com/example/binwright/binwright/binning/DistinctValues", name := "<init>", desc := "([D[I)V" } : Jvm.MethodName) prog_6_method_1_code (3 : Nat) (Option.none : Option Jvm.ClassFile.FieldType), Jvm.Cond.code ({ cls := "java/lang/Record", name := "<init>", desc := "()V" } : Jvm.MethodName) jdk_30_method_1_code (1 : Nat) (Option.none : Option Jvm.ClassFile.FieldType), Jvm.Cond.code ({ cls := "java/lang/Object", name := "<init>", desc := "()V" } : Jvm.MethodName) object_method_1_code (1 : Nat) (Option.none : Option Jvm.ClassFile.FieldType), Jvm.Cond.code ({ cls := "com/example/binwright/binwright/binning/DistinctValues", name := "indexOf", desc := "(D)I" } : Jvm.MethodName) prog_6_method_3_code (6 : Nat) (Option.some Jvm.ClassFile.FieldType.int)]
set_option maxRecDepth 65536 in
theorem codes_eq : words1.filter isCode = codes1 := rfl
theorem w_codes : ∀ c ∈ words1.filter isCode, c.before args0 about1 = true := by
  rw [codes_eq]
  intro c hc
  simp only [codes1, List.mem_cons, List.not_mem_nil, or_false] at hc
  rcases hc with rfl | rfl | rfl | rfl | rfl
  · exact w_c0
  · exact w_c1
  · exact w_c2
  · exact w_c3
  · exact w_c4
set_option maxRecDepth 65536 in
theorem w_t1 : (words1.take 24).all (fun c => isCode c || c.before args0 about1) = true := by decide +kernel
set_option maxRecDepth 65536 in
theorem w_t2 : (words1.drop 24).all (fun c => isCode c || c.before args0 about1) = true := by decide +kernel
theorem w_tables : (allAtoms (Jvm.Cond.code x code maxLocals ret :: tables_1)).before args0 about1 = true := by
  rw [allAtoms_all]
  show words1.all (fun c => c.before args0 about1) = true
  refine all_split ?_ w_codes
  rw [← List.take_append_drop 24 words1, List.all_append, w_t1, w_t2]
  rfl
set_option maxRecDepth 65536 in
theorem w_case : (Jvm.Cond.and given_1 narrow_1).before args0 about1 = true := by decide +kernel
theorem w_applies : (headSpec (Jvm.Cond.code x code maxLocals ret :: tables_1) room_1).applies x e0.platform about1 = true :=
  (Spec.applies_iff w_frames).mpr ⟨w_running, w_runnable, w_alone, w_named, w_hears, w_ripe, w_room, w_tables⟩
theorem atStart : AtStart classFile x code maxLocals ret World_1 tables_1 room_1 Calls_1 rest_1 Pre_1 launch0 p0 e0 about1 theMethod args0 below0 :=
  ⟨lists_1, trivial, launch0.admits_env _ _ _, launch0.least_env, fairChoices_fair.cas, fairChoices_fair.clock, w_frames, w_args, w_heap, w_applies, trivial, trivial, w_case⟩
end start1
theorem witness_1 : WitnessClaimed_1 := ⟨start1.p0, start1.e0, start1.about1, start1.theMethod, start1.args0, start1.below0, start1.atStart⟩
end Jvm.Pilot.@@N@@
