import JvmDerived
import JvmDerived.Pilot.@@N@@Statement
import JvmDerived.Pilot.@@N@@Code
set_option linter.unusedVariables false
set_option linter.unusedSimpArgs false
namespace Jvm.Pilot.@@N@@
open Jvm Jvm.ClassFile Sem Op Lib Jvm.Free Jvm.Stand Jvm.LawKit Jvm.RoadKit Bundle Jvm.Pilot.@@N@@.Jvm.D
/-! OWN KIT 1: a goal 'the run goes on to a good end', and a block of plain instructions taken in one step (own_blk) -/
def own_Go (tb : Tables) (e : Env) (below : List Frame) (Q : Outcome → State → Prop) (S : State) : Prop :=
  ∃ s₂ o, Steps tb e below S s₂ ∧ s₂.status = .running ∧ Ended s₂ below o ∧ Q o s₂
theorem own_go {tb : Tables} {e : Env} {below : List Frame} {Q : Outcome → State → Prop} {S S' : State} (h : ∀ t, Steps tb e below S' t → Steps tb e below S t) (k : own_Go tb e below Q S') : own_Go tb e below Q S := by
  obtain ⟨s2, o, a, b, c, d⟩ := k
  exact ⟨s2, o, h _ a, b, c, d⟩
/-- what a contract asks of the end -/
def own_Fin (s : State) (C S : Nat) (q : Option Value → Heap → List Loc → Prop) (o : Outcome) (U : State) : Prop :=
  ∃ v L, o = .returned v ∧ q v U.heap L ∧ FrameEnd s o U L C S
/-! local variables as lists -/
def own_nth : List Slot → Nat → Option Slot
  | [], _ => none
  | a :: _, 0 => some a
  | _ :: r, n + 1 => own_nth r n
def own_put : List Slot → Nat → Slot → List Slot
  | [], _, _ => []
  | _ :: r, 0, x => x :: r
  | a :: r, n + 1, x => a :: own_put r n x
theorem own_nth_eq : ∀ (ls : List Slot) (k : Nat), (Array.mk ls)[k]? = own_nth ls k := by
  intro ls k
  show (Array.mk ls)[k]? = _
  rw [List.getElem?_toArray]
  induction ls generalizing k with
  | nil => rfl
  | cons a r ih => cases k with
    | zero => rfl
    | succ n => exact ih n
theorem own_put_eq : ∀ (ls : List Slot) (k : Nat) (x : Slot), (Array.mk ls).setIfInBounds k x = Array.mk (own_put ls k x) := by
  intro ls k x
  have h : ls.set k x = own_put ls k x := by
    induction ls generalizing k with
    | nil => rfl
    | cons a r ih => cases k with
      | zero => rfl
      | succ n => show a :: r.set n x = a :: own_put r n x; rw [ih]
  rw [← h]
  exact List.setIfInBounds_toArray _ _ _
theorem own_nth_lt {ls : List Slot} {k : Nat} {x : Slot} (h : own_nth ls k = some x) : k < (Array.mk ls).size := by
  rw [← own_nth_eq] at h
  exact (Array.getElem?_eq_some_iff.mp h).1
theorem own_size (ls : List Slot) (k : Nat) (x : Slot) : (Array.mk (own_put ls k x)).size = (Array.mk ls).size := by
  rw [← own_put_eq]; exact Array.size_setIfInBounds
theorem own_setAt {ls : List Slot} {k : Nat} (x : Slot) (h : k < (Array.mk ls).size) : setAt (Array.mk ls) k x = some (Array.mk (own_put ls k x)) := by
  rw [← own_put_eq]
  exact if_pos h
def own_self (ls : List Slot) (k : Nat) (v : Value) : Option (List Slot) :=
  match v.category with
  | 2 => match own_nth ls (k + 1) with
    | none => none
    | some .unset => some (own_put (own_put ls k (.val v)) (k + 1) .second)
    | some .second => some (own_put (own_put ls k (.val v)) (k + 1) .second)
    | some (.val w) => match w.category with
      | 2 => match own_nth ls (k + 2) with
        | none => none
        | some _ => some (own_put (own_put (own_put ls k (.val v)) (k + 2) .unset) (k + 1) .second)
      | _ => some (own_put (own_put ls k (.val v)) (k + 1) .second)
  | _ => some (own_put ls k (.val v))
def own_sto (ls : List Slot) (k : Nat) (v : Value) : Option (List Slot) :=
  match own_nth ls k with
  | none => none
  | some .unset => own_self ls k v
  | some .second => own_self (own_put ls (k - 1) .unset) k v
  | some (.val w) => match w.category with
    | 2 => match own_nth ls (k + 1) with
      | none => none
      | some _ => own_self (own_put ls (k + 1) .unset) k v
    | _ => own_self ls k v
theorem own_storeSelf (l : Array Slot) (i : Nat) (v : Value) : storeSelf l i v = (setAt l i (.val v)).bind fun l => if v.category = 2 then l[i + 1]?.bind fun o => (match o with
    | .val old => if old.category = 2 then (setAt l (i + 2) .unset).bind fun l2 => setAt l2 (i + 1) .second else setAt l (i + 1) .second
    | _ => setAt l (i + 1) .second) else some l := rfl
theorem own_storeLocals (l : Array Slot) (i : Nat) (v : Value) : storeLocals l i v = l[i]?.bind fun o => (match o with
    | .second => (setAt l (i - 1) .unset).bind fun l2 => storeSelf l2 i v
    | .val old => if old.category = 2 then (setAt l (i + 1) .unset).bind fun l2 => storeSelf l2 i v else storeSelf l i v
    | .unset => storeSelf l i v) := rfl
theorem own_nth_ne {ls : List Slot} {k j : Nat} {x : Slot} (h : j ≠ k) : own_nth (own_put ls k x) j = own_nth ls j := by
  rw [← own_nth_eq, ← own_nth_eq, ← own_put_eq]
  exact Array.getElem?_setIfInBounds_ne (Ne.symm h)
theorem own_self_ok {ls ls' : List Slot} {k : Nat} {v : Value} (hk : k < (Array.mk ls).size) (h : own_self ls k v = some ls') : storeSelf (Array.mk ls) k v = some (Array.mk ls') := by
  rw [own_storeSelf, own_setAt _ hk]
  show (if v.category = 2 then _ else _) = _
  unfold own_self at h
  split at h
  · rename_i hc
    rw [if_pos hc, own_nth_eq, own_nth_ne (by omega)]
    split at h
    · cases h
    · rename_i hn
      cases h
      rw [hn]
      exact own_setAt _ (by rw [own_size]; exact own_nth_lt hn)
    · rename_i hn
      cases h
      rw [hn]
      exact own_setAt _ (by rw [own_size]; exact own_nth_lt hn)
    · rename_i w hn
      rw [hn]
      show (if w.category = 2 then _ else _) = _
      split at h
      · rename_i hw
        rw [if_pos hw]
        split at h
        · cases h
        · rename_i y hy
          cases h
          rw [own_setAt _ (by rw [own_size]; exact own_nth_lt hy)]
          exact own_setAt _ (by rw [own_size, own_size]; exact own_nth_lt hn)
      · rename_i hw
        cases h
        rw [if_neg (fun q => hw q)]
        exact own_setAt _ (by rw [own_size]; exact own_nth_lt hn)
  · rename_i hc
    cases h
    rw [if_neg (fun q => hc q)]
theorem own_sto_ok {ls ls' : List Slot} {k : Nat} {v : Value} (h : own_sto ls k v = some ls') : storeLocals (Array.mk ls) k v = some (Array.mk ls') := by
  rw [own_storeLocals, own_nth_eq]
  unfold own_sto at h
  split at h
  · cases h
  · rename_i hn
    rw [hn]
    exact own_self_ok (own_nth_lt hn) h
  · rename_i hn
    rw [hn]
    have := own_nth_lt hn
    show ((setAt _ (k - 1) .unset).bind _) = _
    rw [own_setAt _ (by omega)]
    exact own_self_ok (by rw [own_size]; exact this) h
  · rename_i w hn
    rw [hn]
    have := own_nth_lt hn
    show (if w.category = 2 then _ else _) = _
    split at h
    · rename_i hw
      rw [if_pos hw]
      split at h
      · cases h
      · rename_i y hy
        rw [own_setAt _ (own_nth_lt hy)]
        exact own_self_ok (by rw [own_size]; exact this) h
    · rename_i hw
      rw [if_neg (fun q => hw q)]
      exact own_self_ok this h
/-! the conditions of a branch, said of whole numbers -/
def own_c0 : ClassFile.Cond → Int32 → Prop
  | .eq, a => a.toInt = 0
  | .ne, a => a.toInt ≠ 0
  | .lt, a => a.toInt < 0
  | .ge, a => 0 ≤ a.toInt
  | .gt, a => 0 < a.toInt
  | .le, a => a.toInt ≤ 0
def own_ic : ClassFile.Cond → Int32 → Int32 → Prop
  | .eq, a, b => a.toInt = b.toInt
  | .ne, a, b => a.toInt ≠ b.toInt
  | .lt, a, b => a.toInt < b.toInt
  | .ge, a, b => b.toInt ≤ a.toInt
  | .gt, a, b => b.toInt < a.toInt
  | .le, a, b => a.toInt ≤ b.toInt
theorem own_ic_ok (cd : ClassFile.Cond) (a b : Int32) : if_icmp.holds cd a b = true ↔ own_ic cd a b := by
  cases cd
  · show ((a == b) = true) ↔ a.toInt = b.toInt
    rw [beq_iff_eq, Int32.toInt_inj]
  · show ((a != b) = true) ↔ a.toInt ≠ b.toInt
    rw [bne_iff_ne, ne_eq, ne_eq, Int32.toInt_inj]
  · show (decide (a < b) = true) ↔ a.toInt < b.toInt
    rw [decide_eq_true_eq, Int32.lt_iff_toInt_lt]
  · show (decide (a ≥ b) = true) ↔ b.toInt ≤ a.toInt
    rw [decide_eq_true_eq, ge_iff_le, Int32.le_iff_toInt_le]
  · show (decide (a > b) = true) ↔ b.toInt < a.toInt
    rw [decide_eq_true_eq, gt_iff_lt, Int32.lt_iff_toInt_lt]
  · show (decide (a ≤ b) = true) ↔ a.toInt ≤ b.toInt
    rw [decide_eq_true_eq, Int32.le_iff_toInt_le]
theorem own_c0_ok (cd : ClassFile.Cond) (a : Int32) : ifCond.holds cd a = true ↔ own_c0 cd a := by
  have h : ifCond.holds cd a = if_icmp.holds cd a 0 := by cases cd <;> rfl
  rw [h, own_ic_ok]
  cases cd <;> exact Iff.rfl
/-! what is read of an array -/
def own_at (Z : State) (h : Heap) (a : Addr) (ty : FieldType) (j : Int32) (v : Value) : Prop := ∃ cl, Arr Z h a cl ty ∧ ¬ (j < 0 ∨ cl.slots.size ≤ j.toNatClampNeg) ∧ cl.slots[j.toNatClampNeg]? = some v
def own_ln (Z : State) (h : Heap) (a : Addr) (N : Int32) : Prop := ∃ cl ty, Arr Z h a cl ty ∧ cl.slots.size.toInt32 = N
/-! one plain instruction: what it asks (obligations) and where it goes on. ds: the branches' decisions; vs: the values that are read of the heap -/
def own_len : Instr → Nat
  | .iload _ => 2 | .lload _ => 2 | .fload _ => 2 | .dload _ => 2 | .aload _ => 2
  | .istore _ => 2 | .lstore _ => 2 | .fstore _ => 2 | .dstore _ => 2 | .astore _ => 2
  | .bipush _ => 2 | .ldc _ => 2 | .newarray _ => 2
  | .sipush _ => 3 | .ldc_w _ => 3 | .ldc2_w _ => 3 | .iinc _ _ => 3 | .goto _ => 3 | .ifCond _ _ => 3 | .if_icmp _ _ => 3 | .if_acmp _ _ => 3 | .ifnull _ => 3 | .ifnonnull _ => 3
  | .getfield _ => 3 | .putfield _ => 3 | .getstatic _ => 3 | .putstatic _ => 3 | .invokevirtual _ => 3 | .invokespecial _ => 3 | .invokestatic _ => 3 | .new _ => 3 | .anewarray _ => 3 | .checkcast _ => 3 | .instanceof _ => 3
  | .invokeinterface _ _ => 5 | .invokedynamic _ => 5
  | _ => 1
def own_tgt (pc : Nat) : Int → Option Nat
  | .ofNat n => some (pc + n)
  | .negSucc n => bif Nat.ble (n + 1) pc then some (pc - (n + 1)) else none
theorem own_tgt_ok {pc t : Nat} {o : Int} (h : own_tgt pc o = some t) : 0 ≤ (pc : Int) + o ∧ ((pc : Int) + o).toNat = t := by
  cases o with
  | ofNat n =>
    have h1 : pc + n = t := Option.some.inj h
    rw [Int.ofNat_eq_natCast]
    omega
  | negSucc n =>
    have h1 : (bif Nat.ble (n + 1) pc then some (pc - (n + 1)) else none) = some t := h
    cases hb : Nat.ble (n + 1) pc with
    | false => rw [hb] at h1; cases h1
    | true =>
      rw [hb] at h1
      have h2 : pc - (n + 1) = t := Option.some.inj h1
      have h3 := Nat.le_of_ble_eq_true hb
      rw [Int.negSucc_eq]
      omega
def own_key : List (Nat × Value) → Nat → Option Value
  | [], _ => none
  | (q, v) :: r, k => bif Nat.beq q k then some v else own_key r k
def own_fld : List (Nat × String × String × String) → Nat → Option (String × String × String)
  | [], _ => none
  | (q, v) :: r, k => bif Nat.beq q k then some v else own_fld r k
def own_ldI (ls : List Slot) (j : Nat) (k : Value → Prop) : Prop := match own_nth ls j with | some (.val (.int v)) => k (.int v) | _ => False
def own_ldL (ls : List Slot) (j : Nat) (k : Value → Prop) : Prop := match own_nth ls j with | some (.val (.long v)) => k (.long v) | _ => False
def own_ldD (ls : List Slot) (j : Nat) (k : Value → Prop) : Prop := match own_nth ls j with | some (.val (.double v)) => k (.double v) | _ => False
def own_ldA (ls : List Slot) (j : Nat) (k : Value → Prop) : Prop := match own_nth ls j with | some (.val (.ref a)) => k (.ref a) | some (.val .null) => k .null | _ => False
def own_stI (ls : List Slot) (st : List Value) (j : Nat) (k : List Slot → List Value → Prop) : Prop := match st with | .int x :: r => (match own_sto ls j (.int x) with | some l => k l r | none => False) | _ => False
def own_stL (ls : List Slot) (st : List Value) (j : Nat) (k : List Slot → List Value → Prop) : Prop := match st with | .long x :: r => (match own_sto ls j (.long x) with | some l => k l r | none => False) | _ => False
def own_stD (ls : List Slot) (st : List Value) (j : Nat) (k : List Slot → List Value → Prop) : Prop := match st with | .double x :: r => (match own_sto ls j (.double x) with | some l => k l r | none => False) | _ => False
def own_stA (ls : List Slot) (st : List Value) (j : Nat) (k : List Slot → List Value → Prop) : Prop := match st with | .ref x :: r => (match own_sto ls j (.ref x) with | some l => k l r | none => False) | .null :: r => (match own_sto ls j .null with | some l => k l r | none => False) | _ => False
def own_i1 (st : List Value) (f : Int32 → Value) (k : List Value → Prop) : Prop := match st with | .int x :: r => k (f x :: r) | _ => False
def own_l1 (st : List Value) (f : Int64 → Value) (k : List Value → Prop) : Prop := match st with | .long x :: r => k (f x :: r) | _ => False
def own_i2 (st : List Value) (g : Int32 → Int32 → Prop) (f : Int32 → Int32 → Value) (k : List Value → Prop) : Prop := match st with | .int y :: .int x :: r => g x y ∧ k (f x y :: r) | _ => False
def own_p2 (st : List Value) (f : Int32 → Int32 → Value) (k : List Value → Prop) : Prop := match st with | .int y :: .int x :: r => k (f x y :: r) | _ => False
def own_q2 (st : List Value) (f : Int64 → Int64 → Value) (k : List Value → Prop) : Prop := match st with | .long y :: .long x :: r => k (f x y :: r) | _ => False
def own_l2 (st : List Value) (g : Int64 → Int64 → Prop) (f : Int64 → Int64 → Value) (k : List Value → Prop) : Prop := match st with | .long y :: .long x :: r => g x y ∧ k (f x y :: r) | _ => False
def own_li (st : List Value) (f : Int64 → Int32 → Value) (k : List Value → Prop) : Prop := match st with | .int y :: .long x :: r => k (f x y :: r) | _ => False
def own_d2 (st : List Value) (f : UInt64 → UInt64 → UInt64) (k : List Value → Prop) : Prop := match st with | .double y :: .double x :: r => Jvm.Free.Fl.NoNaN64 (f x y) ∧ k (.double (f x y) :: r) | _ => False
def own_ca (st : List Value) (k : List Value → Prop) : Prop := match st with | x :: r => (match x.category with | 1 => k (x :: r) | _ => False) | _ => False
def own_al (Z : State) (h : Heap) (ty : FieldType) (st : List Value) (vs : List Value) (k : List Value → List Value → Prop) : Prop :=
  match st with | .int j :: .ref a :: r => (match vs with | v :: vs' => own_at Z h a ty j v ∧ k vs' (v :: r) | [] => False) | _ => False
def own_br (ds : List Bool) (C : Prop) (kt kn : List Bool → Prop) : Prop :=
  match ds with | true :: d => C ∧ kt d | false :: d => (¬ C) ∧ kn d | [] => False
def own_jp (pc : Nat) (o : Int) (k : Nat → Prop) : Prop := match own_tgt pc o with | some t => k t | none => False
def own_st (Kt : List (Nat × Value)) (Ft : List (Nat × String × String × String)) (Z : State) (h : Heap) (i : Instr) (pc : Nat) (ds : List Bool) (vs : List Value) (ls : List Slot) (st : List Value)
    (kf : List Bool → List Value → List Slot → List Value → Prop) (kj : Nat → List Bool → List Value → List Slot → List Value → Prop) : Prop :=
  match i with
  | .iload j => own_ldI ls j fun v => kf ds vs ls (v :: st)
  | .iload_n j => own_ldI ls j.val fun v => kf ds vs ls (v :: st)
  | .lload j => own_ldL ls j fun v => kf ds vs ls (v :: st)
  | .lload_n j => own_ldL ls j.val fun v => kf ds vs ls (v :: st)
  | .dload j => own_ldD ls j fun v => kf ds vs ls (v :: st)
  | .dload_n j => own_ldD ls j.val fun v => kf ds vs ls (v :: st)
  | .aload j => own_ldA ls j fun v => kf ds vs ls (v :: st)
  | .aload_n j => own_ldA ls j.val fun v => kf ds vs ls (v :: st)
  | .istore j => own_stI ls st j fun l r => kf ds vs l r
  | .istore_n j => own_stI ls st j.val fun l r => kf ds vs l r
  | .lstore j => own_stL ls st j fun l r => kf ds vs l r
  | .lstore_n j => own_stL ls st j.val fun l r => kf ds vs l r
  | .dstore j => own_stD ls st j fun l r => kf ds vs l r
  | .dstore_n j => own_stD ls st j.val fun l r => kf ds vs l r
  | .astore j => own_stA ls st j fun l r => kf ds vs l r
  | .astore_n j => own_stA ls st j.val fun l r => kf ds vs l r
  | .iconst n => kf ds vs ls (.int (Int32.ofInt n) :: st)
  | .bipush n => (match vs with | .int v :: vs' => (Int8.ofInt n).toInt32 = v ∧ kf ds vs' ls (.int v :: st) | _ => False)
  | .sipush n => (match vs with | .int v :: vs' => (Int16.ofInt n).toInt32 = v ∧ kf ds vs' ls (.int v :: st) | _ => False)
  | .lconst n => kf ds vs ls (.long (Int64.ofNat n) :: st)
  | .dconst n => kf ds vs ls (.double (match n.val with | 0 => 0 | _ => 4607182418800017408) :: st)
  | .aconst_null => kf ds vs ls (.null :: st)
  | .ldc n => (match own_key Kt n with | some (.int v) => kf ds vs ls (.int v :: st) | _ => False)
  | .ldc2_w n => (match own_key Kt n with | some (.long v) => kf ds vs ls (.long v :: st) | some (.double v) => kf ds vs ls (.double v :: st) | _ => False)
  | .iadd => own_p2 st (fun x y => .int (x + y)) fun r => kf ds vs ls r
  | .isub => own_p2 st (fun x y => .int (x - y)) fun r => kf ds vs ls r
  | .imul => own_p2 st (fun x y => .int (x * y)) fun r => kf ds vs ls r
  | .idiv => own_i2 st (fun _ y => y ≠ 0) (fun x y => .int (x / y)) fun r => kf ds vs ls r
  | .irem => own_i2 st (fun _ y => y ≠ 0) (fun x y => .int (x % y)) fun r => kf ds vs ls r
  | .iand => own_p2 st (fun x y => .int (x &&& y)) fun r => kf ds vs ls r
  | .ior => own_p2 st (fun x y => .int (x ||| y)) fun r => kf ds vs ls r
  | .ixor => own_p2 st (fun x y => .int (x ^^^ y)) fun r => kf ds vs ls r
  | .ishl => own_p2 st (fun x y => .int (x <<< (y &&& 31))) fun r => kf ds vs ls r
  | .ishr => own_p2 st (fun x y => .int (x >>> (y &&& 31))) fun r => kf ds vs ls r
  | .iushr => own_p2 st (fun x y => .int (Jvm.Free.XT.ushr x y)) fun r => kf ds vs ls r
  | .ineg => own_i1 st (fun x => .int (-x)) fun r => kf ds vs ls r
  | .i2l => own_i1 st (fun x => .long x.toInt64) fun r => kf ds vs ls r
  | .i2b => own_i1 st (fun x => .int x.toInt8.toInt32) fun r => kf ds vs ls r
  | .i2s => own_i1 st (fun x => .int x.toInt16.toInt32) fun r => kf ds vs ls r
  | .i2c => own_i1 st (fun x => .int x.toUInt32.toUInt16.toUInt32.toInt32) fun r => kf ds vs ls r
  | .i2d => own_i1 st (fun x => .double (FP.i2d x)) fun r => kf ds vs ls r
  | .l2i => own_l1 st (fun x => .int x.toInt32) fun r => kf ds vs ls r
  | .l2d => own_l1 st (fun x => .double (FP.l2d x)) fun r => kf ds vs ls r
  | .ladd => own_q2 st (fun x y => .long (x + y)) fun r => kf ds vs ls r
  | .lsub => own_q2 st (fun x y => .long (x - y)) fun r => kf ds vs ls r
  | .lmul => own_q2 st (fun x y => .long (x * y)) fun r => kf ds vs ls r
  | .ldiv => own_l2 st (fun _ y => y ≠ 0) (fun x y => .long (x / y)) fun r => kf ds vs ls r
  | .land => own_q2 st (fun x y => .long (x &&& y)) fun r => kf ds vs ls r
  | .lneg => own_l1 st (fun x => .long (-x)) fun r => kf ds vs ls r
  | .lshr => own_li st (fun x y => .long (x >>> (y.toInt64 &&& 63))) fun r => kf ds vs ls r
  | .lushr => own_li st (fun x y => .long (Jvm.Free.XT.ushrL x y)) fun r => kf ds vs ls r
  | .lcmp => own_q2 st (fun x y => .int (Jvm.Free.XT.cmpL x y)) fun r => kf ds vs ls r
  | .dadd => own_d2 st FP.dadd fun r => kf ds vs ls r
  | .dsub => own_d2 st FP.dsub fun r => kf ds vs ls r
  | .dmul => own_d2 st FP.dmul fun r => kf ds vs ls r
  | .ddiv => own_d2 st FP.ddiv fun r => kf ds vs ls r
  | .dneg => (match st with | .double x :: r => kf ds vs ls (.double (FP.dneg x) :: r) | _ => False)
  | .dcmp o => (match st with | .double y :: .double x :: r => kf ds vs ls (.int (cmpValue (FP.dcmp x y) o) :: r) | _ => False)
  | .iinc j n => (match own_nth ls j with | some (.val (.int x)) => (match own_sto ls j (.int (x + Int32.ofInt n)) with | some l => kf ds vs l st | none => False) | _ => False)
  | .dup => own_ca st fun st => (match st with | x :: r => kf ds vs ls (x :: x :: r) | _ => False)
  | .pop => own_ca st fun st => (match st with | _ :: r => kf ds vs ls r | _ => False)
  | .dup2 => own_ca st fun st => (match st with | x :: r => own_ca r fun r => (match r with | y :: q => kf ds vs ls (x :: y :: x :: y :: q) | _ => False) | _ => False)
  | .dup_x1 => own_ca st fun st => (match st with | x :: r => own_ca r fun r => (match r with | y :: q => kf ds vs ls (x :: y :: x :: q) | _ => False) | _ => False)
  | .goto o => own_jp pc o fun t => kj t ds vs ls st
  | .ifCond cd o => (match st with | .int x :: r => own_br ds (own_c0 cd x) (fun d => own_jp pc o fun t => kj t d vs ls r) (fun d => kf d vs ls r) | _ => False)
  | .if_icmp cd o => (match st with | .int y :: .int x :: r => own_br ds (own_ic cd x y) (fun d => own_jp pc o fun t => kj t d vs ls r) (fun d => kf d vs ls r) | _ => False)
  | .ifnull o => (match st with | .null :: r => own_jp pc o fun t => kj t ds vs ls r | .ref _ :: r => kf ds vs ls r | _ => False)
  | .ifnonnull o => (match st with | .ref _ :: r => own_jp pc o fun t => kj t ds vs ls r | .null :: r => kf ds vs ls r | _ => False)
  | .arraylength => (match st with | .ref a :: r => (match vs with | .int N :: vs' => own_ln Z h a N ∧ kf ds vs' ls (.int N :: r) | _ => False) | _ => False)
  | .iaload => own_al Z h .int st vs fun vs' r => kf ds vs' ls r
  | .daload => own_al Z h .double st vs fun vs' r => kf ds vs' ls r
  | .laload => own_al Z h .long st vs fun vs' r => kf ds vs' ls r
  | .getfield n => (match st with | .ref a :: r => (match vs with | v :: vs' => (match own_fld Ft n with | some (C, f, d) => Fld Z h a C f d v ∧ kf ds vs' ls (v :: r) | none => False) | [] => False) | _ => False)
  | _ => False
theorem own_ldI_e {ls : List Slot} {j : Nat} {k : Value → Prop} (H : own_ldI ls j k) : ∃ v, own_nth ls j = some (.val (.int v)) ∧ k (.int v) := by
  unfold own_ldI at H
  split at H
  · exact ⟨_, by assumption, H⟩
  · exact H.elim
theorem own_ldL_e {ls : List Slot} {j : Nat} {k : Value → Prop} (H : own_ldL ls j k) : ∃ v, own_nth ls j = some (.val (.long v)) ∧ k (.long v) := by
  unfold own_ldL at H
  split at H
  · exact ⟨_, by assumption, H⟩
  · exact H.elim
theorem own_ldD_e {ls : List Slot} {j : Nat} {k : Value → Prop} (H : own_ldD ls j k) : ∃ v, own_nth ls j = some (.val (.double v)) ∧ k (.double v) := by
  unfold own_ldD at H
  split at H
  · exact ⟨_, by assumption, H⟩
  · exact H.elim
theorem own_ldA_e {ls : List Slot} {j : Nat} {k : Value → Prop} (H : own_ldA ls j k) : ∃ v, own_nth ls j = some (.val v) ∧ v.isRef = true ∧ k v := by
  unfold own_ldA at H
  split at H
  · exact ⟨_, by assumption, rfl, H⟩
  · exact ⟨_, by assumption, rfl, H⟩
  · exact H.elim
theorem own_stI_e {ls : List Slot} {st : List Value} {j : Nat} {k : List Slot → List Value → Prop} (H : own_stI ls st j k) : ∃ x r l, st = .int x :: r ∧ storeLocals (Array.mk ls) j (.int x) = some (Array.mk l) ∧ k l r := by
  unfold own_stI at H
  split at H
  · split at H
    · exact ⟨_, _, _, rfl, own_sto_ok (by assumption), H⟩
    · exact H.elim
  · exact H.elim
theorem own_stL_e {ls : List Slot} {st : List Value} {j : Nat} {k : List Slot → List Value → Prop} (H : own_stL ls st j k) : ∃ x r l, st = .long x :: r ∧ storeLocals (Array.mk ls) j (.long x) = some (Array.mk l) ∧ k l r := by
  unfold own_stL at H
  split at H
  · split at H
    · exact ⟨_, _, _, rfl, own_sto_ok (by assumption), H⟩
    · exact H.elim
  · exact H.elim
theorem own_stD_e {ls : List Slot} {st : List Value} {j : Nat} {k : List Slot → List Value → Prop} (H : own_stD ls st j k) : ∃ x r l, st = .double x :: r ∧ storeLocals (Array.mk ls) j (.double x) = some (Array.mk l) ∧ k l r := by
  unfold own_stD at H
  split at H
  · split at H
    · exact ⟨_, _, _, rfl, own_sto_ok (by assumption), H⟩
    · exact H.elim
  · exact H.elim
theorem own_stA_e {ls : List Slot} {st : List Value} {j : Nat} {k : List Slot → List Value → Prop} (H : own_stA ls st j k) : ∃ x r l, st = x :: r ∧ x.isRef = true ∧ storeLocals (Array.mk ls) j x = some (Array.mk l) ∧ k l r := by
  unfold own_stA at H
  split at H
  · split at H
    · exact ⟨_, _, _, rfl, rfl, own_sto_ok (by assumption), H⟩
    · exact H.elim
  · split at H
    · exact ⟨_, _, _, rfl, rfl, own_sto_ok (by assumption), H⟩
    · exact H.elim
  · exact H.elim
theorem own_i1_e {st : List Value} {f : Int32 → Value} {k : List Value → Prop} (H : own_i1 st f k) : ∃ x r, st = .int x :: r ∧ k (f x :: r) := by
  unfold own_i1 at H
  split at H
  · exact ⟨_, _, rfl, H⟩
  · exact H.elim
theorem own_l1_e {st : List Value} {f : Int64 → Value} {k : List Value → Prop} (H : own_l1 st f k) : ∃ x r, st = .long x :: r ∧ k (f x :: r) := by
  unfold own_l1 at H
  split at H
  · exact ⟨_, _, rfl, H⟩
  · exact H.elim
theorem own_i2_e {st : List Value} {g : Int32 → Int32 → Prop} {f : Int32 → Int32 → Value} {k : List Value → Prop} (H : own_i2 st g f k) : ∃ x y r, st = .int y :: .int x :: r ∧ g x y ∧ k (f x y :: r) := by
  unfold own_i2 at H
  split at H
  · exact ⟨_, _, _, rfl, H⟩
  · exact H.elim
theorem own_p2_e {st : List Value} {f : Int32 → Int32 → Value} {k : List Value → Prop} (H : own_p2 st f k) : ∃ x y r, st = .int y :: .int x :: r ∧ k (f x y :: r) := by
  unfold own_p2 at H
  split at H
  · exact ⟨_, _, _, rfl, H⟩
  · exact H.elim
theorem own_l2_e {st : List Value} {g : Int64 → Int64 → Prop} {f : Int64 → Int64 → Value} {k : List Value → Prop} (H : own_l2 st g f k) : ∃ x y r, st = .long y :: .long x :: r ∧ g x y ∧ k (f x y :: r) := by
  unfold own_l2 at H
  split at H
  · exact ⟨_, _, _, rfl, H⟩
  · exact H.elim
theorem own_q2_e {st : List Value} {f : Int64 → Int64 → Value} {k : List Value → Prop} (H : own_q2 st f k) : ∃ x y r, st = .long y :: .long x :: r ∧ k (f x y :: r) := by
  unfold own_q2 at H
  split at H
  · exact ⟨_, _, _, rfl, H⟩
  · exact H.elim
theorem own_li_e {st : List Value} {f : Int64 → Int32 → Value} {k : List Value → Prop} (H : own_li st f k) : ∃ x y r, st = .int y :: .long x :: r ∧ k (f x y :: r) := by
  unfold own_li at H
  split at H
  · exact ⟨_, _, _, rfl, H⟩
  · exact H.elim
theorem own_d2_e {st : List Value} {f : UInt64 → UInt64 → UInt64} {k : List Value → Prop} (H : own_d2 st f k) : ∃ x y r, st = .double y :: .double x :: r ∧ Jvm.Free.Fl.NoNaN64 (f x y) ∧ k (.double (f x y) :: r) := by
  unfold own_d2 at H
  split at H
  · exact ⟨_, _, _, rfl, H⟩
  · exact H.elim
theorem own_ca_e {st : List Value} {k : List Value → Prop} (H : own_ca st k) : ∃ x r, st = x :: r ∧ x.category = 1 ∧ k (x :: r) := by
  unfold own_ca at H
  split at H
  · split at H
    · exact ⟨_, _, rfl, by assumption, H⟩
    · exact H.elim
  · exact H.elim
theorem own_al_e {Z : State} {h : Heap} {ty : FieldType} {st vs : List Value} {k : List Value → List Value → Prop} (H : own_al Z h ty st vs k) : ∃ j a r v vs', st = .int j :: .ref a :: r ∧ vs = v :: vs' ∧ own_at Z h a ty j v ∧ k vs' (v :: r) := by
  unfold own_al at H
  split at H
  · split at H
    · exact ⟨_, _, _, _, _, rfl, rfl, H⟩
    · exact H.elim
  · exact H.elim
theorem own_br_e {ds : List Bool} {C : Prop} {kt kn : List Bool → Prop} (H : own_br ds C kt kn) : (C ∧ ∃ d, kt d) ∨ ((¬ C) ∧ ∃ d, kn d) := by
  unfold own_br at H
  split at H
  · exact Or.inl ⟨H.1, _, H.2⟩
  · exact Or.inr ⟨H.1, _, H.2⟩
  · exact H.elim
theorem own_jp_e {pc : Nat} {o : Int} {k : Nat → Prop} (H : own_jp pc o k) : ∃ t, 0 ≤ (pc : Int) + o ∧ ((pc : Int) + o).toNat = t ∧ k t := by
  unfold own_jp at H
  split at H
  · rename_i t ht
    exact ⟨t, (own_tgt_ok ht).1, (own_tgt_ok ht).2, H⟩
  · exact H.elim
def own_kw (own : String) (a0 : Array Value) (Z : State) : Nat × Value → Prop
  | (n, .int v) => (Jvm.Cond.constant own n v).before a0 Z = true
  | (n, .long v) => (Jvm.Cond.constantLong own n v).before a0 Z = true
  | (n, .double v) => (Jvm.Cond.constantDouble own n v).before a0 Z = true
  | _ => False
def own_ks (own : String) (a0 : Array Value) (Z : State) : List (Nat × Value) → Prop
  | [] => True
  | x :: r => own_kw own a0 Z x ∧ own_ks own a0 Z r
def own_fs (own : String) (a0 : Array Value) (Z : State) : List (Nat × String × String × String) → Prop
  | [] => True
  | (n, C, f, d) :: r => (Jvm.Cond.fieldLink own n C f d).before a0 Z = true ∧ own_fs own a0 Z r
theorem own_key_e {own : String} {a0 : Array Value} {Z : State} {n : Nat} {v : Value} : ∀ {Kt : List (Nat × Value)}, own_ks own a0 Z Kt → own_key Kt n = some v → own_kw own a0 Z (n, v)
  | [], _, h => by cases h
  | (q, w) :: r, hk, h => by
    have h' : (bif Nat.beq q n then some w else own_key r n) = some v := h
    cases hb : Nat.beq q n with
    | true =>
      rw [hb] at h'
      have e1 : w = v := Option.some.inj h'
      have e2 := Nat.eq_of_beq_eq_true hb
      subst e1 e2
      exact hk.1
    | false =>
      rw [hb] at h'
      exact own_key_e hk.2 h'
theorem own_fld_e {own : String} {a0 : Array Value} {Z : State} {n : Nat} {C f d : String} : ∀ {Ft : List (Nat × String × String × String)}, own_fs own a0 Z Ft → own_fld Ft n = some (C, f, d) → (Jvm.Cond.fieldLink own n C f d).before a0 Z = true
  | [], _, h => by cases h
  | (q, C', f', d') :: r, hk, h => by
    have h' : (bif Nat.beq q n then some (C', f', d') else own_fld r n) = some (C, f, d) := h
    cases hb : Nat.beq q n with
    | true =>
      rw [hb] at h'
      have e1 : (C', f', d') = (C, f, d) := Option.some.inj h'
      have e2 := Nat.eq_of_beq_eq_true hb
      cases e1
      subst e2
      exact hk.1
    | false =>
      rw [hb] at h'
      exact own_fld_e hk.2 h'
section OwnRun
variable {p : Program} {l : Launch} {e : Env} {R : Room} {s : State} {m : MethodId} {args : Array Value} {below : List Frame} {meth : Method} {c : Code} {T : State} {locs : List Loc} {cells slots : Nat} {Z : State} {a0 : Array Value} {h : Heap} {Q : Outcome → State → Prop} {own : String}
/-- the run goes on well from pc with these locals and this stack, at whatever state of the same heap -/
def own_Aft (X : Stand p l e R s m args below meth c T locs cells slots) (h : Heap) (Q : Outcome → State → Prop) (pc : Nat) (ls : List Slot) (st : List Value) : Prop :=
  ∀ T', Stand p l e R s m args below meth c T' locs cells slots → T'.heap = h → own_Go p.tables e below Q (T'.setTop (mkF m pc (Array.mk ls) st))
set_option maxHeartbeats 4000000 in
theorem own_st_ok (X : Stand p l e R s m args below meth c T locs cells slots) (hx : p.tables.exec = Jvm.exec) (hZ : Z.Warmed39 s.vm) (hown : s.vm.findClass own = some m.cls) (eT : T.heap = h) {Kt : List (Nat × Value)} {Ft : List (Nat × String × String × String)} (hK : own_ks own a0 Z Kt) (hF : own_fs own a0 Z Ft)
    {i : Instr} {pc : Nat} (hd : decode c.code pc = .ok (i, own_len i)) {ds : List Bool} {vs : List Value} {ls : List Slot} {st : List Value} {kf : List Bool → List Value → List Slot → List Value → Prop} {kj : Nat → List Bool → List Value → List Slot → List Value → Prop}
    (H : own_st Kt Ft Z h i pc ds vs ls st kf kj) (Hf : ∀ ds vs ls st, kf ds vs ls st → own_Aft X h Q (pc + own_len i) ls st) (Hj : ∀ t ds vs ls st, kj t ds vs ls st → own_Aft X h Q t ls st) :
    own_Go p.tables e below Q (T.setTop (mkF m pc (Array.mk ls) st)) := by
  cases i with
  | iload j =>
    have H : (own_ldI ls j fun v => kf ds vs ls (v :: st)) := H
    obtain ⟨v, hn, hk⟩ := own_ldI_e H
    exact own_go (fun t k => XS.iload X.here hx rfl hd ((own_nth_eq _ _).trans hn) k) (Hf _ _ _ _ hk T X eT)
  | iload_n j =>
    have H : (own_ldI ls j.val fun v => kf ds vs ls (v :: st)) := H
    obtain ⟨v, hn, hk⟩ := own_ldI_e H
    exact own_go (fun t k => XS.iloadN X.here hx rfl hd ((own_nth_eq _ _).trans hn) k) (Hf _ _ _ _ hk T X eT)
  | lload j =>
    have H : (own_ldL ls j fun v => kf ds vs ls (v :: st)) := H
    obtain ⟨v, hn, hk⟩ := own_ldL_e H
    exact own_go (fun t k => XT.lload X.here hx rfl hd ((own_nth_eq _ _).trans hn) k) (Hf _ _ _ _ hk T X eT)
  | lload_n j =>
    have H : (own_ldL ls j.val fun v => kf ds vs ls (v :: st)) := H
    obtain ⟨v, hn, hk⟩ := own_ldL_e H
    exact own_go (fun t k => XT.lloadN X.here hx rfl hd ((own_nth_eq _ _).trans hn) k) (Hf _ _ _ _ hk T X eT)
  | dload j =>
    have H : (own_ldD ls j fun v => kf ds vs ls (v :: st)) := H
    obtain ⟨v, hn, hk⟩ := own_ldD_e H
    exact own_go (fun t k => XS.dload X.here hx rfl hd ((own_nth_eq _ _).trans hn) k) (Hf _ _ _ _ hk T X eT)
  | dload_n j =>
    have H : (own_ldD ls j.val fun v => kf ds vs ls (v :: st)) := H
    obtain ⟨v, hn, hk⟩ := own_ldD_e H
    exact own_go (fun t k => XS.dloadN X.here hx rfl hd ((own_nth_eq _ _).trans hn) k) (Hf _ _ _ _ hk T X eT)
  | aload j =>
    have H : (own_ldA ls j fun v => kf ds vs ls (v :: st)) := H
    obtain ⟨v, hn, hv, hk⟩ := own_ldA_e H
    exact own_go (fun t k => XS.aload X.here hx rfl hd ((own_nth_eq _ _).trans hn) hv k) (Hf _ _ _ _ hk T X eT)
  | aload_n j =>
    have H : (own_ldA ls j.val fun v => kf ds vs ls (v :: st)) := H
    obtain ⟨v, hn, hv, hk⟩ := own_ldA_e H
    exact own_go (fun t k => XS.aloadN X.here hx rfl hd ((own_nth_eq _ _).trans hn) hv k) (Hf _ _ _ _ hk T X eT)
  | istore j =>
    have H : (own_stI ls st j fun l r => kf ds vs l r) := H
    obtain ⟨x, r, l', rfl, hl, hk⟩ := own_stI_e H
    exact own_go (fun t k => XS.istore X.here hx rfl hd rfl hl k) (Hf _ _ _ _ hk T X eT)
  | istore_n j =>
    have H : (own_stI ls st j.val fun l r => kf ds vs l r) := H
    obtain ⟨x, r, l', rfl, hl, hk⟩ := own_stI_e H
    exact own_go (fun t k => XS.istoreN X.here hx rfl hd rfl hl k) (Hf _ _ _ _ hk T X eT)
  | lstore j =>
    have H : (own_stL ls st j fun l r => kf ds vs l r) := H
    obtain ⟨x, r, l', rfl, hl, hk⟩ := own_stL_e H
    exact own_go (fun t k => XT.lstore X.here hx rfl hd rfl hl k) (Hf _ _ _ _ hk T X eT)
  | lstore_n j =>
    have H : (own_stL ls st j.val fun l r => kf ds vs l r) := H
    obtain ⟨x, r, l', rfl, hl, hk⟩ := own_stL_e H
    exact own_go (fun t k => XT.lstoreN X.here hx rfl hd rfl hl k) (Hf _ _ _ _ hk T X eT)
  | dstore j =>
    have H : (own_stD ls st j fun l r => kf ds vs l r) := H
    obtain ⟨x, r, l', rfl, hl, hk⟩ := own_stD_e H
    exact own_go (fun t k => XS.dstore X.here hx rfl hd rfl hl k) (Hf _ _ _ _ hk T X eT)
  | dstore_n j =>
    have H : (own_stD ls st j.val fun l r => kf ds vs l r) := H
    obtain ⟨x, r, l', rfl, hl, hk⟩ := own_stD_e H
    exact own_go (fun t k => XS.dstoreN X.here hx rfl hd rfl hl k) (Hf _ _ _ _ hk T X eT)
  | astore j =>
    have H : (own_stA ls st j fun l r => kf ds vs l r) := H
    obtain ⟨x, r, l', rfl, hv, hl, hk⟩ := own_stA_e H
    exact own_go (fun t k => XS.astore X.here hx rfl hd rfl hv hl k) (Hf _ _ _ _ hk T X eT)
  | astore_n j =>
    have H : (own_stA ls st j.val fun l r => kf ds vs l r) := H
    obtain ⟨x, r, l', rfl, hv, hl, hk⟩ := own_stA_e H
    exact own_go (fun t k => XS.astoreN X.here hx rfl hd rfl hv hl k) (Hf _ _ _ _ hk T X eT)
  | iconst n => exact own_go (fun t k => XS.iconst X.here hx rfl hd k) (Hf _ _ _ _ H T X eT)
  | bipush n =>
    have H' : (match (generalizing := false) vs with | .int v :: vs' => (Int8.ofInt n).toInt32 = v ∧ kf ds vs' ls (.int v :: st) | _ => False) := H
    split at H'
    · obtain ⟨hv, hk⟩ := H'
      subst hv
      exact own_go (fun t k => XS.bipush X.here hx rfl hd k) (Hf _ _ _ _ hk T X eT)
    · exact H'.elim
  | sipush n =>
    have H' : (match (generalizing := false) vs with | .int v :: vs' => (Int16.ofInt n).toInt32 = v ∧ kf ds vs' ls (.int v :: st) | _ => False) := H
    split at H'
    · obtain ⟨hv, hk⟩ := H'
      subst hv
      exact own_go (fun t k => XS.sipush X.here hx rfl hd k) (Hf _ _ _ _ hk T X eT)
    · exact H'.elim
  | lconst n => exact own_go (fun t k => XT.lconst X.here hx rfl hd k) (Hf _ _ _ _ H T X eT)
  | dconst n =>
    match n, hd, H, Hf with
    | ⟨0, _⟩, hd, H, Hf => exact own_go (fun t k => XS.dconst0 X.here hx rfl hd rfl k) (Hf _ _ _ _ H T X eT)
    | ⟨1, _⟩, hd, H, Hf => exact own_go (fun t k => XS.dconst1 X.here hx rfl hd rfl k) (Hf _ _ _ _ H T X eT)
  | aconst_null => exact own_go (fun t k => XS.aconstNull X.here hx rfl hd k) (Hf _ _ _ _ H T X eT)
  | ldc n =>
    have H' : (match (generalizing := false) own_key Kt n with | some (.int v) => kf ds vs ls (.int v :: st) | _ => False) := H
    split at H'
    · rename_i v hv
      exact own_go (X.ldcInt hx hown (mv hZ (own_key_e hK hv)) (g := mkF m pc (Array.mk ls) st) rfl hd) (Hf _ _ _ _ H' T X eT)
    · exact H'.elim
  | ldc2_w n =>
    have H' : (match (generalizing := false) own_key Kt n with | some (.long v) => kf ds vs ls (.long v :: st) | some (.double v) => kf ds vs ls (.double v :: st) | _ => False) := H
    split at H'
    · rename_i v hv
      exact own_go (X.ldc2Long hx hown (mv hZ (own_key_e hK hv)) (g := mkF m pc (Array.mk ls) st) rfl hd) (Hf _ _ _ _ H' T X eT)
    · rename_i v hv
      exact own_go (X.ldc2DoubleC hx hown (mv hZ (own_key_e hK hv)) (g := mkF m pc (Array.mk ls) st) rfl hd) (Hf _ _ _ _ H' T X eT)
    · exact H'.elim
  | iadd =>
    have H : (own_p2 st (fun x y => .int (x + y)) fun r => kf ds vs ls r) := H
    obtain ⟨x, y, r, rfl, hk⟩ := own_p2_e H
    exact own_go (fun t k => XS.iadd X.here hx rfl hd rfl k) (Hf _ _ _ _ hk T X eT)
  | isub =>
    have H : (own_p2 st (fun x y => .int (x - y)) fun r => kf ds vs ls r) := H
    obtain ⟨x, y, r, rfl, hk⟩ := own_p2_e H
    exact own_go (fun t k => XS.isub X.here hx rfl hd rfl k) (Hf _ _ _ _ hk T X eT)
  | imul =>
    have H : (own_p2 st (fun x y => .int (x * y)) fun r => kf ds vs ls r) := H
    obtain ⟨x, y, r, rfl, hk⟩ := own_p2_e H
    exact own_go (fun t k => XS.imul X.here hx rfl hd rfl k) (Hf _ _ _ _ hk T X eT)
  | idiv =>
    have H : (own_i2 st (fun _ y => y ≠ 0) (fun x y => .int (x / y)) fun r => kf ds vs ls r) := H
    obtain ⟨x, y, r, rfl, hg, hk⟩ := own_i2_e H
    exact own_go (fun t k => XS.idiv X.here hx rfl hd rfl hg k) (Hf _ _ _ _ hk T X eT)
  | irem =>
    have H : (own_i2 st (fun _ y => y ≠ 0) (fun x y => .int (x % y)) fun r => kf ds vs ls r) := H
    obtain ⟨x, y, r, rfl, hg, hk⟩ := own_i2_e H
    exact own_go (fun t k => iremM X hx (g := mkF m pc (Array.mk ls) _) rfl hd rfl hg k) (Hf _ _ _ _ hk T X eT)
  | iand =>
    have H : (own_p2 st (fun x y => .int (x &&& y)) fun r => kf ds vs ls r) := H
    obtain ⟨x, y, r, rfl, hk⟩ := own_p2_e H
    exact own_go (fun t k => XS.iand X.here hx rfl hd rfl k) (Hf _ _ _ _ hk T X eT)
  | ior =>
    have H : (own_p2 st (fun x y => .int (x ||| y)) fun r => kf ds vs ls r) := H
    obtain ⟨x, y, r, rfl, hk⟩ := own_p2_e H
    exact own_go (fun t k => XT.ior X.here hx rfl hd rfl k) (Hf _ _ _ _ hk T X eT)
  | ixor =>
    have H : (own_p2 st (fun x y => .int (x ^^^ y)) fun r => kf ds vs ls r) := H
    obtain ⟨x, y, r, rfl, hk⟩ := own_p2_e H
    exact own_go (fun t k => XT.ixor X.here hx rfl hd rfl k) (Hf _ _ _ _ hk T X eT)
  | ishl =>
    have H : (own_p2 st (fun x y => .int (x <<< (y &&& 31))) fun r => kf ds vs ls r) := H
    obtain ⟨x, y, r, rfl, hk⟩ := own_p2_e H
    exact own_go (fun t k => XT.ishl X.here hx rfl hd rfl k) (Hf _ _ _ _ hk T X eT)
  | ishr =>
    have H : (own_p2 st (fun x y => .int (x >>> (y &&& 31))) fun r => kf ds vs ls r) := H
    obtain ⟨x, y, r, rfl, hk⟩ := own_p2_e H
    exact own_go (fun t k => XT.ishr X.here hx rfl hd rfl k) (Hf _ _ _ _ hk T X eT)
  | iushr =>
    have H : (own_p2 st (fun x y => .int (Jvm.Free.XT.ushr x y)) fun r => kf ds vs ls r) := H
    obtain ⟨x, y, r, rfl, hk⟩ := own_p2_e H
    exact own_go (fun t k => XT.iushr X.here hx rfl hd rfl k) (Hf _ _ _ _ hk T X eT)
  | ineg =>
    have H : (own_i1 st (fun x => .int (-x)) fun r => kf ds vs ls r) := H
    obtain ⟨x, r, rfl, hk⟩ := own_i1_e H
    exact own_go (fun t k => XS.ineg X.here hx rfl hd rfl k) (Hf _ _ _ _ hk T X eT)
  | i2l =>
    have H : (own_i1 st (fun x => .long x.toInt64) fun r => kf ds vs ls r) := H
    obtain ⟨x, r, rfl, hk⟩ := own_i1_e H
    exact own_go (fun t k => XT.i2l X.here hx rfl hd rfl k) (Hf _ _ _ _ hk T X eT)
  | i2b =>
    have H : (own_i1 st (fun x => .int x.toInt8.toInt32) fun r => kf ds vs ls r) := H
    obtain ⟨x, r, rfl, hk⟩ := own_i1_e H
    exact own_go (fun t k => XT.i2b X.here hx rfl hd rfl k) (Hf _ _ _ _ hk T X eT)
  | i2s =>
    have H : (own_i1 st (fun x => .int x.toInt16.toInt32) fun r => kf ds vs ls r) := H
    obtain ⟨x, r, rfl, hk⟩ := own_i1_e H
    exact own_go (fun t k => XT.i2s X.here hx rfl hd rfl k) (Hf _ _ _ _ hk T X eT)
  | i2c =>
    have H : (own_i1 st (fun x => .int x.toUInt32.toUInt16.toUInt32.toInt32) fun r => kf ds vs ls r) := H
    obtain ⟨x, r, rfl, hk⟩ := own_i1_e H
    exact own_go (fun t k => XT.i2c X.here hx rfl hd rfl k) (Hf _ _ _ _ hk T X eT)
  | i2d =>
    have H : (own_i1 st (fun x => .double (FP.i2d x)) fun r => kf ds vs ls r) := H
    obtain ⟨x, r, rfl, hk⟩ := own_i1_e H
    exact own_go (fun t k => XS.i2dS X.here hx rfl hd rfl rfl k) (Hf _ _ _ _ hk T X eT)
  | l2i =>
    have H : (own_l1 st (fun x => .int x.toInt32) fun r => kf ds vs ls r) := H
    obtain ⟨x, r, rfl, hk⟩ := own_l1_e H
    exact own_go (fun t k => XT.l2i X.here hx rfl hd rfl k) (Hf _ _ _ _ hk T X eT)
  | l2d =>
    have H : (own_l1 st (fun x => .double (FP.l2d x)) fun r => kf ds vs ls r) := H
    obtain ⟨x, r, rfl, hk⟩ := own_l1_e H
    exact own_go (fun t k => XS.l2dS X.here hx rfl hd rfl rfl k) (Hf _ _ _ _ hk T X eT)
  | ladd =>
    have H : (own_q2 st (fun x y => .long (x + y)) fun r => kf ds vs ls r) := H
    obtain ⟨x, y, r, rfl, hk⟩ := own_q2_e H
    exact own_go (fun t k => XT.ladd X.here hx rfl hd rfl k) (Hf _ _ _ _ hk T X eT)
  | lsub =>
    have H : (own_q2 st (fun x y => .long (x - y)) fun r => kf ds vs ls r) := H
    obtain ⟨x, y, r, rfl, hk⟩ := own_q2_e H
    exact own_go (fun t k => XT.lsub X.here hx rfl hd rfl k) (Hf _ _ _ _ hk T X eT)
  | lmul =>
    have H : (own_q2 st (fun x y => .long (x * y)) fun r => kf ds vs ls r) := H
    obtain ⟨x, y, r, rfl, hk⟩ := own_q2_e H
    exact own_go (fun t k => XT.lmul X.here hx rfl hd rfl k) (Hf _ _ _ _ hk T X eT)
  | ldiv =>
    have H : (own_l2 st (fun _ y => y ≠ 0) (fun x y => .long (x / y)) fun r => kf ds vs ls r) := H
    obtain ⟨x, y, r, rfl, hg, hk⟩ := own_l2_e H
    exact own_go (fun t k => XT.ldiv X.here hx rfl hd rfl hg k) (Hf _ _ _ _ hk T X eT)
  | land =>
    have H : (own_q2 st (fun x y => .long (x &&& y)) fun r => kf ds vs ls r) := H
    obtain ⟨x, y, r, rfl, hk⟩ := own_q2_e H
    exact own_go (fun t k => XT.land X.here hx rfl hd rfl k) (Hf _ _ _ _ hk T X eT)
  | lneg =>
    have H : (own_l1 st (fun x => .long (-x)) fun r => kf ds vs ls r) := H
    obtain ⟨x, r, rfl, hk⟩ := own_l1_e H
    exact own_go (fun t k => XT.lneg X.here hx rfl hd rfl k) (Hf _ _ _ _ hk T X eT)
  | lshr =>
    have H : (own_li st (fun x y => .long (x >>> (y.toInt64 &&& 63))) fun r => kf ds vs ls r) := H
    obtain ⟨x, y, r, rfl, hk⟩ := own_li_e H
    exact own_go (fun t k => XT.lshr X.here hx rfl hd rfl k) (Hf _ _ _ _ hk T X eT)
  | lushr =>
    have H : (own_li st (fun x y => .long (Jvm.Free.XT.ushrL x y)) fun r => kf ds vs ls r) := H
    obtain ⟨x, y, r, rfl, hk⟩ := own_li_e H
    exact own_go (fun t k => XT.lushr X.here hx rfl hd rfl k) (Hf _ _ _ _ hk T X eT)
  | lcmp =>
    have H : (own_q2 st (fun x y => .int (Jvm.Free.XT.cmpL x y)) fun r => kf ds vs ls r) := H
    obtain ⟨x, y, r, rfl, hk⟩ := own_q2_e H
    exact own_go (fun t k => XT.lcmp X.here hx rfl hd rfl k) (Hf _ _ _ _ hk T X eT)
  | dadd =>
    have H : (own_d2 st FP.dadd fun r => kf ds vs ls r) := H
    obtain ⟨x, y, r, rfl, hg, hk⟩ := own_d2_e H
    exact own_go (fun t k => XS.daddS X.here hx rfl hd rfl hg rfl k) (Hf _ _ _ _ hk T X eT)
  | dsub =>
    have H : (own_d2 st FP.dsub fun r => kf ds vs ls r) := H
    obtain ⟨x, y, r, rfl, hg, hk⟩ := own_d2_e H
    exact own_go (fun t k => XS.dsubS X.here hx rfl hd rfl hg rfl k) (Hf _ _ _ _ hk T X eT)
  | dmul =>
    have H : (own_d2 st FP.dmul fun r => kf ds vs ls r) := H
    obtain ⟨x, y, r, rfl, hg, hk⟩ := own_d2_e H
    exact own_go (fun t k => XS.dmulS X.here hx rfl hd rfl hg rfl k) (Hf _ _ _ _ hk T X eT)
  | ddiv =>
    have H : (own_d2 st FP.ddiv fun r => kf ds vs ls r) := H
    obtain ⟨x, y, r, rfl, hg, hk⟩ := own_d2_e H
    exact own_go (fun t k => XS.ddivS X.here hx rfl hd rfl hg rfl k) (Hf _ _ _ _ hk T X eT)
  | dneg =>
    have H' : (match (generalizing := false) st with | .double x :: r => kf ds vs ls (.double (FP.dneg x) :: r) | _ => False) := H
    split at H'
    · exact own_go (fun t k => XS.dnegS X.here hx rfl hd rfl rfl k) (Hf _ _ _ _ H' T X eT)
    · exact H'.elim
  | dcmp o =>
    have H' : (match (generalizing := false) st with | .double y :: .double x :: r => kf ds vs ls (.int (cmpValue (FP.dcmp x y) o) :: r) | _ => False) := H
    split at H'
    · exact own_go (fun t k => XS.dcmpS X.here hx rfl hd rfl rfl k) (Hf _ _ _ _ H' T X eT)
    · exact H'.elim
  | iinc j n =>
    have H' : (match (generalizing := false) own_nth ls j with | some (.val (.int x)) => (match (generalizing := false) own_sto ls j (.int (x + Int32.ofInt n)) with | some l => kf ds vs l st | none => False) | _ => False) := H
    split at H'
    · rename_i x hn
      split at H'
      · rename_i l' hl
        exact own_go (fun t k => XS.iinc X.here hx rfl hd ((own_nth_eq _ _).trans hn) (own_sto_ok hl) k) (Hf _ _ _ _ H' T X eT)
      · exact H'.elim
    · exact H'.elim
  | dup =>
    have H : (own_ca st fun st => (match st with | x :: r => kf ds vs ls (x :: x :: r) | _ => False)) := H
    obtain ⟨x, r, rfl, hc, hk⟩ := own_ca_e H
    exact own_go (fun t k => XS.dup X.here hx rfl hd rfl hc k) (Hf _ _ _ _ hk T X eT)
  | pop =>
    have H : (own_ca st fun st => (match st with | _ :: r => kf ds vs ls r | _ => False)) := H
    obtain ⟨x, r, rfl, hc, hk⟩ := own_ca_e H
    exact own_go (fun t k => XT.pop X.here hx rfl hd rfl hc k) (Hf _ _ _ _ hk T X eT)
  | dup2 =>
    have H : (own_ca st fun st => (match st with | x :: r => own_ca r fun r => (match r with | y :: q => kf ds vs ls (x :: y :: x :: y :: q) | _ => False) | _ => False)) := H
    obtain ⟨x, r, rfl, hc, hk⟩ := own_ca_e H
    obtain ⟨y, q, rfl, hc', hk'⟩ := own_ca_e hk
    exact own_go (fun t k => XT.dup2 X.here hx rfl hd rfl hc hc' k) (Hf _ _ _ _ hk' T X eT)
  | dup_x1 =>
    have H : (own_ca st fun st => (match st with | x :: r => own_ca r fun r => (match r with | y :: q => kf ds vs ls (x :: y :: x :: q) | _ => False) | _ => False)) := H
    obtain ⟨x, r, rfl, hc, hk⟩ := own_ca_e H
    obtain ⟨y, q, rfl, hc', hk'⟩ := own_ca_e hk
    exact own_go (fun t k => XT.dupX1 X.here hx rfl hd rfl hc hc' k) (Hf _ _ _ _ hk' T X eT)
  | goto o =>
    have H : (own_jp pc o fun t => kj t ds vs ls st) := H
    obtain ⟨t', h1, h2, hk⟩ := own_jp_e H
    exact own_go (fun t k => XS.goto X.here hx rfl rfl hd h1 h2 k) (Hj _ _ _ _ _ hk T X eT)
  | ifCond cd o =>
    have H' : (match (generalizing := false) st with | .int x :: r => own_br ds (own_c0 cd x) (fun d => own_jp pc o fun t => kj t d vs ls r) (fun d => kf d vs ls r) | _ => False) := H
    split at H'
    · rename_i x r
      rcases own_br_e H' with ⟨hC, d, hk⟩ | ⟨hC, d, hk⟩
      · obtain ⟨t', h1, h2, hk⟩ := own_jp_e hk
        exact own_go (fun t k => XS.ifYes X.here hx rfl rfl hd rfl ((own_c0_ok _ _).mpr hC) h1 h2 k) (Hj _ _ _ _ _ hk T X eT)
      · have hc : ifCond.holds cd x = false := by
          cases hb : ifCond.holds cd x with
          | false => rfl
          | true => exact absurd ((own_c0_ok _ _).mp hb) hC
        exact own_go (fun t k => XS.ifNo X.here hx rfl hd rfl hc k) (Hf _ _ _ _ hk T X eT)
    · exact H'.elim
  | if_icmp cd o =>
    have H' : (match (generalizing := false) st with | .int y :: .int x :: r => own_br ds (own_ic cd x y) (fun d => own_jp pc o fun t => kj t d vs ls r) (fun d => kf d vs ls r) | _ => False) := H
    split at H'
    · rename_i y x r
      rcases own_br_e H' with ⟨hC, d, hk⟩ | ⟨hC, d, hk⟩
      · obtain ⟨t', h1, h2, hk⟩ := own_jp_e hk
        exact own_go (fun t k => XS.icmpYes X.here hx rfl rfl hd rfl ((own_ic_ok _ _ _).mpr hC) h1 h2 k) (Hj _ _ _ _ _ hk T X eT)
      · have hc : if_icmp.holds cd x y = false := by
          cases hb : if_icmp.holds cd x y with
          | false => rfl
          | true => exact absurd ((own_ic_ok _ _ _).mp hb) hC
        exact own_go (fun t k => XS.icmpNo X.here hx rfl hd rfl hc k) (Hf _ _ _ _ hk T X eT)
    · exact H'.elim
  | ifnull o =>
    have H' : (match (generalizing := false) st with | .null :: r => own_jp pc o fun t => kj t ds vs ls r | .ref _ :: r => kf ds vs ls r | _ => False) := H
    split at H'
    · obtain ⟨t', h1, h2, hk⟩ := own_jp_e H'
      exact own_go (fun t k => XS.ifnullYes X.here hx rfl rfl hd rfl h1 h2 k) (Hj _ _ _ _ _ hk T X eT)
    · exact own_go (fun t k => XS.ifnullNo X.here hx rfl hd rfl k) (Hf _ _ _ _ H' T X eT)
    · exact H'.elim
  | ifnonnull o =>
    have H' : (match (generalizing := false) st with | .ref _ :: r => own_jp pc o fun t => kj t ds vs ls r | .null :: r => kf ds vs ls r | _ => False) := H
    split at H'
    · obtain ⟨t', h1, h2, hk⟩ := own_jp_e H'
      exact own_go (fun t k => XT.ifnonnullYes X.here hx rfl rfl hd rfl h1 h2 k) (Hj _ _ _ _ _ hk T X eT)
    · exact own_go (fun t k => XT.ifnonnullNo X.here hx rfl hd rfl k) (Hf _ _ _ _ H' T X eT)
    · exact H'.elim
  | arraylength =>
    have H' : (match (generalizing := false) st with | .ref a :: r => (match (generalizing := false) vs with | .int N :: vs' => own_ln Z h a N ∧ kf ds vs' ls (.int N :: r) | _ => False) | _ => False) := H
    split at H'
    · split at H'
      · rename_i a r N vs'
        obtain ⟨⟨cl, ty, A, hN⟩, hk⟩ := H'
        subst hN
        exact own_go (X.arraylength hx (by rw [eT]; exact A.1) (State.isArrayOf_alike hZ.alike A.2.1) (g := mkF m pc (Array.mk ls) _) rfl rfl hd) (Hf _ _ _ _ hk T X eT)
      · exact H'.elim
    · exact H'.elim
  | iaload =>
    have H : (own_al Z h .int st vs fun vs' r => kf ds vs' ls r) := H
    obtain ⟨j, a, r, v, vs', rfl, rfl, ⟨cl, A, hin, hv⟩, hk⟩ := own_al_e H
    exact own_go (X.iaload hx (by rw [eT]; exact A.1) (State.isArrayOf_alike hZ.alike A.2.1) A.2.2 hin hv (g := mkF m pc (Array.mk ls) _) rfl rfl hd) (Hf _ _ _ _ hk T X eT)
  | daload =>
    have H : (own_al Z h .double st vs fun vs' r => kf ds vs' ls r) := H
    obtain ⟨j, a, r, v, vs', rfl, rfl, ⟨cl, A, hin, hv⟩, hk⟩ := own_al_e H
    exact own_go (X.daload hx (by rw [eT]; exact A.1) (State.isArrayOf_alike hZ.alike A.2.1) A.2.2 hin hv (g := mkF m pc (Array.mk ls) _) rfl rfl hd) (Hf _ _ _ _ hk T X eT)
  | laload =>
    have H : (own_al Z h .long st vs fun vs' r => kf ds vs' ls r) := H
    obtain ⟨j, a, r, v, vs', rfl, rfl, ⟨cl, A, hin, hv⟩, hk⟩ := own_al_e H
    exact own_go (X.laload hx (by rw [eT]; exact A.1) (State.isArrayOf_alike hZ.alike A.2.1) A.2.2 hin hv (g := mkF m pc (Array.mk ls) _) rfl rfl hd) (Hf _ _ _ _ hk T X eT)
  | getfield n =>
    have H' : (match (generalizing := false) st with | .ref a :: r => (match (generalizing := false) vs with | v :: vs' => (match (generalizing := false) own_fld Ft n with | some (C, f, d) => Fld Z h a C f d v ∧ kf ds vs' ls (v :: r) | none => False) | [] => False) | _ => False) := H
    split at H'
    · split at H'
      · split at H'
        · rename_i a r v vs' o C f d hf
          obtain ⟨T', X', e', st'⟩ := getF X hx hZ hown (host := "") (Or.inl (own_fld_e hF hf)) Via.refl eT H'.1 (g := mkF m pc (Array.mk ls) _) rfl rfl hd
          exact own_go st' (Hf _ _ _ _ H'.2 T' X' e')
        · exact H'.elim
      · exact H'.elim
    · exact H'.elim
  | _ => exact H.elim
def own_from : List (Nat × Instr) → Nat → List (Nat × Instr)
  | [], _ => []
  | (q, i) :: r, pc => bif Nat.beq q pc then (q, i) :: r else own_from r pc
def own_dec (code : ByteArray) (tab : List (Nat × Instr)) : Prop := ∀ e ∈ tab, decode code e.1 = .ok (e.2, own_len e.2)
def own_seq : List (Nat × Instr) → Bool
  | (q, i) :: (q', i') :: r => Nat.beq q' (q + own_len i) && own_seq ((q', i') :: r)
  | _ => true
theorem own_from_sub : ∀ {full : List (Nat × Instr)} {t : Nat}, (∀ e ∈ own_from full t, e ∈ full) ∧ (own_seq full = true → own_seq (own_from full t) = true) ∧ (∀ q i r, own_from full t = (q, i) :: r → q = t)
  | [], t => ⟨fun e h => h, fun h => h, fun q i r h => by cases h⟩
  | (q, i) :: r, t => by
    have ih := own_from_sub (full := r) (t := t)
    cases hb : Nat.beq q t with
    | true =>
      have e : own_from ((q, i) :: r) t = (q, i) :: r := by show (bif Nat.beq q t then _ else _) = _; rw [hb]; rfl
      rw [e]
      refine ⟨fun e h => h, fun h => h, fun q' i' r' h => ?_⟩
      cases h
      exact Nat.eq_of_beq_eq_true hb
    | false =>
      have e : own_from ((q, i) :: r) t = own_from r t := by show (bif Nat.beq q t then _ else _) = _; rw [hb]; rfl
      rw [e]
      refine ⟨fun e h => List.mem_cons_of_mem _ (ih.1 e h), fun h => ih.2.1 ?_, ih.2.2⟩
      cases r with
      | nil => rfl
      | cons a r' =>
        obtain ⟨q', i'⟩ := a
        have h' : (Nat.beq q' (q + own_len i) && own_seq ((q', i') :: r')) = true := h
        exact (Bool.and_eq_true_iff.mp h').2
/-! a block: n plain instructions from the table's row at hand on -/
def own_wp (Kt : List (Nat × Value)) (Ft : List (Nat × String × String × String)) (Z : State) (h : Heap) (full : List (Nat × Instr)) (P : Nat → List Slot → List Value → Prop) : Nat → List (Nat × Instr) → List Bool → List Value → List Slot → List Value → Prop
  | _, [], _, _, _, _ => False
  | 0, (q, _) :: _, _, _, ls, st => P q ls st
  | n + 1, (q, i) :: r, ds, vs, ls, st => own_st Kt Ft Z h i q ds vs ls st (fun ds vs ls st => own_wp Kt Ft Z h full P n r ds vs ls st) (fun t ds vs ls st => own_wp Kt Ft Z h full P n (own_from full t) ds vs ls st)
theorem own_wp_ok {code : ByteArray} {full : List (Nat × Instr)} (hdec : own_dec code full) (hseq : own_seq full = true) (hby : c.code = code) (hx : p.tables.exec = Jvm.exec) (hZ : Z.Warmed39 s.vm) (hown : s.vm.findClass own = some m.cls) {Kt : List (Nat × Value)} {Ft : List (Nat × String × String × String)} (hK : own_ks own a0 Z Kt) (hF : own_fs own a0 Z Ft) (X : Stand p l e R s m args below meth c T locs cells slots) :
    ∀ (n : Nat) (tab : List (Nat × Instr)) (ds : List Bool) (vs : List Value) (ls : List Slot) (st : List Value), (∀ e ∈ tab, e ∈ full) → own_seq tab = true → own_wp Kt Ft Z h full (own_Aft X h Q) n tab ds vs ls st →
      ∃ q i r, tab = (q, i) :: r ∧ own_Aft X h Q q ls st
  | _, [], _, _, _, _, _, _, H => by cases ‹Nat› <;> exact H.elim
  | 0, (q, i) :: r, ds, vs, ls, st, _, _, H => ⟨q, i, r, rfl, H⟩
  | n + 1, (q, i) :: r, ds, vs, ls, st, hsub, hs, H => by
    refine ⟨q, i, r, rfl, fun T' X' e' => ?_⟩
    have hd : decode c.code q = .ok (i, own_len i) := by rw [hby]; exact hdec (q, i) (hsub (q, i) (List.mem_cons_self ..))
    have H1 : own_st Kt Ft Z h i q ds vs ls st (fun ds vs ls st => own_wp Kt Ft Z h full (own_Aft X h Q) n r ds vs ls st) (fun t ds vs ls st => own_wp Kt Ft Z h full (own_Aft X h Q) n (own_from full t) ds vs ls st) := H
    clear H
    refine own_st_ok X' hx hZ hown e' hK hF hd H1 (fun ds vs ls st hk => ?_) (fun t ds vs ls st hk => ?_)
    · cases r with
      | nil =>
        obtain ⟨q', i', r', e1, -⟩ := own_wp_ok hdec hseq hby hx hZ hown hK hF X n [] ds vs ls st (fun e he => absurd he (List.not_mem_nil)) rfl hk
        cases e1
      | cons a r' =>
        obtain ⟨q1, i1⟩ := a
        have h' : (Nat.beq q1 (q + own_len i) && own_seq ((q1, i1) :: r')) = true := hs
        obtain ⟨g1, g2⟩ := Bool.and_eq_true_iff.mp h'
        obtain ⟨q', i', r'', e1, e2⟩ := own_wp_ok hdec hseq hby hx hZ hown hK hF X n ((q1, i1) :: r') ds vs ls st (fun e he => hsub e (List.mem_cons_of_mem _ he)) g2 hk
        cases e1
        rw [← Nat.eq_of_beq_eq_true g1]
        exact e2
    · obtain ⟨q', i', r'', e1, e2⟩ := own_wp_ok hdec hseq hby hx hZ hown hK hF X n (own_from full t) ds vs ls st (own_from_sub.1) (own_from_sub.2.1 hseq) hk
      rw [← own_from_sub.2.2 _ _ _ e1]
      exact e2
/-- **A BLOCK**: n plain instructions from pc on, in one step -/
theorem own_blk {code : ByteArray} {full : List (Nat × Instr)} (hdec : own_dec code full) (hseq : own_seq full = true) (hby : c.code = code) (hx : p.tables.exec = Jvm.exec) (hZ : Z.Warmed39 s.vm) (hown : s.vm.findClass own = some m.cls) {Kt : List (Nat × Value)} {Ft : List (Nat × String × String × String)} (hK : own_ks own a0 Z Kt) (hF : own_fs own a0 Z Ft)
    (n : Nat) (ds : List Bool) (vs : List Value) (X : Stand p l e R s m args below meth c T locs cells slots) (eT : T.heap = h) {pc : Nat} {ls : List Slot} {st : List Value} (H : own_wp Kt Ft Z h full (own_Aft X h Q) n (own_from full pc) ds vs ls st) : own_Go p.tables e below Q (T.setTop (mkF m pc (Array.mk ls) st)) := by
  obtain ⟨q, i, r, e1, e2⟩ := own_wp_ok hdec hseq hby hx hZ hown hK hF X n (own_from full pc) ds vs ls st (own_from_sub.1) (own_from_sub.2.1 hseq) H
  rw [← own_from_sub.2.2 _ _ _ e1]
  exact e2 T X eT
/-- **A RETURN** of a value -/
theorem own_ret (X : Stand p l e R s m args below meth c T locs cells slots) (hx : p.tables.exec = Jvm.exec) (hlocks : meth.locks = false) (eT : T.heap = h) {C S : Nat} {q : Option Value → Heap → List Loc → Prop} {pc : Nat} {ls : List Slot} {w : Value} {rest : List Value} {t : FieldType} {i : Instr} (hret : meth.sig.returnType = some t) (hn : narrow t w = w)
    (hi : (i = .ireturn ∧ (t = .int ∨ t = .boolean ∨ t = .byte ∨ t = .char ∨ t = .short) ∧ ∃ z, w = .int z) ∨ (i = .lreturn ∧ t = .long ∧ ∃ z, w = .long z) ∨ (i = .dreturn ∧ t = .double ∧ ∃ z, w = .double z) ∨ (i = .freturn ∧ t = .float ∧ ∃ z, w = .float z) ∨ (i = .areturn ∧ t.isReference = true ∧ w.isRef = true))
    (hd : decode c.code pc = .ok (i, 1)) (hC : cells ≤ C) (hS : slots ≤ S) (hq : q (some w) h locs) : own_Go p.tables e below (own_Fin s C S q) (T.setTop (mkF m pc (Array.mk ls) (w :: rest))) := by
  obtain ⟨fs, hr, hrun, hended, hW, hsame⟩ := X.leave (v := some w) (fun h => by rw [hret] at h; cases h) hlocks
  refine ⟨_, _, retOut X hx hret hn hi hd hr, hrun, hended, some w, locs, rfl, ?_, ⟨_, rfl⟩, hW, hsame.mono hC hS⟩
  show q (some w) T.heap locs
  rw [eT]; exact hq
/-- **A RETURN** of nothing -/
theorem own_retV (X : Stand p l e R s m args below meth c T locs cells slots) (hx : p.tables.exec = Jvm.exec) (hlocks : meth.locks = false) (eT : T.heap = h) {C S : Nat} {q : Option Value → Heap → List Loc → Prop} {pc : Nat} {ls : List Slot} (hret : meth.sig.returnType = none)
    (hd : decode c.code pc = .ok (.return_, 1)) (hC : cells ≤ C) (hS : slots ≤ S) (hq : q none h locs) : own_Go p.tables e below (own_Fin s C S q) (T.setTop (mkF m pc (Array.mk ls) [])) := by
  obtain ⟨fs, hr, hrun, hended, hW, hsame⟩ := X.leave (v := none) (fun _ => rfl) hlocks
  refine ⟨_, _, X.returnOut hx hret hd hr, hrun, hended, none, locs, rfl, ?_, ⟨_, rfl⟩, hW, hsame.mono hC hS⟩
  show q none T.heap locs
  rw [eT]; exact hq
end OwnRun
/-! OWN KIT 2: steps that change the heap, and calls, as steps of own_Go -/
section OwnHeap
variable {p : Program} {l : Launch} {e : Env} {R : Room} {s : State} {m : MethodId} {args : Array Value} {below : List Frame} {meth : Method} {c : Code} {T : State} {locs : List Loc} {cells slots : Nat} {Z : State} {a0 : Array Value} {h h' : Heap} {Q : Outcome → State → Prop} {own : String} {pc : Nat} {ls : List Slot} {st : List Value}
/-- an array with just these values -/
def own_A (Z : State) (h : Heap) (a : Addr) (ty : FieldType) (vs : List Value) : Prop := ∃ cl : Cell, Arr Z h a cl ty ∧ cl.slots.toList = vs
theorem own_A.ext {a : Addr} {ty : FieldType} {vs : List Value} (A : own_A Z h a ty vs) (E : Ext h h') : own_A Z h' a ty vs := by
  obtain ⟨cl, A, q⟩ := A
  exact ⟨cl, A.ext E, q⟩
theorem own_A.keep {a : Addr} {ty : FieldType} {vs : List Value} {ws : List Addr} (A : own_A Z h a ty vs) (K : Keep h h' ws) (q : a ∉ ws) : own_A Z h' a ty vs := by
  obtain ⟨cl, A, r⟩ := A
  exact ⟨cl, ⟨K.2.1 a cl A.1 q, A.2⟩, r⟩
theorem own_A.other {a b : Addr} {ty : FieldType} {vs : List Value} {sl : Nat} {v : Value} (A : own_A Z h b ty vs) (W : Wr h h' a sl v) (hne : b ≠ a) : own_A Z h' b ty vs := by
  obtain ⟨cl, A, r⟩ := A
  exact ⟨cl, A.other W hne, r⟩
theorem own_A.same {a : Addr} {ty : FieldType} {vs : List Value} {sl : Nat} {v : Value} (A : own_A Z h a ty vs) (W : Wr h h' a sl v) : own_A Z h' a ty (vs.set sl v) := by
  obtain ⟨cl, A, r⟩ := A
  refine ⟨_, A.same W, ?_⟩
  subst r
  exact Array.toList_setIfInBounds
theorem own_A.lt {a : Addr} {ty : FieldType} {vs : List Value} (A : own_A Z h a ty vs) : a < h.size := by
  obtain ⟨cl, A, -⟩ := A
  exact A.lt
theorem own_A.at {a : Addr} {ty : FieldType} {vs : List Value} {v : Value} (A : own_A Z h a ty vs) (j : Int32) (k : Nat) (h0 : j.toInt = k) (hv : vs[k]? = some v) : own_at Z h a ty j v := by
  obtain ⟨cl, A, r⟩ := A
  have e1 : j.toNatClampNeg = k := by rw [Int32.toNatClampNeg, h0]; rfl
  have e2 : cl.slots[k]? = some v := by rw [← Array.getElem?_toList, r]; exact hv
  refine ⟨cl, A, ?_, by rw [e1]; exact e2⟩
  rintro (q | q)
  · rw [Int32.lt_iff_toInt_lt, h0] at q
    have : (0 : Int32).toInt = 0 := rfl
    omega
  · rw [e1] at q
    exact absurd (Array.getElem?_eq_some_iff.mp e2).1 (by omega)
theorem own_A.ln {a : Addr} {ty : FieldType} {vs : List Value} (A : own_A Z h a ty vs) (N : Int32) (hN : vs.length.toInt32 = N) : own_ln Z h a N := by
  obtain ⟨cl, A, r⟩ := A
  refine ⟨cl, ty, A, ?_⟩
  rw [← hN, ← r, Array.length_toList]
theorem own_A.inb {a : Addr} {ty : FieldType} {vs : List Value} (A : own_A Z h a ty vs) : ∃ cl : Cell, Arr Z h a cl ty ∧ cl.slots.size = vs.length := by
  obtain ⟨cl, A, r⟩ := A
  exact ⟨cl, A, by rw [← r, Array.length_toList]⟩
theorem own_idx {j : Int32} {k n : Nat} (h0 : j.toInt = k) (hk : k < n) : ¬ (j < 0 ∨ n ≤ j.toNatClampNeg) := by
  have e1 : j.toNatClampNeg = k := by rw [Int32.toNatClampNeg, h0]; rfl
  rintro (q | q)
  · rw [Int32.lt_iff_toInt_lt, h0] at q
    have : (0 : Int32).toInt = 0 := rfl
    omega
  · omega
/-- new C -/
theorem own_new (X : Stand p l e R s m args below meth c T locs cells slots) (hx : p.tables.exec = Jvm.exec) (hZ : Z.Warmed39 s.vm) {C : String} {index n : Nat} (hown : s.vm.findClass own = some m.cls) (w : (Cond.classLink own index C).before a0 Z = true) (wi : (Cond.instantiable C n).before a0 Z = true) (wz : (Cond.initialized C).before a0 Z = true) (eT : T.heap = h)
    (hd : decode c.code pc = .ok (.new index, 3)) (hc : cells + 1 ≤ R.cells) (hl : slots + n ≤ R.slots)
    (k : ∀ T' h' a, a = h.size → Stand p l e R s m args below meth c T' locs (cells + 1) (slots + n) → T'.heap = h' → Ext h h' → Exa Z h' a C → (∀ {O nm d : String} {ty : FieldType}, Laid Z a0 C O nm d → parseFieldDescriptor d = some ty → Fld Z h' a O nm d (defaultValue ty)) →
      own_Go p.tables e below Q (T'.setTop (mkF m (pc + 3) (Array.mk ls) (.ref a :: st)))) : own_Go p.tables e below Q (T.setTop (mkF m pc (Array.mk ls) st)) := by
  obtain ⟨T', h', X', e', E, A, D, -, st'⟩ := newO X hx hZ hown w wi wz eT (g := mkF m pc (Array.mk ls) st) rfl hd hc hl
  exact own_go st' (k T' h' _ rfl X' e' E A D)
/-- newarray of a plain kind, of a length that is known -/
theorem own_newP (X : Stand p l e R s m args below meth c T locs cells slots) (hx : p.tables.exec = Jvm.exec) (hZ : Z.Warmed39 s.vm) {aty : ArrayType} (w : (Cond.arrayClass (newarray.typeOf aty)).before a0 Z = true) (eT : T.heap = h)
    {n : Int32} (N : Nat) (hN : n.toInt = N) {cap : Nat} (hcap : N ≤ cap) (hb : cap * 8 ≤ 536870912) (hd : decode c.code pc = .ok (.newarray aty, 2)) (hc : cells + 1 ≤ R.cells) (hl : slots + cap ≤ R.slots)
    (k : ∀ T' h' a, a = h.size → Stand p l e R s m args below meth c T' locs (cells + 1) (slots + cap) → T'.heap = h' → Ext h h' → own_A Z h' a (newarray.typeOf aty) (List.replicate N (defaultValue (newarray.typeOf aty))) →
      own_Go p.tables e below Q (T'.setTop (mkF m (pc + 2) (Array.mk ls) (.ref a :: st)))) : own_Go p.tables e below Q (T.setTop (mkF m pc (Array.mk ls) (.int n :: st))) := by
  have e1 : n.toNatClampNeg = N := by rw [Int32.toNatClampNeg, hN]; rfl
  have hn : ¬ n < 0 := by
    rw [Int32.lt_iff_toInt_lt, hN]
    have : (0 : Int32).toInt = 0 := rfl
    omega
  obtain ⟨T', h', cA, X', e', E, A, st'⟩ := newP X hx hZ w eT (g := mkF m pc (Array.mk ls) (.int n :: st)) rfl hd rfl hn (cap := cap) (by rw [e1]; exact hcap) hb hc hl
  refine own_go st' (k T' h' _ rfl X' e' E ⟨_, A, ?_⟩)
  show (Array.replicate n.toNatClampNeg _).toList = _
  rw [e1]; exact Array.toList_replicate
/-- dastore -/
theorem own_sD (X : Stand p l e R s m args below meth c T locs cells slots) (hx : p.tables.exec = Jvm.exec) (hZ : Z.Warmed39 s.vm) (eT : T.heap = h) {a : Addr} {vs : List Value} (A : own_A Z h a .double vs) {j : Int32} (kk : Nat) (hj : j.toInt = kk) (hk : kk < vs.length) {x : UInt64} (hd : decode c.code pc = .ok (.dastore, 1))
    (k : ∀ T' h', Stand p l e R s m args below meth c T' (locs ++ [⟨a, kk⟩]) cells slots → T'.heap = h' → Wr h h' a kk (.double x) → own_A Z h' a .double (vs.set kk (.double x)) → own_Go p.tables e below Q (T'.setTop (mkF m (pc + 1) (Array.mk ls) st))) :
    own_Go p.tables e below Q (T.setTop (mkF m pc (Array.mk ls) (.double x :: .int j :: .ref a :: st))) := by
  have e1 : j.toNatClampNeg = kk := by rw [Int32.toNatClampNeg, hj]; rfl
  have A' := A
  obtain ⟨cl, Ar, hs⟩ := A.inb
  obtain ⟨T', h', X', e', W, st'⟩ := stD X hx hZ eT Ar (j := j) (x := x) (by rw [hs]; exact own_idx hj hk) (g := mkF m pc (Array.mk ls) (.double x :: .int j :: .ref a :: st)) rfl rfl hd
  rw [e1] at X' W
  exact own_go st' (k T' h' X' e' W (A'.same W))
/-- iastore -/
theorem own_sI (X : Stand p l e R s m args below meth c T locs cells slots) (hx : p.tables.exec = Jvm.exec) (hZ : Z.Warmed39 s.vm) (eT : T.heap = h) {a : Addr} {vs : List Value} (A : own_A Z h a .int vs) {j : Int32} (kk : Nat) (hj : j.toInt = kk) (hk : kk < vs.length) {x : Int32} (hd : decode c.code pc = .ok (.iastore, 1))
    (k : ∀ T' h', Stand p l e R s m args below meth c T' (locs ++ [⟨a, kk⟩]) cells slots → T'.heap = h' → Wr h h' a kk (.int x) → own_A Z h' a .int (vs.set kk (.int x)) → own_Go p.tables e below Q (T'.setTop (mkF m (pc + 1) (Array.mk ls) st))) :
    own_Go p.tables e below Q (T.setTop (mkF m pc (Array.mk ls) (.int x :: .int j :: .ref a :: st))) := by
  have e1 : j.toNatClampNeg = kk := by rw [Int32.toNatClampNeg, hj]; rfl
  have A' := A
  obtain ⟨cl, Ar, hs⟩ := A.inb
  obtain ⟨T', h', X', e', W, st'⟩ := stI X hx hZ eT Ar (j := j) (x := x) (by rw [hs]; exact own_idx hj hk) (g := mkF m pc (Array.mk ls) (.int x :: .int j :: .ref a :: st)) rfl rfl hd
  rw [e1] at X' W
  exact own_go st' (k T' h' X' e' W (A'.same W))
/-- putfield -/
theorem own_putF (X : Stand p l e R s m args below meth c T locs cells slots) (hx : p.tables.exec = Jvm.exec) (hZ : Z.Warmed39 s.vm) {O n d C : String} {index kk : Nat} {ty : FieldType} (hown : s.vm.findClass own = some m.cls) (w : (Cond.fieldLink own index O n d).before a0 Z = true)
    (eT : T.heap = h) {a : Addr} {v old : Value} (F : Fld Z h a O n d old) (E : Exa Z h a C) (L : (Cond.lays C O n d).before a0 Z = true ∨ ((Cond.laysFinal C O n d).before a0 Z = true ∧ own = O ∧ meth.name = "<init>")) (wi : (Cond.instantiable C kk).before a0 Z = true)
    (hty : parseFieldDescriptor d = some ty) (hn : narrow ty v = v) (hf : fits ty v = true) (hd : decode c.code pc = .ok (.putfield index, 3))
    (k : ∀ T' h', Stand p l e R s m args below meth c T' (locs ++ [⟨a, Jvm.RoadKit.slotOf Z O n d⟩]) cells slots → T'.heap = h' → Wr h h' a (Jvm.RoadKit.slotOf Z O n d) v → Fld Z h' a O n d v → Exa Z h' a C → own_Go p.tables e below Q (T'.setTop (mkF m (pc + 3) (Array.mk ls) st))) :
    own_Go p.tables e below Q (T.setTop (mkF m pc (Array.mk ls) (v :: .ref a :: st))) := by
  obtain ⟨T', h', X', e', W, st'⟩ := putF X hx hZ hown (host := "") (Or.inl w) Via.refl eT F E L wi hty hn hf (g := mkF m pc (Array.mk ls) (v :: .ref a :: st)) rfl rfl hd
  exact own_go st' (k T' h' X' e' W (F.same W) (E.wr W))
/-- Object.<init> -/
theorem own_initO (X : Stand p l e R s m args below meth c T locs cells slots) (hx : p.tables.exec = Jvm.exec) (hZ : Z.Warmed39 s.vm) {idx : Nat} (hown : s.vm.findClass own = some m.cls) (w1 : (Cond.methodLink own idx Lib.objectInit).before a0 Z = true) (w2 : (Cond.instanceMethod Lib.objectInit).before a0 Z = true)
    (w3 : (Cond.code Lib.objectInit ⟨#[0xb1]⟩ 1 none).before a0 Z = true) (eT : T.heap = h) (hsize : ls.length = c.maxLocals) {a : Addr} (hd : decode c.code pc = .ok (.invokespecial idx, 3))
    (hf : 1 ≤ R.frames) (W : Nat) (hW : (st.map fun v => v.category).sum ≤ W) (hl : W + 12 ≤ R.locals)
    (k : ∀ T', Stand p l e R s m args below meth c T' locs cells slots → T'.heap = h → own_Go p.tables e below Q (T'.setTop (mkF m (pc + 3) (Array.mk ls) st))) :
    own_Go p.tables e below Q (T.setTop (mkF m pc (Array.mk ls) (.ref a :: st))) := by
  obtain ⟨T', X', e', st'⟩ := initO X hx hZ hown w1 w2 w3 eT (g := mkF m pc (Array.mk ls) (.ref a :: st)) rfl hsize rfl hd hf (W := W) (by show 2 * 0 + _ ≤ _; omega) hl
  exact own_go st' (k T' X' e')
/-- a static call, by the callee's contract -/
theorem own_callS (X : Stand p l e R s m args below meth c T locs cells slots) (hx : p.tables.exec = Jvm.exec) (hZ : Z.Warmed39 s.vm) (hown : s.vm.findClass own = some m.cls) {index : Nat} {y : MethodName} {bytes : ByteArray} {maxL : Nat} {ret : Option FieldType} {rm : Room}
    (w1 : (Cond.methodLink own index y).before a0 Z = true) (w2 : (Cond.static y).before a0 Z = true) (w3 : (Cond.initialized y.cls).before a0 Z = true) (w4 : (Cond.code y bytes maxL ret).before a0 Z = true) (hy : y.cls ≠ "java/lang/invoke/MethodHandle" ∧ y.cls ≠ "java/lang/invoke/VarHandle")
    (eT : T.heap = h) (argsL : List Value) {ps : List FieldType} {r : Option FieldType} (hpd : parseMethodDescriptor y.desc = some ⟨ps, r⟩) (hlen : argsL.length = ps.length) {q : Option Value → Heap → List Loc → Prop}
    (hM : MetFree l y (head1 [Cond.code y bytes maxL ret] rm) (fun a U => a = argsL.toArray ∧ Z.Warmed39 U.vm ∧ U.heap = h) (fun _ _ _ _ _ => True) (fun _ U o U' => own_Fin U rm.cells rm.slots q o U'))
    (hsize : ls.length = c.maxLocals) (W : Nat) {full : List Value} (hst : full = argsL.reverse ++ st) (hW : (st.map fun v => v.category).sum ≤ W) (hd : decode c.code pc = .ok (.invokestatic index, 3)) (hf : rm.frames + 1 ≤ R.frames) (hl : W + (maxL + 11) + rm.locals ≤ R.locals) (hcc : cells + rm.cells ≤ R.cells) (hss : slots + rm.slots ≤ R.slots)
    (k : ∀ T' v L, Stand p l e R s m args below meth c T' (locs ++ L) (cells + rm.cells) (slots + rm.slots) → q v T'.heap L → own_Go p.tables e below Q (T'.setTop (mkF m (pc + 3) (Array.mk ls) (v.toList ++ st)))) :
    own_Go p.tables e below Q (T.setTop (mkF m pc (Array.mk ls) full)) := by
  subst hst
  obtain ⟨v, vm1, ⟨T', L', k', n'⟩, -, X', ⟨Lc, hq, l1, y1, z1⟩, st'⟩ := Jvm.LawKit.callS X hx hown (mvT hZ w1) (mvT hZ w2) (mvT hZ w3) (mvT hZ w4) hy (backOf (W := W) (Q := q) hM hZ w4 w3 hf hl) (g := mkF m pc (Array.mk ls) (argsL.reverse ++ st)) rfl hsize (argsL := argsL) (rest := st) (lenOf hpd hlen) rfl (by show 2 * 0 + _ ≤ _; omega) hd (fun _ _ => ⟨rfl, eT, hcc, hss⟩)
  dsimp only [Pt.U, Pt.locs, Pt.cells, Pt.slots] at X' l1 y1 z1 st' hq
  subst l1 y1 z1
  exact own_go st' (k T' v Lc X' hq)
/-- a static call that leaves all as it was -/
theorem own_callSP (X : Stand p l e R s m args below meth c T locs cells slots) (hx : p.tables.exec = Jvm.exec) (hZ : Z.Warmed39 s.vm) (hown : s.vm.findClass own = some m.cls) {index : Nat} {y : MethodName} {bytes : ByteArray} {maxL : Nat} {ret : Option FieldType} {fr lo : Nat}
    (w1 : (Cond.methodLink own index y).before a0 Z = true) (w2 : (Cond.static y).before a0 Z = true) (w3 : (Cond.initialized y.cls).before a0 Z = true) (w4 : (Cond.code y bytes maxL ret).before a0 Z = true) (hy : y.cls ≠ "java/lang/invoke/MethodHandle" ∧ y.cls ≠ "java/lang/invoke/VarHandle")
    (eT : T.heap = h) (argsL : List Value) {ps : List FieldType} {r : Option FieldType} (hpd : parseMethodDescriptor y.desc = some ⟨ps, r⟩) (hlen : argsL.length = ps.length) {q : Option Value → Prop}
    (hM : MetFree l y (head1 [Cond.code y bytes maxL ret] { frames := fr, cells := 0, slots := 0, locals := lo }) (fun a U => a = argsL.toArray ∧ Z.Warmed39 U.vm ∧ U.heap = h) (fun _ _ _ _ _ => True) (fun _ U o U' => own_Fin U 0 0 (fun v h' L => q v ∧ L = [] ∧ h' = h) o U'))
    (hsize : ls.length = c.maxLocals) (W : Nat) {full : List Value} (hst : full = argsL.reverse ++ st) (hW : (st.map fun v => v.category).sum ≤ W) (hd : decode c.code pc = .ok (.invokestatic index, 3)) (hf : fr + 1 ≤ R.frames) (hl : W + (maxL + 11) + lo ≤ R.locals)
    (hcc : cells ≤ R.cells) (hss : slots ≤ R.slots)
    (k : ∀ T' v, Stand p l e R s m args below meth c T' locs cells slots → T'.heap = h → q v → own_Go p.tables e below Q (T'.setTop (mkF m (pc + 3) (Array.mk ls) (v.toList ++ st)))) :
    own_Go p.tables e below Q (T.setTop (mkF m pc (Array.mk ls) full)) := by
  refine own_callS X hx hZ hown w1 w2 w3 w4 hy eT argsL hpd hlen (rm := { frames := fr, cells := 0, slots := 0, locals := lo }) hM hsize W hst hW hd hf hl hcc hss (fun T' v L X' hq => ?_)
  obtain ⟨h1, rfl, h3⟩ := hq
  rw [List.append_nil] at X'
  exact k T' v X' h3 h1
/-- an instance call that leaves all as it was -/
theorem own_callVP (X : Stand p l e R s m args below meth c T locs cells slots) (hx : p.tables.exec = Jvm.exec) (hZ : Z.Warmed39 s.vm) (hown : s.vm.findClass own = some m.cls) {index : Nat} {C : String} {y : MethodName} {bytes : ByteArray} {maxL : Nat} {ret : Option FieldType} {fr lo : Nat}
    (w1 : (Cond.methodLink own index y).before a0 Z = true) (w2 : (Cond.declares y).before a0 Z = true) (w5 : (Cond.selects C y y).before a0 Z = true) (w6 : (Cond.instanceMethod y).before a0 Z = true) (w3 : (Cond.initialized y.cls).before a0 Z = true) (w4 : (Cond.code y bytes maxL ret).before a0 Z = true) (hy : y.cls ≠ "java/lang/invoke/MethodHandle" ∧ y.cls ≠ "java/lang/invoke/VarHandle")
    (eT : T.heap = h) {a : Addr} (E : Exa Z h a C) (argsL : List Value) {ps : List FieldType} {r : Option FieldType} (hpd : parseMethodDescriptor y.desc = some ⟨ps, r⟩) (hlen : argsL.length = ps.length) {q : Option Value → Prop}
    (hM : MetFree l y (head1 [Cond.code y bytes maxL ret] { frames := fr, cells := 0, slots := 0, locals := lo }) (fun b U => b = (.ref a :: argsL).toArray ∧ Z.Warmed39 U.vm ∧ U.heap = h) (fun _ _ _ _ _ => True) (fun _ U o U' => own_Fin U 0 0 (fun v h' L => q v ∧ L = [] ∧ h' = h) o U'))
    (hsize : ls.length = c.maxLocals) (W : Nat) {full : List Value} (hst : full = argsL.reverse ++ .ref a :: st) (hW : (st.map fun v => v.category).sum ≤ W) (hd : decode c.code pc = .ok (.invokevirtual index, 3)) (hf : fr + 1 ≤ R.frames) (hl : W + (maxL + 11) + lo ≤ R.locals)
    (hcc : cells ≤ R.cells) (hss : slots ≤ R.slots)
    (k : ∀ T' v, Stand p l e R s m args below meth c T' locs cells slots → T'.heap = h → q v → own_Go p.tables e below Q (T'.setTop (mkF m (pc + 3) (Array.mk ls) (v.toList ++ st)))) :
    own_Go p.tables e below Q (T.setTop (mkF m pc (Array.mk ls) full)) := by
  obtain ⟨cB, kB, i1, i2, i3⟩ := isOf (T := T) hZ eT E
  subst hst
  obtain ⟨v, vm1, ⟨T', L', k', n'⟩, -, X', ⟨Lc, hq, l1, y1, z1⟩, st'⟩ := X.virtualBack hx (y := y) (z := y) hown (mvT hZ w1) (mvT hZ w2) (notFace_of_selects (args := #[]) (mvT hZ w5)) (mvT hZ w5) (mvT hZ w6) hy (backOf (W := W) (Q := fun v h' L => q v ∧ L = [] ∧ h' = h) hM hZ w4 w3 hf hl) i1 i3 (g := mkF m pc (Array.mk ls) (argsL.reverse ++ .ref a :: st)) rfl hsize (Steps.refl _) (argsL := argsL) (rest := st) (lenOf hpd hlen) rfl (by show 2 * 0 + _ ≤ _; omega) hd (fun _ _ => ⟨rfl, eT, hcc, hss⟩)
  dsimp only [Pt.U, Pt.locs, Pt.cells, Pt.slots] at X' l1 y1 z1 st' hq
  subst l1 y1 z1
  obtain ⟨h1, rfl, h3⟩ := hq
  rw [List.append_nil] at X'
  exact own_go (fun t k => st'.trans k) (k T' v X' h3 h1)
/-- a constructor, by its contract -/
theorem own_callI (X : Stand p l e R s m args below meth c T locs cells slots) (hx : p.tables.exec = Jvm.exec) (hZ : Z.Warmed39 s.vm) (hown : s.vm.findClass own = some m.cls) {index : Nat} {y : MethodName} (hy1 : y.name = "<init>") {bytes : ByteArray} {maxL : Nat} {rm : Room}
    (w1 : (Cond.methodLink own index y).before a0 Z = true) (w2 : (Cond.instanceMethod y).before a0 Z = true) (w3 : (Cond.initialized y.cls).before a0 Z = true) (w4 : (Cond.code y bytes maxL none).before a0 Z = true) (hy : y.cls ≠ "java/lang/invoke/MethodHandle" ∧ y.cls ≠ "java/lang/invoke/VarHandle")
    (eT : T.heap = h) (a : Addr) (argsL : List Value) {ps : List FieldType} {r : Option FieldType} (hpd : parseMethodDescriptor y.desc = some ⟨ps, r⟩) (hlen : argsL.length = ps.length) {q : Option Value → Heap → List Loc → Prop}
    (hM : MetFree l y (head1 [Cond.code y bytes maxL none] rm) (fun b U => b = (.ref a :: argsL).toArray ∧ Z.Warmed39 U.vm ∧ U.heap = h) (fun _ _ _ _ _ => True) (fun _ U o U' => own_Fin U rm.cells rm.slots q o U'))
    (hsize : ls.length = c.maxLocals) (W : Nat) {full : List Value} (hst : full = argsL.reverse ++ .ref a :: st) (hW : (st.map fun v => v.category).sum ≤ W) (hd : decode c.code pc = .ok (.invokespecial index, 3)) (hf : rm.frames + 1 ≤ R.frames) (hl : W + (maxL + 11) + rm.locals ≤ R.locals) (hcc : cells + rm.cells ≤ R.cells) (hss : slots + rm.slots ≤ R.slots)
    (k : ∀ T' v L, Stand p l e R s m args below meth c T' (locs ++ L) (cells + rm.cells) (slots + rm.slots) → q v T'.heap L → own_Go p.tables e below Q (T'.setTop (mkF m (pc + 3) (Array.mk ls) (v.toList ++ st)))) :
    own_Go p.tables e below Q (T.setTop (mkF m pc (Array.mk ls) full)) := by
  subst hst
  obtain ⟨v, vm1, ⟨T', L', k', n'⟩, -, X', ⟨Lc, hq, l1, y1, z1⟩, st'⟩ := X.specialBack hx hy1 hown (mvT hZ w1) (mvT hZ w2) (mvT hZ w4) hy (backOf (W := W) (Q := q) hM hZ w4 w3 hf hl) (g := mkF m pc (Array.mk ls) (argsL.reverse ++ .ref a :: st)) rfl hsize (Steps.refl _) (a := a) (argsL := argsL) (rest := st) (lenOf hpd hlen) rfl (by show 2 * 0 + _ ≤ _; omega) hd (fun _ _ => ⟨rfl, eT, hcc, hss⟩)
  dsimp only [Pt.U, Pt.locs, Pt.cells, Pt.slots] at X' l1 y1 z1 st' hq
  subst l1 y1 z1
  exact own_go (fun t k => st'.trans k) (k T' v Lc X' hq)
/-- an instance method, by its contract -/
theorem own_callV (X : Stand p l e R s m args below meth c T locs cells slots) (hx : p.tables.exec = Jvm.exec) (hZ : Z.Warmed39 s.vm) (hown : s.vm.findClass own = some m.cls) {index : Nat} {C : String} {y : MethodName} {bytes : ByteArray} {maxL : Nat} {ret : Option FieldType} {rm : Room}
    (w1 : (Cond.methodLink own index y).before a0 Z = true) (w2 : (Cond.declares y).before a0 Z = true) (w5 : (Cond.selects C y y).before a0 Z = true) (w6 : (Cond.instanceMethod y).before a0 Z = true) (w3 : (Cond.initialized y.cls).before a0 Z = true) (w4 : (Cond.code y bytes maxL ret).before a0 Z = true) (hy : y.cls ≠ "java/lang/invoke/MethodHandle" ∧ y.cls ≠ "java/lang/invoke/VarHandle")
    (eT : T.heap = h) {a : Addr} (E : Exa Z h a C) (argsL : List Value) {ps : List FieldType} {r : Option FieldType} (hpd : parseMethodDescriptor y.desc = some ⟨ps, r⟩) (hlen : argsL.length = ps.length) {q : Option Value → Heap → List Loc → Prop}
    (hM : MetFree l y (head1 [Cond.code y bytes maxL ret] rm) (fun b U => b = (.ref a :: argsL).toArray ∧ Z.Warmed39 U.vm ∧ U.heap = h) (fun _ _ _ _ _ => True) (fun _ U o U' => own_Fin U rm.cells rm.slots q o U'))
    (hsize : ls.length = c.maxLocals) (W : Nat) {full : List Value} (hst : full = argsL.reverse ++ .ref a :: st) (hW : (st.map fun v => v.category).sum ≤ W) (hd : decode c.code pc = .ok (.invokevirtual index, 3)) (hf : rm.frames + 1 ≤ R.frames) (hl : W + (maxL + 11) + rm.locals ≤ R.locals) (hcc : cells + rm.cells ≤ R.cells) (hss : slots + rm.slots ≤ R.slots)
    (k : ∀ T' v L, Stand p l e R s m args below meth c T' (locs ++ L) (cells + rm.cells) (slots + rm.slots) → q v T'.heap L → own_Go p.tables e below Q (T'.setTop (mkF m (pc + 3) (Array.mk ls) (v.toList ++ st)))) :
    own_Go p.tables e below Q (T.setTop (mkF m pc (Array.mk ls) full)) := by
  subst hst
  obtain ⟨cB, kB, i1, i2, i3⟩ := isOf (T := T) hZ eT E
  obtain ⟨v, vm1, ⟨T', L', k', n'⟩, -, X', ⟨Lc, hq, l1, y1, z1⟩, st'⟩ := X.virtualBack hx (y := y) (z := y) hown (mvT hZ w1) (mvT hZ w2) (notFace_of_selects (args := #[]) (mvT hZ w5)) (mvT hZ w5) (mvT hZ w6) hy (backOf (W := W) (Q := q) hM hZ w4 w3 hf hl) i1 i3 (g := mkF m pc (Array.mk ls) (argsL.reverse ++ .ref a :: st)) rfl hsize (Steps.refl _) (argsL := argsL) (rest := st) (lenOf hpd hlen) rfl (by show 2 * 0 + _ ≤ _; omega) hd (fun _ _ => ⟨rfl, eT, hcc, hss⟩)
  dsimp only [Pt.U, Pt.locs, Pt.cells, Pt.slots] at X' l1 y1 z1 st' hq
  subst l1 y1 z1
  exact own_go (fun t k => st'.trans k) (k T' v Lc X' hq)
end OwnHeap
/-- a body's contract, entered: the walk begins at pc 0 -/
theorem own_body {l : Launch} {x : MethodName} {bytes : ByteArray} {maxL : Nat} {ret : Option FieldType} {ws : List Jvm.Cond} {rm : Room} {C S : Nat} {Z : State} {as' : Array Value} {h0 : Heap} {q : Option Value → Heap → List Loc → Prop} (hx : plainFor x = true)
    {ls0 : List Slot} (hent : ∀ m : MethodId, entryFrame m as' maxL = mkF m 0 (Array.mk ls0) [])
    (body : ∀ (p : Program) (e : Env) (s : State) (m : MethodId) (below : List Frame) (meth : Method) (c : Code) (T : State), p.tables.exec = Jvm.exec → c.code = bytes → c.maxLocals = maxL → s.vm.findClass x.cls = some m.cls → meth.name = x.name → meth.locks = false → meth.sig.returnType = ret → Z.Warmed39 s.vm → Stand p l e rm s m as' below meth c T [] 0 0 → T.heap = h0 →
      own_Go p.tables e below (own_Fin s C S q) (T.setTop (mkF m 0 (Array.mk ls0) []))) :
    MetFree l x (head1 (Jvm.Cond.code x bytes maxL ret :: ws) rm) (fun a U => a = as' ∧ Z.Warmed39 U.vm ∧ U.heap = h0) (fun _ _ _ _ _ => True) (fun _ U o U' => own_Fin U C S q o U') := by
  refine MetFree.of_bodySF hx hisR ?_
  intro p e s m args below meth c s₁ Bd hml0 hP hK
  obtain ⟨rfl, hZ, hh⟩ := hP
  have e0 : s₁.heap = h0 := by rw [← hh, Bd.state]; rfl
  rw [hent m]
  exact body p e s m below meth c s₁ Bd.exec Bd.bytes hml0 (findClass_of_methodNamed Bd.named) (name_of_methodNamed Bd.named Bd.method).1 Bd.notSynchronized Bd.returns hZ (Stand.of_body Bd) e0
/-! OWN KIT 3: doubles by their value in units of 2^-1074; rounding is monotone; what is a whole number of 2^-g and small is exact -/
def own_z (a : UInt64) : Int := FP.Core.zval FP.Core.b64 (FP.Core.val64 a)
def own_num (a : UInt64) : Prop := FP.Core.val64 a ≠ .nan
theorem own_fin_num {a : UInt64} (h : FP.Core.DFin a) : own_num a := FP.Core.DFin.ne_nan h
theorem own_nn {a : UInt64} (h : own_num a) : Jvm.Free.Fl.NoNaN64 a := Jvm.Free.Fl.val64_no.mpr h
theorem own_cmp {a b : UInt64} (ha : own_num a) (hb : own_num b) : FP.dcmp a b = some (compare (own_z a) (own_z b)) := FP.Core.dcmp_zval ha hb
theorem own_lt {a b : UInt64} (ha : own_num a) (hb : own_num b) (h : own_z a < own_z b) : FP.dcmp a b = some .lt := FP.Core.dcmp_lt.mpr ⟨ha, hb, h⟩
theorem own_gt {a b : UInt64} (ha : own_num a) (hb : own_num b) (h : own_z b < own_z a) : FP.dcmp a b = some .gt := FP.Core.dcmp_gt.mpr ⟨ha, hb, h⟩
theorem own_eq {a b : UInt64} (ha : own_num a) (hb : own_num b) (h : own_z a = own_z b) : FP.dcmp a b = some .eq := FP.Core.dcmp_eq.mpr ⟨ha, hb, h⟩
theorem own_num_add {a b : UInt64} (ha : FP.Core.DFin a) (hb : FP.Core.DFin b) : own_num (FP.dadd a b) :=
  Jvm.Free.Fl.val64_no.mp (Jvm.Free.Fl.dadd_out (own_nn (own_fin_num ha)) (Jvm.Free.Fl.fin64_core.mpr hb))
theorem own_num_sub {a b : UInt64} (ha : FP.Core.DFin a) (hb : FP.Core.DFin b) : own_num (FP.dsub a b) :=
  Jvm.Free.Fl.val64_no.mp (Jvm.Free.Fl.dsub_out (own_nn (own_fin_num ha)) (Jvm.Free.Fl.fin64_core.mpr hb))
theorem own_num_mul {a b : UInt64} (ha : FP.Core.DFin a) (hb : FP.Core.DFin b) : own_num (FP.dmul a b) :=
  Jvm.Free.Fl.val64_no.mp (Jvm.Free.Fl.dmul_out (Jvm.Free.Fl.fin64_core.mpr ha) (Jvm.Free.Fl.fin64_core.mpr hb))
theorem own_num_div {a b : UInt64} (ha : own_num a) (hb : FP.Core.DFin b) (hz : own_z b ≠ 0) : own_num (FP.ddiv a b) := by
  refine Jvm.Free.Fl.val64_no.mp (Jvm.Free.Fl.ddiv_out (own_nn ha) (Jvm.Free.Fl.fin64_core.mpr hb) ((Jvm.Free.Fl.nz64_iff b).mpr fun q => hz ?_))
  exact (FP.Core.zval_eq_zero (own_fin_num hb)).mpr q
theorem own_add_le {a b v : UInt64} (ha : FP.Core.DFin a) (hb : FP.Core.DFin b) (hv : own_num v) (h : own_z a + own_z b ≤ own_z v) : own_z (FP.dadd a b) ≤ own_z v := by
  show FP.Core.zval FP.Core.b64 (FP.Core.val64 (FP.Core.dadd a b)) ≤ _
  rw [FP.Core.val64_dadd]
  exact FP.Core.sum_le FP.Core.good_b64 ha hb (FP.Core.val64_fits _) (FP.Core.val64_fits _) (FP.Core.val64_fits _) hv h
theorem own_add_ge {a b v : UInt64} (ha : FP.Core.DFin a) (hb : FP.Core.DFin b) (hv : own_num v) (h : own_z v ≤ own_z a + own_z b) : own_z v ≤ own_z (FP.dadd a b) := by
  show _ ≤ FP.Core.zval FP.Core.b64 (FP.Core.val64 (FP.Core.dadd a b))
  rw [FP.Core.val64_dadd]
  exact FP.Core.sum_ge FP.Core.good_b64 ha hb (FP.Core.val64_fits _) (FP.Core.val64_fits _) (FP.Core.val64_fits _) hv h
theorem own_neg_fin {b : UInt64} (hb : FP.Core.DFin b) : ∃ s c q, FP.Core.negate (FP.Core.val64 b) = .fin s c q := by
  obtain ⟨s, c, q, e⟩ := hb
  exact ⟨!s, c, q, by rw [e]; rfl⟩
theorem own_sub_le {a b v : UInt64} (ha : FP.Core.DFin a) (hb : FP.Core.DFin b) (hv : own_num v) (h : own_z a - own_z b ≤ own_z v) : own_z (FP.dsub a b) ≤ own_z v := by
  show FP.Core.zval FP.Core.b64 (FP.Core.val64 (FP.Core.dsub a b)) ≤ _
  rw [FP.Core.val64_dsub]
  exact FP.Core.sum_le FP.Core.good_b64 ha (own_neg_fin hb) (FP.Core.val64_fits _) (FP.Core.negate_fits (FP.Core.val64_fits _)) (FP.Core.val64_fits _) hv (by rw [FP.Core.zval_negate]; exact h)
theorem own_sub_ge {a b v : UInt64} (ha : FP.Core.DFin a) (hb : FP.Core.DFin b) (hv : own_num v) (h : own_z v ≤ own_z a - own_z b) : own_z v ≤ own_z (FP.dsub a b) := by
  show _ ≤ FP.Core.zval FP.Core.b64 (FP.Core.val64 (FP.Core.dsub a b))
  rw [FP.Core.val64_dsub]
  exact FP.Core.sum_ge FP.Core.good_b64 ha (own_neg_fin hb) (FP.Core.val64_fits _) (FP.Core.negate_fits (FP.Core.val64_fits _)) (FP.Core.val64_fits _) hv (by rw [FP.Core.zval_negate]; exact h)
theorem own_pow1 : 2 ^ (FP.Core.b64.qmin - 2 * FP.Core.b64.qmin).toNat = FP.Core.one64 := by
  rw [← FP.Core.pow_qmin64, FP.Core.qmin_b64]; rfl
theorem own_mul_le {a b v : UInt64} (ha : FP.Core.DFin a) (hb : FP.Core.DFin b) (hv : own_num v) (h : own_z a * own_z b ≤ own_z v * (FP.Core.one64 : Int)) : own_z (FP.dmul a b) ≤ own_z v := by
  obtain ⟨s, c, q, e1⟩ := ha
  obtain ⟨t, d, r, e2⟩ := hb
  have f1 : FP.Core.fits FP.Core.b64 (.fin s c q) := e1 ▸ FP.Core.val64_fits a
  have f2 : FP.Core.fits FP.Core.b64 (.fin t d r) := e2 ▸ FP.Core.val64_fits b
  obtain ⟨g1, g2, g3⟩ := FP.Core.product_units f1 f2
  show FP.Core.zval FP.Core.b64 (FP.Core.val64 (FP.Core.dmul a b)) ≤ FP.Core.zval FP.Core.b64 (FP.Core.val64 v)
  unfold own_z at h
  rw [FP.Core.val64_dmul, e1, e2, g1]
  rw [e1, e2] at h
  have hq := FP.Core.qmin_neg FP.Core.good_b64
  refine FP.Core.zval_round_le FP.Core.good_b64 (e0 := 2 * FP.Core.b64.qmin) (FP.Core.val64_fits v) hv (by omega) g2 ?_
  rw [g3, own_pow1, FP.Core.signed_xor]
  exact h
theorem own_mul_ge {a b v : UInt64} (ha : FP.Core.DFin a) (hb : FP.Core.DFin b) (hv : own_num v) (h : own_z v * (FP.Core.one64 : Int) ≤ own_z a * own_z b) : own_z v ≤ own_z (FP.dmul a b) := by
  obtain ⟨s, c, q, e1⟩ := ha
  obtain ⟨t, d, r, e2⟩ := hb
  have f1 : FP.Core.fits FP.Core.b64 (.fin s c q) := e1 ▸ FP.Core.val64_fits a
  have f2 : FP.Core.fits FP.Core.b64 (.fin t d r) := e2 ▸ FP.Core.val64_fits b
  obtain ⟨g1, g2, g3⟩ := FP.Core.product_units f1 f2
  show FP.Core.zval FP.Core.b64 (FP.Core.val64 v) ≤ FP.Core.zval FP.Core.b64 (FP.Core.val64 (FP.Core.dmul a b))
  unfold own_z at h
  rw [FP.Core.val64_dmul, e1, e2, g1]
  rw [e1, e2] at h
  have hq := FP.Core.qmin_neg FP.Core.good_b64
  refine FP.Core.zval_round_ge FP.Core.good_b64 (e0 := 2 * FP.Core.b64.qmin) (FP.Core.val64_fits v) hv (by omega) g2 ?_
  rw [g3, own_pow1, FP.Core.signed_xor]
  exact h
/-- the quotient's magnitude against a double's -/
theorem own_div_mag {a b v : UInt64} {s t : Bool} {c d : Nat} {q r : Int} (e1 : FP.Core.val64 a = .fin s c q) (e2 : FP.Core.val64 b = .fin t d r) (hd : 0 < d) (hv : own_num v) :
    FP.Core.val64 (FP.ddiv a b) = FP.Core.roundRatio FP.Core.b64 (s != t) c d (q - r) ∧
    (FP.Core.zmag FP.Core.b64 (FP.Core.val64 a) * FP.Core.one64 ≤ FP.Core.zmag FP.Core.b64 (FP.Core.val64 v) * FP.Core.zmag FP.Core.b64 (FP.Core.val64 b) → FP.Core.zmag FP.Core.b64 (FP.Core.val64 (FP.ddiv a b)) ≤ FP.Core.zmag FP.Core.b64 (FP.Core.val64 v)) ∧
    (FP.Core.zmag FP.Core.b64 (FP.Core.val64 v) * FP.Core.zmag FP.Core.b64 (FP.Core.val64 b) ≤ FP.Core.zmag FP.Core.b64 (FP.Core.val64 a) * FP.Core.one64 → FP.Core.zmag FP.Core.b64 (FP.Core.val64 v) ≤ FP.Core.zmag FP.Core.b64 (FP.Core.val64 (FP.ddiv a b))) := by
  have f1 : FP.Core.fits FP.Core.b64 (.fin s c q) := e1 ▸ FP.Core.val64_fits a
  have f2 : FP.Core.fits FP.Core.b64 (.fin t d r) := e2 ▸ FP.Core.val64_fits b
  have hq := FP.Core.qmin_b64
  have k1 := f1.2.1
  have k2 := f2.2.1
  have E : FP.Core.val64 (FP.ddiv a b) = FP.Core.roundRatio FP.Core.b64 (s != t) c d (q - r) := by
    show FP.Core.val64 (FP.Core.ddiv a b) = _
    rw [FP.Core.val64_ddiv, e1, e2]
    show (if d = 0 then _ else _) = _
    rw [if_neg (by omega)]
  have A1 : FP.Core.inUnits c (q - r) (FP.Core.b64.qmin - (r - FP.Core.b64.qmin)) = FP.Core.zmag FP.Core.b64 (FP.Core.val64 a) * FP.Core.one64 := by
    rw [e1]
    show c * 2 ^ _ = c * 2 ^ _ * 2 ^ 1074
    rw [Nat.mul_assoc, ← Nat.pow_add]
    congr 2
    omega
  have A2 : 2 ^ (FP.Core.b64.qmin - (FP.Core.b64.qmin - (r - FP.Core.b64.qmin))).toNat * d = FP.Core.zmag FP.Core.b64 (FP.Core.val64 b) := by
    rw [e2]
    show _ = d * 2 ^ _
    rw [Nat.mul_comm]
    congr 2
    omega
  refine ⟨E, fun h => ?_, fun h => ?_⟩
  · rw [E]
    refine FP.Core.zmag_roundRatio_le FP.Core.good_b64 (e0 := FP.Core.b64.qmin - (r - FP.Core.b64.qmin)) hd (FP.Core.val64_fits v) hv (by omega) (by omega) ?_
    rw [A1, Nat.mul_assoc, A2]; exact h
  · rw [E]
    refine FP.Core.zmag_roundRatio_ge FP.Core.good_b64 (e0 := FP.Core.b64.qmin - (r - FP.Core.b64.qmin)) hd (FP.Core.val64_fits v) (by omega) (by omega) ?_
    rw [A1, Nat.mul_assoc, A2]; exact h
theorem own_signed_cases (s : Bool) (m : Nat) : (s = false ∧ FP.Core.signed s m = (m : Int)) ∨ (s = true ∧ FP.Core.signed s m = -(m : Int)) := by
  cases s
  · exact Or.inl ⟨rfl, rfl⟩
  · exact Or.inr ⟨rfl, rfl⟩
theorem own_div_le {a b v : UInt64} (ha : FP.Core.DFin a) (hb : FP.Core.DFin b) (hv : own_num v) (hp : 0 < own_z b) (h : own_z a * (FP.Core.one64 : Int) ≤ own_z v * own_z b) : own_z (FP.ddiv a b) ≤ own_z v := by
  obtain ⟨s, c, q, e1⟩ := ha
  obtain ⟨t, d, r, e2⟩ := hb
  have hz : own_z b = FP.Core.signed t (FP.Core.zmag FP.Core.b64 (FP.Core.val64 b)) := by unfold own_z FP.Core.zval; rw [e2]; rfl
  have ht : t = false := by
    rcases own_signed_cases t (FP.Core.zmag FP.Core.b64 (FP.Core.val64 b)) with q | q
    · exact q.1
    · rw [hz, q.2] at hp; omega
  subst ht
  have hz' : own_z b = (FP.Core.zmag FP.Core.b64 (FP.Core.val64 b) : Int) := hz
  have hd : 0 < d := by
    rcases Nat.eq_zero_or_pos d with q0 | q0
    · subst q0
      rw [hz', e2] at hp
      have : FP.Core.zmag FP.Core.b64 (.fin false 0 r) = 0 := Nat.zero_mul _
      rw [this] at hp; omega
    · exact q0
  obtain ⟨E, L, G⟩ := own_div_mag (v := v) e1 e2 hd hv
  have hsr : FP.Core.sgn (FP.Core.val64 (FP.ddiv a b)) = s := by rw [E, FP.Core.sgn_roundRatio]; cases s <;> rfl
  have za : own_z a = FP.Core.signed s (FP.Core.zmag FP.Core.b64 (FP.Core.val64 a)) := by unfold own_z FP.Core.zval; rw [e1]; rfl
  have zr : own_z (FP.ddiv a b) = FP.Core.signed s (FP.Core.zmag FP.Core.b64 (FP.Core.val64 (FP.ddiv a b))) := by unfold own_z FP.Core.zval; rw [hsr]
  have zv : own_z v = FP.Core.signed (FP.Core.sgn (FP.Core.val64 v)) (FP.Core.zmag FP.Core.b64 (FP.Core.val64 v)) := rfl
  rw [za, hz'] at h
  rw [hz'] at hp
  rw [zr]
  generalize FP.Core.zmag FP.Core.b64 (FP.Core.val64 (FP.ddiv a b)) = R at *
  generalize FP.Core.zmag FP.Core.b64 (FP.Core.val64 a) = A at *
  generalize FP.Core.zmag FP.Core.b64 (FP.Core.val64 b) = B at *
  generalize FP.Core.zmag FP.Core.b64 (FP.Core.val64 v) = V at *
  have hU := FP.Core.one64_pos
  generalize FP.Core.one64 = U at *
  rcases own_signed_cases s A with ⟨rfl, h1⟩ | ⟨rfl, h1⟩
  · rw [h1] at h
    have hn : 0 ≤ own_z v := by
      rcases Int.lt_or_le (own_z v) 0 with q | q
      · have := Int.mul_neg_of_neg_of_pos q hp
        have := Int.mul_nonneg (Int.natCast_nonneg A) (Int.natCast_nonneg U)
        omega
      · exact q
    have hvV : own_z v = (V : Int) := by
      rcases own_signed_cases (FP.Core.sgn (FP.Core.val64 v)) V with q | q
      · rw [zv]; exact q.2
      · rw [zv, q.2] at hn; rw [zv, q.2]; omega
    rw [hvV] at h ⊢
    have := L (by exact_mod_cast h)
    show (R : Int) ≤ V
    omega
  · rw [h1] at h
    show -(R : Int) ≤ own_z v
    rcases Int.lt_or_le (own_z v) 0 with q | q
    · have hvV : own_z v = -(V : Int) := by
        rcases own_signed_cases (FP.Core.sgn (FP.Core.val64 v)) V with q' | q'
        · rw [zv, q'.2] at q; omega
        · rw [zv]; exact q'.2
      rw [hvV] at h ⊢
      rw [Int.neg_mul, Int.neg_mul] at h
      have := G (by exact_mod_cast (by omega : (V : Int) * B ≤ A * U))
      omega
    · omega
theorem own_div_ge {a b v : UInt64} (ha : FP.Core.DFin a) (hb : FP.Core.DFin b) (hv : own_num v) (hp : 0 < own_z b) (h : own_z v * own_z b ≤ own_z a * (FP.Core.one64 : Int)) : own_z v ≤ own_z (FP.ddiv a b) := by
  have nz : ∀ x : UInt64, own_z (FP.Core.dneg x) = -own_z x := fun x => by
    unfold own_z
    rw [FP.Core.val64_dneg, FP.Core.zval_negate]
  have nf : FP.Core.DFin (FP.Core.dneg a) := by
    obtain ⟨s, c, q, e⟩ := ha
    exact ⟨!s, c, q, by rw [FP.Core.val64_dneg, e]; rfl⟩
  have nn : own_num (FP.Core.dneg v) := by
    unfold own_num
    rw [FP.Core.val64_dneg]
    exact FP.Core.negate_ne_nan hv
  have q := own_div_le (a := FP.Core.dneg a) (v := FP.Core.dneg v) nf hb nn hp (by rw [nz, nz, Int.neg_mul, Int.neg_mul]; omega)
  have e : FP.ddiv (FP.Core.dneg a) b = FP.Core.dneg (FP.ddiv a b) := FP.Core.ddiv_dneg a b
  rw [e, nz, nz] at q
  omega
/-- a is the number N / 2^g -/
def own_D (g : Nat) (N : Int) (a : UInt64) : Prop := FP.Core.DFin a ∧ own_z a = N * ((2 ^ (1074 - g) : Nat) : Int)
theorem own_rep (g : Nat) (hg : g ≤ 1074) (N : Int) (hN : N.natAbs < 9007199254740992) : ∃ v, own_D g N v := by
  have hq := FP.Core.qmin_b64
  obtain ⟨c', q', e1, e2⟩ := FP.Core.round_exact FP.Core.good_b64 (decide (N < 0)) (c := N.natAbs) (q := -(g : Int)) (by rw [show (2 : Nat) ^ FP.Core.b64.p = 9007199254740992 from by decide]; exact hN) (by omega) (by rw [show FP.Core.b64.qmax = 971 from by decide]; omega)
  have e3 : FP.Core.val64 (FP.Core.of64 (FP.Core.round FP.Core.b64 (.fin (decide (N < 0)) N.natAbs (-(g : Int))))) = .fin (decide (N < 0)) c' q' := by
    rw [FP.Core.val64_of64 (FP.Core.round_fits FP.Core.good_b64 _), e1]
  refine ⟨_, ⟨_, _, _, e3⟩, ?_⟩
  unfold own_z
  rw [e3]
  show FP.Core.signed (decide (N < 0)) (FP.Core.inUnits c' q' FP.Core.b64.qmin) = _
  rw [e2]
  have e4 : FP.Core.inUnits N.natAbs (-(g : Int)) FP.Core.b64.qmin = N.natAbs * 2 ^ (1074 - g) := by
    show _ * 2 ^ _ = _
    rw [hq, show (-(g : Int) - -1074).toNat = 1074 - g by omega]
  rw [e4, FP.Core.signed_mul]
  congr 1
  rcases own_signed_cases (decide (N < 0)) N.natAbs with ⟨h1, h2⟩ | ⟨h1, h2⟩
  · rw [h2]
    have := of_decide_eq_false h1
    omega
  · rw [h2]
    have := of_decide_eq_true h1
    omega
theorem own_D.num {g : Nat} {N : Int} {a : UInt64} (h : own_D g N a) : own_num a := own_fin_num h.1
theorem own_u_pos (g : Nat) : (0 : Int) < ((2 ^ (1074 - g) : Nat) : Int) := by
  have := Nat.two_pow_pos (1074 - g)
  omega
theorem own_one (g : Nat) (hg : g ≤ 1074) : (FP.Core.one64 : Int) = ((2 ^ g : Nat) : Int) * ((2 ^ (1074 - g) : Nat) : Int) := by
  rw [← Int.natCast_mul, ← Nat.pow_add, show g + (1074 - g) = 1074 by omega]
  rfl
theorem own_fin_of {r c : UInt64} (hr : own_num r) (hc : FP.Core.DFin c) (h : own_z r = own_z c) : FP.Core.DFin r := by
  have h1 := FP.Core.DFin.zval_lt hc
  cases hv : FP.Core.val64 r with
  | nan => exact absurd hv hr
  | fin s c q => exact ⟨s, c, q, hv⟩
  | inf s =>
    exfalso
    unfold own_z FP.Core.zval at h
    rw [hv] at h
    have h2 := congrArg Int.natAbs h
    rw [FP.Core.natAbs_signed, FP.Core.natAbs_signed] at h2
    rw [← h2] at h1
    exact Nat.lt_irrefl _ h1
theorem own_D.of_le_ge {g : Nat} {N : Int} {r v : UInt64} (hr : own_num r) (hv : own_D g N v) (h1 : own_z r ≤ own_z v) (h2 : own_z v ≤ own_z r) : own_D g N r := by
  have e : own_z r = own_z v := by omega
  exact ⟨own_fin_of hr hv.1 e, e.trans hv.2⟩
theorem own_D.add {g : Nat} (hg : g ≤ 1074) {N M : Int} {a b : UInt64} (ha : own_D g N a) (hb : own_D g M b) (h : (N + M).natAbs < 9007199254740992) : own_D g (N + M) (FP.dadd a b) := by
  obtain ⟨v, hv⟩ := own_rep g hg _ h
  have e : own_z a + own_z b = own_z v := by rw [ha.2, hb.2, hv.2, Int.add_mul]
  exact own_D.of_le_ge (own_num_add ha.1 hb.1) hv (own_add_le ha.1 hb.1 hv.num (by omega)) (own_add_ge ha.1 hb.1 hv.num (by omega))
theorem own_D.sub {g : Nat} (hg : g ≤ 1074) {N M : Int} {a b : UInt64} (ha : own_D g N a) (hb : own_D g M b) (h : (N - M).natAbs < 9007199254740992) : own_D g (N - M) (FP.dsub a b) := by
  obtain ⟨v, hv⟩ := own_rep g hg _ h
  have e : own_z a - own_z b = own_z v := by rw [ha.2, hb.2, hv.2, Int.sub_mul]
  exact own_D.of_le_ge (own_num_sub ha.1 hb.1) hv (own_sub_le ha.1 hb.1 hv.num (by omega)) (own_sub_ge ha.1 hb.1 hv.num (by omega))
/-- the value of a product against K / 2^g -/
theorem own_mul_z {g : Nat} (hg : g ≤ 1074) {N M K : Int} {a b v : UInt64} (ha : own_D g N a) (hb : own_D g M b) (hv : own_D g K v) :
    (N * M ≤ K * ((2 ^ g : Nat) : Int) → own_z a * own_z b ≤ own_z v * (FP.Core.one64 : Int)) ∧ (K * ((2 ^ g : Nat) : Int) ≤ N * M → own_z v * (FP.Core.one64 : Int) ≤ own_z a * own_z b) := by
  rw [ha.2, hb.2, hv.2, own_one g hg]
  have hu := own_u_pos g
  generalize ((2 ^ (1074 - g) : Nat) : Int) = u at *
  generalize ((2 ^ g : Nat) : Int) = G at *
  have e1 : N * u * (M * u) = (N * M) * (u * u) := by rw [Int.mul_assoc, Int.mul_left_comm u M u, ← Int.mul_assoc N M]
  have e2 : K * u * (G * u) = (K * G) * (u * u) := by rw [Int.mul_assoc, Int.mul_left_comm u G u, ← Int.mul_assoc K G]
  rw [e1, e2]
  have hp : 0 ≤ u * u := Int.mul_nonneg (by omega) (by omega)
  exact ⟨fun h => Int.mul_le_mul_of_nonneg_right h hp, fun h => Int.mul_le_mul_of_nonneg_right h hp⟩
theorem own_D.mul {g : Nat} (hg : g ≤ 1074) {N M K : Int} {a b : UInt64} (ha : own_D g N a) (hb : own_D g M b) (e : N * M = K * ((2 ^ g : Nat) : Int)) (h : K.natAbs < 9007199254740992) : own_D g K (FP.dmul a b) := by
  obtain ⟨v, hv⟩ := own_rep g hg _ h
  have q := own_mul_z hg ha hb hv
  exact own_D.of_le_ge (own_num_mul ha.1 hb.1) hv (own_mul_le ha.1 hb.1 hv.num (q.1 (by omega))) (own_mul_ge ha.1 hb.1 hv.num (q.2 (by omega)))
theorem own_div_z {g : Nat} (hg : g ≤ 1074) {N M K : Int} {a b v : UInt64} (ha : own_D g N a) (hb : own_D g M b) (hv : own_D g K v) :
    (N * ((2 ^ g : Nat) : Int) ≤ K * M → own_z a * (FP.Core.one64 : Int) ≤ own_z v * own_z b) ∧ (K * M ≤ N * ((2 ^ g : Nat) : Int) → own_z v * own_z b ≤ own_z a * (FP.Core.one64 : Int)) := by
  rw [ha.2, hb.2, hv.2, own_one g hg]
  have hu := own_u_pos g
  generalize ((2 ^ (1074 - g) : Nat) : Int) = u at *
  generalize ((2 ^ g : Nat) : Int) = G at *
  have e1 : N * u * (G * u) = (N * G) * (u * u) := by rw [Int.mul_assoc, Int.mul_left_comm u G u, ← Int.mul_assoc N G]
  have e2 : K * u * (M * u) = (K * M) * (u * u) := by rw [Int.mul_assoc, Int.mul_left_comm u M u, ← Int.mul_assoc K M]
  rw [e1, e2]
  have hp : 0 ≤ u * u := Int.mul_nonneg (by omega) (by omega)
  exact ⟨fun h => Int.mul_le_mul_of_nonneg_right h hp, fun h => Int.mul_le_mul_of_nonneg_right h hp⟩
theorem own_D.pos {g : Nat} {M : Int} {b : UInt64} (hb : own_D g M b) (h : 0 < M) : 0 < own_z b := by
  rw [hb.2]
  exact Int.mul_pos h (own_u_pos g)
theorem own_D.ne {g : Nat} {M : Int} {b : UInt64} (hb : own_D g M b) (h : M ≠ 0) : own_z b ≠ 0 := by
  rw [hb.2]
  exact Int.mul_ne_zero h (by have := own_u_pos g; omega)
theorem own_D.div {g : Nat} (hg : g ≤ 1074) {N M K : Int} {a b : UInt64} (ha : own_D g N a) (hb : own_D g M b) (hM : 0 < M) (e : N * ((2 ^ g : Nat) : Int) = K * M) (h : K.natAbs < 9007199254740992) : own_D g K (FP.ddiv a b) := by
  obtain ⟨v, hv⟩ := own_rep g hg _ h
  have q := own_div_z hg ha hb hv
  exact own_D.of_le_ge (own_num_div ha.num hb.1 (hb.ne (by omega))) hv (own_div_le ha.1 hb.1 hv.num (hb.pos hM) (q.1 (by omega))) (own_div_ge ha.1 hb.1 hv.num (hb.pos hM) (q.2 (by omega)))
/-- bounds on a rounded quotient, by numbers K / 2^g -/
theorem own_div_hi {g : Nat} (hg : g ≤ 1074) {N M K : Int} {a b : UInt64} (ha : own_D g N a) (hb : own_D g M b) (hM : 0 < M) (h : N * ((2 ^ g : Nat) : Int) ≤ K * M) (hK : K.natAbs < 9007199254740992) : own_z (FP.ddiv a b) ≤ K * ((2 ^ (1074 - g) : Nat) : Int) := by
  obtain ⟨v, hv⟩ := own_rep g hg _ hK
  rw [← hv.2]
  exact own_div_le ha.1 hb.1 hv.num (hb.pos hM) ((own_div_z hg ha hb hv).1 h)
theorem own_div_lo {g : Nat} (hg : g ≤ 1074) {N M K : Int} {a b : UInt64} (ha : own_D g N a) (hb : own_D g M b) (hM : 0 < M) (h : K * M ≤ N * ((2 ^ g : Nat) : Int)) (hK : K.natAbs < 9007199254740992) : K * ((2 ^ (1074 - g) : Nat) : Int) ≤ own_z (FP.ddiv a b) := by
  obtain ⟨v, hv⟩ := own_rep g hg _ hK
  rw [← hv.2]
  exact own_div_ge ha.1 hb.1 hv.num (hb.pos hM) ((own_div_z hg ha hb hv).2 h)
/-- a number between two doubles' values is finite -/
theorem own_fin_btw {g : Nat} (hg : g ≤ 1074) {A B : Int} {r : UInt64} (hr : own_num r) (h1 : A * ((2 ^ (1074 - g) : Nat) : Int) ≤ own_z r) (h2 : own_z r ≤ B * ((2 ^ (1074 - g) : Nat) : Int)) (hA : A.natAbs < 9007199254740992) (hB : B.natAbs < 9007199254740992) : FP.Core.DFin r := by
  obtain ⟨va, ha⟩ := own_rep g hg _ hA
  obtain ⟨vb, hb⟩ := own_rep g hg _ hB
  rw [← ha.2] at h1
  rw [← hb.2] at h2
  cases hv : FP.Core.val64 r with
  | nan => exact absurd hv hr
  | fin s c q => exact ⟨s, c, q, hv⟩
  | inf s =>
    exfalso
    have la := FP.Core.DFin.zval_lt ha.1
    have lb := FP.Core.DFin.zval_lt hb.1
    have e : own_z r = FP.Core.signed s (FP.Core.b64.tails * 2 ^ (FP.Core.b64.exps - 2)) := by unfold own_z FP.Core.zval; rw [hv]; rfl
    have na : (own_z va).natAbs = FP.Core.zmag FP.Core.b64 (FP.Core.val64 va) := FP.Core.natAbs_signed _ _
    have nb : (own_z vb).natAbs = FP.Core.zmag FP.Core.b64 (FP.Core.val64 vb) := FP.Core.natAbs_signed _ _
    rw [← na] at la
    rw [← nb] at lb
    generalize FP.Core.b64.tails * 2 ^ (FP.Core.b64.exps - 2) = top at *
    rcases own_signed_cases s top with ⟨-, q⟩ | ⟨-, q⟩ <;> rw [q] at e <;> omega
theorem own_D.up {g : Nat} {N : Int} {a : UInt64} (h : own_D g N a) (j : Nat) (hj : g + j ≤ 1074) : own_D (g + j) (N * ((2 ^ j : Nat) : Int)) a := by
  refine ⟨h.1, ?_⟩
  rw [h.2, Int.mul_assoc, ← Int.natCast_mul, ← Nat.pow_add, show j + (1074 - (g + j)) = 1074 - g by omega]
theorem own_D.int {i : Int} {a : UInt64} (h : FP.Core.DInt i a) : own_D 0 i a := by
  refine ⟨?_, ?_⟩
  · have h' : FP.Core.Whole i (FP.Core.val64 a) := h
    cases hv : FP.Core.val64 a with
    | nan => rw [hv] at h'; exact h'.elim
    | inf s => rw [hv] at h'; exact h'.elim
    | fin s c q => exact ⟨s, c, q, hv⟩
  · exact FP.Core.DInt_zval h
theorem own_D.i2d (x : Int32) : own_D 0 x.toInt (FP.i2d x) := own_D.int (FP.Core.i2d_int x)
theorem own_D.l2d {x : Int64} (h : x.toInt.natAbs ≤ 9007199254740992) : own_D 0 x.toInt (FP.l2d x) := own_D.int (FP.Core.l2d_int h)
/-- an int at the granularity g -/
theorem own_D.i2dg (g : Nat) (hg : g ≤ 1074) (x : Int32) : own_D g (x.toInt * ((2 ^ g : Nat) : Int)) (FP.i2d x) := by
  have := (own_D.i2d x).up g (by omega)
  rw [Nat.zero_add] at this
  exact this
theorem own_D.l2dg (g : Nat) (hg : g ≤ 1074) {x : Int64} (h : x.toInt.natAbs ≤ 9007199254740992) : own_D g (x.toInt * ((2 ^ g : Nat) : Int)) (FP.l2d x) := by
  have := (own_D.l2d h).up g (by omega)
  rw [Nat.zero_add] at this
  exact this
theorem own_D.lt {g : Nat} {N M : Int} {a b : UInt64} (ha : own_D g N a) (hb : own_D g M b) (h : N < M) : FP.dcmp a b = some .lt := own_lt ha.num hb.num (by rw [ha.2, hb.2]; exact Int.mul_lt_mul_of_pos_right h (own_u_pos g))
theorem own_D.gt {g : Nat} {N M : Int} {a b : UInt64} (ha : own_D g N a) (hb : own_D g M b) (h : M < N) : FP.dcmp a b = some .gt := own_gt ha.num hb.num (by rw [ha.2, hb.2]; exact Int.mul_lt_mul_of_pos_right h (own_u_pos g))
theorem own_D.eq {g : Nat} {N M : Int} {a b : UInt64} (ha : own_D g N a) (hb : own_D g M b) (h : N = M) : FP.dcmp a b = some .eq := own_eq ha.num hb.num (by rw [ha.2, hb.2, h])
theorem own_z_neg (a : UInt64) : own_z (FP.dneg a) = -own_z a := by
  unfold own_z
  rw [FP.val64_dneg, FP.Core.zval_negate]
theorem own_D.neg {g : Nat} {N : Int} {a : UInt64} (h : own_D g N a) : own_D g (-N) (FP.dneg a) := by
  refine ⟨?_, by rw [own_z_neg, h.2, Int.neg_mul]⟩
  obtain ⟨s, c, q, e⟩ := h.1
  exact ⟨!s, c, q, by rw [FP.val64_dneg, e]; rfl⟩
/-- (k t + r) / t, rounded, against k + c / 2^g -/
theorem own_quot {g : Nat} (hg : g ≤ 1074) {k r : Int} {T : Int64} {t : Int32} (hT : T.toInt = k * t.toInt + r) (hb : T.toInt.natAbs ≤ 9007199254740992) (ht : 0 < t.toInt) :
    own_num (FP.ddiv (FP.l2d T) (FP.i2d t)) ∧
    (r = 0 → (k * ((2 ^ g : Nat) : Int)).natAbs < 9007199254740992 → own_D g (k * ((2 ^ g : Nat) : Int)) (FP.ddiv (FP.l2d T) (FP.i2d t))) ∧
    (∀ c : Int, c * t.toInt ≤ r * ((2 ^ g : Nat) : Int) → (k * ((2 ^ g : Nat) : Int) + c).natAbs < 9007199254740992 → (k * ((2 ^ g : Nat) : Int) + c) * ((2 ^ (1074 - g) : Nat) : Int) ≤ own_z (FP.ddiv (FP.l2d T) (FP.i2d t))) ∧
    (∀ c : Int, r * ((2 ^ g : Nat) : Int) ≤ c * t.toInt → (k * ((2 ^ g : Nat) : Int) + c).natAbs < 9007199254740992 → own_z (FP.ddiv (FP.l2d T) (FP.i2d t)) ≤ (k * ((2 ^ g : Nat) : Int) + c) * ((2 ^ (1074 - g) : Nat) : Int)) ∧
    (∀ c : Int, r * ((2 ^ g : Nat) : Int) = c * t.toInt → (k * ((2 ^ g : Nat) : Int) + c).natAbs < 9007199254740992 → own_D g (k * ((2 ^ g : Nat) : Int) + c) (FP.ddiv (FP.l2d T) (FP.i2d t))) := by
  have d1 := own_D.l2dg g hg hb
  have d2 := own_D.i2dg g hg t
  have hG : (0 : Int) < ((2 ^ g : Nat) : Int) := by have := Nat.two_pow_pos g; omega
  have hM : 0 < t.toInt * ((2 ^ g : Nat) : Int) := Int.mul_pos ht hG
  have key : ∀ c : Int, (k * ((2 ^ g : Nat) : Int) + c) * (t.toInt * ((2 ^ g : Nat) : Int)) = (k * t.toInt * ((2 ^ g : Nat) : Int) + c * t.toInt) * ((2 ^ g : Nat) : Int) := by
    intro c
    rw [← Int.mul_assoc, Int.add_mul, Int.mul_right_comm]
  have key2 : T.toInt * ((2 ^ g : Nat) : Int) * ((2 ^ g : Nat) : Int) = (k * t.toInt * ((2 ^ g : Nat) : Int) + r * ((2 ^ g : Nat) : Int)) * ((2 ^ g : Nat) : Int) := by
    rw [hT, Int.add_mul (k * t.toInt)]
  have hn : own_num (FP.ddiv (FP.l2d T) (FP.i2d t)) := own_num_div d1.num d2.1 (d2.ne (by omega))
  have ex : ∀ c : Int, r * ((2 ^ g : Nat) : Int) = c * t.toInt → (k * ((2 ^ g : Nat) : Int) + c).natAbs < 9007199254740992 → own_D g (k * ((2 ^ g : Nat) : Int) + c) (FP.ddiv (FP.l2d T) (FP.i2d t)) :=
    fun c h hc => d1.div hg d2 hM (by rw [key, key2, h]) hc
  refine ⟨hn, fun h0 hc => ?_, fun c h hc => ?_, fun c h hc => ?_, ex⟩
  · have := ex 0 (by rw [h0]; omega) (by rw [Int.add_zero]; exact hc)
    rwa [Int.add_zero] at this
  · refine own_div_lo hg d1 d2 hM ?_ hc
    rw [key, key2]
    exact Int.mul_le_mul_of_nonneg_right (by omega) (by omega)
  · refine own_div_hi hg d1 d2 hM ?_ hc
    rw [key, key2]
    exact Int.mul_le_mul_of_nonneg_right (by omega) (by omega)
theorem own_D.uniq {g : Nat} {N M : Int} {a b : UInt64} (ha : own_D g N a) (hb : own_D g M b) (e : N = M) (h : M ≠ 0) : a = b :=
  FP.Core.eq_bits (fun z => hb.ne h (FP.Core.DZero.zval z)) (ha.eq hb e)
/-! OWN KIT 4: ints and longs by their whole numbers -/
theorem own_and32 (x m : Int32) (h : 0 ≤ m.toInt) : 0 ≤ (x &&& m).toInt ∧ (x &&& m).toInt ≤ m.toInt := by
  have e : (x &&& m).toBitVec.toNat = x.toBitVec.toNat &&& m.toBitVec.toNat := by
    show (x.toBitVec &&& m.toBitVec).toNat = _
    rw [BitVec.toNat_and]
  have h1 : x.toBitVec.toNat &&& m.toBitVec.toNat ≤ m.toBitVec.toNat := Nat.and_le_right
  have h2 := m.toBitVec.isLt
  have h3 : 0 ≤ m.toBitVec.toInt := h
  show 0 ≤ (x &&& m).toBitVec.toInt ∧ (x &&& m).toBitVec.toInt ≤ m.toBitVec.toInt
  rw [BitVec.toInt_eq_toNat_cond] at h3 ⊢
  rw [BitVec.toInt_eq_toNat_cond, e]
  split at h3
  · rw [if_pos (by omega), if_pos (by omega)]; omega
  · omega
theorem own_and64 (x m : Int64) (h : 0 ≤ m.toInt) : 0 ≤ (x &&& m).toInt ∧ (x &&& m).toInt ≤ m.toInt := by
  have e : (x &&& m).toBitVec.toNat = x.toBitVec.toNat &&& m.toBitVec.toNat := by
    show (x.toBitVec &&& m.toBitVec).toNat = _
    rw [BitVec.toNat_and]
  have h1 : x.toBitVec.toNat &&& m.toBitVec.toNat ≤ m.toBitVec.toNat := Nat.and_le_right
  have h2 := m.toBitVec.isLt
  have h3 : 0 ≤ m.toBitVec.toInt := h
  show 0 ≤ (x &&& m).toBitVec.toInt ∧ (x &&& m).toBitVec.toInt ≤ m.toBitVec.toInt
  rw [BitVec.toInt_eq_toNat_cond] at h3 ⊢
  rw [BitVec.toInt_eq_toNat_cond, e]
  split at h3
  · rw [if_pos (by omega), if_pos (by omega)]; omega
  · omega
theorem own_rng32 (x : Int32) : -2147483648 ≤ x.toInt ∧ x.toInt < 2147483648 := ⟨Int32.le_toInt x, Int32.toInt_lt x⟩
theorem own_rng64 (x : Int64) : -9223372036854775808 ≤ x.toInt ∧ x.toInt < 9223372036854775808 := ⟨Int64.le_toInt x, Int64.toInt_lt x⟩
theorem own_i2l (x : Int32) : x.toInt64.toInt = x.toInt := Int32.toInt_toInt64 x
theorem own_add64 {a b : Int64} (h : -9223372036854775808 ≤ a.toInt + b.toInt) (h' : a.toInt + b.toInt < 9223372036854775808) : (a + b).toInt = a.toInt + b.toInt := FP.Core.int64_add h h'
theorem own_sub64 {a b : Int64} (h : -9223372036854775808 ≤ a.toInt - b.toInt) (h' : a.toInt - b.toInt < 9223372036854775808) : (a - b).toInt = a.toInt - b.toInt := FP.Core.int64_sub h h'
theorem own_mul64 {a b : Int64} (h : -9223372036854775808 ≤ a.toInt * b.toInt) (h' : a.toInt * b.toInt < 9223372036854775808) : (a * b).toInt = a.toInt * b.toInt := FP.Core.int64_mul h h'
theorem own_add32 {a b : Int32} (h : -2147483648 ≤ a.toInt + b.toInt) (h' : a.toInt + b.toInt < 2147483648) : (a + b).toInt = a.toInt + b.toInt := by
  rw [Int32.toInt_add, Int.bmod_eq_of_le (by omega) (by omega)]
theorem own_sub32 {a b : Int32} (h : -2147483648 ≤ a.toInt - b.toInt) (h' : a.toInt - b.toInt < 2147483648) : (a - b).toInt = a.toInt - b.toInt := by
  rw [Int32.toInt_sub, Int.bmod_eq_of_le (by omega) (by omega)]
theorem own_mul32 {a b : Int32} (h : -2147483648 ≤ a.toInt * b.toInt) (h' : a.toInt * b.toInt < 2147483648) : (a * b).toInt = a.toInt * b.toInt := by
  rw [Int32.toInt_mul, Int.bmod_eq_of_le (by omega) (by omega)]
theorem own_rem32 (a b : Int32) : (a % b).toInt = a.toInt.tmod b.toInt := Int32.toInt_mod a b
theorem own_rem_pos {a b : Int32} (ha : 0 ≤ a.toInt) (hb : 0 < b.toInt) : 0 ≤ (a % b).toInt ∧ (a % b).toInt < b.toInt := by
  rw [own_rem32, Int.tmod_eq_emod_of_nonneg ha]
  exact ⟨Int.emod_nonneg _ (by omega), Int.emod_lt_of_pos _ hb⟩
/-- what a comparison of doubles pushes -/
theorem own_cv_lt {a b : UInt64} (h : FP.dcmp a b = some .lt) (o : CmpOp) : (cmpValue (FP.dcmp a b) o).toInt = -1 := by rw [h]; rfl
theorem own_cv_eq {a b : UInt64} (h : FP.dcmp a b = some .eq) (o : CmpOp) : (cmpValue (FP.dcmp a b) o).toInt = 0 := by rw [h]; rfl
theorem own_cv_gt {a b : UInt64} (h : FP.dcmp a b = some .gt) (o : CmpOp) : (cmpValue (FP.dcmp a b) o).toInt = 1 := by rw [h]; rfl
theorem own_infn : own_num 9218868437227405312 := by unfold own_num; decide +kernel
/-- what the heap's order gives: r = 1: the first isn't above the second; r = 0: the second isn't above the first -/
def own_ord (r : Int32) (a b : Int) : Prop := (r = 1 ∧ a ≤ b) ∨ (r = 0 ∧ b ≤ a)
def tab0 : List (Nat × Instr) := [(0, .iconst 1), (1, .iload_n 0), (2, .iconst 3), (3, .iand), (4, .iadd), (5, .istore 6), (7, .iload_n 0), (8, .iconst 2), (9, .iushr), (10, .bipush 7), (12, .iand), (13, .iconst 5), (14, .irem), (15, .istore 7), (17, .new 7), (20, .dup), (21, .iload 6), (23, .invokespecial 9), (26, .astore 8), (28, .iload 7), (30, .ifCond .le 12), (33, .aload 8), (35, .iload 5), (37, .iload_n 1), (38, .i2d), (39, .invokevirtual 12), (42, .iload 7), (44, .iconst 1), (45, .if_icmp .le 15), (48, .aload 8), (50, .iload 5), (52, .bipush 11), (54, .iushr), (55, .iload_n 2), (56, .i2d), (57, .invokevirtual 12), (60, .iload 7), (62, .iconst 2), (63, .if_icmp .le 15), (66, .aload 8), (68, .iload 5), (70, .bipush 22), (72, .iushr), (73, .iload_n 3), (74, .i2d), (75, .invokevirtual 12), (78, .iload 7), (80, .iconst 3), (81, .if_icmp .le 15), (84, .aload 8), (86, .iload 5), (88, .iconst (-1)), (89, .ixor), (90, .iload 4), (92, .i2d), (93, .invokevirtual 12), (96, .aload 8), (98, .invokevirtual 16), (101, .dstore 9), (103, .iload 7), (105, .iload 6), (107, .if_icmp .ge 18), (110, .dload 9), (112, .ldc2_w 22), (115, .dcmp .l), (116, .ifCond .ne 7), (119, .iconst 1), (120, .goto 4), (123, .iconst 0), (124, .ireturn), (125, .iload 7), (127, .ifCond .le 7), (130, .iload_n 1), (131, .goto 5), (134, .ldc 26), (136, .istore 11), (138, .iload 7), (140, .iconst 1), (141, .if_icmp .le 7), (144, .iload_n 2), (145, .goto 5), (148, .ldc 26), (150, .istore 12), (152, .iload 7), (154, .iconst 2), (155, .if_icmp .le 7), (158, .iload_n 3), (159, .goto 5), (162, .ldc 26), (164, .istore 13), (166, .iload 7), (168, .iconst 3), (169, .if_icmp .le 8), (172, .iload 4), (174, .goto 5), (177, .ldc 26), (179, .istore 14), (181, .iload 11), (183, .iload 12), (185, .invokestatic 27), (188, .istore 15), (190, .iload 11), (192, .iload 12), (194, .invokestatic 33), (197, .istore 12), (199, .iload 15), (201, .istore 11), (203, .iload 13), (205, .iload 14), (207, .invokestatic 27), (210, .istore 15), (212, .iload 13), (214, .iload 14), (216, .invokestatic 33), (219, .istore 14), (221, .iload 15), (223, .istore 13), (225, .iload 11), (227, .iload 13), (229, .invokestatic 27), (232, .istore 15), (234, .iload 11), (236, .iload 13), (238, .invokestatic 33), (241, .istore 13), (243, .iload 15), (245, .istore 11), (247, .iload 12), (249, .iload 14), (251, .invokestatic 27), (254, .istore 15), (256, .iload 12), (258, .iload 14), (260, .invokestatic 33), (263, .istore 14), (265, .iload 15), (267, .istore 12), (269, .iload 12), (271, .iload 13), (273, .invokestatic 27), (276, .istore 15), (278, .iload 12), (280, .iload 13), (282, .invokestatic 33), (285, .istore 13), (287, .iload 15), (289, .istore 12), (291, .iload 6), (293, .iconst 1), (294, .if_icmp .ne 10), (297, .iload 11), (299, .istore 16), (301, .goto 33), (304, .iload 6), (306, .iconst 2), (307, .if_icmp .ne 10), (310, .iload 12), (312, .istore 16), (314, .goto 20), (317, .iload 6), (319, .iconst 3), (320, .if_icmp .ne 10), (323, .iload 13), (325, .istore 16), (327, .goto 7), (330, .iload 14), (332, .istore 16), (334, .dload 9), (336, .iload 16), (338, .i2d), (339, .dcmp .l), (340, .ifCond .ne 7), (343, .iconst 1), (344, .goto 4), (347, .iconst 0), (348, .ireturn)]
set_option maxRecDepth 65536 in
theorem dec0 : own_dec code tab0 := by
  show ∀ e ∈ tab0, decode code e.1 = .ok (e.2, own_len e.2)
  decide +kernel
theorem seq0 : own_seq tab0 = true := by decide +kernel
def kt0 : List (Nat × Value) := [(22, .double 9218868437227405312), (26, .int 2147483647)]
def ft0 : List (Nat × String × String × String) := []
theorem pn0 : plainName "org/axisfold/search/KNearestLimitPinLaw" = true := by first | (simp [plainName, overriddenIn]; done) | decide +kernel
theorem pf0 : plainFor x = true := plainFor_of_name pn0
theorem pd0 : parseMethodDescriptor "(IIIIII)Z" = some ⟨[.int, .int, .int, .int, .int, .int], some .boolean⟩ := by decide +kernel
def tab1 : List (Nat × Instr) := [(0, .aload_n 0), (1, .invokespecial 1), (4, .iload_n 1), (5, .iconst 1), (6, .if_icmp .ge 17), (9, .new 7), (12, .dup), (13, .iload_n 1), (14, .invokedynamic 9), (19, .invokespecial 13), (22, .athrow), (23, .aload_n 0), (24, .iload_n 1), (25, .putfield 16), (28, .aload_n 0), (29, .iload_n 1), (30, .newarray .int), (32, .putfield 22), (35, .aload_n 0), (36, .iload_n 1), (37, .newarray .double), (39, .putfield 26), (42, .return_)]
set_option maxRecDepth 65536 in
theorem dec1 : own_dec prog_40_method_1_code tab1 := by
  show ∀ e ∈ tab1, decode prog_40_method_1_code e.1 = .ok (e.2, own_len e.2)
  decide +kernel
theorem seq1 : own_seq tab1 = true := by decide +kernel
theorem d1_1 : decode prog_40_method_1_code 1 = .ok (.invokespecial 1, 3) := by decide +kernel
theorem d1_9 : decode prog_40_method_1_code 9 = .ok (.new 7, 3) := by decide +kernel
theorem d1_19 : decode prog_40_method_1_code 19 = .ok (.invokespecial 13, 3) := by decide +kernel
theorem d1_25 : decode prog_40_method_1_code 25 = .ok (.putfield 16, 3) := by decide +kernel
theorem d1_30 : decode prog_40_method_1_code 30 = .ok (.newarray .int, 2) := by decide +kernel
theorem d1_32 : decode prog_40_method_1_code 32 = .ok (.putfield 22, 3) := by decide +kernel
theorem d1_37 : decode prog_40_method_1_code 37 = .ok (.newarray .double, 2) := by decide +kernel
theorem d1_39 : decode prog_40_method_1_code 39 = .ok (.putfield 26, 3) := by decide +kernel
theorem d1_42 : decode prog_40_method_1_code 42 = .ok (.return_, 1) := by decide +kernel
def kt1 : List (Nat × Value) := [(35, .double 9218868437227405312)]
def ft1 : List (Nat × String × String × String) := [(16, "org/axisfold/search/KNearest", "capacity", "I"), (22, "org/axisfold/search/KNearest", "indices", "[I"), (26, "org/axisfold/search/KNearest", "squaredDistances", "[D"), (30, "org/axisfold/search/KNearest", "size", "I"), (43, "org/axisfold/search/KNearest", "offered", "J")]
theorem pn1 : plainName "org/axisfold/search/KNearest" = true := by first | (simp [plainName, overriddenIn]; done) | decide +kernel
theorem pf1 : plainFor (⟨"org/axisfold/search/KNearest", "<init>", "(I)V"⟩ : MethodName) = true := plainFor_of_name pn1
theorem pd1 : parseMethodDescriptor "(I)V" = some ⟨[.int], none⟩ := by decide +kernel
def tab3 : List (Nat × Instr) := [(0, .aload_n 0), (1, .getfield 30), (4, .aload_n 0), (5, .getfield 16), (8, .if_icmp .ge 9), (11, .ldc2_w 35), (14, .goto 9), (17, .aload_n 0), (18, .getfield 26), (21, .iconst 0), (22, .daload), (23, .dreturn)]
set_option maxRecDepth 65536 in
theorem dec3 : own_dec prog_40_method_2_code tab3 := by
  show ∀ e ∈ tab3, decode prog_40_method_2_code e.1 = .ok (e.2, own_len e.2)
  decide +kernel
theorem seq3 : own_seq tab3 = true := by decide +kernel
theorem d3_23 : decode prog_40_method_2_code 23 = .ok (.dreturn, 1) := by decide +kernel
def kt3 : List (Nat × Value) := [(35, .double 9218868437227405312)]
def ft3 : List (Nat × String × String × String) := [(16, "org/axisfold/search/KNearest", "capacity", "I"), (22, "org/axisfold/search/KNearest", "indices", "[I"), (26, "org/axisfold/search/KNearest", "squaredDistances", "[D"), (30, "org/axisfold/search/KNearest", "size", "I"), (43, "org/axisfold/search/KNearest", "offered", "J")]
theorem pn3 : plainName "org/axisfold/search/KNearest" = true := by first | (simp [plainName, overriddenIn]; done) | decide +kernel
theorem pf3 : plainFor (⟨"org/axisfold/search/KNearest", "limit", "()D"⟩ : MethodName) = true := plainFor_of_name pn3
theorem pd3 : parseMethodDescriptor "()D" = some ⟨[], some .double⟩ := by decide +kernel
def tab4 : List (Nat × Instr) := [(0, .aload_n 0), (1, .dup), (2, .getfield 43), (5, .lconst 1), (6, .ladd), (7, .putfield 43), (10, .aload_n 0), (11, .getfield 30), (14, .aload_n 0), (15, .getfield 16), (18, .if_icmp .ge 30), (21, .aload_n 0), (22, .getfield 22), (25, .aload_n 0), (26, .getfield 26), (29, .aload_n 0), (30, .dup), (31, .getfield 30), (34, .dup_x1), (35, .iconst 1), (36, .iadd), (37, .putfield 30), (40, .iload_n 1), (41, .dload_n 2), (42, .invokestatic 47), (45, .goto 30), (48, .aload_n 0), (49, .iload_n 1), (50, .dload_n 2), (51, .invokevirtual 53), (54, .ifCond .eq 21), (57, .aload_n 0), (58, .getfield 22), (61, .aload_n 0), (62, .getfield 26), (65, .iconst 0), (66, .aload_n 0), (67, .getfield 30), (70, .iload_n 1), (71, .dload_n 2), (72, .invokestatic 57), (75, .return_)]
set_option maxRecDepth 65536 in
theorem dec4 : own_dec prog_40_method_4_code tab4 := by
  show ∀ e ∈ tab4, decode prog_40_method_4_code e.1 = .ok (e.2, own_len e.2)
  decide +kernel
theorem seq4 : own_seq tab4 = true := by decide +kernel
theorem d4_7 : decode prog_40_method_4_code 7 = .ok (.putfield 43, 3) := by decide +kernel
theorem d4_37 : decode prog_40_method_4_code 37 = .ok (.putfield 30, 3) := by decide +kernel
theorem d4_42 : decode prog_40_method_4_code 42 = .ok (.invokestatic 47, 3) := by decide +kernel
theorem d4_51 : decode prog_40_method_4_code 51 = .ok (.invokevirtual 53, 3) := by decide +kernel
theorem d4_72 : decode prog_40_method_4_code 72 = .ok (.invokestatic 57, 3) := by decide +kernel
theorem d4_75 : decode prog_40_method_4_code 75 = .ok (.return_, 1) := by decide +kernel
def kt4 : List (Nat × Value) := [(35, .double 9218868437227405312)]
def ft4 : List (Nat × String × String × String) := [(16, "org/axisfold/search/KNearest", "capacity", "I"), (22, "org/axisfold/search/KNearest", "indices", "[I"), (26, "org/axisfold/search/KNearest", "squaredDistances", "[D"), (30, "org/axisfold/search/KNearest", "size", "I"), (43, "org/axisfold/search/KNearest", "offered", "J")]
theorem pn4 : plainName "org/axisfold/search/KNearest" = true := by first | (simp [plainName, overriddenIn]; done) | decide +kernel
theorem pf4 : plainFor (⟨"org/axisfold/search/KNearest", "offer", "(ID)V"⟩ : MethodName) = true := plainFor_of_name pn4
theorem pd4 : parseMethodDescriptor "(ID)V" = some ⟨[.int, .double], none⟩ := by decide +kernel
def tab5 : List (Nat × Instr) := [(0, .iload_n 2), (1, .ifCond .le 50), (4, .iload_n 2), (5, .iconst 1), (6, .isub), (7, .iconst 1), (8, .iushr), (9, .istore 6), (11, .aload_n 1), (12, .iload 6), (14, .daload), (15, .aload_n 0), (16, .iload 6), (18, .iaload), (19, .dload 4), (21, .iload_n 3), (22, .invokestatic 13), (25, .ifCond .ne 6), (28, .goto 23), (31, .aload_n 0), (32, .iload_n 2), (33, .aload_n 0), (34, .iload 6), (36, .iaload), (37, .iastore), (38, .aload_n 1), (39, .iload_n 2), (40, .aload_n 1), (41, .iload 6), (43, .daload), (44, .dastore), (45, .iload 6), (47, .istore_n 2), (48, .goto (-48)), (51, .aload_n 0), (52, .iload_n 2), (53, .iload_n 3), (54, .iastore), (55, .aload_n 1), (56, .iload_n 2), (57, .dload 4), (59, .dastore), (60, .return_)]
set_option maxRecDepth 65536 in
theorem dec5 : own_dec prog_44_method_4_code tab5 := by
  show ∀ e ∈ tab5, decode prog_44_method_4_code e.1 = .ok (e.2, own_len e.2)
  decide +kernel
theorem seq5 : own_seq tab5 = true := by decide +kernel
theorem d5_22 : decode prog_44_method_4_code 22 = .ok (.invokestatic 13, 3) := by decide +kernel
theorem d5_37 : decode prog_44_method_4_code 37 = .ok (.iastore, 1) := by decide +kernel
theorem d5_44 : decode prog_44_method_4_code 44 = .ok (.dastore, 1) := by decide +kernel
theorem d5_54 : decode prog_44_method_4_code 54 = .ok (.iastore, 1) := by decide +kernel
theorem d5_59 : decode prog_44_method_4_code 59 = .ok (.dastore, 1) := by decide +kernel
theorem d5_60 : decode prog_44_method_4_code 60 = .ok (.return_, 1) := by decide +kernel
def kt5 : List (Nat × Value) := []
def ft5 : List (Nat × String × String × String) := []
theorem pn5 : plainName "org/axisfold/search/ResultHeap" = true := by first | (simp [plainName, overriddenIn]; done) | decide +kernel
theorem pf5 : plainFor (⟨"org/axisfold/search/ResultHeap", "siftUp", "([I[DIID)V"⟩ : MethodName) = true := plainFor_of_name pn5
theorem pd5 : parseMethodDescriptor "([I[DIID)V" = some ⟨[(.array .int), (.array .double), .int, .int, .double], none⟩ := by decide +kernel
def tab6 : List (Nat × Instr) := [(0, .iload_n 0), (1, .iload_n 1), (2, .if_icmp .gt 7), (5, .iload_n 0), (6, .goto 4), (9, .iload_n 1), (10, .ireturn)]
set_option maxRecDepth 65536 in
theorem dec6 : own_dec jdk_29_method_69_code tab6 := by
  show ∀ e ∈ tab6, decode jdk_29_method_69_code e.1 = .ok (e.2, own_len e.2)
  decide +kernel
theorem seq6 : own_seq tab6 = true := by decide +kernel
theorem d6_10 : decode jdk_29_method_69_code 10 = .ok (.ireturn, 1) := by decide +kernel
def kt6 : List (Nat × Value) := []
def ft6 : List (Nat × String × String × String) := []
theorem pf6 : plainFor (⟨"java/lang/Math", "min", "(II)I"⟩ : MethodName) = true := by decide +kernel
theorem pd6 : parseMethodDescriptor "(II)I" = some ⟨[.int, .int], some .int⟩ := by decide +kernel
def tab7 : List (Nat × Instr) := [(0, .iload_n 0), (1, .iload_n 1), (2, .if_icmp .lt 7), (5, .iload_n 0), (6, .goto 4), (9, .iload_n 1), (10, .ireturn)]
set_option maxRecDepth 65536 in
theorem dec7 : own_dec jdk_29_method_65_code tab7 := by
  show ∀ e ∈ tab7, decode jdk_29_method_65_code e.1 = .ok (e.2, own_len e.2)
  decide +kernel
theorem seq7 : own_seq tab7 = true := by decide +kernel
theorem d7_10 : decode jdk_29_method_65_code 10 = .ok (.ireturn, 1) := by decide +kernel
def kt7 : List (Nat × Value) := []
def ft7 : List (Nat × String × String × String) := []
theorem pf7 : plainFor (⟨"java/lang/Math", "max", "(II)I"⟩ : MethodName) = true := by decide +kernel
theorem pd7 : parseMethodDescriptor "(II)I" = some ⟨[.int, .int], some .int⟩ := by decide +kernel
def tab8 : List (Nat × Instr) := [(0, .dload_n 0), (1, .dload_n 3), (2, .dcmp .g), (3, .ifCond .lt 15), (6, .dload_n 0), (7, .dload_n 3), (8, .dcmp .l), (9, .ifCond .ne 13), (12, .iload_n 2), (13, .iload 5), (15, .if_icmp .ge 7), (18, .iconst 1), (19, .goto 4), (22, .iconst 0), (23, .ireturn)]
set_option maxRecDepth 65536 in
theorem dec8 : own_dec prog_42_method_2_code tab8 := by
  show ∀ e ∈ tab8, decode prog_42_method_2_code e.1 = .ok (e.2, own_len e.2)
  decide +kernel
theorem seq8 : own_seq tab8 = true := by decide +kernel
theorem d8_23 : decode prog_42_method_2_code 23 = .ok (.ireturn, 1) := by decide +kernel
def kt8 : List (Nat × Value) := []
def ft8 : List (Nat × String × String × String) := []
theorem pn8 : plainName "org/axisfold/search/Neighbours" = true := by first | (simp [plainName, overriddenIn]; done) | decide +kernel
theorem pf8 : plainFor (⟨"org/axisfold/search/Neighbours", "precedes", "(DIDI)Z"⟩ : MethodName) = true := plainFor_of_name pn8
theorem pd8 : parseMethodDescriptor "(DIDI)Z" = some ⟨[.double, .int, .double, .int], some .boolean⟩ := by decide +kernel
def tab9 : List (Nat × Instr) := [(0, .aload_n 0), (1, .getfield 30), (4, .aload_n 0), (5, .getfield 16), (8, .if_icmp .lt 23), (11, .dload_n 2), (12, .iload_n 1), (13, .aload_n 0), (14, .getfield 26), (17, .iconst 0), (18, .daload), (19, .aload_n 0), (20, .getfield 22), (23, .iconst 0), (24, .iaload), (25, .invokestatic 37), (28, .ifCond .eq 7), (31, .iconst 1), (32, .goto 4), (35, .iconst 0), (36, .ireturn)]
set_option maxRecDepth 65536 in
theorem dec9 : own_dec prog_40_method_3_code tab9 := by
  show ∀ e ∈ tab9, decode prog_40_method_3_code e.1 = .ok (e.2, own_len e.2)
  decide +kernel
theorem seq9 : own_seq tab9 = true := by decide +kernel
theorem d9_25 : decode prog_40_method_3_code 25 = .ok (.invokestatic 37, 3) := by decide +kernel
theorem d9_36 : decode prog_40_method_3_code 36 = .ok (.ireturn, 1) := by decide +kernel
def kt9 : List (Nat × Value) := [(35, .double 9218868437227405312)]
def ft9 : List (Nat × String × String × String) := [(16, "org/axisfold/search/KNearest", "capacity", "I"), (22, "org/axisfold/search/KNearest", "indices", "[I"), (26, "org/axisfold/search/KNearest", "squaredDistances", "[D"), (30, "org/axisfold/search/KNearest", "size", "I"), (43, "org/axisfold/search/KNearest", "offered", "J")]
theorem pn9 : plainName "org/axisfold/search/KNearest" = true := by first | (simp [plainName, overriddenIn]; done) | decide +kernel
theorem pf9 : plainFor (⟨"org/axisfold/search/KNearest", "wouldKeep", "(ID)Z"⟩ : MethodName) = true := plainFor_of_name pn9
theorem pd9 : parseMethodDescriptor "(ID)Z" = some ⟨[.int, .double], some .boolean⟩ := by decide +kernel
def tab10 : List (Nat × Instr) := [(0, .iconst 2), (1, .iload_n 2), (2, .imul), (3, .iconst 1), (4, .iadd), (5, .istore 7), (7, .iload 7), (9, .iload_n 3), (10, .if_icmp .ge 89), (13, .iload 7), (15, .iconst 1), (16, .iadd), (17, .istore 8), (19, .iload 8), (21, .iload_n 3), (22, .if_icmp .ge 29), (25, .aload_n 1), (26, .iload 7), (28, .daload), (29, .aload_n 0), (30, .iload 7), (32, .iaload), (33, .aload_n 1), (34, .iload 8), (36, .daload), (37, .aload_n 0), (38, .iload 8), (40, .iaload), (41, .invokestatic 13), (44, .ifCond .eq 7), (47, .iload 8), (49, .istore 7), (51, .dload 5), (53, .iload 4), (55, .aload_n 1), (56, .iload 7), (58, .daload), (59, .aload_n 0), (60, .iload 7), (62, .iaload), (63, .invokestatic 13), (66, .ifCond .ne 6), (69, .goto 30), (72, .aload_n 0), (73, .iload_n 2), (74, .aload_n 0), (75, .iload 7), (77, .iaload), (78, .iastore), (79, .aload_n 1), (80, .iload_n 2), (81, .aload_n 1), (82, .iload 7), (84, .daload), (85, .dastore), (86, .iload 7), (88, .istore_n 2), (89, .iconst 2), (90, .iload_n 2), (91, .imul), (92, .iconst 1), (93, .iadd), (94, .istore 7), (96, .goto (-89)), (99, .aload_n 0), (100, .iload_n 2), (101, .iload 4), (103, .iastore), (104, .aload_n 1), (105, .iload_n 2), (106, .dload 5), (108, .dastore), (109, .return_)]
set_option maxRecDepth 65536 in
theorem dec10 : own_dec prog_44_method_5_code tab10 := by
  show ∀ e ∈ tab10, decode prog_44_method_5_code e.1 = .ok (e.2, own_len e.2)
  decide +kernel
theorem seq10 : own_seq tab10 = true := by decide +kernel
theorem d10_41 : decode prog_44_method_5_code 41 = .ok (.invokestatic 13, 3) := by decide +kernel
theorem d10_63 : decode prog_44_method_5_code 63 = .ok (.invokestatic 13, 3) := by decide +kernel
theorem d10_78 : decode prog_44_method_5_code 78 = .ok (.iastore, 1) := by decide +kernel
theorem d10_85 : decode prog_44_method_5_code 85 = .ok (.dastore, 1) := by decide +kernel
theorem d10_103 : decode prog_44_method_5_code 103 = .ok (.iastore, 1) := by decide +kernel
theorem d10_108 : decode prog_44_method_5_code 108 = .ok (.dastore, 1) := by decide +kernel
theorem d10_109 : decode prog_44_method_5_code 109 = .ok (.return_, 1) := by decide +kernel
def kt10 : List (Nat × Value) := []
def ft10 : List (Nat × String × String × String) := []
theorem pn10 : plainName "org/axisfold/search/ResultHeap" = true := by first | (simp [plainName, overriddenIn]; done) | decide +kernel
theorem pf10 : plainFor (⟨"org/axisfold/search/ResultHeap", "siftDown", "([I[DIIID)V"⟩ : MethodName) = true := plainFor_of_name pn10
theorem pd10 : parseMethodDescriptor "([I[DIIID)V" = some ⟨[(.array .int), (.array .double), .int, .int, .int, .double], none⟩ := by decide +kernel
set_option maxRecDepth 65536 in
set_option maxHeartbeats 40000000 in
theorem rm8 (l : Launch) (Z : State) (a0 : Array Value) (hw : ∀ d ∈ tables_1, d.before a0 Z = true) (ws : List Jvm.Cond) (x y : UInt64) (i j : Int32) (a b : Int) (h0 : Heap) (n0 : Nat) (Z0 : n0 ≤ h0.size) (Dx : own_D 0 a x) (Dy : own_D 0 b y) :
    MetFree l (⟨"org/axisfold/search/Neighbours", "precedes", "(DIDI)Z"⟩ : MethodName) (head1 (Jvm.Cond.code (⟨"org/axisfold/search/Neighbours", "precedes", "(DIDI)Z"⟩ : MethodName) prog_42_method_2_code 6 (some .boolean) :: ws) ({ frames := 0, cells := 0, slots := 0, locals := 0 } : Room)) (fun as_ U => as_ = #[.double x, .int i, .double y, .int j] ∧ Z.Warmed39 U.vm ∧ U.heap = h0) (fun _ _ _ _ _ => True) (fun _ U o U' => own_Fin U ({ frames := 0, cells := 0, slots := 0, locals := 0 } : Room).cells ({ frames := 0, cells := 0, slots := 0, locals := 0 } : Room).slots (fun v h L => (∃ r, v = some (.int r) ∧ own_ord r a b) ∧ L = [] ∧ h = h0) o U') := by
  refine own_body pf8 (ls0 := [.val (.double x), .second, .val (.int i), .val (.double y), .second, .val (.int j)]) (fun m => by first | (simp [entryFrame, mkF, argsToLocals, Value.category, maxLocals]; done) | rfl) ?_
  intro p e s m below meth c T0 hx hby hml hown hnm hlk hret hZ X0 e0
  have hK : own_ks "org/axisfold/search/Neighbours" a0 Z kt8 := trivial
  have hF : own_fs "org/axisfold/search/Neighbours" a0 Z ft8 := trivial
  have N0 := Fr.nil n0
  rcases Int.lt_trichotomy a b with q | q | q
  · skip
    refine own_blk dec8 seq8 hby hx hZ hown hK hF 6 [true] [] X0 e0 ?_
    show ((cmpValue (FP.dcmp x y) .g).toInt < 0) ∧ own_Aft X0 h0 _ 23 [.val (.double x), .second, .val (.int i), .val (.double y), .second, .val (.int j)] [.int (1 : Int32)]
    refine ⟨by rw [own_cv_lt (Dx.lt Dy q)]; omega, fun T1 X1 eh1 => ?_⟩
    exact own_ret X1 hx hlk eh1 hret (by first | rfl | decide) (Or.inl ⟨rfl, by simp, _, rfl⟩) (hb hby d8_23) (by decide) (by decide) (⟨⟨_, rfl, Or.inl ⟨rfl, by omega⟩⟩, rfl, rfl⟩)
  · skip
    by_cases hij : i.toInt < j.toInt
    · skip
      refine own_blk dec8 seq8 hby hx hZ hown hK hF 13 [false, false, false] [] X0 e0 ?_
      show (¬ ((cmpValue (FP.dcmp x y) .g).toInt < 0)) ∧ (¬ ((cmpValue (FP.dcmp x y) .l).toInt ≠ 0)) ∧ (¬ ((j).toInt ≤ (i).toInt)) ∧ own_Aft X0 h0 _ 23 [.val (.double x), .second, .val (.int i), .val (.double y), .second, .val (.int j)] [.int (1 : Int32)]
      refine ⟨by rw [own_cv_eq (Dx.eq Dy q)]; omega, by rw [own_cv_eq (Dx.eq Dy q)]; omega, by omega, fun T2 X2 eh2 => ?_⟩
      exact own_ret X2 hx hlk eh2 hret (by first | rfl | decide) (Or.inl ⟨rfl, by simp, _, rfl⟩) (hb hby d8_23) (by decide) (by decide) (⟨⟨_, rfl, Or.inl ⟨rfl, by omega⟩⟩, rfl, rfl⟩)
    · skip
      refine own_blk dec8 seq8 hby hx hZ hown hK hF 12 [false, false, true] [] X0 e0 ?_
      show (¬ ((cmpValue (FP.dcmp x y) .g).toInt < 0)) ∧ (¬ ((cmpValue (FP.dcmp x y) .l).toInt ≠ 0)) ∧ ((j).toInt ≤ (i).toInt) ∧ own_Aft X0 h0 _ 23 [.val (.double x), .second, .val (.int i), .val (.double y), .second, .val (.int j)] [.int (0 : Int32)]
      refine ⟨by rw [own_cv_eq (Dx.eq Dy q)]; omega, by rw [own_cv_eq (Dx.eq Dy q)]; omega, by omega, fun T3 X3 eh3 => ?_⟩
      exact own_ret X3 hx hlk eh3 hret (by first | rfl | decide) (Or.inl ⟨rfl, by simp, _, rfl⟩) (hb hby d8_23) (by decide) (by decide) (⟨⟨_, rfl, Or.inr ⟨rfl, by omega⟩⟩, rfl, rfl⟩)
  · skip
    refine own_blk dec8 seq8 hby hx hZ hown hK hF 9 [false, true] [] X0 e0 ?_
    show (¬ ((cmpValue (FP.dcmp x y) .g).toInt < 0)) ∧ ((cmpValue (FP.dcmp x y) .l).toInt ≠ 0) ∧ own_Aft X0 h0 _ 23 [.val (.double x), .second, .val (.int i), .val (.double y), .second, .val (.int j)] [.int (0 : Int32)]
    refine ⟨by rw [own_cv_gt (Dx.gt Dy q)]; omega, by rw [own_cv_gt (Dx.gt Dy q)]; omega, fun T4 X4 eh4 => ?_⟩
    exact own_ret X4 hx hlk eh4 hret (by first | rfl | decide) (Or.inl ⟨rfl, by simp, _, rfl⟩) (hb hby d8_23) (by decide) (by decide) (⟨⟨_, rfl, Or.inr ⟨rfl, by omega⟩⟩, rfl, rfl⟩)
set_option maxRecDepth 65536 in
set_option maxHeartbeats 40000000 in
theorem rm6 (l : Launch) (Z : State) (a0 : Array Value) (hw : ∀ d ∈ tables_1, d.before a0 Z = true) (ws : List Jvm.Cond) (a b : Int32) (h0 : Heap) (n0 : Nat) (Z0 : n0 ≤ h0.size)  :
    MetFree l (⟨"java/lang/Math", "min", "(II)I"⟩ : MethodName) (head1 (Jvm.Cond.code (⟨"java/lang/Math", "min", "(II)I"⟩ : MethodName) jdk_29_method_69_code 2 (some .int) :: ws) ({ frames := 0, cells := 0, slots := 0, locals := 0 } : Room)) (fun as_ U => as_ = #[.int a, .int b] ∧ Z.Warmed39 U.vm ∧ U.heap = h0) (fun _ _ _ _ _ => True) (fun _ U o U' => own_Fin U ({ frames := 0, cells := 0, slots := 0, locals := 0 } : Room).cells ({ frames := 0, cells := 0, slots := 0, locals := 0 } : Room).slots (fun v h L => (∃ r, v = some (.int r) ∧ r.toInt ≤ a.toInt ∧ r.toInt ≤ b.toInt ∧ (r = a ∨ r = b)) ∧ L = [] ∧ h = h0) o U') := by
  refine own_body pf6 (ls0 := [.val (.int a), .val (.int b)]) (fun m => by first | (simp [entryFrame, mkF, argsToLocals, Value.category, maxLocals]; done) | rfl) ?_
  intro p e s m below meth c T0 hx hby hml hown hnm hlk hret hZ X0 e0
  have hK : own_ks "java/lang/Math" a0 Z kt6 := trivial
  have hF : own_fs "java/lang/Math" a0 Z ft6 := trivial
  have N0 := Fr.nil n0
  by_cases hab : a.toInt ≤ b.toInt
  · skip
    refine own_blk dec6 seq6 hby hx hZ hown hK hF 5 [false] [] X0 e0 ?_
    show (¬ ((b).toInt < (a).toInt)) ∧ own_Aft X0 h0 _ 10 [.val (.int a), .val (.int b)] [.int a]
    refine ⟨by omega, fun T1 X1 eh1 => ?_⟩
    exact own_ret X1 hx hlk eh1 hret (by first | rfl | decide) (Or.inl ⟨rfl, by simp, _, rfl⟩) (hb hby d6_10) (by decide) (by decide) (⟨⟨_, rfl, by omega, by omega, Or.inl rfl⟩, rfl, rfl⟩)
  · skip
    refine own_blk dec6 seq6 hby hx hZ hown hK hF 4 [true] [] X0 e0 ?_
    show ((b).toInt < (a).toInt) ∧ own_Aft X0 h0 _ 10 [.val (.int a), .val (.int b)] [.int b]
    refine ⟨by omega, fun T2 X2 eh2 => ?_⟩
    exact own_ret X2 hx hlk eh2 hret (by first | rfl | decide) (Or.inl ⟨rfl, by simp, _, rfl⟩) (hb hby d6_10) (by decide) (by decide) (⟨⟨_, rfl, by omega, by omega, Or.inr rfl⟩, rfl, rfl⟩)
set_option maxRecDepth 65536 in
set_option maxHeartbeats 40000000 in
theorem rm7 (l : Launch) (Z : State) (a0 : Array Value) (hw : ∀ d ∈ tables_1, d.before a0 Z = true) (ws : List Jvm.Cond) (a b : Int32) (h0 : Heap) (n0 : Nat) (Z0 : n0 ≤ h0.size)  :
    MetFree l (⟨"java/lang/Math", "max", "(II)I"⟩ : MethodName) (head1 (Jvm.Cond.code (⟨"java/lang/Math", "max", "(II)I"⟩ : MethodName) jdk_29_method_65_code 2 (some .int) :: ws) ({ frames := 0, cells := 0, slots := 0, locals := 0 } : Room)) (fun as_ U => as_ = #[.int a, .int b] ∧ Z.Warmed39 U.vm ∧ U.heap = h0) (fun _ _ _ _ _ => True) (fun _ U o U' => own_Fin U ({ frames := 0, cells := 0, slots := 0, locals := 0 } : Room).cells ({ frames := 0, cells := 0, slots := 0, locals := 0 } : Room).slots (fun v h L => (∃ r, v = some (.int r) ∧ a.toInt ≤ r.toInt ∧ b.toInt ≤ r.toInt ∧ (r = a ∨ r = b)) ∧ L = [] ∧ h = h0) o U') := by
  refine own_body pf7 (ls0 := [.val (.int a), .val (.int b)]) (fun m => by first | (simp [entryFrame, mkF, argsToLocals, Value.category, maxLocals]; done) | rfl) ?_
  intro p e s m below meth c T0 hx hby hml hown hnm hlk hret hZ X0 e0
  have hK : own_ks "java/lang/Math" a0 Z kt7 := trivial
  have hF : own_fs "java/lang/Math" a0 Z ft7 := trivial
  have N0 := Fr.nil n0
  by_cases hab : b.toInt ≤ a.toInt
  · skip
    refine own_blk dec7 seq7 hby hx hZ hown hK hF 5 [false] [] X0 e0 ?_
    show (¬ ((a).toInt < (b).toInt)) ∧ own_Aft X0 h0 _ 10 [.val (.int a), .val (.int b)] [.int a]
    refine ⟨by omega, fun T1 X1 eh1 => ?_⟩
    exact own_ret X1 hx hlk eh1 hret (by first | rfl | decide) (Or.inl ⟨rfl, by simp, _, rfl⟩) (hb hby d7_10) (by decide) (by decide) (⟨⟨_, rfl, by omega, by omega, Or.inl rfl⟩, rfl, rfl⟩)
  · skip
    refine own_blk dec7 seq7 hby hx hZ hown hK hF 4 [true] [] X0 e0 ?_
    show ((a).toInt < (b).toInt) ∧ own_Aft X0 h0 _ 10 [.val (.int a), .val (.int b)] [.int b]
    refine ⟨by omega, fun T2 X2 eh2 => ?_⟩
    exact own_ret X2 hx hlk eh2 hret (by first | rfl | decide) (Or.inl ⟨rfl, by simp, _, rfl⟩) (hb hby d7_10) (by decide) (by decide) (⟨⟨_, rfl, by omega, by omega, Or.inr rfl⟩, rfl, rfl⟩)
set_option maxRecDepth 65536 in
set_option maxHeartbeats 40000000 in
theorem rm9_1 (l : Launch) (Z : State) (a0 : Array Value) (hw : ∀ d ∈ tables_1, d.before a0 Z = true) (ws : List Jvm.Cond) (a ia da : Addr) (ix : Int32) (x : UInt64) (b a0_ : Int) (j0 : Int32) (y0 : UInt64) (h0 : Heap) (n0 : Nat) (Z0 : n0 ≤ h0.size) (F1 : Fld Z h0 a "org/axisfold/search/KNearest" "size" "I" (.int (1 : Int32))) (F2 : Fld Z h0 a "org/axisfold/search/KNearest" "capacity" "I" (.int (1 : Int32))) (F3 : Fld Z h0 a "org/axisfold/search/KNearest" "indices" "[I" (.ref ia)) (F4 : Fld Z h0 a "org/axisfold/search/KNearest" "squaredDistances" "[D" (.ref da)) (A1 : own_A Z h0 ia .int [.int j0]) (A2 : own_A Z h0 da .double [.double y0]) (Dx : own_D 0 b x) (D0 : own_D 0 a0_ y0) :
    MetFree l (⟨"org/axisfold/search/KNearest", "wouldKeep", "(ID)Z"⟩ : MethodName) (head1 (Jvm.Cond.code (⟨"org/axisfold/search/KNearest", "wouldKeep", "(ID)Z"⟩ : MethodName) prog_40_method_3_code 4 (some .boolean) :: ws) ({ frames := 1, cells := 0, slots := 0, locals := 20 } : Room)) (fun as_ U => as_ = #[.ref a, .int ix, .double x] ∧ Z.Warmed39 U.vm ∧ U.heap = h0) (fun _ _ _ _ _ => True) (fun _ U o U' => own_Fin U ({ frames := 1, cells := 0, slots := 0, locals := 20 } : Room).cells ({ frames := 1, cells := 0, slots := 0, locals := 20 } : Room).slots (fun v h L => (∃ r, v = some (.int r) ∧ own_ord r b a0_) ∧ L = [] ∧ h = h0) o U') := by
  refine own_body pf9 (ls0 := [.val (.ref a), .val (.int ix), .val (.double x), .second]) (fun m => by first | (simp [entryFrame, mkF, argsToLocals, Value.category, maxLocals]; done) | rfl) ?_
  intro p e s m below meth c T0 hx hby hml hown hnm hlk hret hZ X0 e0
  have hK : own_ks "org/axisfold/search/KNearest" a0 Z kt9 := ⟨hw _ (List.mem_of_getElem? (i := 24) rfl), trivial⟩
  have hF : own_fs "org/axisfold/search/KNearest" a0 Z ft9 := ⟨hw _ (List.mem_of_getElem? (i := 9) rfl), hw _ (List.mem_of_getElem? (i := 12) rfl), hw _ (List.mem_of_getElem? (i := 15) rfl), hw _ (List.mem_of_getElem? (i := 22) rfl), hw _ (List.mem_of_getElem? (i := 31) rfl), trivial⟩
  have N0 := Fr.nil n0
  refine own_blk dec9 seq9 hby hx hZ hown hK hF 15 [false] [.int (1 : Int32), .int (1 : Int32), .ref da, .double y0, .ref ia, .int j0] X0 e0 ?_
  show (Fld Z h0 a "org/axisfold/search/KNearest" "size" "I" (.int (1 : Int32))) ∧ (Fld Z h0 a "org/axisfold/search/KNearest" "capacity" "I" (.int (1 : Int32))) ∧ (¬ (((1 : Int32)).toInt < ((1 : Int32)).toInt)) ∧ (Fld Z h0 a "org/axisfold/search/KNearest" "squaredDistances" "[D" (.ref da)) ∧ (own_at Z h0 da .double (0 : Int32) (.double y0)) ∧ (Fld Z h0 a "org/axisfold/search/KNearest" "indices" "[I" (.ref ia)) ∧ (own_at Z h0 ia .int (0 : Int32) (.int j0)) ∧ own_Aft X0 h0 _ 25 [.val (.ref a), .val (.int ix), .val (.double x), .second] [.int j0, .double y0, .int ix, .double x]
  refine ⟨F1, F2, by decide, F4, A2.at (0 : Int32) 0 rfl rfl, F3, A1.at (0 : Int32) 0 rfl rfl, fun T1 X1 eh1 => ?_⟩
  refine own_callSP X1 hx hZ hown (hw _ (List.mem_of_getElem? (i := 54) rfl)) (hw _ (List.mem_of_getElem? (i := 46) rfl)) (hw _ (List.mem_of_getElem? (i := 47) rfl)) (hw _ (List.mem_of_getElem? (i := 48) rfl)) (by decide) eh1 [.double x, .int ix, .double y0, .int j0] pd8 rfl (fr := 0) (lo := 0) (rm8 l Z a0 hw [] x y0 ix j0 b a0_ h0 n0 Z0 Dx D0) (by rw [hml]; rfl) 0 rfl (Nat.le_of_eq rfl) (hb hby d9_25) (by decide) (by decide) (by decide) (by decide) (fun T2 rv2 X2 eh2 qc2 => ?_)
  obtain ⟨r, rfl, ho⟩ := qc2
  show own_Go p.tables e below _ (T2.setTop (mkF m 28 (Array.mk [.val (.ref a), .val (.int ix), .val (.double x), .second]) [.int r]))
  rcases ho with ⟨rfl, ho⟩ | ⟨rfl, ho⟩
  · skip
    show own_Go p.tables e below _ (T2.setTop (mkF m 28 (Array.mk [.val (.ref a), .val (.int ix), .val (.double x), .second]) [.int (1 : Int32)]))
    refine own_blk dec9 seq9 hby hx hZ hown hK hF 3 [false] [] X2 eh2 ?_
    show (¬ (((1 : Int32)).toInt = 0)) ∧ own_Aft X2 h0 _ 36 [.val (.ref a), .val (.int ix), .val (.double x), .second] [.int (1 : Int32)]
    refine ⟨by decide, fun T3 X3 eh3 => ?_⟩
    exact own_ret X3 hx hlk eh3 hret (by first | rfl | decide) (Or.inl ⟨rfl, by simp, _, rfl⟩) (hb hby d9_36) (by decide) (by decide) (⟨⟨_, rfl, Or.inl ⟨rfl, ho⟩⟩, rfl, rfl⟩)
  · skip
    show own_Go p.tables e below _ (T2.setTop (mkF m 28 (Array.mk [.val (.ref a), .val (.int ix), .val (.double x), .second]) [.int (0 : Int32)]))
    refine own_blk dec9 seq9 hby hx hZ hown hK hF 2 [true] [] X2 eh2 ?_
    show (((0 : Int32)).toInt = 0) ∧ own_Aft X2 h0 _ 36 [.val (.ref a), .val (.int ix), .val (.double x), .second] [.int (0 : Int32)]
    refine ⟨by decide, fun T4 X4 eh4 => ?_⟩
    exact own_ret X4 hx hlk eh4 hret (by first | rfl | decide) (Or.inl ⟨rfl, by simp, _, rfl⟩) (hb hby d9_36) (by decide) (by decide) (⟨⟨_, rfl, Or.inr ⟨rfl, ho⟩⟩, rfl, rfl⟩)
set_option maxRecDepth 65536 in
set_option maxHeartbeats 40000000 in
theorem rm9_2 (l : Launch) (Z : State) (a0 : Array Value) (hw : ∀ d ∈ tables_1, d.before a0 Z = true) (ws : List Jvm.Cond) (a ia da : Addr) (ix : Int32) (x : UInt64) (b a0_ : Int) (j0 j1 : Int32) (y0 y1 : UInt64) (h0 : Heap) (n0 : Nat) (Z0 : n0 ≤ h0.size) (F1 : Fld Z h0 a "org/axisfold/search/KNearest" "size" "I" (.int (2 : Int32))) (F2 : Fld Z h0 a "org/axisfold/search/KNearest" "capacity" "I" (.int (2 : Int32))) (F3 : Fld Z h0 a "org/axisfold/search/KNearest" "indices" "[I" (.ref ia)) (F4 : Fld Z h0 a "org/axisfold/search/KNearest" "squaredDistances" "[D" (.ref da)) (A1 : own_A Z h0 ia .int [.int j0, .int j1]) (A2 : own_A Z h0 da .double [.double y0, .double y1]) (Dx : own_D 0 b x) (D0 : own_D 0 a0_ y0) :
    MetFree l (⟨"org/axisfold/search/KNearest", "wouldKeep", "(ID)Z"⟩ : MethodName) (head1 (Jvm.Cond.code (⟨"org/axisfold/search/KNearest", "wouldKeep", "(ID)Z"⟩ : MethodName) prog_40_method_3_code 4 (some .boolean) :: ws) ({ frames := 1, cells := 0, slots := 0, locals := 20 } : Room)) (fun as_ U => as_ = #[.ref a, .int ix, .double x] ∧ Z.Warmed39 U.vm ∧ U.heap = h0) (fun _ _ _ _ _ => True) (fun _ U o U' => own_Fin U ({ frames := 1, cells := 0, slots := 0, locals := 20 } : Room).cells ({ frames := 1, cells := 0, slots := 0, locals := 20 } : Room).slots (fun v h L => (∃ r, v = some (.int r) ∧ own_ord r b a0_) ∧ L = [] ∧ h = h0) o U') := by
  refine own_body pf9 (ls0 := [.val (.ref a), .val (.int ix), .val (.double x), .second]) (fun m => by first | (simp [entryFrame, mkF, argsToLocals, Value.category, maxLocals]; done) | rfl) ?_
  intro p e s m below meth c T0 hx hby hml hown hnm hlk hret hZ X0 e0
  have hK : own_ks "org/axisfold/search/KNearest" a0 Z kt9 := ⟨hw _ (List.mem_of_getElem? (i := 24) rfl), trivial⟩
  have hF : own_fs "org/axisfold/search/KNearest" a0 Z ft9 := ⟨hw _ (List.mem_of_getElem? (i := 9) rfl), hw _ (List.mem_of_getElem? (i := 12) rfl), hw _ (List.mem_of_getElem? (i := 15) rfl), hw _ (List.mem_of_getElem? (i := 22) rfl), hw _ (List.mem_of_getElem? (i := 31) rfl), trivial⟩
  have N0 := Fr.nil n0
  refine own_blk dec9 seq9 hby hx hZ hown hK hF 15 [false] [.int (2 : Int32), .int (2 : Int32), .ref da, .double y0, .ref ia, .int j0] X0 e0 ?_
  show (Fld Z h0 a "org/axisfold/search/KNearest" "size" "I" (.int (2 : Int32))) ∧ (Fld Z h0 a "org/axisfold/search/KNearest" "capacity" "I" (.int (2 : Int32))) ∧ (¬ (((2 : Int32)).toInt < ((2 : Int32)).toInt)) ∧ (Fld Z h0 a "org/axisfold/search/KNearest" "squaredDistances" "[D" (.ref da)) ∧ (own_at Z h0 da .double (0 : Int32) (.double y0)) ∧ (Fld Z h0 a "org/axisfold/search/KNearest" "indices" "[I" (.ref ia)) ∧ (own_at Z h0 ia .int (0 : Int32) (.int j0)) ∧ own_Aft X0 h0 _ 25 [.val (.ref a), .val (.int ix), .val (.double x), .second] [.int j0, .double y0, .int ix, .double x]
  refine ⟨F1, F2, by decide, F4, A2.at (0 : Int32) 0 rfl rfl, F3, A1.at (0 : Int32) 0 rfl rfl, fun T1 X1 eh1 => ?_⟩
  refine own_callSP X1 hx hZ hown (hw _ (List.mem_of_getElem? (i := 54) rfl)) (hw _ (List.mem_of_getElem? (i := 46) rfl)) (hw _ (List.mem_of_getElem? (i := 47) rfl)) (hw _ (List.mem_of_getElem? (i := 48) rfl)) (by decide) eh1 [.double x, .int ix, .double y0, .int j0] pd8 rfl (fr := 0) (lo := 0) (rm8 l Z a0 hw [] x y0 ix j0 b a0_ h0 n0 Z0 Dx D0) (by rw [hml]; rfl) 0 rfl (Nat.le_of_eq rfl) (hb hby d9_25) (by decide) (by decide) (by decide) (by decide) (fun T2 rv2 X2 eh2 qc2 => ?_)
  obtain ⟨r, rfl, ho⟩ := qc2
  show own_Go p.tables e below _ (T2.setTop (mkF m 28 (Array.mk [.val (.ref a), .val (.int ix), .val (.double x), .second]) [.int r]))
  rcases ho with ⟨rfl, ho⟩ | ⟨rfl, ho⟩
  · skip
    show own_Go p.tables e below _ (T2.setTop (mkF m 28 (Array.mk [.val (.ref a), .val (.int ix), .val (.double x), .second]) [.int (1 : Int32)]))
    refine own_blk dec9 seq9 hby hx hZ hown hK hF 3 [false] [] X2 eh2 ?_
    show (¬ (((1 : Int32)).toInt = 0)) ∧ own_Aft X2 h0 _ 36 [.val (.ref a), .val (.int ix), .val (.double x), .second] [.int (1 : Int32)]
    refine ⟨by decide, fun T3 X3 eh3 => ?_⟩
    exact own_ret X3 hx hlk eh3 hret (by first | rfl | decide) (Or.inl ⟨rfl, by simp, _, rfl⟩) (hb hby d9_36) (by decide) (by decide) (⟨⟨_, rfl, Or.inl ⟨rfl, ho⟩⟩, rfl, rfl⟩)
  · skip
    show own_Go p.tables e below _ (T2.setTop (mkF m 28 (Array.mk [.val (.ref a), .val (.int ix), .val (.double x), .second]) [.int (0 : Int32)]))
    refine own_blk dec9 seq9 hby hx hZ hown hK hF 2 [true] [] X2 eh2 ?_
    show (((0 : Int32)).toInt = 0) ∧ own_Aft X2 h0 _ 36 [.val (.ref a), .val (.int ix), .val (.double x), .second] [.int (0 : Int32)]
    refine ⟨by decide, fun T4 X4 eh4 => ?_⟩
    exact own_ret X4 hx hlk eh4 hret (by first | rfl | decide) (Or.inl ⟨rfl, by simp, _, rfl⟩) (hb hby d9_36) (by decide) (by decide) (⟨⟨_, rfl, Or.inr ⟨rfl, ho⟩⟩, rfl, rfl⟩)
set_option maxRecDepth 65536 in
set_option maxHeartbeats 40000000 in
theorem rm9_3 (l : Launch) (Z : State) (a0 : Array Value) (hw : ∀ d ∈ tables_1, d.before a0 Z = true) (ws : List Jvm.Cond) (a ia da : Addr) (ix : Int32) (x : UInt64) (b a0_ : Int) (j0 j1 j2 : Int32) (y0 y1 y2 : UInt64) (h0 : Heap) (n0 : Nat) (Z0 : n0 ≤ h0.size) (F1 : Fld Z h0 a "org/axisfold/search/KNearest" "size" "I" (.int (3 : Int32))) (F2 : Fld Z h0 a "org/axisfold/search/KNearest" "capacity" "I" (.int (3 : Int32))) (F3 : Fld Z h0 a "org/axisfold/search/KNearest" "indices" "[I" (.ref ia)) (F4 : Fld Z h0 a "org/axisfold/search/KNearest" "squaredDistances" "[D" (.ref da)) (A1 : own_A Z h0 ia .int [.int j0, .int j1, .int j2]) (A2 : own_A Z h0 da .double [.double y0, .double y1, .double y2]) (Dx : own_D 0 b x) (D0 : own_D 0 a0_ y0) :
    MetFree l (⟨"org/axisfold/search/KNearest", "wouldKeep", "(ID)Z"⟩ : MethodName) (head1 (Jvm.Cond.code (⟨"org/axisfold/search/KNearest", "wouldKeep", "(ID)Z"⟩ : MethodName) prog_40_method_3_code 4 (some .boolean) :: ws) ({ frames := 1, cells := 0, slots := 0, locals := 20 } : Room)) (fun as_ U => as_ = #[.ref a, .int ix, .double x] ∧ Z.Warmed39 U.vm ∧ U.heap = h0) (fun _ _ _ _ _ => True) (fun _ U o U' => own_Fin U ({ frames := 1, cells := 0, slots := 0, locals := 20 } : Room).cells ({ frames := 1, cells := 0, slots := 0, locals := 20 } : Room).slots (fun v h L => (∃ r, v = some (.int r) ∧ own_ord r b a0_) ∧ L = [] ∧ h = h0) o U') := by
  refine own_body pf9 (ls0 := [.val (.ref a), .val (.int ix), .val (.double x), .second]) (fun m => by first | (simp [entryFrame, mkF, argsToLocals, Value.category, maxLocals]; done) | rfl) ?_
  intro p e s m below meth c T0 hx hby hml hown hnm hlk hret hZ X0 e0
  have hK : own_ks "org/axisfold/search/KNearest" a0 Z kt9 := ⟨hw _ (List.mem_of_getElem? (i := 24) rfl), trivial⟩
  have hF : own_fs "org/axisfold/search/KNearest" a0 Z ft9 := ⟨hw _ (List.mem_of_getElem? (i := 9) rfl), hw _ (List.mem_of_getElem? (i := 12) rfl), hw _ (List.mem_of_getElem? (i := 15) rfl), hw _ (List.mem_of_getElem? (i := 22) rfl), hw _ (List.mem_of_getElem? (i := 31) rfl), trivial⟩
  have N0 := Fr.nil n0
  refine own_blk dec9 seq9 hby hx hZ hown hK hF 15 [false] [.int (3 : Int32), .int (3 : Int32), .ref da, .double y0, .ref ia, .int j0] X0 e0 ?_
  show (Fld Z h0 a "org/axisfold/search/KNearest" "size" "I" (.int (3 : Int32))) ∧ (Fld Z h0 a "org/axisfold/search/KNearest" "capacity" "I" (.int (3 : Int32))) ∧ (¬ (((3 : Int32)).toInt < ((3 : Int32)).toInt)) ∧ (Fld Z h0 a "org/axisfold/search/KNearest" "squaredDistances" "[D" (.ref da)) ∧ (own_at Z h0 da .double (0 : Int32) (.double y0)) ∧ (Fld Z h0 a "org/axisfold/search/KNearest" "indices" "[I" (.ref ia)) ∧ (own_at Z h0 ia .int (0 : Int32) (.int j0)) ∧ own_Aft X0 h0 _ 25 [.val (.ref a), .val (.int ix), .val (.double x), .second] [.int j0, .double y0, .int ix, .double x]
  refine ⟨F1, F2, by decide, F4, A2.at (0 : Int32) 0 rfl rfl, F3, A1.at (0 : Int32) 0 rfl rfl, fun T1 X1 eh1 => ?_⟩
  refine own_callSP X1 hx hZ hown (hw _ (List.mem_of_getElem? (i := 54) rfl)) (hw _ (List.mem_of_getElem? (i := 46) rfl)) (hw _ (List.mem_of_getElem? (i := 47) rfl)) (hw _ (List.mem_of_getElem? (i := 48) rfl)) (by decide) eh1 [.double x, .int ix, .double y0, .int j0] pd8 rfl (fr := 0) (lo := 0) (rm8 l Z a0 hw [] x y0 ix j0 b a0_ h0 n0 Z0 Dx D0) (by rw [hml]; rfl) 0 rfl (Nat.le_of_eq rfl) (hb hby d9_25) (by decide) (by decide) (by decide) (by decide) (fun T2 rv2 X2 eh2 qc2 => ?_)
  obtain ⟨r, rfl, ho⟩ := qc2
  show own_Go p.tables e below _ (T2.setTop (mkF m 28 (Array.mk [.val (.ref a), .val (.int ix), .val (.double x), .second]) [.int r]))
  rcases ho with ⟨rfl, ho⟩ | ⟨rfl, ho⟩
  · skip
    show own_Go p.tables e below _ (T2.setTop (mkF m 28 (Array.mk [.val (.ref a), .val (.int ix), .val (.double x), .second]) [.int (1 : Int32)]))
    refine own_blk dec9 seq9 hby hx hZ hown hK hF 3 [false] [] X2 eh2 ?_
    show (¬ (((1 : Int32)).toInt = 0)) ∧ own_Aft X2 h0 _ 36 [.val (.ref a), .val (.int ix), .val (.double x), .second] [.int (1 : Int32)]
    refine ⟨by decide, fun T3 X3 eh3 => ?_⟩
    exact own_ret X3 hx hlk eh3 hret (by first | rfl | decide) (Or.inl ⟨rfl, by simp, _, rfl⟩) (hb hby d9_36) (by decide) (by decide) (⟨⟨_, rfl, Or.inl ⟨rfl, ho⟩⟩, rfl, rfl⟩)
  · skip
    show own_Go p.tables e below _ (T2.setTop (mkF m 28 (Array.mk [.val (.ref a), .val (.int ix), .val (.double x), .second]) [.int (0 : Int32)]))
    refine own_blk dec9 seq9 hby hx hZ hown hK hF 2 [true] [] X2 eh2 ?_
    show (((0 : Int32)).toInt = 0) ∧ own_Aft X2 h0 _ 36 [.val (.ref a), .val (.int ix), .val (.double x), .second] [.int (0 : Int32)]
    refine ⟨by decide, fun T4 X4 eh4 => ?_⟩
    exact own_ret X4 hx hlk eh4 hret (by first | rfl | decide) (Or.inl ⟨rfl, by simp, _, rfl⟩) (hb hby d9_36) (by decide) (by decide) (⟨⟨_, rfl, Or.inr ⟨rfl, ho⟩⟩, rfl, rfl⟩)
set_option maxRecDepth 65536 in
set_option maxHeartbeats 40000000 in
theorem rm3_1_0 (l : Launch) (Z : State) (a0 : Array Value) (hw : ∀ d ∈ tables_1, d.before a0 Z = true) (ws : List Jvm.Cond) (a da : Addr) (h0 : Heap) (n0 : Nat) (Z0 : n0 ≤ h0.size) (F1 : Fld Z h0 a "org/axisfold/search/KNearest" "size" "I" (.int (0 : Int32))) (F2 : Fld Z h0 a "org/axisfold/search/KNearest" "capacity" "I" (.int (1 : Int32))) :
    MetFree l (⟨"org/axisfold/search/KNearest", "limit", "()D"⟩ : MethodName) (head1 (Jvm.Cond.code (⟨"org/axisfold/search/KNearest", "limit", "()D"⟩ : MethodName) prog_40_method_2_code 1 (some .double) :: ws) ({ frames := 0, cells := 0, slots := 0, locals := 0 } : Room)) (fun as_ U => as_ = #[.ref a] ∧ Z.Warmed39 U.vm ∧ U.heap = h0) (fun _ _ _ _ _ => True) (fun _ U o U' => own_Fin U ({ frames := 0, cells := 0, slots := 0, locals := 0 } : Room).cells ({ frames := 0, cells := 0, slots := 0, locals := 0 } : Room).slots (fun v h L => (v = some (.double 9218868437227405312)) ∧ L = [] ∧ h = h0) o U') := by
  refine own_body pf3 (ls0 := [.val (.ref a)]) (fun m => by first | (simp [entryFrame, mkF, argsToLocals, Value.category, maxLocals]; done) | rfl) ?_
  intro p e s m below meth c T0 hx hby hml hown hnm hlk hret hZ X0 e0
  have hK : own_ks "org/axisfold/search/KNearest" a0 Z kt3 := ⟨hw _ (List.mem_of_getElem? (i := 24) rfl), trivial⟩
  have hF : own_fs "org/axisfold/search/KNearest" a0 Z ft3 := ⟨hw _ (List.mem_of_getElem? (i := 9) rfl), hw _ (List.mem_of_getElem? (i := 12) rfl), hw _ (List.mem_of_getElem? (i := 15) rfl), hw _ (List.mem_of_getElem? (i := 22) rfl), hw _ (List.mem_of_getElem? (i := 31) rfl), trivial⟩
  have N0 := Fr.nil n0
  refine own_blk dec3 seq3 hby hx hZ hown hK hF 7 [false] [.int (0 : Int32), .int (1 : Int32)] X0 e0 ?_
  show (Fld Z h0 a "org/axisfold/search/KNearest" "size" "I" (.int (0 : Int32))) ∧ (Fld Z h0 a "org/axisfold/search/KNearest" "capacity" "I" (.int (1 : Int32))) ∧ (¬ (((1 : Int32)).toInt ≤ ((0 : Int32)).toInt)) ∧ own_Aft X0 h0 _ 23 [.val (.ref a)] [.double 9218868437227405312]
  refine ⟨F1, F2, by decide, fun T1 X1 eh1 => ?_⟩
  exact own_ret X1 hx hlk eh1 hret (by first | rfl | decide) (Or.inr (Or.inr (Or.inl ⟨rfl, rfl, _, rfl⟩))) (hb hby d3_23) (by decide) (by decide) (⟨rfl, rfl, rfl⟩)
set_option maxRecDepth 65536 in
set_option maxHeartbeats 40000000 in
theorem rm3_1_1 (l : Launch) (Z : State) (a0 : Array Value) (hw : ∀ d ∈ tables_1, d.before a0 Z = true) (ws : List Jvm.Cond) (a da : Addr) (y0 : UInt64) (h0 : Heap) (n0 : Nat) (Z0 : n0 ≤ h0.size) (F1 : Fld Z h0 a "org/axisfold/search/KNearest" "size" "I" (.int (1 : Int32))) (F2 : Fld Z h0 a "org/axisfold/search/KNearest" "capacity" "I" (.int (1 : Int32))) (F4 : Fld Z h0 a "org/axisfold/search/KNearest" "squaredDistances" "[D" (.ref da)) (A2 : own_A Z h0 da .double [.double y0]) :
    MetFree l (⟨"org/axisfold/search/KNearest", "limit", "()D"⟩ : MethodName) (head1 (Jvm.Cond.code (⟨"org/axisfold/search/KNearest", "limit", "()D"⟩ : MethodName) prog_40_method_2_code 1 (some .double) :: ws) ({ frames := 0, cells := 0, slots := 0, locals := 0 } : Room)) (fun as_ U => as_ = #[.ref a] ∧ Z.Warmed39 U.vm ∧ U.heap = h0) (fun _ _ _ _ _ => True) (fun _ U o U' => own_Fin U ({ frames := 0, cells := 0, slots := 0, locals := 0 } : Room).cells ({ frames := 0, cells := 0, slots := 0, locals := 0 } : Room).slots (fun v h L => (v = some (.double y0)) ∧ L = [] ∧ h = h0) o U') := by
  refine own_body pf3 (ls0 := [.val (.ref a)]) (fun m => by first | (simp [entryFrame, mkF, argsToLocals, Value.category, maxLocals]; done) | rfl) ?_
  intro p e s m below meth c T0 hx hby hml hown hnm hlk hret hZ X0 e0
  have hK : own_ks "org/axisfold/search/KNearest" a0 Z kt3 := ⟨hw _ (List.mem_of_getElem? (i := 24) rfl), trivial⟩
  have hF : own_fs "org/axisfold/search/KNearest" a0 Z ft3 := ⟨hw _ (List.mem_of_getElem? (i := 9) rfl), hw _ (List.mem_of_getElem? (i := 12) rfl), hw _ (List.mem_of_getElem? (i := 15) rfl), hw _ (List.mem_of_getElem? (i := 22) rfl), hw _ (List.mem_of_getElem? (i := 31) rfl), trivial⟩
  have N0 := Fr.nil n0
  refine own_blk dec3 seq3 hby hx hZ hown hK hF 9 [true] [.int (1 : Int32), .int (1 : Int32), .ref da, .double y0] X0 e0 ?_
  show (Fld Z h0 a "org/axisfold/search/KNearest" "size" "I" (.int (1 : Int32))) ∧ (Fld Z h0 a "org/axisfold/search/KNearest" "capacity" "I" (.int (1 : Int32))) ∧ (((1 : Int32)).toInt ≤ ((1 : Int32)).toInt) ∧ (Fld Z h0 a "org/axisfold/search/KNearest" "squaredDistances" "[D" (.ref da)) ∧ (own_at Z h0 da .double (0 : Int32) (.double y0)) ∧ own_Aft X0 h0 _ 23 [.val (.ref a)] [.double y0]
  refine ⟨F1, F2, by decide, F4, A2.at (0 : Int32) 0 rfl rfl, fun T1 X1 eh1 => ?_⟩
  exact own_ret X1 hx hlk eh1 hret (by first | rfl | decide) (Or.inr (Or.inr (Or.inl ⟨rfl, rfl, _, rfl⟩))) (hb hby d3_23) (by decide) (by decide) (⟨rfl, rfl, rfl⟩)
set_option maxRecDepth 65536 in
set_option maxHeartbeats 40000000 in
theorem rm3_2_0 (l : Launch) (Z : State) (a0 : Array Value) (hw : ∀ d ∈ tables_1, d.before a0 Z = true) (ws : List Jvm.Cond) (a da : Addr) (h0 : Heap) (n0 : Nat) (Z0 : n0 ≤ h0.size) (F1 : Fld Z h0 a "org/axisfold/search/KNearest" "size" "I" (.int (0 : Int32))) (F2 : Fld Z h0 a "org/axisfold/search/KNearest" "capacity" "I" (.int (2 : Int32))) :
    MetFree l (⟨"org/axisfold/search/KNearest", "limit", "()D"⟩ : MethodName) (head1 (Jvm.Cond.code (⟨"org/axisfold/search/KNearest", "limit", "()D"⟩ : MethodName) prog_40_method_2_code 1 (some .double) :: ws) ({ frames := 0, cells := 0, slots := 0, locals := 0 } : Room)) (fun as_ U => as_ = #[.ref a] ∧ Z.Warmed39 U.vm ∧ U.heap = h0) (fun _ _ _ _ _ => True) (fun _ U o U' => own_Fin U ({ frames := 0, cells := 0, slots := 0, locals := 0 } : Room).cells ({ frames := 0, cells := 0, slots := 0, locals := 0 } : Room).slots (fun v h L => (v = some (.double 9218868437227405312)) ∧ L = [] ∧ h = h0) o U') := by
  refine own_body pf3 (ls0 := [.val (.ref a)]) (fun m => by first | (simp [entryFrame, mkF, argsToLocals, Value.category, maxLocals]; done) | rfl) ?_
  intro p e s m below meth c T0 hx hby hml hown hnm hlk hret hZ X0 e0
  have hK : own_ks "org/axisfold/search/KNearest" a0 Z kt3 := ⟨hw _ (List.mem_of_getElem? (i := 24) rfl), trivial⟩
  have hF : own_fs "org/axisfold/search/KNearest" a0 Z ft3 := ⟨hw _ (List.mem_of_getElem? (i := 9) rfl), hw _ (List.mem_of_getElem? (i := 12) rfl), hw _ (List.mem_of_getElem? (i := 15) rfl), hw _ (List.mem_of_getElem? (i := 22) rfl), hw _ (List.mem_of_getElem? (i := 31) rfl), trivial⟩
  have N0 := Fr.nil n0
  refine own_blk dec3 seq3 hby hx hZ hown hK hF 7 [false] [.int (0 : Int32), .int (2 : Int32)] X0 e0 ?_
  show (Fld Z h0 a "org/axisfold/search/KNearest" "size" "I" (.int (0 : Int32))) ∧ (Fld Z h0 a "org/axisfold/search/KNearest" "capacity" "I" (.int (2 : Int32))) ∧ (¬ (((2 : Int32)).toInt ≤ ((0 : Int32)).toInt)) ∧ own_Aft X0 h0 _ 23 [.val (.ref a)] [.double 9218868437227405312]
  refine ⟨F1, F2, by decide, fun T1 X1 eh1 => ?_⟩
  exact own_ret X1 hx hlk eh1 hret (by first | rfl | decide) (Or.inr (Or.inr (Or.inl ⟨rfl, rfl, _, rfl⟩))) (hb hby d3_23) (by decide) (by decide) (⟨rfl, rfl, rfl⟩)
set_option maxRecDepth 65536 in
set_option maxHeartbeats 40000000 in
theorem rm3_2_1 (l : Launch) (Z : State) (a0 : Array Value) (hw : ∀ d ∈ tables_1, d.before a0 Z = true) (ws : List Jvm.Cond) (a da : Addr) (h0 : Heap) (n0 : Nat) (Z0 : n0 ≤ h0.size) (F1 : Fld Z h0 a "org/axisfold/search/KNearest" "size" "I" (.int (1 : Int32))) (F2 : Fld Z h0 a "org/axisfold/search/KNearest" "capacity" "I" (.int (2 : Int32))) :
    MetFree l (⟨"org/axisfold/search/KNearest", "limit", "()D"⟩ : MethodName) (head1 (Jvm.Cond.code (⟨"org/axisfold/search/KNearest", "limit", "()D"⟩ : MethodName) prog_40_method_2_code 1 (some .double) :: ws) ({ frames := 0, cells := 0, slots := 0, locals := 0 } : Room)) (fun as_ U => as_ = #[.ref a] ∧ Z.Warmed39 U.vm ∧ U.heap = h0) (fun _ _ _ _ _ => True) (fun _ U o U' => own_Fin U ({ frames := 0, cells := 0, slots := 0, locals := 0 } : Room).cells ({ frames := 0, cells := 0, slots := 0, locals := 0 } : Room).slots (fun v h L => (v = some (.double 9218868437227405312)) ∧ L = [] ∧ h = h0) o U') := by
  refine own_body pf3 (ls0 := [.val (.ref a)]) (fun m => by first | (simp [entryFrame, mkF, argsToLocals, Value.category, maxLocals]; done) | rfl) ?_
  intro p e s m below meth c T0 hx hby hml hown hnm hlk hret hZ X0 e0
  have hK : own_ks "org/axisfold/search/KNearest" a0 Z kt3 := ⟨hw _ (List.mem_of_getElem? (i := 24) rfl), trivial⟩
  have hF : own_fs "org/axisfold/search/KNearest" a0 Z ft3 := ⟨hw _ (List.mem_of_getElem? (i := 9) rfl), hw _ (List.mem_of_getElem? (i := 12) rfl), hw _ (List.mem_of_getElem? (i := 15) rfl), hw _ (List.mem_of_getElem? (i := 22) rfl), hw _ (List.mem_of_getElem? (i := 31) rfl), trivial⟩
  have N0 := Fr.nil n0
  refine own_blk dec3 seq3 hby hx hZ hown hK hF 7 [false] [.int (1 : Int32), .int (2 : Int32)] X0 e0 ?_
  show (Fld Z h0 a "org/axisfold/search/KNearest" "size" "I" (.int (1 : Int32))) ∧ (Fld Z h0 a "org/axisfold/search/KNearest" "capacity" "I" (.int (2 : Int32))) ∧ (¬ (((2 : Int32)).toInt ≤ ((1 : Int32)).toInt)) ∧ own_Aft X0 h0 _ 23 [.val (.ref a)] [.double 9218868437227405312]
  refine ⟨F1, F2, by decide, fun T1 X1 eh1 => ?_⟩
  exact own_ret X1 hx hlk eh1 hret (by first | rfl | decide) (Or.inr (Or.inr (Or.inl ⟨rfl, rfl, _, rfl⟩))) (hb hby d3_23) (by decide) (by decide) (⟨rfl, rfl, rfl⟩)
set_option maxRecDepth 65536 in
set_option maxHeartbeats 40000000 in
theorem rm3_2_2 (l : Launch) (Z : State) (a0 : Array Value) (hw : ∀ d ∈ tables_1, d.before a0 Z = true) (ws : List Jvm.Cond) (a da : Addr) (y0 y1 : UInt64) (h0 : Heap) (n0 : Nat) (Z0 : n0 ≤ h0.size) (F1 : Fld Z h0 a "org/axisfold/search/KNearest" "size" "I" (.int (2 : Int32))) (F2 : Fld Z h0 a "org/axisfold/search/KNearest" "capacity" "I" (.int (2 : Int32))) (F4 : Fld Z h0 a "org/axisfold/search/KNearest" "squaredDistances" "[D" (.ref da)) (A2 : own_A Z h0 da .double [.double y0, .double y1]) :
    MetFree l (⟨"org/axisfold/search/KNearest", "limit", "()D"⟩ : MethodName) (head1 (Jvm.Cond.code (⟨"org/axisfold/search/KNearest", "limit", "()D"⟩ : MethodName) prog_40_method_2_code 1 (some .double) :: ws) ({ frames := 0, cells := 0, slots := 0, locals := 0 } : Room)) (fun as_ U => as_ = #[.ref a] ∧ Z.Warmed39 U.vm ∧ U.heap = h0) (fun _ _ _ _ _ => True) (fun _ U o U' => own_Fin U ({ frames := 0, cells := 0, slots := 0, locals := 0 } : Room).cells ({ frames := 0, cells := 0, slots := 0, locals := 0 } : Room).slots (fun v h L => (v = some (.double y0)) ∧ L = [] ∧ h = h0) o U') := by
  refine own_body pf3 (ls0 := [.val (.ref a)]) (fun m => by first | (simp [entryFrame, mkF, argsToLocals, Value.category, maxLocals]; done) | rfl) ?_
  intro p e s m below meth c T0 hx hby hml hown hnm hlk hret hZ X0 e0
  have hK : own_ks "org/axisfold/search/KNearest" a0 Z kt3 := ⟨hw _ (List.mem_of_getElem? (i := 24) rfl), trivial⟩
  have hF : own_fs "org/axisfold/search/KNearest" a0 Z ft3 := ⟨hw _ (List.mem_of_getElem? (i := 9) rfl), hw _ (List.mem_of_getElem? (i := 12) rfl), hw _ (List.mem_of_getElem? (i := 15) rfl), hw _ (List.mem_of_getElem? (i := 22) rfl), hw _ (List.mem_of_getElem? (i := 31) rfl), trivial⟩
  have N0 := Fr.nil n0
  refine own_blk dec3 seq3 hby hx hZ hown hK hF 9 [true] [.int (2 : Int32), .int (2 : Int32), .ref da, .double y0] X0 e0 ?_
  show (Fld Z h0 a "org/axisfold/search/KNearest" "size" "I" (.int (2 : Int32))) ∧ (Fld Z h0 a "org/axisfold/search/KNearest" "capacity" "I" (.int (2 : Int32))) ∧ (((2 : Int32)).toInt ≤ ((2 : Int32)).toInt) ∧ (Fld Z h0 a "org/axisfold/search/KNearest" "squaredDistances" "[D" (.ref da)) ∧ (own_at Z h0 da .double (0 : Int32) (.double y0)) ∧ own_Aft X0 h0 _ 23 [.val (.ref a)] [.double y0]
  refine ⟨F1, F2, by decide, F4, A2.at (0 : Int32) 0 rfl rfl, fun T1 X1 eh1 => ?_⟩
  exact own_ret X1 hx hlk eh1 hret (by first | rfl | decide) (Or.inr (Or.inr (Or.inl ⟨rfl, rfl, _, rfl⟩))) (hb hby d3_23) (by decide) (by decide) (⟨rfl, rfl, rfl⟩)
set_option maxRecDepth 65536 in
set_option maxHeartbeats 40000000 in
theorem rm3_3_0 (l : Launch) (Z : State) (a0 : Array Value) (hw : ∀ d ∈ tables_1, d.before a0 Z = true) (ws : List Jvm.Cond) (a da : Addr) (h0 : Heap) (n0 : Nat) (Z0 : n0 ≤ h0.size) (F1 : Fld Z h0 a "org/axisfold/search/KNearest" "size" "I" (.int (0 : Int32))) (F2 : Fld Z h0 a "org/axisfold/search/KNearest" "capacity" "I" (.int (3 : Int32))) :
    MetFree l (⟨"org/axisfold/search/KNearest", "limit", "()D"⟩ : MethodName) (head1 (Jvm.Cond.code (⟨"org/axisfold/search/KNearest", "limit", "()D"⟩ : MethodName) prog_40_method_2_code 1 (some .double) :: ws) ({ frames := 0, cells := 0, slots := 0, locals := 0 } : Room)) (fun as_ U => as_ = #[.ref a] ∧ Z.Warmed39 U.vm ∧ U.heap = h0) (fun _ _ _ _ _ => True) (fun _ U o U' => own_Fin U ({ frames := 0, cells := 0, slots := 0, locals := 0 } : Room).cells ({ frames := 0, cells := 0, slots := 0, locals := 0 } : Room).slots (fun v h L => (v = some (.double 9218868437227405312)) ∧ L = [] ∧ h = h0) o U') := by
  refine own_body pf3 (ls0 := [.val (.ref a)]) (fun m => by first | (simp [entryFrame, mkF, argsToLocals, Value.category, maxLocals]; done) | rfl) ?_
  intro p e s m below meth c T0 hx hby hml hown hnm hlk hret hZ X0 e0
  have hK : own_ks "org/axisfold/search/KNearest" a0 Z kt3 := ⟨hw _ (List.mem_of_getElem? (i := 24) rfl), trivial⟩
  have hF : own_fs "org/axisfold/search/KNearest" a0 Z ft3 := ⟨hw _ (List.mem_of_getElem? (i := 9) rfl), hw _ (List.mem_of_getElem? (i := 12) rfl), hw _ (List.mem_of_getElem? (i := 15) rfl), hw _ (List.mem_of_getElem? (i := 22) rfl), hw _ (List.mem_of_getElem? (i := 31) rfl), trivial⟩
  have N0 := Fr.nil n0
  refine own_blk dec3 seq3 hby hx hZ hown hK hF 7 [false] [.int (0 : Int32), .int (3 : Int32)] X0 e0 ?_
  show (Fld Z h0 a "org/axisfold/search/KNearest" "size" "I" (.int (0 : Int32))) ∧ (Fld Z h0 a "org/axisfold/search/KNearest" "capacity" "I" (.int (3 : Int32))) ∧ (¬ (((3 : Int32)).toInt ≤ ((0 : Int32)).toInt)) ∧ own_Aft X0 h0 _ 23 [.val (.ref a)] [.double 9218868437227405312]
  refine ⟨F1, F2, by decide, fun T1 X1 eh1 => ?_⟩
  exact own_ret X1 hx hlk eh1 hret (by first | rfl | decide) (Or.inr (Or.inr (Or.inl ⟨rfl, rfl, _, rfl⟩))) (hb hby d3_23) (by decide) (by decide) (⟨rfl, rfl, rfl⟩)
set_option maxRecDepth 65536 in
set_option maxHeartbeats 40000000 in
theorem rm3_3_1 (l : Launch) (Z : State) (a0 : Array Value) (hw : ∀ d ∈ tables_1, d.before a0 Z = true) (ws : List Jvm.Cond) (a da : Addr) (h0 : Heap) (n0 : Nat) (Z0 : n0 ≤ h0.size) (F1 : Fld Z h0 a "org/axisfold/search/KNearest" "size" "I" (.int (1 : Int32))) (F2 : Fld Z h0 a "org/axisfold/search/KNearest" "capacity" "I" (.int (3 : Int32))) :
    MetFree l (⟨"org/axisfold/search/KNearest", "limit", "()D"⟩ : MethodName) (head1 (Jvm.Cond.code (⟨"org/axisfold/search/KNearest", "limit", "()D"⟩ : MethodName) prog_40_method_2_code 1 (some .double) :: ws) ({ frames := 0, cells := 0, slots := 0, locals := 0 } : Room)) (fun as_ U => as_ = #[.ref a] ∧ Z.Warmed39 U.vm ∧ U.heap = h0) (fun _ _ _ _ _ => True) (fun _ U o U' => own_Fin U ({ frames := 0, cells := 0, slots := 0, locals := 0 } : Room).cells ({ frames := 0, cells := 0, slots := 0, locals := 0 } : Room).slots (fun v h L => (v = some (.double 9218868437227405312)) ∧ L = [] ∧ h = h0) o U') := by
  refine own_body pf3 (ls0 := [.val (.ref a)]) (fun m => by first | (simp [entryFrame, mkF, argsToLocals, Value.category, maxLocals]; done) | rfl) ?_
  intro p e s m below meth c T0 hx hby hml hown hnm hlk hret hZ X0 e0
  have hK : own_ks "org/axisfold/search/KNearest" a0 Z kt3 := ⟨hw _ (List.mem_of_getElem? (i := 24) rfl), trivial⟩
  have hF : own_fs "org/axisfold/search/KNearest" a0 Z ft3 := ⟨hw _ (List.mem_of_getElem? (i := 9) rfl), hw _ (List.mem_of_getElem? (i := 12) rfl), hw _ (List.mem_of_getElem? (i := 15) rfl), hw _ (List.mem_of_getElem? (i := 22) rfl), hw _ (List.mem_of_getElem? (i := 31) rfl), trivial⟩
  have N0 := Fr.nil n0
  refine own_blk dec3 seq3 hby hx hZ hown hK hF 7 [false] [.int (1 : Int32), .int (3 : Int32)] X0 e0 ?_
  show (Fld Z h0 a "org/axisfold/search/KNearest" "size" "I" (.int (1 : Int32))) ∧ (Fld Z h0 a "org/axisfold/search/KNearest" "capacity" "I" (.int (3 : Int32))) ∧ (¬ (((3 : Int32)).toInt ≤ ((1 : Int32)).toInt)) ∧ own_Aft X0 h0 _ 23 [.val (.ref a)] [.double 9218868437227405312]
  refine ⟨F1, F2, by decide, fun T1 X1 eh1 => ?_⟩
  exact own_ret X1 hx hlk eh1 hret (by first | rfl | decide) (Or.inr (Or.inr (Or.inl ⟨rfl, rfl, _, rfl⟩))) (hb hby d3_23) (by decide) (by decide) (⟨rfl, rfl, rfl⟩)
set_option maxRecDepth 65536 in
set_option maxHeartbeats 40000000 in
theorem rm3_3_2 (l : Launch) (Z : State) (a0 : Array Value) (hw : ∀ d ∈ tables_1, d.before a0 Z = true) (ws : List Jvm.Cond) (a da : Addr) (h0 : Heap) (n0 : Nat) (Z0 : n0 ≤ h0.size) (F1 : Fld Z h0 a "org/axisfold/search/KNearest" "size" "I" (.int (2 : Int32))) (F2 : Fld Z h0 a "org/axisfold/search/KNearest" "capacity" "I" (.int (3 : Int32))) :
    MetFree l (⟨"org/axisfold/search/KNearest", "limit", "()D"⟩ : MethodName) (head1 (Jvm.Cond.code (⟨"org/axisfold/search/KNearest", "limit", "()D"⟩ : MethodName) prog_40_method_2_code 1 (some .double) :: ws) ({ frames := 0, cells := 0, slots := 0, locals := 0 } : Room)) (fun as_ U => as_ = #[.ref a] ∧ Z.Warmed39 U.vm ∧ U.heap = h0) (fun _ _ _ _ _ => True) (fun _ U o U' => own_Fin U ({ frames := 0, cells := 0, slots := 0, locals := 0 } : Room).cells ({ frames := 0, cells := 0, slots := 0, locals := 0 } : Room).slots (fun v h L => (v = some (.double 9218868437227405312)) ∧ L = [] ∧ h = h0) o U') := by
  refine own_body pf3 (ls0 := [.val (.ref a)]) (fun m => by first | (simp [entryFrame, mkF, argsToLocals, Value.category, maxLocals]; done) | rfl) ?_
  intro p e s m below meth c T0 hx hby hml hown hnm hlk hret hZ X0 e0
  have hK : own_ks "org/axisfold/search/KNearest" a0 Z kt3 := ⟨hw _ (List.mem_of_getElem? (i := 24) rfl), trivial⟩
  have hF : own_fs "org/axisfold/search/KNearest" a0 Z ft3 := ⟨hw _ (List.mem_of_getElem? (i := 9) rfl), hw _ (List.mem_of_getElem? (i := 12) rfl), hw _ (List.mem_of_getElem? (i := 15) rfl), hw _ (List.mem_of_getElem? (i := 22) rfl), hw _ (List.mem_of_getElem? (i := 31) rfl), trivial⟩
  have N0 := Fr.nil n0
  refine own_blk dec3 seq3 hby hx hZ hown hK hF 7 [false] [.int (2 : Int32), .int (3 : Int32)] X0 e0 ?_
  show (Fld Z h0 a "org/axisfold/search/KNearest" "size" "I" (.int (2 : Int32))) ∧ (Fld Z h0 a "org/axisfold/search/KNearest" "capacity" "I" (.int (3 : Int32))) ∧ (¬ (((3 : Int32)).toInt ≤ ((2 : Int32)).toInt)) ∧ own_Aft X0 h0 _ 23 [.val (.ref a)] [.double 9218868437227405312]
  refine ⟨F1, F2, by decide, fun T1 X1 eh1 => ?_⟩
  exact own_ret X1 hx hlk eh1 hret (by first | rfl | decide) (Or.inr (Or.inr (Or.inl ⟨rfl, rfl, _, rfl⟩))) (hb hby d3_23) (by decide) (by decide) (⟨rfl, rfl, rfl⟩)
set_option maxRecDepth 65536 in
set_option maxHeartbeats 40000000 in
theorem rm3_3_3 (l : Launch) (Z : State) (a0 : Array Value) (hw : ∀ d ∈ tables_1, d.before a0 Z = true) (ws : List Jvm.Cond) (a da : Addr) (y0 y1 y2 : UInt64) (h0 : Heap) (n0 : Nat) (Z0 : n0 ≤ h0.size) (F1 : Fld Z h0 a "org/axisfold/search/KNearest" "size" "I" (.int (3 : Int32))) (F2 : Fld Z h0 a "org/axisfold/search/KNearest" "capacity" "I" (.int (3 : Int32))) (F4 : Fld Z h0 a "org/axisfold/search/KNearest" "squaredDistances" "[D" (.ref da)) (A2 : own_A Z h0 da .double [.double y0, .double y1, .double y2]) :
    MetFree l (⟨"org/axisfold/search/KNearest", "limit", "()D"⟩ : MethodName) (head1 (Jvm.Cond.code (⟨"org/axisfold/search/KNearest", "limit", "()D"⟩ : MethodName) prog_40_method_2_code 1 (some .double) :: ws) ({ frames := 0, cells := 0, slots := 0, locals := 0 } : Room)) (fun as_ U => as_ = #[.ref a] ∧ Z.Warmed39 U.vm ∧ U.heap = h0) (fun _ _ _ _ _ => True) (fun _ U o U' => own_Fin U ({ frames := 0, cells := 0, slots := 0, locals := 0 } : Room).cells ({ frames := 0, cells := 0, slots := 0, locals := 0 } : Room).slots (fun v h L => (v = some (.double y0)) ∧ L = [] ∧ h = h0) o U') := by
  refine own_body pf3 (ls0 := [.val (.ref a)]) (fun m => by first | (simp [entryFrame, mkF, argsToLocals, Value.category, maxLocals]; done) | rfl) ?_
  intro p e s m below meth c T0 hx hby hml hown hnm hlk hret hZ X0 e0
  have hK : own_ks "org/axisfold/search/KNearest" a0 Z kt3 := ⟨hw _ (List.mem_of_getElem? (i := 24) rfl), trivial⟩
  have hF : own_fs "org/axisfold/search/KNearest" a0 Z ft3 := ⟨hw _ (List.mem_of_getElem? (i := 9) rfl), hw _ (List.mem_of_getElem? (i := 12) rfl), hw _ (List.mem_of_getElem? (i := 15) rfl), hw _ (List.mem_of_getElem? (i := 22) rfl), hw _ (List.mem_of_getElem? (i := 31) rfl), trivial⟩
  have N0 := Fr.nil n0
  refine own_blk dec3 seq3 hby hx hZ hown hK hF 9 [true] [.int (3 : Int32), .int (3 : Int32), .ref da, .double y0] X0 e0 ?_
  show (Fld Z h0 a "org/axisfold/search/KNearest" "size" "I" (.int (3 : Int32))) ∧ (Fld Z h0 a "org/axisfold/search/KNearest" "capacity" "I" (.int (3 : Int32))) ∧ (((3 : Int32)).toInt ≤ ((3 : Int32)).toInt) ∧ (Fld Z h0 a "org/axisfold/search/KNearest" "squaredDistances" "[D" (.ref da)) ∧ (own_at Z h0 da .double (0 : Int32) (.double y0)) ∧ own_Aft X0 h0 _ 23 [.val (.ref a)] [.double y0]
  refine ⟨F1, F2, by decide, F4, A2.at (0 : Int32) 0 rfl rfl, fun T1 X1 eh1 => ?_⟩
  exact own_ret X1 hx hlk eh1 hret (by first | rfl | decide) (Or.inr (Or.inr (Or.inl ⟨rfl, rfl, _, rfl⟩))) (hb hby d3_23) (by decide) (by decide) (⟨rfl, rfl, rfl⟩)
set_option maxRecDepth 65536 in
set_option maxHeartbeats 40000000 in
theorem rm3_4_0 (l : Launch) (Z : State) (a0 : Array Value) (hw : ∀ d ∈ tables_1, d.before a0 Z = true) (ws : List Jvm.Cond) (a da : Addr) (h0 : Heap) (n0 : Nat) (Z0 : n0 ≤ h0.size) (F1 : Fld Z h0 a "org/axisfold/search/KNearest" "size" "I" (.int (0 : Int32))) (F2 : Fld Z h0 a "org/axisfold/search/KNearest" "capacity" "I" (.int (4 : Int32))) :
    MetFree l (⟨"org/axisfold/search/KNearest", "limit", "()D"⟩ : MethodName) (head1 (Jvm.Cond.code (⟨"org/axisfold/search/KNearest", "limit", "()D"⟩ : MethodName) prog_40_method_2_code 1 (some .double) :: ws) ({ frames := 0, cells := 0, slots := 0, locals := 0 } : Room)) (fun as_ U => as_ = #[.ref a] ∧ Z.Warmed39 U.vm ∧ U.heap = h0) (fun _ _ _ _ _ => True) (fun _ U o U' => own_Fin U ({ frames := 0, cells := 0, slots := 0, locals := 0 } : Room).cells ({ frames := 0, cells := 0, slots := 0, locals := 0 } : Room).slots (fun v h L => (v = some (.double 9218868437227405312)) ∧ L = [] ∧ h = h0) o U') := by
  refine own_body pf3 (ls0 := [.val (.ref a)]) (fun m => by first | (simp [entryFrame, mkF, argsToLocals, Value.category, maxLocals]; done) | rfl) ?_
  intro p e s m below meth c T0 hx hby hml hown hnm hlk hret hZ X0 e0
  have hK : own_ks "org/axisfold/search/KNearest" a0 Z kt3 := ⟨hw _ (List.mem_of_getElem? (i := 24) rfl), trivial⟩
  have hF : own_fs "org/axisfold/search/KNearest" a0 Z ft3 := ⟨hw _ (List.mem_of_getElem? (i := 9) rfl), hw _ (List.mem_of_getElem? (i := 12) rfl), hw _ (List.mem_of_getElem? (i := 15) rfl), hw _ (List.mem_of_getElem? (i := 22) rfl), hw _ (List.mem_of_getElem? (i := 31) rfl), trivial⟩
  have N0 := Fr.nil n0
  refine own_blk dec3 seq3 hby hx hZ hown hK hF 7 [false] [.int (0 : Int32), .int (4 : Int32)] X0 e0 ?_
  show (Fld Z h0 a "org/axisfold/search/KNearest" "size" "I" (.int (0 : Int32))) ∧ (Fld Z h0 a "org/axisfold/search/KNearest" "capacity" "I" (.int (4 : Int32))) ∧ (¬ (((4 : Int32)).toInt ≤ ((0 : Int32)).toInt)) ∧ own_Aft X0 h0 _ 23 [.val (.ref a)] [.double 9218868437227405312]
  refine ⟨F1, F2, by decide, fun T1 X1 eh1 => ?_⟩
  exact own_ret X1 hx hlk eh1 hret (by first | rfl | decide) (Or.inr (Or.inr (Or.inl ⟨rfl, rfl, _, rfl⟩))) (hb hby d3_23) (by decide) (by decide) (⟨rfl, rfl, rfl⟩)
set_option maxRecDepth 65536 in
set_option maxHeartbeats 40000000 in
theorem rm3_4_1 (l : Launch) (Z : State) (a0 : Array Value) (hw : ∀ d ∈ tables_1, d.before a0 Z = true) (ws : List Jvm.Cond) (a da : Addr) (h0 : Heap) (n0 : Nat) (Z0 : n0 ≤ h0.size) (F1 : Fld Z h0 a "org/axisfold/search/KNearest" "size" "I" (.int (1 : Int32))) (F2 : Fld Z h0 a "org/axisfold/search/KNearest" "capacity" "I" (.int (4 : Int32))) :
    MetFree l (⟨"org/axisfold/search/KNearest", "limit", "()D"⟩ : MethodName) (head1 (Jvm.Cond.code (⟨"org/axisfold/search/KNearest", "limit", "()D"⟩ : MethodName) prog_40_method_2_code 1 (some .double) :: ws) ({ frames := 0, cells := 0, slots := 0, locals := 0 } : Room)) (fun as_ U => as_ = #[.ref a] ∧ Z.Warmed39 U.vm ∧ U.heap = h0) (fun _ _ _ _ _ => True) (fun _ U o U' => own_Fin U ({ frames := 0, cells := 0, slots := 0, locals := 0 } : Room).cells ({ frames := 0, cells := 0, slots := 0, locals := 0 } : Room).slots (fun v h L => (v = some (.double 9218868437227405312)) ∧ L = [] ∧ h = h0) o U') := by
  refine own_body pf3 (ls0 := [.val (.ref a)]) (fun m => by first | (simp [entryFrame, mkF, argsToLocals, Value.category, maxLocals]; done) | rfl) ?_
  intro p e s m below meth c T0 hx hby hml hown hnm hlk hret hZ X0 e0
  have hK : own_ks "org/axisfold/search/KNearest" a0 Z kt3 := ⟨hw _ (List.mem_of_getElem? (i := 24) rfl), trivial⟩
  have hF : own_fs "org/axisfold/search/KNearest" a0 Z ft3 := ⟨hw _ (List.mem_of_getElem? (i := 9) rfl), hw _ (List.mem_of_getElem? (i := 12) rfl), hw _ (List.mem_of_getElem? (i := 15) rfl), hw _ (List.mem_of_getElem? (i := 22) rfl), hw _ (List.mem_of_getElem? (i := 31) rfl), trivial⟩
  have N0 := Fr.nil n0
  refine own_blk dec3 seq3 hby hx hZ hown hK hF 7 [false] [.int (1 : Int32), .int (4 : Int32)] X0 e0 ?_
  show (Fld Z h0 a "org/axisfold/search/KNearest" "size" "I" (.int (1 : Int32))) ∧ (Fld Z h0 a "org/axisfold/search/KNearest" "capacity" "I" (.int (4 : Int32))) ∧ (¬ (((4 : Int32)).toInt ≤ ((1 : Int32)).toInt)) ∧ own_Aft X0 h0 _ 23 [.val (.ref a)] [.double 9218868437227405312]
  refine ⟨F1, F2, by decide, fun T1 X1 eh1 => ?_⟩
  exact own_ret X1 hx hlk eh1 hret (by first | rfl | decide) (Or.inr (Or.inr (Or.inl ⟨rfl, rfl, _, rfl⟩))) (hb hby d3_23) (by decide) (by decide) (⟨rfl, rfl, rfl⟩)
set_option maxRecDepth 65536 in
set_option maxHeartbeats 40000000 in
theorem rm3_4_2 (l : Launch) (Z : State) (a0 : Array Value) (hw : ∀ d ∈ tables_1, d.before a0 Z = true) (ws : List Jvm.Cond) (a da : Addr) (h0 : Heap) (n0 : Nat) (Z0 : n0 ≤ h0.size) (F1 : Fld Z h0 a "org/axisfold/search/KNearest" "size" "I" (.int (2 : Int32))) (F2 : Fld Z h0 a "org/axisfold/search/KNearest" "capacity" "I" (.int (4 : Int32))) :
    MetFree l (⟨"org/axisfold/search/KNearest", "limit", "()D"⟩ : MethodName) (head1 (Jvm.Cond.code (⟨"org/axisfold/search/KNearest", "limit", "()D"⟩ : MethodName) prog_40_method_2_code 1 (some .double) :: ws) ({ frames := 0, cells := 0, slots := 0, locals := 0 } : Room)) (fun as_ U => as_ = #[.ref a] ∧ Z.Warmed39 U.vm ∧ U.heap = h0) (fun _ _ _ _ _ => True) (fun _ U o U' => own_Fin U ({ frames := 0, cells := 0, slots := 0, locals := 0 } : Room).cells ({ frames := 0, cells := 0, slots := 0, locals := 0 } : Room).slots (fun v h L => (v = some (.double 9218868437227405312)) ∧ L = [] ∧ h = h0) o U') := by
  refine own_body pf3 (ls0 := [.val (.ref a)]) (fun m => by first | (simp [entryFrame, mkF, argsToLocals, Value.category, maxLocals]; done) | rfl) ?_
  intro p e s m below meth c T0 hx hby hml hown hnm hlk hret hZ X0 e0
  have hK : own_ks "org/axisfold/search/KNearest" a0 Z kt3 := ⟨hw _ (List.mem_of_getElem? (i := 24) rfl), trivial⟩
  have hF : own_fs "org/axisfold/search/KNearest" a0 Z ft3 := ⟨hw _ (List.mem_of_getElem? (i := 9) rfl), hw _ (List.mem_of_getElem? (i := 12) rfl), hw _ (List.mem_of_getElem? (i := 15) rfl), hw _ (List.mem_of_getElem? (i := 22) rfl), hw _ (List.mem_of_getElem? (i := 31) rfl), trivial⟩
  have N0 := Fr.nil n0
  refine own_blk dec3 seq3 hby hx hZ hown hK hF 7 [false] [.int (2 : Int32), .int (4 : Int32)] X0 e0 ?_
  show (Fld Z h0 a "org/axisfold/search/KNearest" "size" "I" (.int (2 : Int32))) ∧ (Fld Z h0 a "org/axisfold/search/KNearest" "capacity" "I" (.int (4 : Int32))) ∧ (¬ (((4 : Int32)).toInt ≤ ((2 : Int32)).toInt)) ∧ own_Aft X0 h0 _ 23 [.val (.ref a)] [.double 9218868437227405312]
  refine ⟨F1, F2, by decide, fun T1 X1 eh1 => ?_⟩
  exact own_ret X1 hx hlk eh1 hret (by first | rfl | decide) (Or.inr (Or.inr (Or.inl ⟨rfl, rfl, _, rfl⟩))) (hb hby d3_23) (by decide) (by decide) (⟨rfl, rfl, rfl⟩)
set_option maxRecDepth 65536 in
set_option maxHeartbeats 40000000 in
theorem rm3_4_3 (l : Launch) (Z : State) (a0 : Array Value) (hw : ∀ d ∈ tables_1, d.before a0 Z = true) (ws : List Jvm.Cond) (a da : Addr) (h0 : Heap) (n0 : Nat) (Z0 : n0 ≤ h0.size) (F1 : Fld Z h0 a "org/axisfold/search/KNearest" "size" "I" (.int (3 : Int32))) (F2 : Fld Z h0 a "org/axisfold/search/KNearest" "capacity" "I" (.int (4 : Int32))) :
    MetFree l (⟨"org/axisfold/search/KNearest", "limit", "()D"⟩ : MethodName) (head1 (Jvm.Cond.code (⟨"org/axisfold/search/KNearest", "limit", "()D"⟩ : MethodName) prog_40_method_2_code 1 (some .double) :: ws) ({ frames := 0, cells := 0, slots := 0, locals := 0 } : Room)) (fun as_ U => as_ = #[.ref a] ∧ Z.Warmed39 U.vm ∧ U.heap = h0) (fun _ _ _ _ _ => True) (fun _ U o U' => own_Fin U ({ frames := 0, cells := 0, slots := 0, locals := 0 } : Room).cells ({ frames := 0, cells := 0, slots := 0, locals := 0 } : Room).slots (fun v h L => (v = some (.double 9218868437227405312)) ∧ L = [] ∧ h = h0) o U') := by
  refine own_body pf3 (ls0 := [.val (.ref a)]) (fun m => by first | (simp [entryFrame, mkF, argsToLocals, Value.category, maxLocals]; done) | rfl) ?_
  intro p e s m below meth c T0 hx hby hml hown hnm hlk hret hZ X0 e0
  have hK : own_ks "org/axisfold/search/KNearest" a0 Z kt3 := ⟨hw _ (List.mem_of_getElem? (i := 24) rfl), trivial⟩
  have hF : own_fs "org/axisfold/search/KNearest" a0 Z ft3 := ⟨hw _ (List.mem_of_getElem? (i := 9) rfl), hw _ (List.mem_of_getElem? (i := 12) rfl), hw _ (List.mem_of_getElem? (i := 15) rfl), hw _ (List.mem_of_getElem? (i := 22) rfl), hw _ (List.mem_of_getElem? (i := 31) rfl), trivial⟩
  have N0 := Fr.nil n0
  refine own_blk dec3 seq3 hby hx hZ hown hK hF 7 [false] [.int (3 : Int32), .int (4 : Int32)] X0 e0 ?_
  show (Fld Z h0 a "org/axisfold/search/KNearest" "size" "I" (.int (3 : Int32))) ∧ (Fld Z h0 a "org/axisfold/search/KNearest" "capacity" "I" (.int (4 : Int32))) ∧ (¬ (((4 : Int32)).toInt ≤ ((3 : Int32)).toInt)) ∧ own_Aft X0 h0 _ 23 [.val (.ref a)] [.double 9218868437227405312]
  refine ⟨F1, F2, by decide, fun T1 X1 eh1 => ?_⟩
  exact own_ret X1 hx hlk eh1 hret (by first | rfl | decide) (Or.inr (Or.inr (Or.inl ⟨rfl, rfl, _, rfl⟩))) (hb hby d3_23) (by decide) (by decide) (⟨rfl, rfl, rfl⟩)
set_option maxRecDepth 65536 in
set_option maxHeartbeats 40000000 in
theorem rm3_4_4 (l : Launch) (Z : State) (a0 : Array Value) (hw : ∀ d ∈ tables_1, d.before a0 Z = true) (ws : List Jvm.Cond) (a da : Addr) (y0 y1 y2 y3 : UInt64) (h0 : Heap) (n0 : Nat) (Z0 : n0 ≤ h0.size) (F1 : Fld Z h0 a "org/axisfold/search/KNearest" "size" "I" (.int (4 : Int32))) (F2 : Fld Z h0 a "org/axisfold/search/KNearest" "capacity" "I" (.int (4 : Int32))) (F4 : Fld Z h0 a "org/axisfold/search/KNearest" "squaredDistances" "[D" (.ref da)) (A2 : own_A Z h0 da .double [.double y0, .double y1, .double y2, .double y3]) :
    MetFree l (⟨"org/axisfold/search/KNearest", "limit", "()D"⟩ : MethodName) (head1 (Jvm.Cond.code (⟨"org/axisfold/search/KNearest", "limit", "()D"⟩ : MethodName) prog_40_method_2_code 1 (some .double) :: ws) ({ frames := 0, cells := 0, slots := 0, locals := 0 } : Room)) (fun as_ U => as_ = #[.ref a] ∧ Z.Warmed39 U.vm ∧ U.heap = h0) (fun _ _ _ _ _ => True) (fun _ U o U' => own_Fin U ({ frames := 0, cells := 0, slots := 0, locals := 0 } : Room).cells ({ frames := 0, cells := 0, slots := 0, locals := 0 } : Room).slots (fun v h L => (v = some (.double y0)) ∧ L = [] ∧ h = h0) o U') := by
  refine own_body pf3 (ls0 := [.val (.ref a)]) (fun m => by first | (simp [entryFrame, mkF, argsToLocals, Value.category, maxLocals]; done) | rfl) ?_
  intro p e s m below meth c T0 hx hby hml hown hnm hlk hret hZ X0 e0
  have hK : own_ks "org/axisfold/search/KNearest" a0 Z kt3 := ⟨hw _ (List.mem_of_getElem? (i := 24) rfl), trivial⟩
  have hF : own_fs "org/axisfold/search/KNearest" a0 Z ft3 := ⟨hw _ (List.mem_of_getElem? (i := 9) rfl), hw _ (List.mem_of_getElem? (i := 12) rfl), hw _ (List.mem_of_getElem? (i := 15) rfl), hw _ (List.mem_of_getElem? (i := 22) rfl), hw _ (List.mem_of_getElem? (i := 31) rfl), trivial⟩
  have N0 := Fr.nil n0
  refine own_blk dec3 seq3 hby hx hZ hown hK hF 9 [true] [.int (4 : Int32), .int (4 : Int32), .ref da, .double y0] X0 e0 ?_
  show (Fld Z h0 a "org/axisfold/search/KNearest" "size" "I" (.int (4 : Int32))) ∧ (Fld Z h0 a "org/axisfold/search/KNearest" "capacity" "I" (.int (4 : Int32))) ∧ (((4 : Int32)).toInt ≤ ((4 : Int32)).toInt) ∧ (Fld Z h0 a "org/axisfold/search/KNearest" "squaredDistances" "[D" (.ref da)) ∧ (own_at Z h0 da .double (0 : Int32) (.double y0)) ∧ own_Aft X0 h0 _ 23 [.val (.ref a)] [.double y0]
  refine ⟨F1, F2, by decide, F4, A2.at (0 : Int32) 0 rfl rfl, fun T1 X1 eh1 => ?_⟩
  exact own_ret X1 hx hlk eh1 hret (by first | rfl | decide) (Or.inr (Or.inr (Or.inl ⟨rfl, rfl, _, rfl⟩))) (hb hby d3_23) (by decide) (by decide) (⟨rfl, rfl, rfl⟩)
set_option maxRecDepth 65536 in
set_option maxHeartbeats 40000000 in
theorem rm5_1_0 (l : Launch) (Z : State) (a0 : Array Value) (hw : ∀ d ∈ tables_1, d.before a0 Z = true) (ws : List Jvm.Cond) (ia da : Addr) (ix : Int32) (x : UInt64) (b : Int) (h0 : Heap) (n0 : Nat) (Z0 : n0 ≤ h0.size) (ni : n0 ≤ ia) (nd : n0 ≤ da) (ne_ : ia ≠ da) (A1 : own_A Z h0 ia .int [.int (0 : Int32)]) (A2 : own_A Z h0 da .double [.double 0]) (Dx : own_D 0 b x) :
    MetFree l (⟨"org/axisfold/search/ResultHeap", "siftUp", "([I[DIID)V"⟩ : MethodName) (head1 (Jvm.Cond.code (⟨"org/axisfold/search/ResultHeap", "siftUp", "([I[DIID)V"⟩ : MethodName) prog_44_method_4_code 7 none :: ws) ({ frames := 1, cells := 0, slots := 0, locals := 24 } : Room)) (fun as_ U => as_ = #[.ref ia, .ref da, .int (0 : Int32), .int ix, .double x] ∧ Z.Warmed39 U.vm ∧ U.heap = h0) (fun _ _ _ _ _ => True) (fun _ U o U' => own_Fin U ({ frames := 1, cells := 0, slots := 0, locals := 24 } : Room).cells ({ frames := 1, cells := 0, slots := 0, locals := 24 } : Room).slots (fun v h L => v = none ∧ Fr n0 L ∧ Keep h0 h [ia, da] ∧ ∃ (j0' : Int32) (z0 : UInt64) (c0 : Int), own_A Z h ia .int [.int j0'] ∧ own_A Z h da .double [.double z0] ∧ own_D 0 c0 z0 ∧ ((c0 = b))) o U') := by
  refine own_body pf5 (ls0 := [.val (.ref ia), .val (.ref da), .val (.int (0 : Int32)), .val (.int ix), .val (.double x), .second, .unset]) (fun m => by first | (simp [entryFrame, mkF, argsToLocals, Value.category, maxLocals]; done) | rfl) ?_
  intro p e s m below meth c T0 hx hby hml hown hnm hlk hret hZ X0 e0
  have hK : own_ks "org/axisfold/search/ResultHeap" a0 Z kt5 := trivial
  have hF : own_fs "org/axisfold/search/ResultHeap" a0 Z ft5 := trivial
  have N0 := Fr.nil n0
  have K0 := Keep.refl h0 [ia, da]
  refine own_blk dec5 seq5 hby hx hZ hown hK hF 5 [true] [] X0 e0 ?_
  show (((0 : Int32)).toInt ≤ 0) ∧ own_Aft X0 h0 _ 54 [.val (.ref ia), .val (.ref da), .val (.int (0 : Int32)), .val (.int ix), .val (.double x), .second, .unset] [.int ix, .int (0 : Int32), .ref ia]
  refine ⟨by decide, fun T1 X1 eh1 => ?_⟩
  refine own_sI X1 hx hZ eh1 A1 0 rfl (by show 0 < 1; decide) (hb hby d5_54) (fun T2 hp2 X2 eh2 Wr2 Ar2 => ?_)
  have Ar2' : own_A Z hp2 ia .int [.int ix] := Ar2
  have A2_2 := A2.other Wr2 (Ne.symm ne_)
  have Nf2 := Fr.snoc X2 N0 ni
  have Z_2 : n0 ≤ hp2.size := by rw [Wr.size Wr2]; exact Z0
  have K_2 := Keep.wr K0 Wr2 (Or.inl (List.mem_of_getElem? (i := 0) rfl))
  refine own_blk dec5 seq5 hby hx hZ hown hK hF 3 [] [] X2 eh2 ?_
  show own_Aft X2 hp2 _ 59 [.val (.ref ia), .val (.ref da), .val (.int (0 : Int32)), .val (.int ix), .val (.double x), .second, .unset] [.double x, .int (0 : Int32), .ref da]
  refine fun T3 X3 eh3 => ?_
  refine own_sD X3 hx hZ eh3 A2_2 0 rfl (by show 0 < 1; decide) (hb hby d5_59) (fun T4 hp4 X4 eh4 Wr4 Ar4 => ?_)
  have Ar4' : own_A Z hp4 da .double [.double x] := Ar4
  have Ar2'_4 := Ar2'.other Wr4 ne_
  have Nf4 := Fr.snoc X4 Nf2 nd
  have Z_4 : n0 ≤ hp4.size := by rw [Wr.size Wr4]; exact Z_2
  have K_4 := Keep.wr K_2 Wr4 (Or.inl (List.mem_of_getElem? (i := 1) rfl))
  exact own_retV X4 hx hlk eh4 hret (hb hby d5_60) (by decide) (by decide) (⟨rfl, Nf4, K_4, ⟨_, _, _, Ar2'_4, Ar4', Dx, rfl⟩⟩)
set_option maxRecDepth 65536 in
set_option maxHeartbeats 40000000 in
theorem rm5_2_0 (l : Launch) (Z : State) (a0 : Array Value) (hw : ∀ d ∈ tables_1, d.before a0 Z = true) (ws : List Jvm.Cond) (ia da : Addr) (ix : Int32) (x : UInt64) (b : Int) (h0 : Heap) (n0 : Nat) (Z0 : n0 ≤ h0.size) (ni : n0 ≤ ia) (nd : n0 ≤ da) (ne_ : ia ≠ da) (A1 : own_A Z h0 ia .int [.int (0 : Int32), .int (0 : Int32)]) (A2 : own_A Z h0 da .double [.double 0, .double 0]) (Dx : own_D 0 b x) :
    MetFree l (⟨"org/axisfold/search/ResultHeap", "siftUp", "([I[DIID)V"⟩ : MethodName) (head1 (Jvm.Cond.code (⟨"org/axisfold/search/ResultHeap", "siftUp", "([I[DIID)V"⟩ : MethodName) prog_44_method_4_code 7 none :: ws) ({ frames := 1, cells := 0, slots := 0, locals := 24 } : Room)) (fun as_ U => as_ = #[.ref ia, .ref da, .int (0 : Int32), .int ix, .double x] ∧ Z.Warmed39 U.vm ∧ U.heap = h0) (fun _ _ _ _ _ => True) (fun _ U o U' => own_Fin U ({ frames := 1, cells := 0, slots := 0, locals := 24 } : Room).cells ({ frames := 1, cells := 0, slots := 0, locals := 24 } : Room).slots (fun v h L => v = none ∧ Fr n0 L ∧ Keep h0 h [ia, da] ∧ ∃ (j0' : Int32) (z0 : UInt64) (c0 : Int), own_A Z h ia .int [.int j0', .int (0 : Int32)] ∧ own_A Z h da .double [.double z0, .double 0] ∧ own_D 0 c0 z0 ∧ ((c0 = b))) o U') := by
  refine own_body pf5 (ls0 := [.val (.ref ia), .val (.ref da), .val (.int (0 : Int32)), .val (.int ix), .val (.double x), .second, .unset]) (fun m => by first | (simp [entryFrame, mkF, argsToLocals, Value.category, maxLocals]; done) | rfl) ?_
  intro p e s m below meth c T0 hx hby hml hown hnm hlk hret hZ X0 e0
  have hK : own_ks "org/axisfold/search/ResultHeap" a0 Z kt5 := trivial
  have hF : own_fs "org/axisfold/search/ResultHeap" a0 Z ft5 := trivial
  have N0 := Fr.nil n0
  have K0 := Keep.refl h0 [ia, da]
  refine own_blk dec5 seq5 hby hx hZ hown hK hF 5 [true] [] X0 e0 ?_
  show (((0 : Int32)).toInt ≤ 0) ∧ own_Aft X0 h0 _ 54 [.val (.ref ia), .val (.ref da), .val (.int (0 : Int32)), .val (.int ix), .val (.double x), .second, .unset] [.int ix, .int (0 : Int32), .ref ia]
  refine ⟨by decide, fun T1 X1 eh1 => ?_⟩
  refine own_sI X1 hx hZ eh1 A1 0 rfl (by show 0 < 2; decide) (hb hby d5_54) (fun T2 hp2 X2 eh2 Wr2 Ar2 => ?_)
  have Ar2' : own_A Z hp2 ia .int [.int ix, .int (0 : Int32)] := Ar2
  have A2_2 := A2.other Wr2 (Ne.symm ne_)
  have Nf2 := Fr.snoc X2 N0 ni
  have Z_2 : n0 ≤ hp2.size := by rw [Wr.size Wr2]; exact Z0
  have K_2 := Keep.wr K0 Wr2 (Or.inl (List.mem_of_getElem? (i := 0) rfl))
  refine own_blk dec5 seq5 hby hx hZ hown hK hF 3 [] [] X2 eh2 ?_
  show own_Aft X2 hp2 _ 59 [.val (.ref ia), .val (.ref da), .val (.int (0 : Int32)), .val (.int ix), .val (.double x), .second, .unset] [.double x, .int (0 : Int32), .ref da]
  refine fun T3 X3 eh3 => ?_
  refine own_sD X3 hx hZ eh3 A2_2 0 rfl (by show 0 < 2; decide) (hb hby d5_59) (fun T4 hp4 X4 eh4 Wr4 Ar4 => ?_)
  have Ar4' : own_A Z hp4 da .double [.double x, .double 0] := Ar4
  have Ar2'_4 := Ar2'.other Wr4 ne_
  have Nf4 := Fr.snoc X4 Nf2 nd
  have Z_4 : n0 ≤ hp4.size := by rw [Wr.size Wr4]; exact Z_2
  have K_4 := Keep.wr K_2 Wr4 (Or.inl (List.mem_of_getElem? (i := 1) rfl))
  exact own_retV X4 hx hlk eh4 hret (hb hby d5_60) (by decide) (by decide) (⟨rfl, Nf4, K_4, ⟨_, _, _, Ar2'_4, Ar4', Dx, rfl⟩⟩)
set_option maxRecDepth 65536 in
set_option maxHeartbeats 40000000 in
theorem rm5_2_1 (l : Launch) (Z : State) (a0 : Array Value) (hw : ∀ d ∈ tables_1, d.before a0 Z = true) (ws : List Jvm.Cond) (ia da : Addr) (ix : Int32) (x : UInt64) (b : Int) (j0 : Int32) (y0 : UInt64) (f0 : Int) (h0 : Heap) (n0 : Nat) (Z0 : n0 ≤ h0.size) (ni : n0 ≤ ia) (nd : n0 ≤ da) (ne_ : ia ≠ da) (A1 : own_A Z h0 ia .int [.int j0, .int (0 : Int32)]) (A2 : own_A Z h0 da .double [.double y0, .double 0]) (Dx : own_D 0 b x) (D0 : own_D 0 f0 y0) :
    MetFree l (⟨"org/axisfold/search/ResultHeap", "siftUp", "([I[DIID)V"⟩ : MethodName) (head1 (Jvm.Cond.code (⟨"org/axisfold/search/ResultHeap", "siftUp", "([I[DIID)V"⟩ : MethodName) prog_44_method_4_code 7 none :: ws) ({ frames := 1, cells := 0, slots := 0, locals := 24 } : Room)) (fun as_ U => as_ = #[.ref ia, .ref da, .int (1 : Int32), .int ix, .double x] ∧ Z.Warmed39 U.vm ∧ U.heap = h0) (fun _ _ _ _ _ => True) (fun _ U o U' => own_Fin U ({ frames := 1, cells := 0, slots := 0, locals := 24 } : Room).cells ({ frames := 1, cells := 0, slots := 0, locals := 24 } : Room).slots (fun v h L => v = none ∧ Fr n0 L ∧ Keep h0 h [ia, da] ∧ ∃ (j0' j1' : Int32) (z0 z1 : UInt64) (c0 c1 : Int), own_A Z h ia .int [.int j0', .int j1'] ∧ own_A Z h da .double [.double z0, .double z1] ∧ own_D 0 c0 z0 ∧ own_D 0 c1 z1 ∧ ((b ≤ f0 ∧ c0 = f0 ∧ c1 = b) ∨ (f0 ≤ b ∧ c0 = b ∧ c1 = f0))) o U') := by
  refine own_body pf5 (ls0 := [.val (.ref ia), .val (.ref da), .val (.int (1 : Int32)), .val (.int ix), .val (.double x), .second, .unset]) (fun m => by first | (simp [entryFrame, mkF, argsToLocals, Value.category, maxLocals]; done) | rfl) ?_
  intro p e s m below meth c T0 hx hby hml hown hnm hlk hret hZ X0 e0
  have hK : own_ks "org/axisfold/search/ResultHeap" a0 Z kt5 := trivial
  have hF : own_fs "org/axisfold/search/ResultHeap" a0 Z ft5 := trivial
  have N0 := Fr.nil n0
  have K0 := Keep.refl h0 [ia, da]
  refine own_blk dec5 seq5 hby hx hZ hown hK hF 16 [false] [.double y0, .int j0] X0 e0 ?_
  show (¬ (((1 : Int32)).toInt ≤ 0)) ∧ (own_at Z h0 da .double (0 : Int32) (.double y0)) ∧ (own_at Z h0 ia .int (0 : Int32) (.int j0)) ∧ own_Aft X0 h0 _ 22 [.val (.ref ia), .val (.ref da), .val (.int (1 : Int32)), .val (.int ix), .val (.double x), .second, .val (.int (0 : Int32))] [.int ix, .double x, .int j0, .double y0]
  refine ⟨by decide, A2.at (0 : Int32) 0 rfl rfl, A1.at (0 : Int32) 0 rfl rfl, fun T1 X1 eh1 => ?_⟩
  refine own_callSP X1 hx hZ hown (hw _ (List.mem_of_getElem? (i := 45) rfl)) (hw _ (List.mem_of_getElem? (i := 46) rfl)) (hw _ (List.mem_of_getElem? (i := 47) rfl)) (hw _ (List.mem_of_getElem? (i := 48) rfl)) (by decide) eh1 [.double y0, .int j0, .double x, .int ix] pd8 rfl (fr := 0) (lo := 0) (rm8 l Z a0 hw [] y0 x j0 ix f0 b h0 n0 Z0 D0 Dx) (by rw [hml]; rfl) 0 rfl (Nat.le_of_eq rfl) (hb hby d5_22) (by decide) (by decide) (by decide) (by decide) (fun T2 rv2 X2 eh2 qc2 => ?_)
  obtain ⟨r, rfl, ho⟩ := qc2
  show own_Go p.tables e below _ (T2.setTop (mkF m 25 (Array.mk [.val (.ref ia), .val (.ref da), .val (.int (1 : Int32)), .val (.int ix), .val (.double x), .second, .val (.int (0 : Int32))]) [.int r]))
  rcases ho with ⟨rfl, ho⟩ | ⟨rfl, ho⟩
  · skip
    show own_Go p.tables e below _ (T2.setTop (mkF m 25 (Array.mk [.val (.ref ia), .val (.ref da), .val (.int (1 : Int32)), .val (.int ix), .val (.double x), .second, .val (.int (0 : Int32))]) [.int (1 : Int32)]))
    refine own_blk dec5 seq5 hby hx hZ hown hK hF 6 [true] [.int j0] X2 eh2 ?_
    show (((1 : Int32)).toInt ≠ 0) ∧ (own_at Z h0 ia .int (0 : Int32) (.int j0)) ∧ own_Aft X2 h0 _ 37 [.val (.ref ia), .val (.ref da), .val (.int (1 : Int32)), .val (.int ix), .val (.double x), .second, .val (.int (0 : Int32))] [.int j0, .int (1 : Int32), .ref ia]
    refine ⟨by decide, A1.at (0 : Int32) 0 rfl rfl, fun T3 X3 eh3 => ?_⟩
    refine own_sI X3 hx hZ eh3 A1 1 rfl (by show 1 < 2; decide) (hb hby d5_37) (fun T4 hp4 X4 eh4 Wr4 Ar4 => ?_)
    have Ar4' : own_A Z hp4 ia .int [.int j0, .int j0] := Ar4
    have A2_4 := A2.other Wr4 (Ne.symm ne_)
    have Nf4 := Fr.snoc X4 N0 ni
    have Z_4 : n0 ≤ hp4.size := by rw [Wr.size Wr4]; exact Z0
    have K_4 := Keep.wr K0 Wr4 (Or.inl (List.mem_of_getElem? (i := 0) rfl))
    refine own_blk dec5 seq5 hby hx hZ hown hK hF 5 [] [.double y0] X4 eh4 ?_
    show (own_at Z hp4 da .double (0 : Int32) (.double y0)) ∧ own_Aft X4 hp4 _ 44 [.val (.ref ia), .val (.ref da), .val (.int (1 : Int32)), .val (.int ix), .val (.double x), .second, .val (.int (0 : Int32))] [.double y0, .int (1 : Int32), .ref da]
    refine ⟨A2_4.at (0 : Int32) 0 rfl rfl, fun T5 X5 eh5 => ?_⟩
    refine own_sD X5 hx hZ eh5 A2_4 1 rfl (by show 1 < 2; decide) (hb hby d5_44) (fun T6 hp6 X6 eh6 Wr6 Ar6 => ?_)
    have Ar6' : own_A Z hp6 da .double [.double y0, .double y0] := Ar6
    have Ar4'_6 := Ar4'.other Wr6 ne_
    have Nf6 := Fr.snoc X6 Nf4 nd
    have Z_6 : n0 ≤ hp6.size := by rw [Wr.size Wr6]; exact Z_4
    have K_6 := Keep.wr K_4 Wr6 (Or.inl (List.mem_of_getElem? (i := 1) rfl))
    refine own_blk dec5 seq5 hby hx hZ hown hK hF 8 [true] [] X6 eh6 ?_
    show (((0 : Int32)).toInt ≤ 0) ∧ own_Aft X6 hp6 _ 54 [.val (.ref ia), .val (.ref da), .val (.int (0 : Int32)), .val (.int ix), .val (.double x), .second, .val (.int (0 : Int32))] [.int ix, .int (0 : Int32), .ref ia]
    refine ⟨by decide, fun T7 X7 eh7 => ?_⟩
    refine own_sI X7 hx hZ eh7 Ar4'_6 0 rfl (by show 0 < 2; decide) (hb hby d5_54) (fun T8 hp8 X8 eh8 Wr8 Ar8 => ?_)
    have Ar8' : own_A Z hp8 ia .int [.int ix, .int j0] := Ar8
    have Ar6'_8 := Ar6'.other Wr8 (Ne.symm ne_)
    have Nf8 := Fr.snoc X8 Nf6 ni
    have Z_8 : n0 ≤ hp8.size := by rw [Wr.size Wr8]; exact Z_6
    have K_8 := Keep.wr K_6 Wr8 (Or.inl (List.mem_of_getElem? (i := 0) rfl))
    refine own_blk dec5 seq5 hby hx hZ hown hK hF 3 [] [] X8 eh8 ?_
    show own_Aft X8 hp8 _ 59 [.val (.ref ia), .val (.ref da), .val (.int (0 : Int32)), .val (.int ix), .val (.double x), .second, .val (.int (0 : Int32))] [.double x, .int (0 : Int32), .ref da]
    refine fun T9 X9 eh9 => ?_
    refine own_sD X9 hx hZ eh9 Ar6'_8 0 rfl (by show 0 < 2; decide) (hb hby d5_59) (fun T10 hp10 X10 eh10 Wr10 Ar10 => ?_)
    have Ar10' : own_A Z hp10 da .double [.double x, .double y0] := Ar10
    have Ar8'_10 := Ar8'.other Wr10 ne_
    have Nf10 := Fr.snoc X10 Nf8 nd
    have Z_10 : n0 ≤ hp10.size := by rw [Wr.size Wr10]; exact Z_8
    have K_10 := Keep.wr K_8 Wr10 (Or.inl (List.mem_of_getElem? (i := 1) rfl))
    exact own_retV X10 hx hlk eh10 hret (hb hby d5_60) (by decide) (by decide) (⟨rfl, Nf10, K_10, ⟨_, _, _, _, _, _, Ar8'_10, Ar10', Dx, D0, Or.inr (⟨ho, rfl, rfl⟩)⟩⟩)
  · skip
    show own_Go p.tables e below _ (T2.setTop (mkF m 25 (Array.mk [.val (.ref ia), .val (.ref da), .val (.int (1 : Int32)), .val (.int ix), .val (.double x), .second, .val (.int (0 : Int32))]) [.int (0 : Int32)]))
    refine own_blk dec5 seq5 hby hx hZ hown hK hF 5 [false] [] X2 eh2 ?_
    show (¬ (((0 : Int32)).toInt ≠ 0)) ∧ own_Aft X2 h0 _ 54 [.val (.ref ia), .val (.ref da), .val (.int (1 : Int32)), .val (.int ix), .val (.double x), .second, .val (.int (0 : Int32))] [.int ix, .int (1 : Int32), .ref ia]
    refine ⟨by decide, fun T11 X11 eh11 => ?_⟩
    refine own_sI X11 hx hZ eh11 A1 1 rfl (by show 1 < 2; decide) (hb hby d5_54) (fun T12 hp12 X12 eh12 Wr12 Ar12 => ?_)
    have Ar12' : own_A Z hp12 ia .int [.int j0, .int ix] := Ar12
    have A2_12 := A2.other Wr12 (Ne.symm ne_)
    have Nf12 := Fr.snoc X12 N0 ni
    have Z_12 : n0 ≤ hp12.size := by rw [Wr.size Wr12]; exact Z0
    have K_12 := Keep.wr K0 Wr12 (Or.inl (List.mem_of_getElem? (i := 0) rfl))
    refine own_blk dec5 seq5 hby hx hZ hown hK hF 3 [] [] X12 eh12 ?_
    show own_Aft X12 hp12 _ 59 [.val (.ref ia), .val (.ref da), .val (.int (1 : Int32)), .val (.int ix), .val (.double x), .second, .val (.int (0 : Int32))] [.double x, .int (1 : Int32), .ref da]
    refine fun T13 X13 eh13 => ?_
    refine own_sD X13 hx hZ eh13 A2_12 1 rfl (by show 1 < 2; decide) (hb hby d5_59) (fun T14 hp14 X14 eh14 Wr14 Ar14 => ?_)
    have Ar14' : own_A Z hp14 da .double [.double y0, .double x] := Ar14
    have Ar12'_14 := Ar12'.other Wr14 ne_
    have Nf14 := Fr.snoc X14 Nf12 nd
    have Z_14 : n0 ≤ hp14.size := by rw [Wr.size Wr14]; exact Z_12
    have K_14 := Keep.wr K_12 Wr14 (Or.inl (List.mem_of_getElem? (i := 1) rfl))
    exact own_retV X14 hx hlk eh14 hret (hb hby d5_60) (by decide) (by decide) (⟨rfl, Nf14, K_14, ⟨_, _, _, _, _, _, Ar12'_14, Ar14', D0, Dx, Or.inl (⟨ho, rfl, rfl⟩)⟩⟩)
set_option maxRecDepth 65536 in
set_option maxHeartbeats 40000000 in
theorem rm5_3_0 (l : Launch) (Z : State) (a0 : Array Value) (hw : ∀ d ∈ tables_1, d.before a0 Z = true) (ws : List Jvm.Cond) (ia da : Addr) (ix : Int32) (x : UInt64) (b : Int) (h0 : Heap) (n0 : Nat) (Z0 : n0 ≤ h0.size) (ni : n0 ≤ ia) (nd : n0 ≤ da) (ne_ : ia ≠ da) (A1 : own_A Z h0 ia .int [.int (0 : Int32), .int (0 : Int32), .int (0 : Int32)]) (A2 : own_A Z h0 da .double [.double 0, .double 0, .double 0]) (Dx : own_D 0 b x) :
    MetFree l (⟨"org/axisfold/search/ResultHeap", "siftUp", "([I[DIID)V"⟩ : MethodName) (head1 (Jvm.Cond.code (⟨"org/axisfold/search/ResultHeap", "siftUp", "([I[DIID)V"⟩ : MethodName) prog_44_method_4_code 7 none :: ws) ({ frames := 1, cells := 0, slots := 0, locals := 24 } : Room)) (fun as_ U => as_ = #[.ref ia, .ref da, .int (0 : Int32), .int ix, .double x] ∧ Z.Warmed39 U.vm ∧ U.heap = h0) (fun _ _ _ _ _ => True) (fun _ U o U' => own_Fin U ({ frames := 1, cells := 0, slots := 0, locals := 24 } : Room).cells ({ frames := 1, cells := 0, slots := 0, locals := 24 } : Room).slots (fun v h L => v = none ∧ Fr n0 L ∧ Keep h0 h [ia, da] ∧ ∃ (j0' : Int32) (z0 : UInt64) (c0 : Int), own_A Z h ia .int [.int j0', .int (0 : Int32), .int (0 : Int32)] ∧ own_A Z h da .double [.double z0, .double 0, .double 0] ∧ own_D 0 c0 z0 ∧ ((c0 = b))) o U') := by
  refine own_body pf5 (ls0 := [.val (.ref ia), .val (.ref da), .val (.int (0 : Int32)), .val (.int ix), .val (.double x), .second, .unset]) (fun m => by first | (simp [entryFrame, mkF, argsToLocals, Value.category, maxLocals]; done) | rfl) ?_
  intro p e s m below meth c T0 hx hby hml hown hnm hlk hret hZ X0 e0
  have hK : own_ks "org/axisfold/search/ResultHeap" a0 Z kt5 := trivial
  have hF : own_fs "org/axisfold/search/ResultHeap" a0 Z ft5 := trivial
  have N0 := Fr.nil n0
  have K0 := Keep.refl h0 [ia, da]
  refine own_blk dec5 seq5 hby hx hZ hown hK hF 5 [true] [] X0 e0 ?_
  show (((0 : Int32)).toInt ≤ 0) ∧ own_Aft X0 h0 _ 54 [.val (.ref ia), .val (.ref da), .val (.int (0 : Int32)), .val (.int ix), .val (.double x), .second, .unset] [.int ix, .int (0 : Int32), .ref ia]
  refine ⟨by decide, fun T1 X1 eh1 => ?_⟩
  refine own_sI X1 hx hZ eh1 A1 0 rfl (by show 0 < 3; decide) (hb hby d5_54) (fun T2 hp2 X2 eh2 Wr2 Ar2 => ?_)
  have Ar2' : own_A Z hp2 ia .int [.int ix, .int (0 : Int32), .int (0 : Int32)] := Ar2
  have A2_2 := A2.other Wr2 (Ne.symm ne_)
  have Nf2 := Fr.snoc X2 N0 ni
  have Z_2 : n0 ≤ hp2.size := by rw [Wr.size Wr2]; exact Z0
  have K_2 := Keep.wr K0 Wr2 (Or.inl (List.mem_of_getElem? (i := 0) rfl))
  refine own_blk dec5 seq5 hby hx hZ hown hK hF 3 [] [] X2 eh2 ?_
  show own_Aft X2 hp2 _ 59 [.val (.ref ia), .val (.ref da), .val (.int (0 : Int32)), .val (.int ix), .val (.double x), .second, .unset] [.double x, .int (0 : Int32), .ref da]
  refine fun T3 X3 eh3 => ?_
  refine own_sD X3 hx hZ eh3 A2_2 0 rfl (by show 0 < 3; decide) (hb hby d5_59) (fun T4 hp4 X4 eh4 Wr4 Ar4 => ?_)
  have Ar4' : own_A Z hp4 da .double [.double x, .double 0, .double 0] := Ar4
  have Ar2'_4 := Ar2'.other Wr4 ne_
  have Nf4 := Fr.snoc X4 Nf2 nd
  have Z_4 : n0 ≤ hp4.size := by rw [Wr.size Wr4]; exact Z_2
  have K_4 := Keep.wr K_2 Wr4 (Or.inl (List.mem_of_getElem? (i := 1) rfl))
  exact own_retV X4 hx hlk eh4 hret (hb hby d5_60) (by decide) (by decide) (⟨rfl, Nf4, K_4, ⟨_, _, _, Ar2'_4, Ar4', Dx, rfl⟩⟩)
set_option maxRecDepth 65536 in
set_option maxHeartbeats 40000000 in
theorem rm5_3_1 (l : Launch) (Z : State) (a0 : Array Value) (hw : ∀ d ∈ tables_1, d.before a0 Z = true) (ws : List Jvm.Cond) (ia da : Addr) (ix : Int32) (x : UInt64) (b : Int) (j0 : Int32) (y0 : UInt64) (f0 : Int) (h0 : Heap) (n0 : Nat) (Z0 : n0 ≤ h0.size) (ni : n0 ≤ ia) (nd : n0 ≤ da) (ne_ : ia ≠ da) (A1 : own_A Z h0 ia .int [.int j0, .int (0 : Int32), .int (0 : Int32)]) (A2 : own_A Z h0 da .double [.double y0, .double 0, .double 0]) (Dx : own_D 0 b x) (D0 : own_D 0 f0 y0) :
    MetFree l (⟨"org/axisfold/search/ResultHeap", "siftUp", "([I[DIID)V"⟩ : MethodName) (head1 (Jvm.Cond.code (⟨"org/axisfold/search/ResultHeap", "siftUp", "([I[DIID)V"⟩ : MethodName) prog_44_method_4_code 7 none :: ws) ({ frames := 1, cells := 0, slots := 0, locals := 24 } : Room)) (fun as_ U => as_ = #[.ref ia, .ref da, .int (1 : Int32), .int ix, .double x] ∧ Z.Warmed39 U.vm ∧ U.heap = h0) (fun _ _ _ _ _ => True) (fun _ U o U' => own_Fin U ({ frames := 1, cells := 0, slots := 0, locals := 24 } : Room).cells ({ frames := 1, cells := 0, slots := 0, locals := 24 } : Room).slots (fun v h L => v = none ∧ Fr n0 L ∧ Keep h0 h [ia, da] ∧ ∃ (j0' j1' : Int32) (z0 z1 : UInt64) (c0 c1 : Int), own_A Z h ia .int [.int j0', .int j1', .int (0 : Int32)] ∧ own_A Z h da .double [.double z0, .double z1, .double 0] ∧ own_D 0 c0 z0 ∧ own_D 0 c1 z1 ∧ ((b ≤ f0 ∧ c0 = f0 ∧ c1 = b) ∨ (f0 ≤ b ∧ c0 = b ∧ c1 = f0))) o U') := by
  refine own_body pf5 (ls0 := [.val (.ref ia), .val (.ref da), .val (.int (1 : Int32)), .val (.int ix), .val (.double x), .second, .unset]) (fun m => by first | (simp [entryFrame, mkF, argsToLocals, Value.category, maxLocals]; done) | rfl) ?_
  intro p e s m below meth c T0 hx hby hml hown hnm hlk hret hZ X0 e0
  have hK : own_ks "org/axisfold/search/ResultHeap" a0 Z kt5 := trivial
  have hF : own_fs "org/axisfold/search/ResultHeap" a0 Z ft5 := trivial
  have N0 := Fr.nil n0
  have K0 := Keep.refl h0 [ia, da]
  refine own_blk dec5 seq5 hby hx hZ hown hK hF 16 [false] [.double y0, .int j0] X0 e0 ?_
  show (¬ (((1 : Int32)).toInt ≤ 0)) ∧ (own_at Z h0 da .double (0 : Int32) (.double y0)) ∧ (own_at Z h0 ia .int (0 : Int32) (.int j0)) ∧ own_Aft X0 h0 _ 22 [.val (.ref ia), .val (.ref da), .val (.int (1 : Int32)), .val (.int ix), .val (.double x), .second, .val (.int (0 : Int32))] [.int ix, .double x, .int j0, .double y0]
  refine ⟨by decide, A2.at (0 : Int32) 0 rfl rfl, A1.at (0 : Int32) 0 rfl rfl, fun T1 X1 eh1 => ?_⟩
  refine own_callSP X1 hx hZ hown (hw _ (List.mem_of_getElem? (i := 45) rfl)) (hw _ (List.mem_of_getElem? (i := 46) rfl)) (hw _ (List.mem_of_getElem? (i := 47) rfl)) (hw _ (List.mem_of_getElem? (i := 48) rfl)) (by decide) eh1 [.double y0, .int j0, .double x, .int ix] pd8 rfl (fr := 0) (lo := 0) (rm8 l Z a0 hw [] y0 x j0 ix f0 b h0 n0 Z0 D0 Dx) (by rw [hml]; rfl) 0 rfl (Nat.le_of_eq rfl) (hb hby d5_22) (by decide) (by decide) (by decide) (by decide) (fun T2 rv2 X2 eh2 qc2 => ?_)
  obtain ⟨r, rfl, ho⟩ := qc2
  show own_Go p.tables e below _ (T2.setTop (mkF m 25 (Array.mk [.val (.ref ia), .val (.ref da), .val (.int (1 : Int32)), .val (.int ix), .val (.double x), .second, .val (.int (0 : Int32))]) [.int r]))
  rcases ho with ⟨rfl, ho⟩ | ⟨rfl, ho⟩
  · skip
    show own_Go p.tables e below _ (T2.setTop (mkF m 25 (Array.mk [.val (.ref ia), .val (.ref da), .val (.int (1 : Int32)), .val (.int ix), .val (.double x), .second, .val (.int (0 : Int32))]) [.int (1 : Int32)]))
    refine own_blk dec5 seq5 hby hx hZ hown hK hF 6 [true] [.int j0] X2 eh2 ?_
    show (((1 : Int32)).toInt ≠ 0) ∧ (own_at Z h0 ia .int (0 : Int32) (.int j0)) ∧ own_Aft X2 h0 _ 37 [.val (.ref ia), .val (.ref da), .val (.int (1 : Int32)), .val (.int ix), .val (.double x), .second, .val (.int (0 : Int32))] [.int j0, .int (1 : Int32), .ref ia]
    refine ⟨by decide, A1.at (0 : Int32) 0 rfl rfl, fun T3 X3 eh3 => ?_⟩
    refine own_sI X3 hx hZ eh3 A1 1 rfl (by show 1 < 3; decide) (hb hby d5_37) (fun T4 hp4 X4 eh4 Wr4 Ar4 => ?_)
    have Ar4' : own_A Z hp4 ia .int [.int j0, .int j0, .int (0 : Int32)] := Ar4
    have A2_4 := A2.other Wr4 (Ne.symm ne_)
    have Nf4 := Fr.snoc X4 N0 ni
    have Z_4 : n0 ≤ hp4.size := by rw [Wr.size Wr4]; exact Z0
    have K_4 := Keep.wr K0 Wr4 (Or.inl (List.mem_of_getElem? (i := 0) rfl))
    refine own_blk dec5 seq5 hby hx hZ hown hK hF 5 [] [.double y0] X4 eh4 ?_
    show (own_at Z hp4 da .double (0 : Int32) (.double y0)) ∧ own_Aft X4 hp4 _ 44 [.val (.ref ia), .val (.ref da), .val (.int (1 : Int32)), .val (.int ix), .val (.double x), .second, .val (.int (0 : Int32))] [.double y0, .int (1 : Int32), .ref da]
    refine ⟨A2_4.at (0 : Int32) 0 rfl rfl, fun T5 X5 eh5 => ?_⟩
    refine own_sD X5 hx hZ eh5 A2_4 1 rfl (by show 1 < 3; decide) (hb hby d5_44) (fun T6 hp6 X6 eh6 Wr6 Ar6 => ?_)
    have Ar6' : own_A Z hp6 da .double [.double y0, .double y0, .double 0] := Ar6
    have Ar4'_6 := Ar4'.other Wr6 ne_
    have Nf6 := Fr.snoc X6 Nf4 nd
    have Z_6 : n0 ≤ hp6.size := by rw [Wr.size Wr6]; exact Z_4
    have K_6 := Keep.wr K_4 Wr6 (Or.inl (List.mem_of_getElem? (i := 1) rfl))
    refine own_blk dec5 seq5 hby hx hZ hown hK hF 8 [true] [] X6 eh6 ?_
    show (((0 : Int32)).toInt ≤ 0) ∧ own_Aft X6 hp6 _ 54 [.val (.ref ia), .val (.ref da), .val (.int (0 : Int32)), .val (.int ix), .val (.double x), .second, .val (.int (0 : Int32))] [.int ix, .int (0 : Int32), .ref ia]
    refine ⟨by decide, fun T7 X7 eh7 => ?_⟩
    refine own_sI X7 hx hZ eh7 Ar4'_6 0 rfl (by show 0 < 3; decide) (hb hby d5_54) (fun T8 hp8 X8 eh8 Wr8 Ar8 => ?_)
    have Ar8' : own_A Z hp8 ia .int [.int ix, .int j0, .int (0 : Int32)] := Ar8
    have Ar6'_8 := Ar6'.other Wr8 (Ne.symm ne_)
    have Nf8 := Fr.snoc X8 Nf6 ni
    have Z_8 : n0 ≤ hp8.size := by rw [Wr.size Wr8]; exact Z_6
    have K_8 := Keep.wr K_6 Wr8 (Or.inl (List.mem_of_getElem? (i := 0) rfl))
    refine own_blk dec5 seq5 hby hx hZ hown hK hF 3 [] [] X8 eh8 ?_
    show own_Aft X8 hp8 _ 59 [.val (.ref ia), .val (.ref da), .val (.int (0 : Int32)), .val (.int ix), .val (.double x), .second, .val (.int (0 : Int32))] [.double x, .int (0 : Int32), .ref da]
    refine fun T9 X9 eh9 => ?_
    refine own_sD X9 hx hZ eh9 Ar6'_8 0 rfl (by show 0 < 3; decide) (hb hby d5_59) (fun T10 hp10 X10 eh10 Wr10 Ar10 => ?_)
    have Ar10' : own_A Z hp10 da .double [.double x, .double y0, .double 0] := Ar10
    have Ar8'_10 := Ar8'.other Wr10 ne_
    have Nf10 := Fr.snoc X10 Nf8 nd
    have Z_10 : n0 ≤ hp10.size := by rw [Wr.size Wr10]; exact Z_8
    have K_10 := Keep.wr K_8 Wr10 (Or.inl (List.mem_of_getElem? (i := 1) rfl))
    exact own_retV X10 hx hlk eh10 hret (hb hby d5_60) (by decide) (by decide) (⟨rfl, Nf10, K_10, ⟨_, _, _, _, _, _, Ar8'_10, Ar10', Dx, D0, Or.inr (⟨ho, rfl, rfl⟩)⟩⟩)
  · skip
    show own_Go p.tables e below _ (T2.setTop (mkF m 25 (Array.mk [.val (.ref ia), .val (.ref da), .val (.int (1 : Int32)), .val (.int ix), .val (.double x), .second, .val (.int (0 : Int32))]) [.int (0 : Int32)]))
    refine own_blk dec5 seq5 hby hx hZ hown hK hF 5 [false] [] X2 eh2 ?_
    show (¬ (((0 : Int32)).toInt ≠ 0)) ∧ own_Aft X2 h0 _ 54 [.val (.ref ia), .val (.ref da), .val (.int (1 : Int32)), .val (.int ix), .val (.double x), .second, .val (.int (0 : Int32))] [.int ix, .int (1 : Int32), .ref ia]
    refine ⟨by decide, fun T11 X11 eh11 => ?_⟩
    refine own_sI X11 hx hZ eh11 A1 1 rfl (by show 1 < 3; decide) (hb hby d5_54) (fun T12 hp12 X12 eh12 Wr12 Ar12 => ?_)
    have Ar12' : own_A Z hp12 ia .int [.int j0, .int ix, .int (0 : Int32)] := Ar12
    have A2_12 := A2.other Wr12 (Ne.symm ne_)
    have Nf12 := Fr.snoc X12 N0 ni
    have Z_12 : n0 ≤ hp12.size := by rw [Wr.size Wr12]; exact Z0
    have K_12 := Keep.wr K0 Wr12 (Or.inl (List.mem_of_getElem? (i := 0) rfl))
    refine own_blk dec5 seq5 hby hx hZ hown hK hF 3 [] [] X12 eh12 ?_
    show own_Aft X12 hp12 _ 59 [.val (.ref ia), .val (.ref da), .val (.int (1 : Int32)), .val (.int ix), .val (.double x), .second, .val (.int (0 : Int32))] [.double x, .int (1 : Int32), .ref da]
    refine fun T13 X13 eh13 => ?_
    refine own_sD X13 hx hZ eh13 A2_12 1 rfl (by show 1 < 3; decide) (hb hby d5_59) (fun T14 hp14 X14 eh14 Wr14 Ar14 => ?_)
    have Ar14' : own_A Z hp14 da .double [.double y0, .double x, .double 0] := Ar14
    have Ar12'_14 := Ar12'.other Wr14 ne_
    have Nf14 := Fr.snoc X14 Nf12 nd
    have Z_14 : n0 ≤ hp14.size := by rw [Wr.size Wr14]; exact Z_12
    have K_14 := Keep.wr K_12 Wr14 (Or.inl (List.mem_of_getElem? (i := 1) rfl))
    exact own_retV X14 hx hlk eh14 hret (hb hby d5_60) (by decide) (by decide) (⟨rfl, Nf14, K_14, ⟨_, _, _, _, _, _, Ar12'_14, Ar14', D0, Dx, Or.inl (⟨ho, rfl, rfl⟩)⟩⟩)
set_option maxRecDepth 65536 in
set_option maxHeartbeats 40000000 in
theorem rm5_3_2 (l : Launch) (Z : State) (a0 : Array Value) (hw : ∀ d ∈ tables_1, d.before a0 Z = true) (ws : List Jvm.Cond) (ia da : Addr) (ix : Int32) (x : UInt64) (b : Int) (j0 j1 : Int32) (y0 y1 : UInt64) (f0 f1 : Int) (h0 : Heap) (n0 : Nat) (Z0 : n0 ≤ h0.size) (ni : n0 ≤ ia) (nd : n0 ≤ da) (ne_ : ia ≠ da) (A1 : own_A Z h0 ia .int [.int j0, .int j1, .int (0 : Int32)]) (A2 : own_A Z h0 da .double [.double y0, .double y1, .double 0]) (Dx : own_D 0 b x) (D0 : own_D 0 f0 y0) (D1 : own_D 0 f1 y1) :
    MetFree l (⟨"org/axisfold/search/ResultHeap", "siftUp", "([I[DIID)V"⟩ : MethodName) (head1 (Jvm.Cond.code (⟨"org/axisfold/search/ResultHeap", "siftUp", "([I[DIID)V"⟩ : MethodName) prog_44_method_4_code 7 none :: ws) ({ frames := 1, cells := 0, slots := 0, locals := 24 } : Room)) (fun as_ U => as_ = #[.ref ia, .ref da, .int (2 : Int32), .int ix, .double x] ∧ Z.Warmed39 U.vm ∧ U.heap = h0) (fun _ _ _ _ _ => True) (fun _ U o U' => own_Fin U ({ frames := 1, cells := 0, slots := 0, locals := 24 } : Room).cells ({ frames := 1, cells := 0, slots := 0, locals := 24 } : Room).slots (fun v h L => v = none ∧ Fr n0 L ∧ Keep h0 h [ia, da] ∧ ∃ (j0' j1' j2' : Int32) (z0 z1 z2 : UInt64) (c0 c1 c2 : Int), own_A Z h ia .int [.int j0', .int j1', .int j2'] ∧ own_A Z h da .double [.double z0, .double z1, .double z2] ∧ own_D 0 c0 z0 ∧ own_D 0 c1 z1 ∧ own_D 0 c2 z2 ∧ ((b ≤ f0 ∧ c0 = f0 ∧ c1 = f1 ∧ c2 = b) ∨ (f0 ≤ b ∧ c0 = b ∧ c1 = f1 ∧ c2 = f0))) o U') := by
  refine own_body pf5 (ls0 := [.val (.ref ia), .val (.ref da), .val (.int (2 : Int32)), .val (.int ix), .val (.double x), .second, .unset]) (fun m => by first | (simp [entryFrame, mkF, argsToLocals, Value.category, maxLocals]; done) | rfl) ?_
  intro p e s m below meth c T0 hx hby hml hown hnm hlk hret hZ X0 e0
  have hK : own_ks "org/axisfold/search/ResultHeap" a0 Z kt5 := trivial
  have hF : own_fs "org/axisfold/search/ResultHeap" a0 Z ft5 := trivial
  have N0 := Fr.nil n0
  have K0 := Keep.refl h0 [ia, da]
  refine own_blk dec5 seq5 hby hx hZ hown hK hF 16 [false] [.double y0, .int j0] X0 e0 ?_
  show (¬ (((2 : Int32)).toInt ≤ 0)) ∧ (own_at Z h0 da .double (0 : Int32) (.double y0)) ∧ (own_at Z h0 ia .int (0 : Int32) (.int j0)) ∧ own_Aft X0 h0 _ 22 [.val (.ref ia), .val (.ref da), .val (.int (2 : Int32)), .val (.int ix), .val (.double x), .second, .val (.int (0 : Int32))] [.int ix, .double x, .int j0, .double y0]
  refine ⟨by decide, A2.at (0 : Int32) 0 rfl rfl, A1.at (0 : Int32) 0 rfl rfl, fun T1 X1 eh1 => ?_⟩
  refine own_callSP X1 hx hZ hown (hw _ (List.mem_of_getElem? (i := 45) rfl)) (hw _ (List.mem_of_getElem? (i := 46) rfl)) (hw _ (List.mem_of_getElem? (i := 47) rfl)) (hw _ (List.mem_of_getElem? (i := 48) rfl)) (by decide) eh1 [.double y0, .int j0, .double x, .int ix] pd8 rfl (fr := 0) (lo := 0) (rm8 l Z a0 hw [] y0 x j0 ix f0 b h0 n0 Z0 D0 Dx) (by rw [hml]; rfl) 0 rfl (Nat.le_of_eq rfl) (hb hby d5_22) (by decide) (by decide) (by decide) (by decide) (fun T2 rv2 X2 eh2 qc2 => ?_)
  obtain ⟨r, rfl, ho⟩ := qc2
  show own_Go p.tables e below _ (T2.setTop (mkF m 25 (Array.mk [.val (.ref ia), .val (.ref da), .val (.int (2 : Int32)), .val (.int ix), .val (.double x), .second, .val (.int (0 : Int32))]) [.int r]))
  rcases ho with ⟨rfl, ho⟩ | ⟨rfl, ho⟩
  · skip
    show own_Go p.tables e below _ (T2.setTop (mkF m 25 (Array.mk [.val (.ref ia), .val (.ref da), .val (.int (2 : Int32)), .val (.int ix), .val (.double x), .second, .val (.int (0 : Int32))]) [.int (1 : Int32)]))
    refine own_blk dec5 seq5 hby hx hZ hown hK hF 6 [true] [.int j0] X2 eh2 ?_
    show (((1 : Int32)).toInt ≠ 0) ∧ (own_at Z h0 ia .int (0 : Int32) (.int j0)) ∧ own_Aft X2 h0 _ 37 [.val (.ref ia), .val (.ref da), .val (.int (2 : Int32)), .val (.int ix), .val (.double x), .second, .val (.int (0 : Int32))] [.int j0, .int (2 : Int32), .ref ia]
    refine ⟨by decide, A1.at (0 : Int32) 0 rfl rfl, fun T3 X3 eh3 => ?_⟩
    refine own_sI X3 hx hZ eh3 A1 2 rfl (by show 2 < 3; decide) (hb hby d5_37) (fun T4 hp4 X4 eh4 Wr4 Ar4 => ?_)
    have Ar4' : own_A Z hp4 ia .int [.int j0, .int j1, .int j0] := Ar4
    have A2_4 := A2.other Wr4 (Ne.symm ne_)
    have Nf4 := Fr.snoc X4 N0 ni
    have Z_4 : n0 ≤ hp4.size := by rw [Wr.size Wr4]; exact Z0
    have K_4 := Keep.wr K0 Wr4 (Or.inl (List.mem_of_getElem? (i := 0) rfl))
    refine own_blk dec5 seq5 hby hx hZ hown hK hF 5 [] [.double y0] X4 eh4 ?_
    show (own_at Z hp4 da .double (0 : Int32) (.double y0)) ∧ own_Aft X4 hp4 _ 44 [.val (.ref ia), .val (.ref da), .val (.int (2 : Int32)), .val (.int ix), .val (.double x), .second, .val (.int (0 : Int32))] [.double y0, .int (2 : Int32), .ref da]
    refine ⟨A2_4.at (0 : Int32) 0 rfl rfl, fun T5 X5 eh5 => ?_⟩
    refine own_sD X5 hx hZ eh5 A2_4 2 rfl (by show 2 < 3; decide) (hb hby d5_44) (fun T6 hp6 X6 eh6 Wr6 Ar6 => ?_)
    have Ar6' : own_A Z hp6 da .double [.double y0, .double y1, .double y0] := Ar6
    have Ar4'_6 := Ar4'.other Wr6 ne_
    have Nf6 := Fr.snoc X6 Nf4 nd
    have Z_6 : n0 ≤ hp6.size := by rw [Wr.size Wr6]; exact Z_4
    have K_6 := Keep.wr K_4 Wr6 (Or.inl (List.mem_of_getElem? (i := 1) rfl))
    refine own_blk dec5 seq5 hby hx hZ hown hK hF 8 [true] [] X6 eh6 ?_
    show (((0 : Int32)).toInt ≤ 0) ∧ own_Aft X6 hp6 _ 54 [.val (.ref ia), .val (.ref da), .val (.int (0 : Int32)), .val (.int ix), .val (.double x), .second, .val (.int (0 : Int32))] [.int ix, .int (0 : Int32), .ref ia]
    refine ⟨by decide, fun T7 X7 eh7 => ?_⟩
    refine own_sI X7 hx hZ eh7 Ar4'_6 0 rfl (by show 0 < 3; decide) (hb hby d5_54) (fun T8 hp8 X8 eh8 Wr8 Ar8 => ?_)
    have Ar8' : own_A Z hp8 ia .int [.int ix, .int j1, .int j0] := Ar8
    have Ar6'_8 := Ar6'.other Wr8 (Ne.symm ne_)
    have Nf8 := Fr.snoc X8 Nf6 ni
    have Z_8 : n0 ≤ hp8.size := by rw [Wr.size Wr8]; exact Z_6
    have K_8 := Keep.wr K_6 Wr8 (Or.inl (List.mem_of_getElem? (i := 0) rfl))
    refine own_blk dec5 seq5 hby hx hZ hown hK hF 3 [] [] X8 eh8 ?_
    show own_Aft X8 hp8 _ 59 [.val (.ref ia), .val (.ref da), .val (.int (0 : Int32)), .val (.int ix), .val (.double x), .second, .val (.int (0 : Int32))] [.double x, .int (0 : Int32), .ref da]
    refine fun T9 X9 eh9 => ?_
    refine own_sD X9 hx hZ eh9 Ar6'_8 0 rfl (by show 0 < 3; decide) (hb hby d5_59) (fun T10 hp10 X10 eh10 Wr10 Ar10 => ?_)
    have Ar10' : own_A Z hp10 da .double [.double x, .double y1, .double y0] := Ar10
    have Ar8'_10 := Ar8'.other Wr10 ne_
    have Nf10 := Fr.snoc X10 Nf8 nd
    have Z_10 : n0 ≤ hp10.size := by rw [Wr.size Wr10]; exact Z_8
    have K_10 := Keep.wr K_8 Wr10 (Or.inl (List.mem_of_getElem? (i := 1) rfl))
    exact own_retV X10 hx hlk eh10 hret (hb hby d5_60) (by decide) (by decide) (⟨rfl, Nf10, K_10, ⟨_, _, _, _, _, _, _, _, _, Ar8'_10, Ar10', Dx, D1, D0, Or.inr (⟨ho, rfl, rfl, rfl⟩)⟩⟩)
  · skip
    show own_Go p.tables e below _ (T2.setTop (mkF m 25 (Array.mk [.val (.ref ia), .val (.ref da), .val (.int (2 : Int32)), .val (.int ix), .val (.double x), .second, .val (.int (0 : Int32))]) [.int (0 : Int32)]))
    refine own_blk dec5 seq5 hby hx hZ hown hK hF 5 [false] [] X2 eh2 ?_
    show (¬ (((0 : Int32)).toInt ≠ 0)) ∧ own_Aft X2 h0 _ 54 [.val (.ref ia), .val (.ref da), .val (.int (2 : Int32)), .val (.int ix), .val (.double x), .second, .val (.int (0 : Int32))] [.int ix, .int (2 : Int32), .ref ia]
    refine ⟨by decide, fun T11 X11 eh11 => ?_⟩
    refine own_sI X11 hx hZ eh11 A1 2 rfl (by show 2 < 3; decide) (hb hby d5_54) (fun T12 hp12 X12 eh12 Wr12 Ar12 => ?_)
    have Ar12' : own_A Z hp12 ia .int [.int j0, .int j1, .int ix] := Ar12
    have A2_12 := A2.other Wr12 (Ne.symm ne_)
    have Nf12 := Fr.snoc X12 N0 ni
    have Z_12 : n0 ≤ hp12.size := by rw [Wr.size Wr12]; exact Z0
    have K_12 := Keep.wr K0 Wr12 (Or.inl (List.mem_of_getElem? (i := 0) rfl))
    refine own_blk dec5 seq5 hby hx hZ hown hK hF 3 [] [] X12 eh12 ?_
    show own_Aft X12 hp12 _ 59 [.val (.ref ia), .val (.ref da), .val (.int (2 : Int32)), .val (.int ix), .val (.double x), .second, .val (.int (0 : Int32))] [.double x, .int (2 : Int32), .ref da]
    refine fun T13 X13 eh13 => ?_
    refine own_sD X13 hx hZ eh13 A2_12 2 rfl (by show 2 < 3; decide) (hb hby d5_59) (fun T14 hp14 X14 eh14 Wr14 Ar14 => ?_)
    have Ar14' : own_A Z hp14 da .double [.double y0, .double y1, .double x] := Ar14
    have Ar12'_14 := Ar12'.other Wr14 ne_
    have Nf14 := Fr.snoc X14 Nf12 nd
    have Z_14 : n0 ≤ hp14.size := by rw [Wr.size Wr14]; exact Z_12
    have K_14 := Keep.wr K_12 Wr14 (Or.inl (List.mem_of_getElem? (i := 1) rfl))
    exact own_retV X14 hx hlk eh14 hret (hb hby d5_60) (by decide) (by decide) (⟨rfl, Nf14, K_14, ⟨_, _, _, _, _, _, _, _, _, Ar12'_14, Ar14', D0, D1, Dx, Or.inl (⟨ho, rfl, rfl, rfl⟩)⟩⟩)
set_option maxRecDepth 65536 in
set_option maxHeartbeats 40000000 in
theorem rm5_4_0 (l : Launch) (Z : State) (a0 : Array Value) (hw : ∀ d ∈ tables_1, d.before a0 Z = true) (ws : List Jvm.Cond) (ia da : Addr) (ix : Int32) (x : UInt64) (b : Int) (h0 : Heap) (n0 : Nat) (Z0 : n0 ≤ h0.size) (ni : n0 ≤ ia) (nd : n0 ≤ da) (ne_ : ia ≠ da) (A1 : own_A Z h0 ia .int [.int (0 : Int32), .int (0 : Int32), .int (0 : Int32), .int (0 : Int32)]) (A2 : own_A Z h0 da .double [.double 0, .double 0, .double 0, .double 0]) (Dx : own_D 0 b x) :
    MetFree l (⟨"org/axisfold/search/ResultHeap", "siftUp", "([I[DIID)V"⟩ : MethodName) (head1 (Jvm.Cond.code (⟨"org/axisfold/search/ResultHeap", "siftUp", "([I[DIID)V"⟩ : MethodName) prog_44_method_4_code 7 none :: ws) ({ frames := 1, cells := 0, slots := 0, locals := 24 } : Room)) (fun as_ U => as_ = #[.ref ia, .ref da, .int (0 : Int32), .int ix, .double x] ∧ Z.Warmed39 U.vm ∧ U.heap = h0) (fun _ _ _ _ _ => True) (fun _ U o U' => own_Fin U ({ frames := 1, cells := 0, slots := 0, locals := 24 } : Room).cells ({ frames := 1, cells := 0, slots := 0, locals := 24 } : Room).slots (fun v h L => v = none ∧ Fr n0 L ∧ Keep h0 h [ia, da] ∧ ∃ (j0' : Int32) (z0 : UInt64) (c0 : Int), own_A Z h ia .int [.int j0', .int (0 : Int32), .int (0 : Int32), .int (0 : Int32)] ∧ own_A Z h da .double [.double z0, .double 0, .double 0, .double 0] ∧ own_D 0 c0 z0 ∧ ((c0 = b))) o U') := by
  refine own_body pf5 (ls0 := [.val (.ref ia), .val (.ref da), .val (.int (0 : Int32)), .val (.int ix), .val (.double x), .second, .unset]) (fun m => by first | (simp [entryFrame, mkF, argsToLocals, Value.category, maxLocals]; done) | rfl) ?_
  intro p e s m below meth c T0 hx hby hml hown hnm hlk hret hZ X0 e0
  have hK : own_ks "org/axisfold/search/ResultHeap" a0 Z kt5 := trivial
  have hF : own_fs "org/axisfold/search/ResultHeap" a0 Z ft5 := trivial
  have N0 := Fr.nil n0
  have K0 := Keep.refl h0 [ia, da]
  refine own_blk dec5 seq5 hby hx hZ hown hK hF 5 [true] [] X0 e0 ?_
  show (((0 : Int32)).toInt ≤ 0) ∧ own_Aft X0 h0 _ 54 [.val (.ref ia), .val (.ref da), .val (.int (0 : Int32)), .val (.int ix), .val (.double x), .second, .unset] [.int ix, .int (0 : Int32), .ref ia]
  refine ⟨by decide, fun T1 X1 eh1 => ?_⟩
  refine own_sI X1 hx hZ eh1 A1 0 rfl (by show 0 < 4; decide) (hb hby d5_54) (fun T2 hp2 X2 eh2 Wr2 Ar2 => ?_)
  have Ar2' : own_A Z hp2 ia .int [.int ix, .int (0 : Int32), .int (0 : Int32), .int (0 : Int32)] := Ar2
  have A2_2 := A2.other Wr2 (Ne.symm ne_)
  have Nf2 := Fr.snoc X2 N0 ni
  have Z_2 : n0 ≤ hp2.size := by rw [Wr.size Wr2]; exact Z0
  have K_2 := Keep.wr K0 Wr2 (Or.inl (List.mem_of_getElem? (i := 0) rfl))
  refine own_blk dec5 seq5 hby hx hZ hown hK hF 3 [] [] X2 eh2 ?_
  show own_Aft X2 hp2 _ 59 [.val (.ref ia), .val (.ref da), .val (.int (0 : Int32)), .val (.int ix), .val (.double x), .second, .unset] [.double x, .int (0 : Int32), .ref da]
  refine fun T3 X3 eh3 => ?_
  refine own_sD X3 hx hZ eh3 A2_2 0 rfl (by show 0 < 4; decide) (hb hby d5_59) (fun T4 hp4 X4 eh4 Wr4 Ar4 => ?_)
  have Ar4' : own_A Z hp4 da .double [.double x, .double 0, .double 0, .double 0] := Ar4
  have Ar2'_4 := Ar2'.other Wr4 ne_
  have Nf4 := Fr.snoc X4 Nf2 nd
  have Z_4 : n0 ≤ hp4.size := by rw [Wr.size Wr4]; exact Z_2
  have K_4 := Keep.wr K_2 Wr4 (Or.inl (List.mem_of_getElem? (i := 1) rfl))
  exact own_retV X4 hx hlk eh4 hret (hb hby d5_60) (by decide) (by decide) (⟨rfl, Nf4, K_4, ⟨_, _, _, Ar2'_4, Ar4', Dx, rfl⟩⟩)
set_option maxRecDepth 65536 in
set_option maxHeartbeats 40000000 in
theorem rm5_4_1 (l : Launch) (Z : State) (a0 : Array Value) (hw : ∀ d ∈ tables_1, d.before a0 Z = true) (ws : List Jvm.Cond) (ia da : Addr) (ix : Int32) (x : UInt64) (b : Int) (j0 : Int32) (y0 : UInt64) (f0 : Int) (h0 : Heap) (n0 : Nat) (Z0 : n0 ≤ h0.size) (ni : n0 ≤ ia) (nd : n0 ≤ da) (ne_ : ia ≠ da) (A1 : own_A Z h0 ia .int [.int j0, .int (0 : Int32), .int (0 : Int32), .int (0 : Int32)]) (A2 : own_A Z h0 da .double [.double y0, .double 0, .double 0, .double 0]) (Dx : own_D 0 b x) (D0 : own_D 0 f0 y0) :
    MetFree l (⟨"org/axisfold/search/ResultHeap", "siftUp", "([I[DIID)V"⟩ : MethodName) (head1 (Jvm.Cond.code (⟨"org/axisfold/search/ResultHeap", "siftUp", "([I[DIID)V"⟩ : MethodName) prog_44_method_4_code 7 none :: ws) ({ frames := 1, cells := 0, slots := 0, locals := 24 } : Room)) (fun as_ U => as_ = #[.ref ia, .ref da, .int (1 : Int32), .int ix, .double x] ∧ Z.Warmed39 U.vm ∧ U.heap = h0) (fun _ _ _ _ _ => True) (fun _ U o U' => own_Fin U ({ frames := 1, cells := 0, slots := 0, locals := 24 } : Room).cells ({ frames := 1, cells := 0, slots := 0, locals := 24 } : Room).slots (fun v h L => v = none ∧ Fr n0 L ∧ Keep h0 h [ia, da] ∧ ∃ (j0' j1' : Int32) (z0 z1 : UInt64) (c0 c1 : Int), own_A Z h ia .int [.int j0', .int j1', .int (0 : Int32), .int (0 : Int32)] ∧ own_A Z h da .double [.double z0, .double z1, .double 0, .double 0] ∧ own_D 0 c0 z0 ∧ own_D 0 c1 z1 ∧ ((b ≤ f0 ∧ c0 = f0 ∧ c1 = b) ∨ (f0 ≤ b ∧ c0 = b ∧ c1 = f0))) o U') := by
  refine own_body pf5 (ls0 := [.val (.ref ia), .val (.ref da), .val (.int (1 : Int32)), .val (.int ix), .val (.double x), .second, .unset]) (fun m => by first | (simp [entryFrame, mkF, argsToLocals, Value.category, maxLocals]; done) | rfl) ?_
  intro p e s m below meth c T0 hx hby hml hown hnm hlk hret hZ X0 e0
  have hK : own_ks "org/axisfold/search/ResultHeap" a0 Z kt5 := trivial
  have hF : own_fs "org/axisfold/search/ResultHeap" a0 Z ft5 := trivial
  have N0 := Fr.nil n0
  have K0 := Keep.refl h0 [ia, da]
  refine own_blk dec5 seq5 hby hx hZ hown hK hF 16 [false] [.double y0, .int j0] X0 e0 ?_
  show (¬ (((1 : Int32)).toInt ≤ 0)) ∧ (own_at Z h0 da .double (0 : Int32) (.double y0)) ∧ (own_at Z h0 ia .int (0 : Int32) (.int j0)) ∧ own_Aft X0 h0 _ 22 [.val (.ref ia), .val (.ref da), .val (.int (1 : Int32)), .val (.int ix), .val (.double x), .second, .val (.int (0 : Int32))] [.int ix, .double x, .int j0, .double y0]
  refine ⟨by decide, A2.at (0 : Int32) 0 rfl rfl, A1.at (0 : Int32) 0 rfl rfl, fun T1 X1 eh1 => ?_⟩
  refine own_callSP X1 hx hZ hown (hw _ (List.mem_of_getElem? (i := 45) rfl)) (hw _ (List.mem_of_getElem? (i := 46) rfl)) (hw _ (List.mem_of_getElem? (i := 47) rfl)) (hw _ (List.mem_of_getElem? (i := 48) rfl)) (by decide) eh1 [.double y0, .int j0, .double x, .int ix] pd8 rfl (fr := 0) (lo := 0) (rm8 l Z a0 hw [] y0 x j0 ix f0 b h0 n0 Z0 D0 Dx) (by rw [hml]; rfl) 0 rfl (Nat.le_of_eq rfl) (hb hby d5_22) (by decide) (by decide) (by decide) (by decide) (fun T2 rv2 X2 eh2 qc2 => ?_)
  obtain ⟨r, rfl, ho⟩ := qc2
  show own_Go p.tables e below _ (T2.setTop (mkF m 25 (Array.mk [.val (.ref ia), .val (.ref da), .val (.int (1 : Int32)), .val (.int ix), .val (.double x), .second, .val (.int (0 : Int32))]) [.int r]))
  rcases ho with ⟨rfl, ho⟩ | ⟨rfl, ho⟩
  · skip
    show own_Go p.tables e below _ (T2.setTop (mkF m 25 (Array.mk [.val (.ref ia), .val (.ref da), .val (.int (1 : Int32)), .val (.int ix), .val (.double x), .second, .val (.int (0 : Int32))]) [.int (1 : Int32)]))
    refine own_blk dec5 seq5 hby hx hZ hown hK hF 6 [true] [.int j0] X2 eh2 ?_
    show (((1 : Int32)).toInt ≠ 0) ∧ (own_at Z h0 ia .int (0 : Int32) (.int j0)) ∧ own_Aft X2 h0 _ 37 [.val (.ref ia), .val (.ref da), .val (.int (1 : Int32)), .val (.int ix), .val (.double x), .second, .val (.int (0 : Int32))] [.int j0, .int (1 : Int32), .ref ia]
    refine ⟨by decide, A1.at (0 : Int32) 0 rfl rfl, fun T3 X3 eh3 => ?_⟩
    refine own_sI X3 hx hZ eh3 A1 1 rfl (by show 1 < 4; decide) (hb hby d5_37) (fun T4 hp4 X4 eh4 Wr4 Ar4 => ?_)
    have Ar4' : own_A Z hp4 ia .int [.int j0, .int j0, .int (0 : Int32), .int (0 : Int32)] := Ar4
    have A2_4 := A2.other Wr4 (Ne.symm ne_)
    have Nf4 := Fr.snoc X4 N0 ni
    have Z_4 : n0 ≤ hp4.size := by rw [Wr.size Wr4]; exact Z0
    have K_4 := Keep.wr K0 Wr4 (Or.inl (List.mem_of_getElem? (i := 0) rfl))
    refine own_blk dec5 seq5 hby hx hZ hown hK hF 5 [] [.double y0] X4 eh4 ?_
    show (own_at Z hp4 da .double (0 : Int32) (.double y0)) ∧ own_Aft X4 hp4 _ 44 [.val (.ref ia), .val (.ref da), .val (.int (1 : Int32)), .val (.int ix), .val (.double x), .second, .val (.int (0 : Int32))] [.double y0, .int (1 : Int32), .ref da]
    refine ⟨A2_4.at (0 : Int32) 0 rfl rfl, fun T5 X5 eh5 => ?_⟩
    refine own_sD X5 hx hZ eh5 A2_4 1 rfl (by show 1 < 4; decide) (hb hby d5_44) (fun T6 hp6 X6 eh6 Wr6 Ar6 => ?_)
    have Ar6' : own_A Z hp6 da .double [.double y0, .double y0, .double 0, .double 0] := Ar6
    have Ar4'_6 := Ar4'.other Wr6 ne_
    have Nf6 := Fr.snoc X6 Nf4 nd
    have Z_6 : n0 ≤ hp6.size := by rw [Wr.size Wr6]; exact Z_4
    have K_6 := Keep.wr K_4 Wr6 (Or.inl (List.mem_of_getElem? (i := 1) rfl))
    refine own_blk dec5 seq5 hby hx hZ hown hK hF 8 [true] [] X6 eh6 ?_
    show (((0 : Int32)).toInt ≤ 0) ∧ own_Aft X6 hp6 _ 54 [.val (.ref ia), .val (.ref da), .val (.int (0 : Int32)), .val (.int ix), .val (.double x), .second, .val (.int (0 : Int32))] [.int ix, .int (0 : Int32), .ref ia]
    refine ⟨by decide, fun T7 X7 eh7 => ?_⟩
    refine own_sI X7 hx hZ eh7 Ar4'_6 0 rfl (by show 0 < 4; decide) (hb hby d5_54) (fun T8 hp8 X8 eh8 Wr8 Ar8 => ?_)
    have Ar8' : own_A Z hp8 ia .int [.int ix, .int j0, .int (0 : Int32), .int (0 : Int32)] := Ar8
    have Ar6'_8 := Ar6'.other Wr8 (Ne.symm ne_)
    have Nf8 := Fr.snoc X8 Nf6 ni
    have Z_8 : n0 ≤ hp8.size := by rw [Wr.size Wr8]; exact Z_6
    have K_8 := Keep.wr K_6 Wr8 (Or.inl (List.mem_of_getElem? (i := 0) rfl))
    refine own_blk dec5 seq5 hby hx hZ hown hK hF 3 [] [] X8 eh8 ?_
    show own_Aft X8 hp8 _ 59 [.val (.ref ia), .val (.ref da), .val (.int (0 : Int32)), .val (.int ix), .val (.double x), .second, .val (.int (0 : Int32))] [.double x, .int (0 : Int32), .ref da]
    refine fun T9 X9 eh9 => ?_
    refine own_sD X9 hx hZ eh9 Ar6'_8 0 rfl (by show 0 < 4; decide) (hb hby d5_59) (fun T10 hp10 X10 eh10 Wr10 Ar10 => ?_)
    have Ar10' : own_A Z hp10 da .double [.double x, .double y0, .double 0, .double 0] := Ar10
    have Ar8'_10 := Ar8'.other Wr10 ne_
    have Nf10 := Fr.snoc X10 Nf8 nd
    have Z_10 : n0 ≤ hp10.size := by rw [Wr.size Wr10]; exact Z_8
    have K_10 := Keep.wr K_8 Wr10 (Or.inl (List.mem_of_getElem? (i := 1) rfl))
    exact own_retV X10 hx hlk eh10 hret (hb hby d5_60) (by decide) (by decide) (⟨rfl, Nf10, K_10, ⟨_, _, _, _, _, _, Ar8'_10, Ar10', Dx, D0, Or.inr (⟨ho, rfl, rfl⟩)⟩⟩)
  · skip
    show own_Go p.tables e below _ (T2.setTop (mkF m 25 (Array.mk [.val (.ref ia), .val (.ref da), .val (.int (1 : Int32)), .val (.int ix), .val (.double x), .second, .val (.int (0 : Int32))]) [.int (0 : Int32)]))
    refine own_blk dec5 seq5 hby hx hZ hown hK hF 5 [false] [] X2 eh2 ?_
    show (¬ (((0 : Int32)).toInt ≠ 0)) ∧ own_Aft X2 h0 _ 54 [.val (.ref ia), .val (.ref da), .val (.int (1 : Int32)), .val (.int ix), .val (.double x), .second, .val (.int (0 : Int32))] [.int ix, .int (1 : Int32), .ref ia]
    refine ⟨by decide, fun T11 X11 eh11 => ?_⟩
    refine own_sI X11 hx hZ eh11 A1 1 rfl (by show 1 < 4; decide) (hb hby d5_54) (fun T12 hp12 X12 eh12 Wr12 Ar12 => ?_)
    have Ar12' : own_A Z hp12 ia .int [.int j0, .int ix, .int (0 : Int32), .int (0 : Int32)] := Ar12
    have A2_12 := A2.other Wr12 (Ne.symm ne_)
    have Nf12 := Fr.snoc X12 N0 ni
    have Z_12 : n0 ≤ hp12.size := by rw [Wr.size Wr12]; exact Z0
    have K_12 := Keep.wr K0 Wr12 (Or.inl (List.mem_of_getElem? (i := 0) rfl))
    refine own_blk dec5 seq5 hby hx hZ hown hK hF 3 [] [] X12 eh12 ?_
    show own_Aft X12 hp12 _ 59 [.val (.ref ia), .val (.ref da), .val (.int (1 : Int32)), .val (.int ix), .val (.double x), .second, .val (.int (0 : Int32))] [.double x, .int (1 : Int32), .ref da]
    refine fun T13 X13 eh13 => ?_
    refine own_sD X13 hx hZ eh13 A2_12 1 rfl (by show 1 < 4; decide) (hb hby d5_59) (fun T14 hp14 X14 eh14 Wr14 Ar14 => ?_)
    have Ar14' : own_A Z hp14 da .double [.double y0, .double x, .double 0, .double 0] := Ar14
    have Ar12'_14 := Ar12'.other Wr14 ne_
    have Nf14 := Fr.snoc X14 Nf12 nd
    have Z_14 : n0 ≤ hp14.size := by rw [Wr.size Wr14]; exact Z_12
    have K_14 := Keep.wr K_12 Wr14 (Or.inl (List.mem_of_getElem? (i := 1) rfl))
    exact own_retV X14 hx hlk eh14 hret (hb hby d5_60) (by decide) (by decide) (⟨rfl, Nf14, K_14, ⟨_, _, _, _, _, _, Ar12'_14, Ar14', D0, Dx, Or.inl (⟨ho, rfl, rfl⟩)⟩⟩)
set_option maxRecDepth 65536 in
set_option maxHeartbeats 40000000 in
theorem rm5_4_2 (l : Launch) (Z : State) (a0 : Array Value) (hw : ∀ d ∈ tables_1, d.before a0 Z = true) (ws : List Jvm.Cond) (ia da : Addr) (ix : Int32) (x : UInt64) (b : Int) (j0 j1 : Int32) (y0 y1 : UInt64) (f0 f1 : Int) (h0 : Heap) (n0 : Nat) (Z0 : n0 ≤ h0.size) (ni : n0 ≤ ia) (nd : n0 ≤ da) (ne_ : ia ≠ da) (A1 : own_A Z h0 ia .int [.int j0, .int j1, .int (0 : Int32), .int (0 : Int32)]) (A2 : own_A Z h0 da .double [.double y0, .double y1, .double 0, .double 0]) (Dx : own_D 0 b x) (D0 : own_D 0 f0 y0) (D1 : own_D 0 f1 y1) :
    MetFree l (⟨"org/axisfold/search/ResultHeap", "siftUp", "([I[DIID)V"⟩ : MethodName) (head1 (Jvm.Cond.code (⟨"org/axisfold/search/ResultHeap", "siftUp", "([I[DIID)V"⟩ : MethodName) prog_44_method_4_code 7 none :: ws) ({ frames := 1, cells := 0, slots := 0, locals := 24 } : Room)) (fun as_ U => as_ = #[.ref ia, .ref da, .int (2 : Int32), .int ix, .double x] ∧ Z.Warmed39 U.vm ∧ U.heap = h0) (fun _ _ _ _ _ => True) (fun _ U o U' => own_Fin U ({ frames := 1, cells := 0, slots := 0, locals := 24 } : Room).cells ({ frames := 1, cells := 0, slots := 0, locals := 24 } : Room).slots (fun v h L => v = none ∧ Fr n0 L ∧ Keep h0 h [ia, da] ∧ ∃ (j0' j1' j2' : Int32) (z0 z1 z2 : UInt64) (c0 c1 c2 : Int), own_A Z h ia .int [.int j0', .int j1', .int j2', .int (0 : Int32)] ∧ own_A Z h da .double [.double z0, .double z1, .double z2, .double 0] ∧ own_D 0 c0 z0 ∧ own_D 0 c1 z1 ∧ own_D 0 c2 z2 ∧ ((b ≤ f0 ∧ c0 = f0 ∧ c1 = f1 ∧ c2 = b) ∨ (f0 ≤ b ∧ c0 = b ∧ c1 = f1 ∧ c2 = f0))) o U') := by
  refine own_body pf5 (ls0 := [.val (.ref ia), .val (.ref da), .val (.int (2 : Int32)), .val (.int ix), .val (.double x), .second, .unset]) (fun m => by first | (simp [entryFrame, mkF, argsToLocals, Value.category, maxLocals]; done) | rfl) ?_
  intro p e s m below meth c T0 hx hby hml hown hnm hlk hret hZ X0 e0
  have hK : own_ks "org/axisfold/search/ResultHeap" a0 Z kt5 := trivial
  have hF : own_fs "org/axisfold/search/ResultHeap" a0 Z ft5 := trivial
  have N0 := Fr.nil n0
  have K0 := Keep.refl h0 [ia, da]
  refine own_blk dec5 seq5 hby hx hZ hown hK hF 16 [false] [.double y0, .int j0] X0 e0 ?_
  show (¬ (((2 : Int32)).toInt ≤ 0)) ∧ (own_at Z h0 da .double (0 : Int32) (.double y0)) ∧ (own_at Z h0 ia .int (0 : Int32) (.int j0)) ∧ own_Aft X0 h0 _ 22 [.val (.ref ia), .val (.ref da), .val (.int (2 : Int32)), .val (.int ix), .val (.double x), .second, .val (.int (0 : Int32))] [.int ix, .double x, .int j0, .double y0]
  refine ⟨by decide, A2.at (0 : Int32) 0 rfl rfl, A1.at (0 : Int32) 0 rfl rfl, fun T1 X1 eh1 => ?_⟩
  refine own_callSP X1 hx hZ hown (hw _ (List.mem_of_getElem? (i := 45) rfl)) (hw _ (List.mem_of_getElem? (i := 46) rfl)) (hw _ (List.mem_of_getElem? (i := 47) rfl)) (hw _ (List.mem_of_getElem? (i := 48) rfl)) (by decide) eh1 [.double y0, .int j0, .double x, .int ix] pd8 rfl (fr := 0) (lo := 0) (rm8 l Z a0 hw [] y0 x j0 ix f0 b h0 n0 Z0 D0 Dx) (by rw [hml]; rfl) 0 rfl (Nat.le_of_eq rfl) (hb hby d5_22) (by decide) (by decide) (by decide) (by decide) (fun T2 rv2 X2 eh2 qc2 => ?_)
  obtain ⟨r, rfl, ho⟩ := qc2
  show own_Go p.tables e below _ (T2.setTop (mkF m 25 (Array.mk [.val (.ref ia), .val (.ref da), .val (.int (2 : Int32)), .val (.int ix), .val (.double x), .second, .val (.int (0 : Int32))]) [.int r]))
  rcases ho with ⟨rfl, ho⟩ | ⟨rfl, ho⟩
  · skip
    show own_Go p.tables e below _ (T2.setTop (mkF m 25 (Array.mk [.val (.ref ia), .val (.ref da), .val (.int (2 : Int32)), .val (.int ix), .val (.double x), .second, .val (.int (0 : Int32))]) [.int (1 : Int32)]))
    refine own_blk dec5 seq5 hby hx hZ hown hK hF 6 [true] [.int j0] X2 eh2 ?_
    show (((1 : Int32)).toInt ≠ 0) ∧ (own_at Z h0 ia .int (0 : Int32) (.int j0)) ∧ own_Aft X2 h0 _ 37 [.val (.ref ia), .val (.ref da), .val (.int (2 : Int32)), .val (.int ix), .val (.double x), .second, .val (.int (0 : Int32))] [.int j0, .int (2 : Int32), .ref ia]
    refine ⟨by decide, A1.at (0 : Int32) 0 rfl rfl, fun T3 X3 eh3 => ?_⟩
    refine own_sI X3 hx hZ eh3 A1 2 rfl (by show 2 < 4; decide) (hb hby d5_37) (fun T4 hp4 X4 eh4 Wr4 Ar4 => ?_)
    have Ar4' : own_A Z hp4 ia .int [.int j0, .int j1, .int j0, .int (0 : Int32)] := Ar4
    have A2_4 := A2.other Wr4 (Ne.symm ne_)
    have Nf4 := Fr.snoc X4 N0 ni
    have Z_4 : n0 ≤ hp4.size := by rw [Wr.size Wr4]; exact Z0
    have K_4 := Keep.wr K0 Wr4 (Or.inl (List.mem_of_getElem? (i := 0) rfl))
    refine own_blk dec5 seq5 hby hx hZ hown hK hF 5 [] [.double y0] X4 eh4 ?_
    show (own_at Z hp4 da .double (0 : Int32) (.double y0)) ∧ own_Aft X4 hp4 _ 44 [.val (.ref ia), .val (.ref da), .val (.int (2 : Int32)), .val (.int ix), .val (.double x), .second, .val (.int (0 : Int32))] [.double y0, .int (2 : Int32), .ref da]
    refine ⟨A2_4.at (0 : Int32) 0 rfl rfl, fun T5 X5 eh5 => ?_⟩
    refine own_sD X5 hx hZ eh5 A2_4 2 rfl (by show 2 < 4; decide) (hb hby d5_44) (fun T6 hp6 X6 eh6 Wr6 Ar6 => ?_)
    have Ar6' : own_A Z hp6 da .double [.double y0, .double y1, .double y0, .double 0] := Ar6
    have Ar4'_6 := Ar4'.other Wr6 ne_
    have Nf6 := Fr.snoc X6 Nf4 nd
    have Z_6 : n0 ≤ hp6.size := by rw [Wr.size Wr6]; exact Z_4
    have K_6 := Keep.wr K_4 Wr6 (Or.inl (List.mem_of_getElem? (i := 1) rfl))
    refine own_blk dec5 seq5 hby hx hZ hown hK hF 8 [true] [] X6 eh6 ?_
    show (((0 : Int32)).toInt ≤ 0) ∧ own_Aft X6 hp6 _ 54 [.val (.ref ia), .val (.ref da), .val (.int (0 : Int32)), .val (.int ix), .val (.double x), .second, .val (.int (0 : Int32))] [.int ix, .int (0 : Int32), .ref ia]
    refine ⟨by decide, fun T7 X7 eh7 => ?_⟩
    refine own_sI X7 hx hZ eh7 Ar4'_6 0 rfl (by show 0 < 4; decide) (hb hby d5_54) (fun T8 hp8 X8 eh8 Wr8 Ar8 => ?_)
    have Ar8' : own_A Z hp8 ia .int [.int ix, .int j1, .int j0, .int (0 : Int32)] := Ar8
    have Ar6'_8 := Ar6'.other Wr8 (Ne.symm ne_)
    have Nf8 := Fr.snoc X8 Nf6 ni
    have Z_8 : n0 ≤ hp8.size := by rw [Wr.size Wr8]; exact Z_6
    have K_8 := Keep.wr K_6 Wr8 (Or.inl (List.mem_of_getElem? (i := 0) rfl))
    refine own_blk dec5 seq5 hby hx hZ hown hK hF 3 [] [] X8 eh8 ?_
    show own_Aft X8 hp8 _ 59 [.val (.ref ia), .val (.ref da), .val (.int (0 : Int32)), .val (.int ix), .val (.double x), .second, .val (.int (0 : Int32))] [.double x, .int (0 : Int32), .ref da]
    refine fun T9 X9 eh9 => ?_
    refine own_sD X9 hx hZ eh9 Ar6'_8 0 rfl (by show 0 < 4; decide) (hb hby d5_59) (fun T10 hp10 X10 eh10 Wr10 Ar10 => ?_)
    have Ar10' : own_A Z hp10 da .double [.double x, .double y1, .double y0, .double 0] := Ar10
    have Ar8'_10 := Ar8'.other Wr10 ne_
    have Nf10 := Fr.snoc X10 Nf8 nd
    have Z_10 : n0 ≤ hp10.size := by rw [Wr.size Wr10]; exact Z_8
    have K_10 := Keep.wr K_8 Wr10 (Or.inl (List.mem_of_getElem? (i := 1) rfl))
    exact own_retV X10 hx hlk eh10 hret (hb hby d5_60) (by decide) (by decide) (⟨rfl, Nf10, K_10, ⟨_, _, _, _, _, _, _, _, _, Ar8'_10, Ar10', Dx, D1, D0, Or.inr (⟨ho, rfl, rfl, rfl⟩)⟩⟩)
  · skip
    show own_Go p.tables e below _ (T2.setTop (mkF m 25 (Array.mk [.val (.ref ia), .val (.ref da), .val (.int (2 : Int32)), .val (.int ix), .val (.double x), .second, .val (.int (0 : Int32))]) [.int (0 : Int32)]))
    refine own_blk dec5 seq5 hby hx hZ hown hK hF 5 [false] [] X2 eh2 ?_
    show (¬ (((0 : Int32)).toInt ≠ 0)) ∧ own_Aft X2 h0 _ 54 [.val (.ref ia), .val (.ref da), .val (.int (2 : Int32)), .val (.int ix), .val (.double x), .second, .val (.int (0 : Int32))] [.int ix, .int (2 : Int32), .ref ia]
    refine ⟨by decide, fun T11 X11 eh11 => ?_⟩
    refine own_sI X11 hx hZ eh11 A1 2 rfl (by show 2 < 4; decide) (hb hby d5_54) (fun T12 hp12 X12 eh12 Wr12 Ar12 => ?_)
    have Ar12' : own_A Z hp12 ia .int [.int j0, .int j1, .int ix, .int (0 : Int32)] := Ar12
    have A2_12 := A2.other Wr12 (Ne.symm ne_)
    have Nf12 := Fr.snoc X12 N0 ni
    have Z_12 : n0 ≤ hp12.size := by rw [Wr.size Wr12]; exact Z0
    have K_12 := Keep.wr K0 Wr12 (Or.inl (List.mem_of_getElem? (i := 0) rfl))
    refine own_blk dec5 seq5 hby hx hZ hown hK hF 3 [] [] X12 eh12 ?_
    show own_Aft X12 hp12 _ 59 [.val (.ref ia), .val (.ref da), .val (.int (2 : Int32)), .val (.int ix), .val (.double x), .second, .val (.int (0 : Int32))] [.double x, .int (2 : Int32), .ref da]
    refine fun T13 X13 eh13 => ?_
    refine own_sD X13 hx hZ eh13 A2_12 2 rfl (by show 2 < 4; decide) (hb hby d5_59) (fun T14 hp14 X14 eh14 Wr14 Ar14 => ?_)
    have Ar14' : own_A Z hp14 da .double [.double y0, .double y1, .double x, .double 0] := Ar14
    have Ar12'_14 := Ar12'.other Wr14 ne_
    have Nf14 := Fr.snoc X14 Nf12 nd
    have Z_14 : n0 ≤ hp14.size := by rw [Wr.size Wr14]; exact Z_12
    have K_14 := Keep.wr K_12 Wr14 (Or.inl (List.mem_of_getElem? (i := 1) rfl))
    exact own_retV X14 hx hlk eh14 hret (hb hby d5_60) (by decide) (by decide) (⟨rfl, Nf14, K_14, ⟨_, _, _, _, _, _, _, _, _, Ar12'_14, Ar14', D0, D1, Dx, Or.inl (⟨ho, rfl, rfl, rfl⟩)⟩⟩)
set_option maxRecDepth 65536 in
set_option maxHeartbeats 40000000 in
theorem rm5_4_3 (l : Launch) (Z : State) (a0 : Array Value) (hw : ∀ d ∈ tables_1, d.before a0 Z = true) (ws : List Jvm.Cond) (ia da : Addr) (ix : Int32) (x : UInt64) (b : Int) (j0 j1 j2 : Int32) (y0 y1 y2 : UInt64) (f0 f1 f2 : Int) (h0 : Heap) (n0 : Nat) (Z0 : n0 ≤ h0.size) (ni : n0 ≤ ia) (nd : n0 ≤ da) (ne_ : ia ≠ da) (A1 : own_A Z h0 ia .int [.int j0, .int j1, .int j2, .int (0 : Int32)]) (A2 : own_A Z h0 da .double [.double y0, .double y1, .double y2, .double 0]) (Dx : own_D 0 b x) (D0 : own_D 0 f0 y0) (D1 : own_D 0 f1 y1) (D2 : own_D 0 f2 y2) :
    MetFree l (⟨"org/axisfold/search/ResultHeap", "siftUp", "([I[DIID)V"⟩ : MethodName) (head1 (Jvm.Cond.code (⟨"org/axisfold/search/ResultHeap", "siftUp", "([I[DIID)V"⟩ : MethodName) prog_44_method_4_code 7 none :: ws) ({ frames := 1, cells := 0, slots := 0, locals := 24 } : Room)) (fun as_ U => as_ = #[.ref ia, .ref da, .int (3 : Int32), .int ix, .double x] ∧ Z.Warmed39 U.vm ∧ U.heap = h0) (fun _ _ _ _ _ => True) (fun _ U o U' => own_Fin U ({ frames := 1, cells := 0, slots := 0, locals := 24 } : Room).cells ({ frames := 1, cells := 0, slots := 0, locals := 24 } : Room).slots (fun v h L => v = none ∧ Fr n0 L ∧ Keep h0 h [ia, da] ∧ ∃ (j0' j1' j2' j3' : Int32) (z0 z1 z2 z3 : UInt64) (c0 c1 c2 c3 : Int), own_A Z h ia .int [.int j0', .int j1', .int j2', .int j3'] ∧ own_A Z h da .double [.double z0, .double z1, .double z2, .double z3] ∧ own_D 0 c0 z0 ∧ own_D 0 c1 z1 ∧ own_D 0 c2 z2 ∧ own_D 0 c3 z3 ∧ ((b ≤ f1 ∧ c0 = f0 ∧ c1 = f1 ∧ c2 = f2 ∧ c3 = b) ∨ (f1 ≤ b ∧ b ≤ f0 ∧ c0 = f0 ∧ c1 = b ∧ c2 = f2 ∧ c3 = f1) ∨ (f1 ≤ b ∧ f0 ≤ b ∧ c0 = b ∧ c1 = f0 ∧ c2 = f2 ∧ c3 = f1))) o U') := by
  refine own_body pf5 (ls0 := [.val (.ref ia), .val (.ref da), .val (.int (3 : Int32)), .val (.int ix), .val (.double x), .second, .unset]) (fun m => by first | (simp [entryFrame, mkF, argsToLocals, Value.category, maxLocals]; done) | rfl) ?_
  intro p e s m below meth c T0 hx hby hml hown hnm hlk hret hZ X0 e0
  have hK : own_ks "org/axisfold/search/ResultHeap" a0 Z kt5 := trivial
  have hF : own_fs "org/axisfold/search/ResultHeap" a0 Z ft5 := trivial
  have N0 := Fr.nil n0
  have K0 := Keep.refl h0 [ia, da]
  refine own_blk dec5 seq5 hby hx hZ hown hK hF 16 [false] [.double y1, .int j1] X0 e0 ?_
  show (¬ (((3 : Int32)).toInt ≤ 0)) ∧ (own_at Z h0 da .double (1 : Int32) (.double y1)) ∧ (own_at Z h0 ia .int (1 : Int32) (.int j1)) ∧ own_Aft X0 h0 _ 22 [.val (.ref ia), .val (.ref da), .val (.int (3 : Int32)), .val (.int ix), .val (.double x), .second, .val (.int (1 : Int32))] [.int ix, .double x, .int j1, .double y1]
  refine ⟨by decide, A2.at (1 : Int32) 1 rfl rfl, A1.at (1 : Int32) 1 rfl rfl, fun T1 X1 eh1 => ?_⟩
  refine own_callSP X1 hx hZ hown (hw _ (List.mem_of_getElem? (i := 45) rfl)) (hw _ (List.mem_of_getElem? (i := 46) rfl)) (hw _ (List.mem_of_getElem? (i := 47) rfl)) (hw _ (List.mem_of_getElem? (i := 48) rfl)) (by decide) eh1 [.double y1, .int j1, .double x, .int ix] pd8 rfl (fr := 0) (lo := 0) (rm8 l Z a0 hw [] y1 x j1 ix f1 b h0 n0 Z0 D1 Dx) (by rw [hml]; rfl) 0 rfl (Nat.le_of_eq rfl) (hb hby d5_22) (by decide) (by decide) (by decide) (by decide) (fun T2 rv2 X2 eh2 qc2 => ?_)
  obtain ⟨r, rfl, ho⟩ := qc2
  show own_Go p.tables e below _ (T2.setTop (mkF m 25 (Array.mk [.val (.ref ia), .val (.ref da), .val (.int (3 : Int32)), .val (.int ix), .val (.double x), .second, .val (.int (1 : Int32))]) [.int r]))
  rcases ho with ⟨rfl, ho⟩ | ⟨rfl, ho⟩
  · skip
    show own_Go p.tables e below _ (T2.setTop (mkF m 25 (Array.mk [.val (.ref ia), .val (.ref da), .val (.int (3 : Int32)), .val (.int ix), .val (.double x), .second, .val (.int (1 : Int32))]) [.int (1 : Int32)]))
    refine own_blk dec5 seq5 hby hx hZ hown hK hF 6 [true] [.int j1] X2 eh2 ?_
    show (((1 : Int32)).toInt ≠ 0) ∧ (own_at Z h0 ia .int (1 : Int32) (.int j1)) ∧ own_Aft X2 h0 _ 37 [.val (.ref ia), .val (.ref da), .val (.int (3 : Int32)), .val (.int ix), .val (.double x), .second, .val (.int (1 : Int32))] [.int j1, .int (3 : Int32), .ref ia]
    refine ⟨by decide, A1.at (1 : Int32) 1 rfl rfl, fun T3 X3 eh3 => ?_⟩
    refine own_sI X3 hx hZ eh3 A1 3 rfl (by show 3 < 4; decide) (hb hby d5_37) (fun T4 hp4 X4 eh4 Wr4 Ar4 => ?_)
    have Ar4' : own_A Z hp4 ia .int [.int j0, .int j1, .int j2, .int j1] := Ar4
    have A2_4 := A2.other Wr4 (Ne.symm ne_)
    have Nf4 := Fr.snoc X4 N0 ni
    have Z_4 : n0 ≤ hp4.size := by rw [Wr.size Wr4]; exact Z0
    have K_4 := Keep.wr K0 Wr4 (Or.inl (List.mem_of_getElem? (i := 0) rfl))
    refine own_blk dec5 seq5 hby hx hZ hown hK hF 5 [] [.double y1] X4 eh4 ?_
    show (own_at Z hp4 da .double (1 : Int32) (.double y1)) ∧ own_Aft X4 hp4 _ 44 [.val (.ref ia), .val (.ref da), .val (.int (3 : Int32)), .val (.int ix), .val (.double x), .second, .val (.int (1 : Int32))] [.double y1, .int (3 : Int32), .ref da]
    refine ⟨A2_4.at (1 : Int32) 1 rfl rfl, fun T5 X5 eh5 => ?_⟩
    refine own_sD X5 hx hZ eh5 A2_4 3 rfl (by show 3 < 4; decide) (hb hby d5_44) (fun T6 hp6 X6 eh6 Wr6 Ar6 => ?_)
    have Ar6' : own_A Z hp6 da .double [.double y0, .double y1, .double y2, .double y1] := Ar6
    have Ar4'_6 := Ar4'.other Wr6 ne_
    have Nf6 := Fr.snoc X6 Nf4 nd
    have Z_6 : n0 ≤ hp6.size := by rw [Wr.size Wr6]; exact Z_4
    have K_6 := Keep.wr K_4 Wr6 (Or.inl (List.mem_of_getElem? (i := 1) rfl))
    have ho1 := ho
    refine own_blk dec5 seq5 hby hx hZ hown hK hF 19 [false] [.double y0, .int j0] X6 eh6 ?_
    show (¬ (((1 : Int32)).toInt ≤ 0)) ∧ (own_at Z hp6 da .double (0 : Int32) (.double y0)) ∧ (own_at Z hp6 ia .int (0 : Int32) (.int j0)) ∧ own_Aft X6 hp6 _ 22 [.val (.ref ia), .val (.ref da), .val (.int (1 : Int32)), .val (.int ix), .val (.double x), .second, .val (.int (0 : Int32))] [.int ix, .double x, .int j0, .double y0]
    refine ⟨by decide, Ar6'.at (0 : Int32) 0 rfl rfl, Ar4'_6.at (0 : Int32) 0 rfl rfl, fun T7 X7 eh7 => ?_⟩
    refine own_callSP X7 hx hZ hown (hw _ (List.mem_of_getElem? (i := 45) rfl)) (hw _ (List.mem_of_getElem? (i := 46) rfl)) (hw _ (List.mem_of_getElem? (i := 47) rfl)) (hw _ (List.mem_of_getElem? (i := 48) rfl)) (by decide) eh7 [.double y0, .int j0, .double x, .int ix] pd8 rfl (fr := 0) (lo := 0) (rm8 l Z a0 hw [] y0 x j0 ix f0 b hp6 n0 Z_6 D0 Dx) (by rw [hml]; rfl) 0 rfl (Nat.le_of_eq rfl) (hb hby d5_22) (by decide) (by decide) (by decide) (by decide) (fun T8 rv8 X8 eh8 qc8 => ?_)
    obtain ⟨r, rfl, ho⟩ := qc8
    show own_Go p.tables e below _ (T8.setTop (mkF m 25 (Array.mk [.val (.ref ia), .val (.ref da), .val (.int (1 : Int32)), .val (.int ix), .val (.double x), .second, .val (.int (0 : Int32))]) [.int r]))
    rcases ho with ⟨rfl, ho⟩ | ⟨rfl, ho⟩
    · skip
      show own_Go p.tables e below _ (T8.setTop (mkF m 25 (Array.mk [.val (.ref ia), .val (.ref da), .val (.int (1 : Int32)), .val (.int ix), .val (.double x), .second, .val (.int (0 : Int32))]) [.int (1 : Int32)]))
      refine own_blk dec5 seq5 hby hx hZ hown hK hF 6 [true] [.int j0] X8 eh8 ?_
      show (((1 : Int32)).toInt ≠ 0) ∧ (own_at Z hp6 ia .int (0 : Int32) (.int j0)) ∧ own_Aft X8 hp6 _ 37 [.val (.ref ia), .val (.ref da), .val (.int (1 : Int32)), .val (.int ix), .val (.double x), .second, .val (.int (0 : Int32))] [.int j0, .int (1 : Int32), .ref ia]
      refine ⟨by decide, Ar4'_6.at (0 : Int32) 0 rfl rfl, fun T9 X9 eh9 => ?_⟩
      refine own_sI X9 hx hZ eh9 Ar4'_6 1 rfl (by show 1 < 4; decide) (hb hby d5_37) (fun T10 hp10 X10 eh10 Wr10 Ar10 => ?_)
      have Ar10' : own_A Z hp10 ia .int [.int j0, .int j0, .int j2, .int j1] := Ar10
      have Ar6'_10 := Ar6'.other Wr10 (Ne.symm ne_)
      have Nf10 := Fr.snoc X10 Nf6 ni
      have Z_10 : n0 ≤ hp10.size := by rw [Wr.size Wr10]; exact Z_6
      have K_10 := Keep.wr K_6 Wr10 (Or.inl (List.mem_of_getElem? (i := 0) rfl))
      refine own_blk dec5 seq5 hby hx hZ hown hK hF 5 [] [.double y0] X10 eh10 ?_
      show (own_at Z hp10 da .double (0 : Int32) (.double y0)) ∧ own_Aft X10 hp10 _ 44 [.val (.ref ia), .val (.ref da), .val (.int (1 : Int32)), .val (.int ix), .val (.double x), .second, .val (.int (0 : Int32))] [.double y0, .int (1 : Int32), .ref da]
      refine ⟨Ar6'_10.at (0 : Int32) 0 rfl rfl, fun T11 X11 eh11 => ?_⟩
      refine own_sD X11 hx hZ eh11 Ar6'_10 1 rfl (by show 1 < 4; decide) (hb hby d5_44) (fun T12 hp12 X12 eh12 Wr12 Ar12 => ?_)
      have Ar12' : own_A Z hp12 da .double [.double y0, .double y0, .double y2, .double y1] := Ar12
      have Ar10'_12 := Ar10'.other Wr12 ne_
      have Nf12 := Fr.snoc X12 Nf10 nd
      have Z_12 : n0 ≤ hp12.size := by rw [Wr.size Wr12]; exact Z_10
      have K_12 := Keep.wr K_10 Wr12 (Or.inl (List.mem_of_getElem? (i := 1) rfl))
      refine own_blk dec5 seq5 hby hx hZ hown hK hF 8 [true] [] X12 eh12 ?_
      show (((0 : Int32)).toInt ≤ 0) ∧ own_Aft X12 hp12 _ 54 [.val (.ref ia), .val (.ref da), .val (.int (0 : Int32)), .val (.int ix), .val (.double x), .second, .val (.int (0 : Int32))] [.int ix, .int (0 : Int32), .ref ia]
      refine ⟨by decide, fun T13 X13 eh13 => ?_⟩
      refine own_sI X13 hx hZ eh13 Ar10'_12 0 rfl (by show 0 < 4; decide) (hb hby d5_54) (fun T14 hp14 X14 eh14 Wr14 Ar14 => ?_)
      have Ar14' : own_A Z hp14 ia .int [.int ix, .int j0, .int j2, .int j1] := Ar14
      have Ar12'_14 := Ar12'.other Wr14 (Ne.symm ne_)
      have Nf14 := Fr.snoc X14 Nf12 ni
      have Z_14 : n0 ≤ hp14.size := by rw [Wr.size Wr14]; exact Z_12
      have K_14 := Keep.wr K_12 Wr14 (Or.inl (List.mem_of_getElem? (i := 0) rfl))
      refine own_blk dec5 seq5 hby hx hZ hown hK hF 3 [] [] X14 eh14 ?_
      show own_Aft X14 hp14 _ 59 [.val (.ref ia), .val (.ref da), .val (.int (0 : Int32)), .val (.int ix), .val (.double x), .second, .val (.int (0 : Int32))] [.double x, .int (0 : Int32), .ref da]
      refine fun T15 X15 eh15 => ?_
      refine own_sD X15 hx hZ eh15 Ar12'_14 0 rfl (by show 0 < 4; decide) (hb hby d5_59) (fun T16 hp16 X16 eh16 Wr16 Ar16 => ?_)
      have Ar16' : own_A Z hp16 da .double [.double x, .double y0, .double y2, .double y1] := Ar16
      have Ar14'_16 := Ar14'.other Wr16 ne_
      have Nf16 := Fr.snoc X16 Nf14 nd
      have Z_16 : n0 ≤ hp16.size := by rw [Wr.size Wr16]; exact Z_14
      have K_16 := Keep.wr K_14 Wr16 (Or.inl (List.mem_of_getElem? (i := 1) rfl))
      exact own_retV X16 hx hlk eh16 hret (hb hby d5_60) (by decide) (by decide) (⟨rfl, Nf16, K_16, ⟨_, _, _, _, _, _, _, _, _, _, _, _, Ar14'_16, Ar16', Dx, D0, D2, D1, Or.inr (Or.inr (⟨ho1, ho, rfl, rfl, rfl, rfl⟩))⟩⟩)
    · skip
      show own_Go p.tables e below _ (T8.setTop (mkF m 25 (Array.mk [.val (.ref ia), .val (.ref da), .val (.int (1 : Int32)), .val (.int ix), .val (.double x), .second, .val (.int (0 : Int32))]) [.int (0 : Int32)]))
      refine own_blk dec5 seq5 hby hx hZ hown hK hF 5 [false] [] X8 eh8 ?_
      show (¬ (((0 : Int32)).toInt ≠ 0)) ∧ own_Aft X8 hp6 _ 54 [.val (.ref ia), .val (.ref da), .val (.int (1 : Int32)), .val (.int ix), .val (.double x), .second, .val (.int (0 : Int32))] [.int ix, .int (1 : Int32), .ref ia]
      refine ⟨by decide, fun T17 X17 eh17 => ?_⟩
      refine own_sI X17 hx hZ eh17 Ar4'_6 1 rfl (by show 1 < 4; decide) (hb hby d5_54) (fun T18 hp18 X18 eh18 Wr18 Ar18 => ?_)
      have Ar18' : own_A Z hp18 ia .int [.int j0, .int ix, .int j2, .int j1] := Ar18
      have Ar6'_18 := Ar6'.other Wr18 (Ne.symm ne_)
      have Nf18 := Fr.snoc X18 Nf6 ni
      have Z_18 : n0 ≤ hp18.size := by rw [Wr.size Wr18]; exact Z_6
      have K_18 := Keep.wr K_6 Wr18 (Or.inl (List.mem_of_getElem? (i := 0) rfl))
      refine own_blk dec5 seq5 hby hx hZ hown hK hF 3 [] [] X18 eh18 ?_
      show own_Aft X18 hp18 _ 59 [.val (.ref ia), .val (.ref da), .val (.int (1 : Int32)), .val (.int ix), .val (.double x), .second, .val (.int (0 : Int32))] [.double x, .int (1 : Int32), .ref da]
      refine fun T19 X19 eh19 => ?_
      refine own_sD X19 hx hZ eh19 Ar6'_18 1 rfl (by show 1 < 4; decide) (hb hby d5_59) (fun T20 hp20 X20 eh20 Wr20 Ar20 => ?_)
      have Ar20' : own_A Z hp20 da .double [.double y0, .double x, .double y2, .double y1] := Ar20
      have Ar18'_20 := Ar18'.other Wr20 ne_
      have Nf20 := Fr.snoc X20 Nf18 nd
      have Z_20 : n0 ≤ hp20.size := by rw [Wr.size Wr20]; exact Z_18
      have K_20 := Keep.wr K_18 Wr20 (Or.inl (List.mem_of_getElem? (i := 1) rfl))
      exact own_retV X20 hx hlk eh20 hret (hb hby d5_60) (by decide) (by decide) (⟨rfl, Nf20, K_20, ⟨_, _, _, _, _, _, _, _, _, _, _, _, Ar18'_20, Ar20', D0, Dx, D2, D1, Or.inr (Or.inl (⟨ho1, ho, rfl, rfl, rfl, rfl⟩))⟩⟩)
  · skip
    show own_Go p.tables e below _ (T2.setTop (mkF m 25 (Array.mk [.val (.ref ia), .val (.ref da), .val (.int (3 : Int32)), .val (.int ix), .val (.double x), .second, .val (.int (1 : Int32))]) [.int (0 : Int32)]))
    refine own_blk dec5 seq5 hby hx hZ hown hK hF 5 [false] [] X2 eh2 ?_
    show (¬ (((0 : Int32)).toInt ≠ 0)) ∧ own_Aft X2 h0 _ 54 [.val (.ref ia), .val (.ref da), .val (.int (3 : Int32)), .val (.int ix), .val (.double x), .second, .val (.int (1 : Int32))] [.int ix, .int (3 : Int32), .ref ia]
    refine ⟨by decide, fun T21 X21 eh21 => ?_⟩
    refine own_sI X21 hx hZ eh21 A1 3 rfl (by show 3 < 4; decide) (hb hby d5_54) (fun T22 hp22 X22 eh22 Wr22 Ar22 => ?_)
    have Ar22' : own_A Z hp22 ia .int [.int j0, .int j1, .int j2, .int ix] := Ar22
    have A2_22 := A2.other Wr22 (Ne.symm ne_)
    have Nf22 := Fr.snoc X22 N0 ni
    have Z_22 : n0 ≤ hp22.size := by rw [Wr.size Wr22]; exact Z0
    have K_22 := Keep.wr K0 Wr22 (Or.inl (List.mem_of_getElem? (i := 0) rfl))
    refine own_blk dec5 seq5 hby hx hZ hown hK hF 3 [] [] X22 eh22 ?_
    show own_Aft X22 hp22 _ 59 [.val (.ref ia), .val (.ref da), .val (.int (3 : Int32)), .val (.int ix), .val (.double x), .second, .val (.int (1 : Int32))] [.double x, .int (3 : Int32), .ref da]
    refine fun T23 X23 eh23 => ?_
    refine own_sD X23 hx hZ eh23 A2_22 3 rfl (by show 3 < 4; decide) (hb hby d5_59) (fun T24 hp24 X24 eh24 Wr24 Ar24 => ?_)
    have Ar24' : own_A Z hp24 da .double [.double y0, .double y1, .double y2, .double x] := Ar24
    have Ar22'_24 := Ar22'.other Wr24 ne_
    have Nf24 := Fr.snoc X24 Nf22 nd
    have Z_24 : n0 ≤ hp24.size := by rw [Wr.size Wr24]; exact Z_22
    have K_24 := Keep.wr K_22 Wr24 (Or.inl (List.mem_of_getElem? (i := 1) rfl))
    exact own_retV X24 hx hlk eh24 hret (hb hby d5_60) (by decide) (by decide) (⟨rfl, Nf24, K_24, ⟨_, _, _, _, _, _, _, _, _, _, _, _, Ar22'_24, Ar24', D0, D1, D2, Dx, Or.inl (⟨ho, rfl, rfl, rfl, rfl⟩)⟩⟩)
set_option maxRecDepth 65536 in
set_option maxHeartbeats 40000000 in
theorem rm10_1 (l : Launch) (Z : State) (a0 : Array Value) (hw : ∀ d ∈ tables_1, d.before a0 Z = true) (ws : List Jvm.Cond) (ia da : Addr) (ix : Int32) (x : UInt64) (b : Int) (j0 : Int32) (y0 : UInt64) (f0 : Int) (h0 : Heap) (n0 : Nat) (Z0 : n0 ≤ h0.size) (ni : n0 ≤ ia) (nd : n0 ≤ da) (ne_ : ia ≠ da) (A1 : own_A Z h0 ia .int [.int j0]) (A2 : own_A Z h0 da .double [.double y0]) (Dx : own_D 0 b x) (D0 : own_D 0 f0 y0) (hb0 : b ≤ f0) :
    MetFree l (⟨"org/axisfold/search/ResultHeap", "siftDown", "([I[DIIID)V"⟩ : MethodName) (head1 (Jvm.Cond.code (⟨"org/axisfold/search/ResultHeap", "siftDown", "([I[DIIID)V"⟩ : MethodName) prog_44_method_5_code 9 none :: ws) ({ frames := 1, cells := 0, slots := 0, locals := 24 } : Room)) (fun as_ U => as_ = #[.ref ia, .ref da, .int (0 : Int32), .int (1 : Int32), .int ix, .double x] ∧ Z.Warmed39 U.vm ∧ U.heap = h0) (fun _ _ _ _ _ => True) (fun _ U o U' => own_Fin U ({ frames := 1, cells := 0, slots := 0, locals := 24 } : Room).cells ({ frames := 1, cells := 0, slots := 0, locals := 24 } : Room).slots (fun v h L => v = none ∧ Fr n0 L ∧ Keep h0 h [ia, da] ∧ ∃ (j0' : Int32) (z0 : UInt64) (c0 : Int), own_A Z h ia .int [.int j0'] ∧ own_A Z h da .double [.double z0] ∧ own_D 0 c0 z0 ∧ ((f0 ≤ b ∧ c0 = f0) ∨ (b ≤ f0 ∧ c0 = b))) o U') := by
  refine own_body pf10 (ls0 := [.val (.ref ia), .val (.ref da), .val (.int (0 : Int32)), .val (.int (1 : Int32)), .val (.int ix), .val (.double x), .second, .unset, .unset]) (fun m => by first | (simp [entryFrame, mkF, argsToLocals, Value.category, maxLocals]; done) | rfl) ?_
  intro p e s m below meth c T0 hx hby hml hown hnm hlk hret hZ X0 e0
  have hK : own_ks "org/axisfold/search/ResultHeap" a0 Z kt10 := trivial
  have hF : own_fs "org/axisfold/search/ResultHeap" a0 Z ft10 := trivial
  have N0 := Fr.nil n0
  have K0 := Keep.refl h0 [ia, da]
  refine own_blk dec10 seq10 hby hx hZ hown hK hF 12 [true] [] X0 e0 ?_
  show (((1 : Int32)).toInt ≤ ((1 : Int32)).toInt) ∧ own_Aft X0 h0 _ 103 [.val (.ref ia), .val (.ref da), .val (.int (0 : Int32)), .val (.int (1 : Int32)), .val (.int ix), .val (.double x), .second, .val (.int (1 : Int32)), .unset] [.int ix, .int (0 : Int32), .ref ia]
  refine ⟨by decide, fun T1 X1 eh1 => ?_⟩
  refine own_sI X1 hx hZ eh1 A1 0 rfl (by show 0 < 1; decide) (hb hby d10_103) (fun T2 hp2 X2 eh2 Wr2 Ar2 => ?_)
  have Ar2' : own_A Z hp2 ia .int [.int ix] := Ar2
  have A2_2 := A2.other Wr2 (Ne.symm ne_)
  have Nf2 := Fr.snoc X2 N0 ni
  have Z_2 : n0 ≤ hp2.size := by rw [Wr.size Wr2]; exact Z0
  have K_2 := Keep.wr K0 Wr2 (Or.inl (List.mem_of_getElem? (i := 0) rfl))
  refine own_blk dec10 seq10 hby hx hZ hown hK hF 3 [] [] X2 eh2 ?_
  show own_Aft X2 hp2 _ 108 [.val (.ref ia), .val (.ref da), .val (.int (0 : Int32)), .val (.int (1 : Int32)), .val (.int ix), .val (.double x), .second, .val (.int (1 : Int32)), .unset] [.double x, .int (0 : Int32), .ref da]
  refine fun T3 X3 eh3 => ?_
  refine own_sD X3 hx hZ eh3 A2_2 0 rfl (by show 0 < 1; decide) (hb hby d10_108) (fun T4 hp4 X4 eh4 Wr4 Ar4 => ?_)
  have Ar4' : own_A Z hp4 da .double [.double x] := Ar4
  have Ar2'_4 := Ar2'.other Wr4 ne_
  have Nf4 := Fr.snoc X4 Nf2 nd
  have Z_4 : n0 ≤ hp4.size := by rw [Wr.size Wr4]; exact Z_2
  have K_4 := Keep.wr K_2 Wr4 (Or.inl (List.mem_of_getElem? (i := 1) rfl))
  exact own_retV X4 hx hlk eh4 hret (hb hby d10_109) (by decide) (by decide) (⟨rfl, Nf4, K_4, ⟨_, _, _, Ar2'_4, Ar4', Dx, Or.inr (⟨hb0, rfl⟩)⟩⟩)
set_option maxRecDepth 65536 in
set_option maxHeartbeats 40000000 in
theorem rm10_2 (l : Launch) (Z : State) (a0 : Array Value) (hw : ∀ d ∈ tables_1, d.before a0 Z = true) (ws : List Jvm.Cond) (ia da : Addr) (ix : Int32) (x : UInt64) (b : Int) (j0 j1 : Int32) (y0 y1 : UInt64) (f0 f1 : Int) (h0 : Heap) (n0 : Nat) (Z0 : n0 ≤ h0.size) (ni : n0 ≤ ia) (nd : n0 ≤ da) (ne_ : ia ≠ da) (A1 : own_A Z h0 ia .int [.int j0, .int j1]) (A2 : own_A Z h0 da .double [.double y0, .double y1]) (Dx : own_D 0 b x) (D0 : own_D 0 f0 y0) (D1 : own_D 0 f1 y1) (hb0 : b ≤ f0) :
    MetFree l (⟨"org/axisfold/search/ResultHeap", "siftDown", "([I[DIIID)V"⟩ : MethodName) (head1 (Jvm.Cond.code (⟨"org/axisfold/search/ResultHeap", "siftDown", "([I[DIIID)V"⟩ : MethodName) prog_44_method_5_code 9 none :: ws) ({ frames := 1, cells := 0, slots := 0, locals := 24 } : Room)) (fun as_ U => as_ = #[.ref ia, .ref da, .int (0 : Int32), .int (2 : Int32), .int ix, .double x] ∧ Z.Warmed39 U.vm ∧ U.heap = h0) (fun _ _ _ _ _ => True) (fun _ U o U' => own_Fin U ({ frames := 1, cells := 0, slots := 0, locals := 24 } : Room).cells ({ frames := 1, cells := 0, slots := 0, locals := 24 } : Room).slots (fun v h L => v = none ∧ Fr n0 L ∧ Keep h0 h [ia, da] ∧ ∃ (j0' j1' : Int32) (z0 z1 : UInt64) (c0 c1 : Int), own_A Z h ia .int [.int j0', .int j1'] ∧ own_A Z h da .double [.double z0, .double z1] ∧ own_D 0 c0 z0 ∧ own_D 0 c1 z1 ∧ ((f0 ≤ b ∧ c0 = f0 ∧ c1 = f1) ∨ (b ≤ f0 ∧ b ≤ f1 ∧ c0 = f1 ∧ c1 = b) ∨ (b ≤ f0 ∧ f1 ≤ b ∧ c0 = b ∧ c1 = f1))) o U') := by
  refine own_body pf10 (ls0 := [.val (.ref ia), .val (.ref da), .val (.int (0 : Int32)), .val (.int (2 : Int32)), .val (.int ix), .val (.double x), .second, .unset, .unset]) (fun m => by first | (simp [entryFrame, mkF, argsToLocals, Value.category, maxLocals]; done) | rfl) ?_
  intro p e s m below meth c T0 hx hby hml hown hnm hlk hret hZ X0 e0
  have hK : own_ks "org/axisfold/search/ResultHeap" a0 Z kt10 := trivial
  have hF : own_fs "org/axisfold/search/ResultHeap" a0 Z ft10 := trivial
  have N0 := Fr.nil n0
  have K0 := Keep.refl h0 [ia, da]
  refine own_blk dec10 seq10 hby hx hZ hown hK hF 24 [false, true] [.double y1, .int j1] X0 e0 ?_
  show (¬ (((2 : Int32)).toInt ≤ ((1 : Int32)).toInt)) ∧ (((2 : Int32)).toInt ≤ ((2 : Int32)).toInt) ∧ (own_at Z h0 da .double (1 : Int32) (.double y1)) ∧ (own_at Z h0 ia .int (1 : Int32) (.int j1)) ∧ own_Aft X0 h0 _ 63 [.val (.ref ia), .val (.ref da), .val (.int (0 : Int32)), .val (.int (2 : Int32)), .val (.int ix), .val (.double x), .second, .val (.int (1 : Int32)), .val (.int (2 : Int32))] [.int j1, .double y1, .int ix, .double x]
  refine ⟨by decide, by decide, A2.at (1 : Int32) 1 rfl rfl, A1.at (1 : Int32) 1 rfl rfl, fun T1 X1 eh1 => ?_⟩
  refine own_callSP X1 hx hZ hown (hw _ (List.mem_of_getElem? (i := 45) rfl)) (hw _ (List.mem_of_getElem? (i := 46) rfl)) (hw _ (List.mem_of_getElem? (i := 47) rfl)) (hw _ (List.mem_of_getElem? (i := 48) rfl)) (by decide) eh1 [.double x, .int ix, .double y1, .int j1] pd8 rfl (fr := 0) (lo := 0) (rm8 l Z a0 hw [] x y1 ix j1 b f1 h0 n0 Z0 Dx D1) (by rw [hml]; rfl) 0 rfl (Nat.le_of_eq rfl) (hb hby d10_63) (by decide) (by decide) (by decide) (by decide) (fun T2 rv2 X2 eh2 qc2 => ?_)
  obtain ⟨r, rfl, ho⟩ := qc2
  show own_Go p.tables e below _ (T2.setTop (mkF m 66 (Array.mk [.val (.ref ia), .val (.ref da), .val (.int (0 : Int32)), .val (.int (2 : Int32)), .val (.int ix), .val (.double x), .second, .val (.int (1 : Int32)), .val (.int (2 : Int32))]) [.int r]))
  rcases ho with ⟨rfl, ho⟩ | ⟨rfl, ho⟩
  · skip
    show own_Go p.tables e below _ (T2.setTop (mkF m 66 (Array.mk [.val (.ref ia), .val (.ref da), .val (.int (0 : Int32)), .val (.int (2 : Int32)), .val (.int ix), .val (.double x), .second, .val (.int (1 : Int32)), .val (.int (2 : Int32))]) [.int (1 : Int32)]))
    refine own_blk dec10 seq10 hby hx hZ hown hK hF 6 [true] [.int j1] X2 eh2 ?_
    show (((1 : Int32)).toInt ≠ 0) ∧ (own_at Z h0 ia .int (1 : Int32) (.int j1)) ∧ own_Aft X2 h0 _ 78 [.val (.ref ia), .val (.ref da), .val (.int (0 : Int32)), .val (.int (2 : Int32)), .val (.int ix), .val (.double x), .second, .val (.int (1 : Int32)), .val (.int (2 : Int32))] [.int j1, .int (0 : Int32), .ref ia]
    refine ⟨by decide, A1.at (1 : Int32) 1 rfl rfl, fun T3 X3 eh3 => ?_⟩
    refine own_sI X3 hx hZ eh3 A1 0 rfl (by show 0 < 2; decide) (hb hby d10_78) (fun T4 hp4 X4 eh4 Wr4 Ar4 => ?_)
    have Ar4' : own_A Z hp4 ia .int [.int j1, .int j1] := Ar4
    have A2_4 := A2.other Wr4 (Ne.symm ne_)
    have Nf4 := Fr.snoc X4 N0 ni
    have Z_4 : n0 ≤ hp4.size := by rw [Wr.size Wr4]; exact Z0
    have K_4 := Keep.wr K0 Wr4 (Or.inl (List.mem_of_getElem? (i := 0) rfl))
    refine own_blk dec10 seq10 hby hx hZ hown hK hF 5 [] [.double y1] X4 eh4 ?_
    show (own_at Z hp4 da .double (1 : Int32) (.double y1)) ∧ own_Aft X4 hp4 _ 85 [.val (.ref ia), .val (.ref da), .val (.int (0 : Int32)), .val (.int (2 : Int32)), .val (.int ix), .val (.double x), .second, .val (.int (1 : Int32)), .val (.int (2 : Int32))] [.double y1, .int (0 : Int32), .ref da]
    refine ⟨A2_4.at (1 : Int32) 1 rfl rfl, fun T5 X5 eh5 => ?_⟩
    refine own_sD X5 hx hZ eh5 A2_4 0 rfl (by show 0 < 2; decide) (hb hby d10_85) (fun T6 hp6 X6 eh6 Wr6 Ar6 => ?_)
    have Ar6' : own_A Z hp6 da .double [.double y1, .double y1] := Ar6
    have Ar4'_6 := Ar4'.other Wr6 ne_
    have Nf6 := Fr.snoc X6 Nf4 nd
    have Z_6 : n0 ≤ hp6.size := by rw [Wr.size Wr6]; exact Z_4
    have K_6 := Keep.wr K_4 Wr6 (Or.inl (List.mem_of_getElem? (i := 1) rfl))
    refine own_blk dec10 seq10 hby hx hZ hown hK hF 15 [true] [] X6 eh6 ?_
    show (((2 : Int32)).toInt ≤ ((3 : Int32)).toInt) ∧ own_Aft X6 hp6 _ 103 [.val (.ref ia), .val (.ref da), .val (.int (1 : Int32)), .val (.int (2 : Int32)), .val (.int ix), .val (.double x), .second, .val (.int (3 : Int32)), .val (.int (2 : Int32))] [.int ix, .int (1 : Int32), .ref ia]
    refine ⟨by decide, fun T7 X7 eh7 => ?_⟩
    refine own_sI X7 hx hZ eh7 Ar4'_6 1 rfl (by show 1 < 2; decide) (hb hby d10_103) (fun T8 hp8 X8 eh8 Wr8 Ar8 => ?_)
    have Ar8' : own_A Z hp8 ia .int [.int j1, .int ix] := Ar8
    have Ar6'_8 := Ar6'.other Wr8 (Ne.symm ne_)
    have Nf8 := Fr.snoc X8 Nf6 ni
    have Z_8 : n0 ≤ hp8.size := by rw [Wr.size Wr8]; exact Z_6
    have K_8 := Keep.wr K_6 Wr8 (Or.inl (List.mem_of_getElem? (i := 0) rfl))
    refine own_blk dec10 seq10 hby hx hZ hown hK hF 3 [] [] X8 eh8 ?_
    show own_Aft X8 hp8 _ 108 [.val (.ref ia), .val (.ref da), .val (.int (1 : Int32)), .val (.int (2 : Int32)), .val (.int ix), .val (.double x), .second, .val (.int (3 : Int32)), .val (.int (2 : Int32))] [.double x, .int (1 : Int32), .ref da]
    refine fun T9 X9 eh9 => ?_
    refine own_sD X9 hx hZ eh9 Ar6'_8 1 rfl (by show 1 < 2; decide) (hb hby d10_108) (fun T10 hp10 X10 eh10 Wr10 Ar10 => ?_)
    have Ar10' : own_A Z hp10 da .double [.double y1, .double x] := Ar10
    have Ar8'_10 := Ar8'.other Wr10 ne_
    have Nf10 := Fr.snoc X10 Nf8 nd
    have Z_10 : n0 ≤ hp10.size := by rw [Wr.size Wr10]; exact Z_8
    have K_10 := Keep.wr K_8 Wr10 (Or.inl (List.mem_of_getElem? (i := 1) rfl))
    exact own_retV X10 hx hlk eh10 hret (hb hby d10_109) (by decide) (by decide) (⟨rfl, Nf10, K_10, ⟨_, _, _, _, _, _, Ar8'_10, Ar10', D1, Dx, Or.inr (Or.inl (⟨hb0, ho, rfl, rfl⟩))⟩⟩)
  · skip
    show own_Go p.tables e below _ (T2.setTop (mkF m 66 (Array.mk [.val (.ref ia), .val (.ref da), .val (.int (0 : Int32)), .val (.int (2 : Int32)), .val (.int ix), .val (.double x), .second, .val (.int (1 : Int32)), .val (.int (2 : Int32))]) [.int (0 : Int32)]))
    refine own_blk dec10 seq10 hby hx hZ hown hK hF 5 [false] [] X2 eh2 ?_
    show (¬ (((0 : Int32)).toInt ≠ 0)) ∧ own_Aft X2 h0 _ 103 [.val (.ref ia), .val (.ref da), .val (.int (0 : Int32)), .val (.int (2 : Int32)), .val (.int ix), .val (.double x), .second, .val (.int (1 : Int32)), .val (.int (2 : Int32))] [.int ix, .int (0 : Int32), .ref ia]
    refine ⟨by decide, fun T11 X11 eh11 => ?_⟩
    refine own_sI X11 hx hZ eh11 A1 0 rfl (by show 0 < 2; decide) (hb hby d10_103) (fun T12 hp12 X12 eh12 Wr12 Ar12 => ?_)
    have Ar12' : own_A Z hp12 ia .int [.int ix, .int j1] := Ar12
    have A2_12 := A2.other Wr12 (Ne.symm ne_)
    have Nf12 := Fr.snoc X12 N0 ni
    have Z_12 : n0 ≤ hp12.size := by rw [Wr.size Wr12]; exact Z0
    have K_12 := Keep.wr K0 Wr12 (Or.inl (List.mem_of_getElem? (i := 0) rfl))
    refine own_blk dec10 seq10 hby hx hZ hown hK hF 3 [] [] X12 eh12 ?_
    show own_Aft X12 hp12 _ 108 [.val (.ref ia), .val (.ref da), .val (.int (0 : Int32)), .val (.int (2 : Int32)), .val (.int ix), .val (.double x), .second, .val (.int (1 : Int32)), .val (.int (2 : Int32))] [.double x, .int (0 : Int32), .ref da]
    refine fun T13 X13 eh13 => ?_
    refine own_sD X13 hx hZ eh13 A2_12 0 rfl (by show 0 < 2; decide) (hb hby d10_108) (fun T14 hp14 X14 eh14 Wr14 Ar14 => ?_)
    have Ar14' : own_A Z hp14 da .double [.double x, .double y1] := Ar14
    have Ar12'_14 := Ar12'.other Wr14 ne_
    have Nf14 := Fr.snoc X14 Nf12 nd
    have Z_14 : n0 ≤ hp14.size := by rw [Wr.size Wr14]; exact Z_12
    have K_14 := Keep.wr K_12 Wr14 (Or.inl (List.mem_of_getElem? (i := 1) rfl))
    exact own_retV X14 hx hlk eh14 hret (hb hby d10_109) (by decide) (by decide) (⟨rfl, Nf14, K_14, ⟨_, _, _, _, _, _, Ar12'_14, Ar14', Dx, D1, Or.inr (Or.inr (⟨hb0, ho, rfl, rfl⟩))⟩⟩)
set_option maxRecDepth 65536 in
set_option maxHeartbeats 40000000 in
theorem rm10_3 (l : Launch) (Z : State) (a0 : Array Value) (hw : ∀ d ∈ tables_1, d.before a0 Z = true) (ws : List Jvm.Cond) (ia da : Addr) (ix : Int32) (x : UInt64) (b : Int) (j0 j1 j2 : Int32) (y0 y1 y2 : UInt64) (f0 f1 f2 : Int) (h0 : Heap) (n0 : Nat) (Z0 : n0 ≤ h0.size) (ni : n0 ≤ ia) (nd : n0 ≤ da) (ne_ : ia ≠ da) (A1 : own_A Z h0 ia .int [.int j0, .int j1, .int j2]) (A2 : own_A Z h0 da .double [.double y0, .double y1, .double y2]) (Dx : own_D 0 b x) (D0 : own_D 0 f0 y0) (D1 : own_D 0 f1 y1) (D2 : own_D 0 f2 y2) (hb0 : b ≤ f0) :
    MetFree l (⟨"org/axisfold/search/ResultHeap", "siftDown", "([I[DIIID)V"⟩ : MethodName) (head1 (Jvm.Cond.code (⟨"org/axisfold/search/ResultHeap", "siftDown", "([I[DIIID)V"⟩ : MethodName) prog_44_method_5_code 9 none :: ws) ({ frames := 1, cells := 0, slots := 0, locals := 24 } : Room)) (fun as_ U => as_ = #[.ref ia, .ref da, .int (0 : Int32), .int (3 : Int32), .int ix, .double x] ∧ Z.Warmed39 U.vm ∧ U.heap = h0) (fun _ _ _ _ _ => True) (fun _ U o U' => own_Fin U ({ frames := 1, cells := 0, slots := 0, locals := 24 } : Room).cells ({ frames := 1, cells := 0, slots := 0, locals := 24 } : Room).slots (fun v h L => v = none ∧ Fr n0 L ∧ Keep h0 h [ia, da] ∧ ∃ (j0' j1' j2' : Int32) (z0 z1 z2 : UInt64) (c0 c1 c2 : Int), own_A Z h ia .int [.int j0', .int j1', .int j2'] ∧ own_A Z h da .double [.double z0, .double z1, .double z2] ∧ own_D 0 c0 z0 ∧ own_D 0 c1 z1 ∧ own_D 0 c2 z2 ∧ ((f0 ≤ b ∧ c0 = f0 ∧ c1 = f1 ∧ c2 = f2) ∨ (b ≤ f0 ∧ f1 ≤ f2 ∧ b ≤ f2 ∧ c0 = f2 ∧ c1 = f1 ∧ c2 = b) ∨ (b ≤ f0 ∧ f1 ≤ f2 ∧ f2 ≤ b ∧ c0 = b ∧ c1 = f1 ∧ c2 = f2) ∨ (b ≤ f0 ∧ f2 ≤ f1 ∧ b ≤ f1 ∧ c0 = f1 ∧ c1 = b ∧ c2 = f2) ∨ (b ≤ f0 ∧ f2 ≤ f1 ∧ f1 ≤ b ∧ c0 = b ∧ c1 = f1 ∧ c2 = f2))) o U') := by
  refine own_body pf10 (ls0 := [.val (.ref ia), .val (.ref da), .val (.int (0 : Int32)), .val (.int (3 : Int32)), .val (.int ix), .val (.double x), .second, .unset, .unset]) (fun m => by first | (simp [entryFrame, mkF, argsToLocals, Value.category, maxLocals]; done) | rfl) ?_
  intro p e s m below meth c T0 hx hby hml hown hnm hlk hret hZ X0 e0
  have hK : own_ks "org/axisfold/search/ResultHeap" a0 Z kt10 := trivial
  have hF : own_fs "org/axisfold/search/ResultHeap" a0 Z ft10 := trivial
  have N0 := Fr.nil n0
  have K0 := Keep.refl h0 [ia, da]
  refine own_blk dec10 seq10 hby hx hZ hown hK hF 24 [false, false] [.double y1, .int j1] X0 e0 ?_
  show (¬ (((3 : Int32)).toInt ≤ ((1 : Int32)).toInt)) ∧ (¬ (((3 : Int32)).toInt ≤ ((2 : Int32)).toInt)) ∧ (own_at Z h0 da .double (1 : Int32) (.double y1)) ∧ (own_at Z h0 ia .int (1 : Int32) (.int j1)) ∧ own_Aft X0 h0 _ 36 [.val (.ref ia), .val (.ref da), .val (.int (0 : Int32)), .val (.int (3 : Int32)), .val (.int ix), .val (.double x), .second, .val (.int (1 : Int32)), .val (.int (2 : Int32))] [.int (2 : Int32), .ref da, .int j1, .double y1]
  refine ⟨by decide, by decide, A2.at (1 : Int32) 1 rfl rfl, A1.at (1 : Int32) 1 rfl rfl, fun T1 X1 eh1 => ?_⟩
  refine own_blk dec10 seq10 hby hx hZ hown hK hF 4 [] [.double y2, .int j2] X1 eh1 ?_
  show (own_at Z h0 da .double (2 : Int32) (.double y2)) ∧ (own_at Z h0 ia .int (2 : Int32) (.int j2)) ∧ own_Aft X1 h0 _ 41 [.val (.ref ia), .val (.ref da), .val (.int (0 : Int32)), .val (.int (3 : Int32)), .val (.int ix), .val (.double x), .second, .val (.int (1 : Int32)), .val (.int (2 : Int32))] [.int j2, .double y2, .int j1, .double y1]
  refine ⟨A2.at (2 : Int32) 2 rfl rfl, A1.at (2 : Int32) 2 rfl rfl, fun T2 X2 eh2 => ?_⟩
  refine own_callSP X2 hx hZ hown (hw _ (List.mem_of_getElem? (i := 45) rfl)) (hw _ (List.mem_of_getElem? (i := 46) rfl)) (hw _ (List.mem_of_getElem? (i := 47) rfl)) (hw _ (List.mem_of_getElem? (i := 48) rfl)) (by decide) eh2 [.double y1, .int j1, .double y2, .int j2] pd8 rfl (fr := 0) (lo := 0) (rm8 l Z a0 hw [] y1 y2 j1 j2 f1 f2 h0 n0 Z0 D1 D2) (by rw [hml]; rfl) 0 rfl (Nat.le_of_eq rfl) (hb hby d10_41) (by decide) (by decide) (by decide) (by decide) (fun T3 rv3 X3 eh3 qc3 => ?_)
  obtain ⟨r, rfl, ho⟩ := qc3
  show own_Go p.tables e below _ (T3.setTop (mkF m 44 (Array.mk [.val (.ref ia), .val (.ref da), .val (.int (0 : Int32)), .val (.int (3 : Int32)), .val (.int ix), .val (.double x), .second, .val (.int (1 : Int32)), .val (.int (2 : Int32))]) [.int r]))
  rcases ho with ⟨rfl, ho⟩ | ⟨rfl, ho⟩
  · skip
    show own_Go p.tables e below _ (T3.setTop (mkF m 44 (Array.mk [.val (.ref ia), .val (.ref da), .val (.int (0 : Int32)), .val (.int (3 : Int32)), .val (.int ix), .val (.double x), .second, .val (.int (1 : Int32)), .val (.int (2 : Int32))]) [.int (1 : Int32)]))
    have ho1 := ho
    refine own_blk dec10 seq10 hby hx hZ hown hK hF 11 [false] [.double y2, .int j2] X3 eh3 ?_
    show (¬ (((1 : Int32)).toInt = 0)) ∧ (own_at Z h0 da .double (2 : Int32) (.double y2)) ∧ (own_at Z h0 ia .int (2 : Int32) (.int j2)) ∧ own_Aft X3 h0 _ 63 [.val (.ref ia), .val (.ref da), .val (.int (0 : Int32)), .val (.int (3 : Int32)), .val (.int ix), .val (.double x), .second, .val (.int (2 : Int32)), .val (.int (2 : Int32))] [.int j2, .double y2, .int ix, .double x]
    refine ⟨by decide, A2.at (2 : Int32) 2 rfl rfl, A1.at (2 : Int32) 2 rfl rfl, fun T4 X4 eh4 => ?_⟩
    refine own_callSP X4 hx hZ hown (hw _ (List.mem_of_getElem? (i := 45) rfl)) (hw _ (List.mem_of_getElem? (i := 46) rfl)) (hw _ (List.mem_of_getElem? (i := 47) rfl)) (hw _ (List.mem_of_getElem? (i := 48) rfl)) (by decide) eh4 [.double x, .int ix, .double y2, .int j2] pd8 rfl (fr := 0) (lo := 0) (rm8 l Z a0 hw [] x y2 ix j2 b f2 h0 n0 Z0 Dx D2) (by rw [hml]; rfl) 0 rfl (Nat.le_of_eq rfl) (hb hby d10_63) (by decide) (by decide) (by decide) (by decide) (fun T5 rv5 X5 eh5 qc5 => ?_)
    obtain ⟨r, rfl, ho⟩ := qc5
    show own_Go p.tables e below _ (T5.setTop (mkF m 66 (Array.mk [.val (.ref ia), .val (.ref da), .val (.int (0 : Int32)), .val (.int (3 : Int32)), .val (.int ix), .val (.double x), .second, .val (.int (2 : Int32)), .val (.int (2 : Int32))]) [.int r]))
    rcases ho with ⟨rfl, ho⟩ | ⟨rfl, ho⟩
    · skip
      show own_Go p.tables e below _ (T5.setTop (mkF m 66 (Array.mk [.val (.ref ia), .val (.ref da), .val (.int (0 : Int32)), .val (.int (3 : Int32)), .val (.int ix), .val (.double x), .second, .val (.int (2 : Int32)), .val (.int (2 : Int32))]) [.int (1 : Int32)]))
      refine own_blk dec10 seq10 hby hx hZ hown hK hF 6 [true] [.int j2] X5 eh5 ?_
      show (((1 : Int32)).toInt ≠ 0) ∧ (own_at Z h0 ia .int (2 : Int32) (.int j2)) ∧ own_Aft X5 h0 _ 78 [.val (.ref ia), .val (.ref da), .val (.int (0 : Int32)), .val (.int (3 : Int32)), .val (.int ix), .val (.double x), .second, .val (.int (2 : Int32)), .val (.int (2 : Int32))] [.int j2, .int (0 : Int32), .ref ia]
      refine ⟨by decide, A1.at (2 : Int32) 2 rfl rfl, fun T6 X6 eh6 => ?_⟩
      refine own_sI X6 hx hZ eh6 A1 0 rfl (by show 0 < 3; decide) (hb hby d10_78) (fun T7 hp7 X7 eh7 Wr7 Ar7 => ?_)
      have Ar7' : own_A Z hp7 ia .int [.int j2, .int j1, .int j2] := Ar7
      have A2_7 := A2.other Wr7 (Ne.symm ne_)
      have Nf7 := Fr.snoc X7 N0 ni
      have Z_7 : n0 ≤ hp7.size := by rw [Wr.size Wr7]; exact Z0
      have K_7 := Keep.wr K0 Wr7 (Or.inl (List.mem_of_getElem? (i := 0) rfl))
      refine own_blk dec10 seq10 hby hx hZ hown hK hF 5 [] [.double y2] X7 eh7 ?_
      show (own_at Z hp7 da .double (2 : Int32) (.double y2)) ∧ own_Aft X7 hp7 _ 85 [.val (.ref ia), .val (.ref da), .val (.int (0 : Int32)), .val (.int (3 : Int32)), .val (.int ix), .val (.double x), .second, .val (.int (2 : Int32)), .val (.int (2 : Int32))] [.double y2, .int (0 : Int32), .ref da]
      refine ⟨A2_7.at (2 : Int32) 2 rfl rfl, fun T8 X8 eh8 => ?_⟩
      refine own_sD X8 hx hZ eh8 A2_7 0 rfl (by show 0 < 3; decide) (hb hby d10_85) (fun T9 hp9 X9 eh9 Wr9 Ar9 => ?_)
      have Ar9' : own_A Z hp9 da .double [.double y2, .double y1, .double y2] := Ar9
      have Ar7'_9 := Ar7'.other Wr9 ne_
      have Nf9 := Fr.snoc X9 Nf7 nd
      have Z_9 : n0 ≤ hp9.size := by rw [Wr.size Wr9]; exact Z_7
      have K_9 := Keep.wr K_7 Wr9 (Or.inl (List.mem_of_getElem? (i := 1) rfl))
      refine own_blk dec10 seq10 hby hx hZ hown hK hF 15 [true] [] X9 eh9 ?_
      show (((3 : Int32)).toInt ≤ ((5 : Int32)).toInt) ∧ own_Aft X9 hp9 _ 103 [.val (.ref ia), .val (.ref da), .val (.int (2 : Int32)), .val (.int (3 : Int32)), .val (.int ix), .val (.double x), .second, .val (.int (5 : Int32)), .val (.int (2 : Int32))] [.int ix, .int (2 : Int32), .ref ia]
      refine ⟨by decide, fun T10 X10 eh10 => ?_⟩
      refine own_sI X10 hx hZ eh10 Ar7'_9 2 rfl (by show 2 < 3; decide) (hb hby d10_103) (fun T11 hp11 X11 eh11 Wr11 Ar11 => ?_)
      have Ar11' : own_A Z hp11 ia .int [.int j2, .int j1, .int ix] := Ar11
      have Ar9'_11 := Ar9'.other Wr11 (Ne.symm ne_)
      have Nf11 := Fr.snoc X11 Nf9 ni
      have Z_11 : n0 ≤ hp11.size := by rw [Wr.size Wr11]; exact Z_9
      have K_11 := Keep.wr K_9 Wr11 (Or.inl (List.mem_of_getElem? (i := 0) rfl))
      refine own_blk dec10 seq10 hby hx hZ hown hK hF 3 [] [] X11 eh11 ?_
      show own_Aft X11 hp11 _ 108 [.val (.ref ia), .val (.ref da), .val (.int (2 : Int32)), .val (.int (3 : Int32)), .val (.int ix), .val (.double x), .second, .val (.int (5 : Int32)), .val (.int (2 : Int32))] [.double x, .int (2 : Int32), .ref da]
      refine fun T12 X12 eh12 => ?_
      refine own_sD X12 hx hZ eh12 Ar9'_11 2 rfl (by show 2 < 3; decide) (hb hby d10_108) (fun T13 hp13 X13 eh13 Wr13 Ar13 => ?_)
      have Ar13' : own_A Z hp13 da .double [.double y2, .double y1, .double x] := Ar13
      have Ar11'_13 := Ar11'.other Wr13 ne_
      have Nf13 := Fr.snoc X13 Nf11 nd
      have Z_13 : n0 ≤ hp13.size := by rw [Wr.size Wr13]; exact Z_11
      have K_13 := Keep.wr K_11 Wr13 (Or.inl (List.mem_of_getElem? (i := 1) rfl))
      exact own_retV X13 hx hlk eh13 hret (hb hby d10_109) (by decide) (by decide) (⟨rfl, Nf13, K_13, ⟨_, _, _, _, _, _, _, _, _, Ar11'_13, Ar13', D2, D1, Dx, Or.inr (Or.inl (⟨hb0, ho1, ho, rfl, rfl, rfl⟩))⟩⟩)
    · skip
      show own_Go p.tables e below _ (T5.setTop (mkF m 66 (Array.mk [.val (.ref ia), .val (.ref da), .val (.int (0 : Int32)), .val (.int (3 : Int32)), .val (.int ix), .val (.double x), .second, .val (.int (2 : Int32)), .val (.int (2 : Int32))]) [.int (0 : Int32)]))
      refine own_blk dec10 seq10 hby hx hZ hown hK hF 5 [false] [] X5 eh5 ?_
      show (¬ (((0 : Int32)).toInt ≠ 0)) ∧ own_Aft X5 h0 _ 103 [.val (.ref ia), .val (.ref da), .val (.int (0 : Int32)), .val (.int (3 : Int32)), .val (.int ix), .val (.double x), .second, .val (.int (2 : Int32)), .val (.int (2 : Int32))] [.int ix, .int (0 : Int32), .ref ia]
      refine ⟨by decide, fun T14 X14 eh14 => ?_⟩
      refine own_sI X14 hx hZ eh14 A1 0 rfl (by show 0 < 3; decide) (hb hby d10_103) (fun T15 hp15 X15 eh15 Wr15 Ar15 => ?_)
      have Ar15' : own_A Z hp15 ia .int [.int ix, .int j1, .int j2] := Ar15
      have A2_15 := A2.other Wr15 (Ne.symm ne_)
      have Nf15 := Fr.snoc X15 N0 ni
      have Z_15 : n0 ≤ hp15.size := by rw [Wr.size Wr15]; exact Z0
      have K_15 := Keep.wr K0 Wr15 (Or.inl (List.mem_of_getElem? (i := 0) rfl))
      refine own_blk dec10 seq10 hby hx hZ hown hK hF 3 [] [] X15 eh15 ?_
      show own_Aft X15 hp15 _ 108 [.val (.ref ia), .val (.ref da), .val (.int (0 : Int32)), .val (.int (3 : Int32)), .val (.int ix), .val (.double x), .second, .val (.int (2 : Int32)), .val (.int (2 : Int32))] [.double x, .int (0 : Int32), .ref da]
      refine fun T16 X16 eh16 => ?_
      refine own_sD X16 hx hZ eh16 A2_15 0 rfl (by show 0 < 3; decide) (hb hby d10_108) (fun T17 hp17 X17 eh17 Wr17 Ar17 => ?_)
      have Ar17' : own_A Z hp17 da .double [.double x, .double y1, .double y2] := Ar17
      have Ar15'_17 := Ar15'.other Wr17 ne_
      have Nf17 := Fr.snoc X17 Nf15 nd
      have Z_17 : n0 ≤ hp17.size := by rw [Wr.size Wr17]; exact Z_15
      have K_17 := Keep.wr K_15 Wr17 (Or.inl (List.mem_of_getElem? (i := 1) rfl))
      exact own_retV X17 hx hlk eh17 hret (hb hby d10_109) (by decide) (by decide) (⟨rfl, Nf17, K_17, ⟨_, _, _, _, _, _, _, _, _, Ar15'_17, Ar17', Dx, D1, D2, Or.inr (Or.inr (Or.inl (⟨hb0, ho1, ho, rfl, rfl, rfl⟩)))⟩⟩)
  · skip
    show own_Go p.tables e below _ (T3.setTop (mkF m 44 (Array.mk [.val (.ref ia), .val (.ref da), .val (.int (0 : Int32)), .val (.int (3 : Int32)), .val (.int ix), .val (.double x), .second, .val (.int (1 : Int32)), .val (.int (2 : Int32))]) [.int (0 : Int32)]))
    have ho1 := ho
    refine own_blk dec10 seq10 hby hx hZ hown hK hF 9 [true] [.double y1, .int j1] X3 eh3 ?_
    show (((0 : Int32)).toInt = 0) ∧ (own_at Z h0 da .double (1 : Int32) (.double y1)) ∧ (own_at Z h0 ia .int (1 : Int32) (.int j1)) ∧ own_Aft X3 h0 _ 63 [.val (.ref ia), .val (.ref da), .val (.int (0 : Int32)), .val (.int (3 : Int32)), .val (.int ix), .val (.double x), .second, .val (.int (1 : Int32)), .val (.int (2 : Int32))] [.int j1, .double y1, .int ix, .double x]
    refine ⟨by decide, A2.at (1 : Int32) 1 rfl rfl, A1.at (1 : Int32) 1 rfl rfl, fun T18 X18 eh18 => ?_⟩
    refine own_callSP X18 hx hZ hown (hw _ (List.mem_of_getElem? (i := 45) rfl)) (hw _ (List.mem_of_getElem? (i := 46) rfl)) (hw _ (List.mem_of_getElem? (i := 47) rfl)) (hw _ (List.mem_of_getElem? (i := 48) rfl)) (by decide) eh18 [.double x, .int ix, .double y1, .int j1] pd8 rfl (fr := 0) (lo := 0) (rm8 l Z a0 hw [] x y1 ix j1 b f1 h0 n0 Z0 Dx D1) (by rw [hml]; rfl) 0 rfl (Nat.le_of_eq rfl) (hb hby d10_63) (by decide) (by decide) (by decide) (by decide) (fun T19 rv19 X19 eh19 qc19 => ?_)
    obtain ⟨r, rfl, ho⟩ := qc19
    show own_Go p.tables e below _ (T19.setTop (mkF m 66 (Array.mk [.val (.ref ia), .val (.ref da), .val (.int (0 : Int32)), .val (.int (3 : Int32)), .val (.int ix), .val (.double x), .second, .val (.int (1 : Int32)), .val (.int (2 : Int32))]) [.int r]))
    rcases ho with ⟨rfl, ho⟩ | ⟨rfl, ho⟩
    · skip
      show own_Go p.tables e below _ (T19.setTop (mkF m 66 (Array.mk [.val (.ref ia), .val (.ref da), .val (.int (0 : Int32)), .val (.int (3 : Int32)), .val (.int ix), .val (.double x), .second, .val (.int (1 : Int32)), .val (.int (2 : Int32))]) [.int (1 : Int32)]))
      refine own_blk dec10 seq10 hby hx hZ hown hK hF 6 [true] [.int j1] X19 eh19 ?_
      show (((1 : Int32)).toInt ≠ 0) ∧ (own_at Z h0 ia .int (1 : Int32) (.int j1)) ∧ own_Aft X19 h0 _ 78 [.val (.ref ia), .val (.ref da), .val (.int (0 : Int32)), .val (.int (3 : Int32)), .val (.int ix), .val (.double x), .second, .val (.int (1 : Int32)), .val (.int (2 : Int32))] [.int j1, .int (0 : Int32), .ref ia]
      refine ⟨by decide, A1.at (1 : Int32) 1 rfl rfl, fun T20 X20 eh20 => ?_⟩
      refine own_sI X20 hx hZ eh20 A1 0 rfl (by show 0 < 3; decide) (hb hby d10_78) (fun T21 hp21 X21 eh21 Wr21 Ar21 => ?_)
      have Ar21' : own_A Z hp21 ia .int [.int j1, .int j1, .int j2] := Ar21
      have A2_21 := A2.other Wr21 (Ne.symm ne_)
      have Nf21 := Fr.snoc X21 N0 ni
      have Z_21 : n0 ≤ hp21.size := by rw [Wr.size Wr21]; exact Z0
      have K_21 := Keep.wr K0 Wr21 (Or.inl (List.mem_of_getElem? (i := 0) rfl))
      refine own_blk dec10 seq10 hby hx hZ hown hK hF 5 [] [.double y1] X21 eh21 ?_
      show (own_at Z hp21 da .double (1 : Int32) (.double y1)) ∧ own_Aft X21 hp21 _ 85 [.val (.ref ia), .val (.ref da), .val (.int (0 : Int32)), .val (.int (3 : Int32)), .val (.int ix), .val (.double x), .second, .val (.int (1 : Int32)), .val (.int (2 : Int32))] [.double y1, .int (0 : Int32), .ref da]
      refine ⟨A2_21.at (1 : Int32) 1 rfl rfl, fun T22 X22 eh22 => ?_⟩
      refine own_sD X22 hx hZ eh22 A2_21 0 rfl (by show 0 < 3; decide) (hb hby d10_85) (fun T23 hp23 X23 eh23 Wr23 Ar23 => ?_)
      have Ar23' : own_A Z hp23 da .double [.double y1, .double y1, .double y2] := Ar23
      have Ar21'_23 := Ar21'.other Wr23 ne_
      have Nf23 := Fr.snoc X23 Nf21 nd
      have Z_23 : n0 ≤ hp23.size := by rw [Wr.size Wr23]; exact Z_21
      have K_23 := Keep.wr K_21 Wr23 (Or.inl (List.mem_of_getElem? (i := 1) rfl))
      refine own_blk dec10 seq10 hby hx hZ hown hK hF 15 [true] [] X23 eh23 ?_
      show (((3 : Int32)).toInt ≤ ((3 : Int32)).toInt) ∧ own_Aft X23 hp23 _ 103 [.val (.ref ia), .val (.ref da), .val (.int (1 : Int32)), .val (.int (3 : Int32)), .val (.int ix), .val (.double x), .second, .val (.int (3 : Int32)), .val (.int (2 : Int32))] [.int ix, .int (1 : Int32), .ref ia]
      refine ⟨by decide, fun T24 X24 eh24 => ?_⟩
      refine own_sI X24 hx hZ eh24 Ar21'_23 1 rfl (by show 1 < 3; decide) (hb hby d10_103) (fun T25 hp25 X25 eh25 Wr25 Ar25 => ?_)
      have Ar25' : own_A Z hp25 ia .int [.int j1, .int ix, .int j2] := Ar25
      have Ar23'_25 := Ar23'.other Wr25 (Ne.symm ne_)
      have Nf25 := Fr.snoc X25 Nf23 ni
      have Z_25 : n0 ≤ hp25.size := by rw [Wr.size Wr25]; exact Z_23
      have K_25 := Keep.wr K_23 Wr25 (Or.inl (List.mem_of_getElem? (i := 0) rfl))
      refine own_blk dec10 seq10 hby hx hZ hown hK hF 3 [] [] X25 eh25 ?_
      show own_Aft X25 hp25 _ 108 [.val (.ref ia), .val (.ref da), .val (.int (1 : Int32)), .val (.int (3 : Int32)), .val (.int ix), .val (.double x), .second, .val (.int (3 : Int32)), .val (.int (2 : Int32))] [.double x, .int (1 : Int32), .ref da]
      refine fun T26 X26 eh26 => ?_
      refine own_sD X26 hx hZ eh26 Ar23'_25 1 rfl (by show 1 < 3; decide) (hb hby d10_108) (fun T27 hp27 X27 eh27 Wr27 Ar27 => ?_)
      have Ar27' : own_A Z hp27 da .double [.double y1, .double x, .double y2] := Ar27
      have Ar25'_27 := Ar25'.other Wr27 ne_
      have Nf27 := Fr.snoc X27 Nf25 nd
      have Z_27 : n0 ≤ hp27.size := by rw [Wr.size Wr27]; exact Z_25
      have K_27 := Keep.wr K_25 Wr27 (Or.inl (List.mem_of_getElem? (i := 1) rfl))
      exact own_retV X27 hx hlk eh27 hret (hb hby d10_109) (by decide) (by decide) (⟨rfl, Nf27, K_27, ⟨_, _, _, _, _, _, _, _, _, Ar25'_27, Ar27', D1, Dx, D2, Or.inr (Or.inr (Or.inr (Or.inl (⟨hb0, ho1, ho, rfl, rfl, rfl⟩))))⟩⟩)
    · skip
      show own_Go p.tables e below _ (T19.setTop (mkF m 66 (Array.mk [.val (.ref ia), .val (.ref da), .val (.int (0 : Int32)), .val (.int (3 : Int32)), .val (.int ix), .val (.double x), .second, .val (.int (1 : Int32)), .val (.int (2 : Int32))]) [.int (0 : Int32)]))
      refine own_blk dec10 seq10 hby hx hZ hown hK hF 5 [false] [] X19 eh19 ?_
      show (¬ (((0 : Int32)).toInt ≠ 0)) ∧ own_Aft X19 h0 _ 103 [.val (.ref ia), .val (.ref da), .val (.int (0 : Int32)), .val (.int (3 : Int32)), .val (.int ix), .val (.double x), .second, .val (.int (1 : Int32)), .val (.int (2 : Int32))] [.int ix, .int (0 : Int32), .ref ia]
      refine ⟨by decide, fun T28 X28 eh28 => ?_⟩
      refine own_sI X28 hx hZ eh28 A1 0 rfl (by show 0 < 3; decide) (hb hby d10_103) (fun T29 hp29 X29 eh29 Wr29 Ar29 => ?_)
      have Ar29' : own_A Z hp29 ia .int [.int ix, .int j1, .int j2] := Ar29
      have A2_29 := A2.other Wr29 (Ne.symm ne_)
      have Nf29 := Fr.snoc X29 N0 ni
      have Z_29 : n0 ≤ hp29.size := by rw [Wr.size Wr29]; exact Z0
      have K_29 := Keep.wr K0 Wr29 (Or.inl (List.mem_of_getElem? (i := 0) rfl))
      refine own_blk dec10 seq10 hby hx hZ hown hK hF 3 [] [] X29 eh29 ?_
      show own_Aft X29 hp29 _ 108 [.val (.ref ia), .val (.ref da), .val (.int (0 : Int32)), .val (.int (3 : Int32)), .val (.int ix), .val (.double x), .second, .val (.int (1 : Int32)), .val (.int (2 : Int32))] [.double x, .int (0 : Int32), .ref da]
      refine fun T30 X30 eh30 => ?_
      refine own_sD X30 hx hZ eh30 A2_29 0 rfl (by show 0 < 3; decide) (hb hby d10_108) (fun T31 hp31 X31 eh31 Wr31 Ar31 => ?_)
      have Ar31' : own_A Z hp31 da .double [.double x, .double y1, .double y2] := Ar31
      have Ar29'_31 := Ar29'.other Wr31 ne_
      have Nf31 := Fr.snoc X31 Nf29 nd
      have Z_31 : n0 ≤ hp31.size := by rw [Wr.size Wr31]; exact Z_29
      have K_31 := Keep.wr K_29 Wr31 (Or.inl (List.mem_of_getElem? (i := 1) rfl))
      exact own_retV X31 hx hlk eh31 hret (hb hby d10_109) (by decide) (by decide) (⟨rfl, Nf31, K_31, ⟨_, _, _, _, _, _, _, _, _, Ar29'_31, Ar31', Dx, D1, D2, Or.inr (Or.inr (Or.inr (Or.inr (⟨hb0, ho1, ho, rfl, rfl, rfl⟩))))⟩⟩)
set_option maxRecDepth 65536 in
set_option maxHeartbeats 40000000 in
theorem rm1_1 (l : Launch) (Z : State) (a0 : Array Value) (hw : ∀ d ∈ tables_1, d.before a0 Z = true) (ws : List Jvm.Cond) (a : Addr) (h0 : Heap) (n0 : Nat) (Z0 : n0 ≤ h0.size) (E0 : Exa Z h0 a "org/axisfold/search/KNearest") (na : n0 ≤ a) (F0_capacity : Fld Z h0 a "org/axisfold/search/KNearest" "capacity" "I" (.int (0 : Int32))) (F0_indices : Fld Z h0 a "org/axisfold/search/KNearest" "indices" "[I" (.null)) (F0_squaredDistances : Fld Z h0 a "org/axisfold/search/KNearest" "squaredDistances" "[D" (.null)) (F0_size : Fld Z h0 a "org/axisfold/search/KNearest" "size" "I" (.int (0 : Int32))) (F0_offered : Fld Z h0 a "org/axisfold/search/KNearest" "offered" "J" (.long (0 : Int64))) :
    MetFree l (⟨"org/axisfold/search/KNearest", "<init>", "(I)V"⟩ : MethodName) (head1 (Jvm.Cond.code (⟨"org/axisfold/search/KNearest", "<init>", "(I)V"⟩ : MethodName) prog_40_method_1_code 2 none :: ws) ({ frames := 1, cells := 2, slots := 2, locals := 12 } : Room)) (fun as_ U => as_ = #[.ref a, .int (1 : Int32)] ∧ Z.Warmed39 U.vm ∧ U.heap = h0) (fun _ _ _ _ _ => True) (fun _ U o U' => own_Fin U ({ frames := 1, cells := 2, slots := 2, locals := 12 } : Room).cells ({ frames := 1, cells := 2, slots := 2, locals := 12 } : Room).slots (fun v h L => v = none ∧ Fr n0 L ∧ Exa Z h a "org/axisfold/search/KNearest" ∧ Fld Z h a "org/axisfold/search/KNearest" "capacity" "I" (.int (1 : Int32)) ∧ Fld Z h a "org/axisfold/search/KNearest" "size" "I" (.int (0 : Int32)) ∧ Fld Z h a "org/axisfold/search/KNearest" "offered" "J" (.long (0 : Int64)) ∧ ∃ ia da, Fld Z h a "org/axisfold/search/KNearest" "indices" "[I" (.ref ia) ∧ Fld Z h a "org/axisfold/search/KNearest" "squaredDistances" "[D" (.ref da) ∧ own_A Z h ia .int [.int (0 : Int32)] ∧ own_A Z h da .double [.double 0] ∧ n0 ≤ ia ∧ n0 ≤ da ∧ ia ≠ da ∧ ia ≠ a ∧ da ≠ a) o U') := by
  refine own_body pf1 (ls0 := [.val (.ref a), .val (.int (1 : Int32))]) (fun m => by first | (simp [entryFrame, mkF, argsToLocals, Value.category, maxLocals]; done) | rfl) ?_
  intro p e s m below meth c T0 hx hby hml hown hnm hlk hret hZ X0 e0
  have hK : own_ks "org/axisfold/search/KNearest" a0 Z kt1 := ⟨hw _ (List.mem_of_getElem? (i := 24) rfl), trivial⟩
  have hF : own_fs "org/axisfold/search/KNearest" a0 Z ft1 := ⟨hw _ (List.mem_of_getElem? (i := 9) rfl), hw _ (List.mem_of_getElem? (i := 12) rfl), hw _ (List.mem_of_getElem? (i := 15) rfl), hw _ (List.mem_of_getElem? (i := 22) rfl), hw _ (List.mem_of_getElem? (i := 31) rfl), trivial⟩
  have N0 := Fr.nil n0
  refine own_blk dec1 seq1 hby hx hZ hown hK hF 1 [] [] X0 e0 ?_
  show own_Aft X0 h0 _ 1 [.val (.ref a), .val (.int (1 : Int32))] [.ref a]
  refine fun T1 X1 eh1 => ?_
  refine own_initO X1 hx hZ hown (hw _ (List.mem_of_getElem? (i := 6) rfl)) (hw _ (List.mem_of_getElem? (i := 7) rfl)) (hw _ (List.mem_of_getElem? (i := 8) rfl)) eh1 (by rw [hml]; rfl) (hb hby d1_1) (by decide) 0 (Nat.le_of_eq rfl) (by decide) (fun T2 X2 eh2 => ?_)
  refine own_blk dec1 seq1 hby hx hZ hown hK hF 5 [true] [] X2 eh2 ?_
  show (((1 : Int32)).toInt ≤ ((1 : Int32)).toInt) ∧ own_Aft X2 h0 _ 25 [.val (.ref a), .val (.int (1 : Int32))] [.int (1 : Int32), .ref a]
  refine ⟨by decide, fun T3 X3 eh3 => ?_⟩
  refine own_putF X3 hx hZ hown (hw _ (List.mem_of_getElem? (i := 9) rfl)) eh3 F0_capacity E0 (Or.inr ⟨(hw _ (List.mem_of_getElem? (i := 10) rfl)), rfl, hnm⟩) (hw _ (List.mem_of_getElem? (i := 1) rfl)) (ty := .int) (by decide) rfl rfl (hb hby d1_25) (fun T4 hp4 X4 eh4 Wr4 Fd4 Ea4 => ?_)
  have F0_indices_4 := Fld.other Wr4 F0_indices (Or.inr (slot_ne (Or.inr (hw _ (List.mem_of_getElem? (i := 13) rfl))) (Or.inr (hw _ (List.mem_of_getElem? (i := 10) rfl))) (by decide) (t := (.array .int)) (t' := .int) (by decide) (by decide)))
  have F0_squaredDistances_4 := Fld.other Wr4 F0_squaredDistances (Or.inr (slot_ne (Or.inr (hw _ (List.mem_of_getElem? (i := 16) rfl))) (Or.inr (hw _ (List.mem_of_getElem? (i := 10) rfl))) (by decide) (t := (.array .double)) (t' := .int) (by decide) (by decide)))
  have F0_size_4 := Fld.other Wr4 F0_size (Or.inr (slot_ne (Or.inl (hw _ (List.mem_of_getElem? (i := 23) rfl))) (Or.inr (hw _ (List.mem_of_getElem? (i := 10) rfl))) (by decide) (t := .int) (t' := .int) (by decide) (by decide)))
  have F0_offered_4 := Fld.other Wr4 F0_offered (Or.inr (slot_ne (Or.inl (hw _ (List.mem_of_getElem? (i := 32) rfl))) (Or.inr (hw _ (List.mem_of_getElem? (i := 10) rfl))) (by decide) (t := .long) (t' := .int) (by decide) (by decide)))
  have Nf4 := Fr.snoc X4 N0 na
  have Z_4 : n0 ≤ hp4.size := by rw [Wr.size Wr4]; exact Z0
  refine own_blk dec1 seq1 hby hx hZ hown hK hF 2 [] [] X4 eh4 ?_
  show own_Aft X4 hp4 _ 30 [.val (.ref a), .val (.int (1 : Int32))] [.int (1 : Int32), .ref a]
  refine fun T5 X5 eh5 => ?_
  refine own_newP X5 hx hZ (hw _ (List.mem_of_getElem? (i := 11) rfl)) eh5 1 rfl (cap := 1) (by decide) (by decide) (hb hby d1_30) (by decide) (by decide) (fun T6 hp6 ia ga6 X6 eh6 Ex6 Ar6 => ?_)
  have ne_a_ia : a ≠ ia := fun q => absurd Ea4.lt (by rw [q, ga6]; exact Nat.lt_irrefl _)
  have nw_ia : n0 ≤ ia := by rw [ga6]; exact Z_4
  have Ea4_6 := Exa.ext Ex6 Ea4
  have Fd4_6 := Fld.ext Ex6 Fd4
  have F0_indices_6 := Fld.ext Ex6 F0_indices_4
  have F0_squaredDistances_6 := Fld.ext Ex6 F0_squaredDistances_4
  have F0_size_6 := Fld.ext Ex6 F0_size_4
  have F0_offered_6 := Fld.ext Ex6 F0_offered_4
  have Z_6 : n0 ≤ hp6.size := Nat.le_trans Z_4 Ex6.1
  have Ar6' : own_A Z hp6 ia .int [.int (0 : Int32)] := Ar6
  show own_Go p.tables e below _ (T6.setTop (mkF m 32 (Array.mk [.val (.ref a), .val (.int (1 : Int32))]) [.ref ia, .ref a]))
  refine own_putF X6 hx hZ hown (hw _ (List.mem_of_getElem? (i := 12) rfl)) eh6 F0_indices_6 Ea4_6 (Or.inr ⟨(hw _ (List.mem_of_getElem? (i := 13) rfl)), rfl, hnm⟩) (hw _ (List.mem_of_getElem? (i := 1) rfl)) (ty := (.array .int)) (by decide) rfl rfl (hb hby d1_32) (fun T7 hp7 X7 eh7 Wr7 Fd7 Ea7 => ?_)
  have Ar6'_7 := Ar6'.other Wr7 (Ne.symm ne_a_ia)
  have Fd4_7 := Fld.other Wr7 Fd4_6 (Or.inr (slot_ne (Or.inr (hw _ (List.mem_of_getElem? (i := 10) rfl))) (Or.inr (hw _ (List.mem_of_getElem? (i := 13) rfl))) (by decide) (t := .int) (t' := (.array .int)) (by decide) (by decide)))
  have F0_squaredDistances_7 := Fld.other Wr7 F0_squaredDistances_6 (Or.inr (slot_ne (Or.inr (hw _ (List.mem_of_getElem? (i := 16) rfl))) (Or.inr (hw _ (List.mem_of_getElem? (i := 13) rfl))) (by decide) (t := (.array .double)) (t' := (.array .int)) (by decide) (by decide)))
  have F0_size_7 := Fld.other Wr7 F0_size_6 (Or.inr (slot_ne (Or.inl (hw _ (List.mem_of_getElem? (i := 23) rfl))) (Or.inr (hw _ (List.mem_of_getElem? (i := 13) rfl))) (by decide) (t := .int) (t' := (.array .int)) (by decide) (by decide)))
  have F0_offered_7 := Fld.other Wr7 F0_offered_6 (Or.inr (slot_ne (Or.inl (hw _ (List.mem_of_getElem? (i := 32) rfl))) (Or.inr (hw _ (List.mem_of_getElem? (i := 13) rfl))) (by decide) (t := .long) (t' := (.array .int)) (by decide) (by decide)))
  have Nf7 := Fr.snoc X7 Nf4 na
  have Z_7 : n0 ≤ hp7.size := by rw [Wr.size Wr7]; exact Z_6
  refine own_blk dec1 seq1 hby hx hZ hown hK hF 2 [] [] X7 eh7 ?_
  show own_Aft X7 hp7 _ 37 [.val (.ref a), .val (.int (1 : Int32))] [.int (1 : Int32), .ref a]
  refine fun T8 X8 eh8 => ?_
  refine own_newP X8 hx hZ (hw _ (List.mem_of_getElem? (i := 14) rfl)) eh8 1 rfl (cap := 1) (by decide) (by decide) (hb hby d1_37) (by decide) (by decide) (fun T9 hp9 da ga9 X9 eh9 Ex9 Ar9 => ?_)
  have ne_ia_da : ia ≠ da := fun q => absurd Ar6'_7.lt (by rw [q, ga9]; exact Nat.lt_irrefl _)
  have ne_a_da : a ≠ da := fun q => absurd Ea7.lt (by rw [q, ga9]; exact Nat.lt_irrefl _)
  have nw_da : n0 ≤ da := by rw [ga9]; exact Z_7
  have Ar6'_9 := Ar6'_7.ext Ex9
  have Ea7_9 := Exa.ext Ex9 Ea7
  have Fd4_9 := Fld.ext Ex9 Fd4_7
  have Fd7_9 := Fld.ext Ex9 Fd7
  have F0_squaredDistances_9 := Fld.ext Ex9 F0_squaredDistances_7
  have F0_size_9 := Fld.ext Ex9 F0_size_7
  have F0_offered_9 := Fld.ext Ex9 F0_offered_7
  have Z_9 : n0 ≤ hp9.size := Nat.le_trans Z_7 Ex9.1
  have Ar9' : own_A Z hp9 da .double [.double 0] := Ar9
  show own_Go p.tables e below _ (T9.setTop (mkF m 39 (Array.mk [.val (.ref a), .val (.int (1 : Int32))]) [.ref da, .ref a]))
  refine own_putF X9 hx hZ hown (hw _ (List.mem_of_getElem? (i := 15) rfl)) eh9 F0_squaredDistances_9 Ea7_9 (Or.inr ⟨(hw _ (List.mem_of_getElem? (i := 16) rfl)), rfl, hnm⟩) (hw _ (List.mem_of_getElem? (i := 1) rfl)) (ty := (.array .double)) (by decide) rfl rfl (hb hby d1_39) (fun T10 hp10 X10 eh10 Wr10 Fd10 Ea10 => ?_)
  have Ar6'_10 := Ar6'_9.other Wr10 (Ne.symm ne_a_ia)
  have Ar9'_10 := Ar9'.other Wr10 (Ne.symm ne_a_da)
  have Fd4_10 := Fld.other Wr10 Fd4_9 (Or.inr (slot_ne (Or.inr (hw _ (List.mem_of_getElem? (i := 10) rfl))) (Or.inr (hw _ (List.mem_of_getElem? (i := 16) rfl))) (by decide) (t := .int) (t' := (.array .double)) (by decide) (by decide)))
  have Fd7_10 := Fld.other Wr10 Fd7_9 (Or.inr (slot_ne (Or.inr (hw _ (List.mem_of_getElem? (i := 13) rfl))) (Or.inr (hw _ (List.mem_of_getElem? (i := 16) rfl))) (by decide) (t := (.array .int)) (t' := (.array .double)) (by decide) (by decide)))
  have F0_size_10 := Fld.other Wr10 F0_size_9 (Or.inr (slot_ne (Or.inl (hw _ (List.mem_of_getElem? (i := 23) rfl))) (Or.inr (hw _ (List.mem_of_getElem? (i := 16) rfl))) (by decide) (t := .int) (t' := (.array .double)) (by decide) (by decide)))
  have F0_offered_10 := Fld.other Wr10 F0_offered_9 (Or.inr (slot_ne (Or.inl (hw _ (List.mem_of_getElem? (i := 32) rfl))) (Or.inr (hw _ (List.mem_of_getElem? (i := 16) rfl))) (by decide) (t := .long) (t' := (.array .double)) (by decide) (by decide)))
  have Nf10 := Fr.snoc X10 Nf7 na
  have Z_10 : n0 ≤ hp10.size := by rw [Wr.size Wr10]; exact Z_9
  exact own_retV X10 hx hlk eh10 hret (hb hby d1_42) (by decide) (by decide) (⟨rfl, Nf10, Ea10, Fd4_10, F0_size_10, F0_offered_10, ia, da, Fd7_10, Fd10, Ar6'_10, Ar9'_10, nw_ia, nw_da, ne_ia_da, (Ne.symm ne_a_ia), (Ne.symm ne_a_da)⟩)
set_option maxRecDepth 65536 in
set_option maxHeartbeats 40000000 in
theorem rm1_2 (l : Launch) (Z : State) (a0 : Array Value) (hw : ∀ d ∈ tables_1, d.before a0 Z = true) (ws : List Jvm.Cond) (a : Addr) (h0 : Heap) (n0 : Nat) (Z0 : n0 ≤ h0.size) (E0 : Exa Z h0 a "org/axisfold/search/KNearest") (na : n0 ≤ a) (F0_capacity : Fld Z h0 a "org/axisfold/search/KNearest" "capacity" "I" (.int (0 : Int32))) (F0_indices : Fld Z h0 a "org/axisfold/search/KNearest" "indices" "[I" (.null)) (F0_squaredDistances : Fld Z h0 a "org/axisfold/search/KNearest" "squaredDistances" "[D" (.null)) (F0_size : Fld Z h0 a "org/axisfold/search/KNearest" "size" "I" (.int (0 : Int32))) (F0_offered : Fld Z h0 a "org/axisfold/search/KNearest" "offered" "J" (.long (0 : Int64))) :
    MetFree l (⟨"org/axisfold/search/KNearest", "<init>", "(I)V"⟩ : MethodName) (head1 (Jvm.Cond.code (⟨"org/axisfold/search/KNearest", "<init>", "(I)V"⟩ : MethodName) prog_40_method_1_code 2 none :: ws) ({ frames := 1, cells := 2, slots := 4, locals := 12 } : Room)) (fun as_ U => as_ = #[.ref a, .int (2 : Int32)] ∧ Z.Warmed39 U.vm ∧ U.heap = h0) (fun _ _ _ _ _ => True) (fun _ U o U' => own_Fin U ({ frames := 1, cells := 2, slots := 4, locals := 12 } : Room).cells ({ frames := 1, cells := 2, slots := 4, locals := 12 } : Room).slots (fun v h L => v = none ∧ Fr n0 L ∧ Exa Z h a "org/axisfold/search/KNearest" ∧ Fld Z h a "org/axisfold/search/KNearest" "capacity" "I" (.int (2 : Int32)) ∧ Fld Z h a "org/axisfold/search/KNearest" "size" "I" (.int (0 : Int32)) ∧ Fld Z h a "org/axisfold/search/KNearest" "offered" "J" (.long (0 : Int64)) ∧ ∃ ia da, Fld Z h a "org/axisfold/search/KNearest" "indices" "[I" (.ref ia) ∧ Fld Z h a "org/axisfold/search/KNearest" "squaredDistances" "[D" (.ref da) ∧ own_A Z h ia .int [.int (0 : Int32), .int (0 : Int32)] ∧ own_A Z h da .double [.double 0, .double 0] ∧ n0 ≤ ia ∧ n0 ≤ da ∧ ia ≠ da ∧ ia ≠ a ∧ da ≠ a) o U') := by
  refine own_body pf1 (ls0 := [.val (.ref a), .val (.int (2 : Int32))]) (fun m => by first | (simp [entryFrame, mkF, argsToLocals, Value.category, maxLocals]; done) | rfl) ?_
  intro p e s m below meth c T0 hx hby hml hown hnm hlk hret hZ X0 e0
  have hK : own_ks "org/axisfold/search/KNearest" a0 Z kt1 := ⟨hw _ (List.mem_of_getElem? (i := 24) rfl), trivial⟩
  have hF : own_fs "org/axisfold/search/KNearest" a0 Z ft1 := ⟨hw _ (List.mem_of_getElem? (i := 9) rfl), hw _ (List.mem_of_getElem? (i := 12) rfl), hw _ (List.mem_of_getElem? (i := 15) rfl), hw _ (List.mem_of_getElem? (i := 22) rfl), hw _ (List.mem_of_getElem? (i := 31) rfl), trivial⟩
  have N0 := Fr.nil n0
  refine own_blk dec1 seq1 hby hx hZ hown hK hF 1 [] [] X0 e0 ?_
  show own_Aft X0 h0 _ 1 [.val (.ref a), .val (.int (2 : Int32))] [.ref a]
  refine fun T1 X1 eh1 => ?_
  refine own_initO X1 hx hZ hown (hw _ (List.mem_of_getElem? (i := 6) rfl)) (hw _ (List.mem_of_getElem? (i := 7) rfl)) (hw _ (List.mem_of_getElem? (i := 8) rfl)) eh1 (by rw [hml]; rfl) (hb hby d1_1) (by decide) 0 (Nat.le_of_eq rfl) (by decide) (fun T2 X2 eh2 => ?_)
  refine own_blk dec1 seq1 hby hx hZ hown hK hF 5 [true] [] X2 eh2 ?_
  show (((1 : Int32)).toInt ≤ ((2 : Int32)).toInt) ∧ own_Aft X2 h0 _ 25 [.val (.ref a), .val (.int (2 : Int32))] [.int (2 : Int32), .ref a]
  refine ⟨by decide, fun T3 X3 eh3 => ?_⟩
  refine own_putF X3 hx hZ hown (hw _ (List.mem_of_getElem? (i := 9) rfl)) eh3 F0_capacity E0 (Or.inr ⟨(hw _ (List.mem_of_getElem? (i := 10) rfl)), rfl, hnm⟩) (hw _ (List.mem_of_getElem? (i := 1) rfl)) (ty := .int) (by decide) rfl rfl (hb hby d1_25) (fun T4 hp4 X4 eh4 Wr4 Fd4 Ea4 => ?_)
  have F0_indices_4 := Fld.other Wr4 F0_indices (Or.inr (slot_ne (Or.inr (hw _ (List.mem_of_getElem? (i := 13) rfl))) (Or.inr (hw _ (List.mem_of_getElem? (i := 10) rfl))) (by decide) (t := (.array .int)) (t' := .int) (by decide) (by decide)))
  have F0_squaredDistances_4 := Fld.other Wr4 F0_squaredDistances (Or.inr (slot_ne (Or.inr (hw _ (List.mem_of_getElem? (i := 16) rfl))) (Or.inr (hw _ (List.mem_of_getElem? (i := 10) rfl))) (by decide) (t := (.array .double)) (t' := .int) (by decide) (by decide)))
  have F0_size_4 := Fld.other Wr4 F0_size (Or.inr (slot_ne (Or.inl (hw _ (List.mem_of_getElem? (i := 23) rfl))) (Or.inr (hw _ (List.mem_of_getElem? (i := 10) rfl))) (by decide) (t := .int) (t' := .int) (by decide) (by decide)))
  have F0_offered_4 := Fld.other Wr4 F0_offered (Or.inr (slot_ne (Or.inl (hw _ (List.mem_of_getElem? (i := 32) rfl))) (Or.inr (hw _ (List.mem_of_getElem? (i := 10) rfl))) (by decide) (t := .long) (t' := .int) (by decide) (by decide)))
  have Nf4 := Fr.snoc X4 N0 na
  have Z_4 : n0 ≤ hp4.size := by rw [Wr.size Wr4]; exact Z0
  refine own_blk dec1 seq1 hby hx hZ hown hK hF 2 [] [] X4 eh4 ?_
  show own_Aft X4 hp4 _ 30 [.val (.ref a), .val (.int (2 : Int32))] [.int (2 : Int32), .ref a]
  refine fun T5 X5 eh5 => ?_
  refine own_newP X5 hx hZ (hw _ (List.mem_of_getElem? (i := 11) rfl)) eh5 2 rfl (cap := 2) (by decide) (by decide) (hb hby d1_30) (by decide) (by decide) (fun T6 hp6 ia ga6 X6 eh6 Ex6 Ar6 => ?_)
  have ne_a_ia : a ≠ ia := fun q => absurd Ea4.lt (by rw [q, ga6]; exact Nat.lt_irrefl _)
  have nw_ia : n0 ≤ ia := by rw [ga6]; exact Z_4
  have Ea4_6 := Exa.ext Ex6 Ea4
  have Fd4_6 := Fld.ext Ex6 Fd4
  have F0_indices_6 := Fld.ext Ex6 F0_indices_4
  have F0_squaredDistances_6 := Fld.ext Ex6 F0_squaredDistances_4
  have F0_size_6 := Fld.ext Ex6 F0_size_4
  have F0_offered_6 := Fld.ext Ex6 F0_offered_4
  have Z_6 : n0 ≤ hp6.size := Nat.le_trans Z_4 Ex6.1
  have Ar6' : own_A Z hp6 ia .int [.int (0 : Int32), .int (0 : Int32)] := Ar6
  show own_Go p.tables e below _ (T6.setTop (mkF m 32 (Array.mk [.val (.ref a), .val (.int (2 : Int32))]) [.ref ia, .ref a]))
  refine own_putF X6 hx hZ hown (hw _ (List.mem_of_getElem? (i := 12) rfl)) eh6 F0_indices_6 Ea4_6 (Or.inr ⟨(hw _ (List.mem_of_getElem? (i := 13) rfl)), rfl, hnm⟩) (hw _ (List.mem_of_getElem? (i := 1) rfl)) (ty := (.array .int)) (by decide) rfl rfl (hb hby d1_32) (fun T7 hp7 X7 eh7 Wr7 Fd7 Ea7 => ?_)
  have Ar6'_7 := Ar6'.other Wr7 (Ne.symm ne_a_ia)
  have Fd4_7 := Fld.other Wr7 Fd4_6 (Or.inr (slot_ne (Or.inr (hw _ (List.mem_of_getElem? (i := 10) rfl))) (Or.inr (hw _ (List.mem_of_getElem? (i := 13) rfl))) (by decide) (t := .int) (t' := (.array .int)) (by decide) (by decide)))
  have F0_squaredDistances_7 := Fld.other Wr7 F0_squaredDistances_6 (Or.inr (slot_ne (Or.inr (hw _ (List.mem_of_getElem? (i := 16) rfl))) (Or.inr (hw _ (List.mem_of_getElem? (i := 13) rfl))) (by decide) (t := (.array .double)) (t' := (.array .int)) (by decide) (by decide)))
  have F0_size_7 := Fld.other Wr7 F0_size_6 (Or.inr (slot_ne (Or.inl (hw _ (List.mem_of_getElem? (i := 23) rfl))) (Or.inr (hw _ (List.mem_of_getElem? (i := 13) rfl))) (by decide) (t := .int) (t' := (.array .int)) (by decide) (by decide)))
  have F0_offered_7 := Fld.other Wr7 F0_offered_6 (Or.inr (slot_ne (Or.inl (hw _ (List.mem_of_getElem? (i := 32) rfl))) (Or.inr (hw _ (List.mem_of_getElem? (i := 13) rfl))) (by decide) (t := .long) (t' := (.array .int)) (by decide) (by decide)))
  have Nf7 := Fr.snoc X7 Nf4 na
  have Z_7 : n0 ≤ hp7.size := by rw [Wr.size Wr7]; exact Z_6
  refine own_blk dec1 seq1 hby hx hZ hown hK hF 2 [] [] X7 eh7 ?_
  show own_Aft X7 hp7 _ 37 [.val (.ref a), .val (.int (2 : Int32))] [.int (2 : Int32), .ref a]
  refine fun T8 X8 eh8 => ?_
  refine own_newP X8 hx hZ (hw _ (List.mem_of_getElem? (i := 14) rfl)) eh8 2 rfl (cap := 2) (by decide) (by decide) (hb hby d1_37) (by decide) (by decide) (fun T9 hp9 da ga9 X9 eh9 Ex9 Ar9 => ?_)
  have ne_ia_da : ia ≠ da := fun q => absurd Ar6'_7.lt (by rw [q, ga9]; exact Nat.lt_irrefl _)
  have ne_a_da : a ≠ da := fun q => absurd Ea7.lt (by rw [q, ga9]; exact Nat.lt_irrefl _)
  have nw_da : n0 ≤ da := by rw [ga9]; exact Z_7
  have Ar6'_9 := Ar6'_7.ext Ex9
  have Ea7_9 := Exa.ext Ex9 Ea7
  have Fd4_9 := Fld.ext Ex9 Fd4_7
  have Fd7_9 := Fld.ext Ex9 Fd7
  have F0_squaredDistances_9 := Fld.ext Ex9 F0_squaredDistances_7
  have F0_size_9 := Fld.ext Ex9 F0_size_7
  have F0_offered_9 := Fld.ext Ex9 F0_offered_7
  have Z_9 : n0 ≤ hp9.size := Nat.le_trans Z_7 Ex9.1
  have Ar9' : own_A Z hp9 da .double [.double 0, .double 0] := Ar9
  show own_Go p.tables e below _ (T9.setTop (mkF m 39 (Array.mk [.val (.ref a), .val (.int (2 : Int32))]) [.ref da, .ref a]))
  refine own_putF X9 hx hZ hown (hw _ (List.mem_of_getElem? (i := 15) rfl)) eh9 F0_squaredDistances_9 Ea7_9 (Or.inr ⟨(hw _ (List.mem_of_getElem? (i := 16) rfl)), rfl, hnm⟩) (hw _ (List.mem_of_getElem? (i := 1) rfl)) (ty := (.array .double)) (by decide) rfl rfl (hb hby d1_39) (fun T10 hp10 X10 eh10 Wr10 Fd10 Ea10 => ?_)
  have Ar6'_10 := Ar6'_9.other Wr10 (Ne.symm ne_a_ia)
  have Ar9'_10 := Ar9'.other Wr10 (Ne.symm ne_a_da)
  have Fd4_10 := Fld.other Wr10 Fd4_9 (Or.inr (slot_ne (Or.inr (hw _ (List.mem_of_getElem? (i := 10) rfl))) (Or.inr (hw _ (List.mem_of_getElem? (i := 16) rfl))) (by decide) (t := .int) (t' := (.array .double)) (by decide) (by decide)))
  have Fd7_10 := Fld.other Wr10 Fd7_9 (Or.inr (slot_ne (Or.inr (hw _ (List.mem_of_getElem? (i := 13) rfl))) (Or.inr (hw _ (List.mem_of_getElem? (i := 16) rfl))) (by decide) (t := (.array .int)) (t' := (.array .double)) (by decide) (by decide)))
  have F0_size_10 := Fld.other Wr10 F0_size_9 (Or.inr (slot_ne (Or.inl (hw _ (List.mem_of_getElem? (i := 23) rfl))) (Or.inr (hw _ (List.mem_of_getElem? (i := 16) rfl))) (by decide) (t := .int) (t' := (.array .double)) (by decide) (by decide)))
  have F0_offered_10 := Fld.other Wr10 F0_offered_9 (Or.inr (slot_ne (Or.inl (hw _ (List.mem_of_getElem? (i := 32) rfl))) (Or.inr (hw _ (List.mem_of_getElem? (i := 16) rfl))) (by decide) (t := .long) (t' := (.array .double)) (by decide) (by decide)))
  have Nf10 := Fr.snoc X10 Nf7 na
  have Z_10 : n0 ≤ hp10.size := by rw [Wr.size Wr10]; exact Z_9
  exact own_retV X10 hx hlk eh10 hret (hb hby d1_42) (by decide) (by decide) (⟨rfl, Nf10, Ea10, Fd4_10, F0_size_10, F0_offered_10, ia, da, Fd7_10, Fd10, Ar6'_10, Ar9'_10, nw_ia, nw_da, ne_ia_da, (Ne.symm ne_a_ia), (Ne.symm ne_a_da)⟩)
set_option maxRecDepth 65536 in
set_option maxHeartbeats 40000000 in
theorem rm1_3 (l : Launch) (Z : State) (a0 : Array Value) (hw : ∀ d ∈ tables_1, d.before a0 Z = true) (ws : List Jvm.Cond) (a : Addr) (h0 : Heap) (n0 : Nat) (Z0 : n0 ≤ h0.size) (E0 : Exa Z h0 a "org/axisfold/search/KNearest") (na : n0 ≤ a) (F0_capacity : Fld Z h0 a "org/axisfold/search/KNearest" "capacity" "I" (.int (0 : Int32))) (F0_indices : Fld Z h0 a "org/axisfold/search/KNearest" "indices" "[I" (.null)) (F0_squaredDistances : Fld Z h0 a "org/axisfold/search/KNearest" "squaredDistances" "[D" (.null)) (F0_size : Fld Z h0 a "org/axisfold/search/KNearest" "size" "I" (.int (0 : Int32))) (F0_offered : Fld Z h0 a "org/axisfold/search/KNearest" "offered" "J" (.long (0 : Int64))) :
    MetFree l (⟨"org/axisfold/search/KNearest", "<init>", "(I)V"⟩ : MethodName) (head1 (Jvm.Cond.code (⟨"org/axisfold/search/KNearest", "<init>", "(I)V"⟩ : MethodName) prog_40_method_1_code 2 none :: ws) ({ frames := 1, cells := 2, slots := 6, locals := 12 } : Room)) (fun as_ U => as_ = #[.ref a, .int (3 : Int32)] ∧ Z.Warmed39 U.vm ∧ U.heap = h0) (fun _ _ _ _ _ => True) (fun _ U o U' => own_Fin U ({ frames := 1, cells := 2, slots := 6, locals := 12 } : Room).cells ({ frames := 1, cells := 2, slots := 6, locals := 12 } : Room).slots (fun v h L => v = none ∧ Fr n0 L ∧ Exa Z h a "org/axisfold/search/KNearest" ∧ Fld Z h a "org/axisfold/search/KNearest" "capacity" "I" (.int (3 : Int32)) ∧ Fld Z h a "org/axisfold/search/KNearest" "size" "I" (.int (0 : Int32)) ∧ Fld Z h a "org/axisfold/search/KNearest" "offered" "J" (.long (0 : Int64)) ∧ ∃ ia da, Fld Z h a "org/axisfold/search/KNearest" "indices" "[I" (.ref ia) ∧ Fld Z h a "org/axisfold/search/KNearest" "squaredDistances" "[D" (.ref da) ∧ own_A Z h ia .int [.int (0 : Int32), .int (0 : Int32), .int (0 : Int32)] ∧ own_A Z h da .double [.double 0, .double 0, .double 0] ∧ n0 ≤ ia ∧ n0 ≤ da ∧ ia ≠ da ∧ ia ≠ a ∧ da ≠ a) o U') := by
  refine own_body pf1 (ls0 := [.val (.ref a), .val (.int (3 : Int32))]) (fun m => by first | (simp [entryFrame, mkF, argsToLocals, Value.category, maxLocals]; done) | rfl) ?_
  intro p e s m below meth c T0 hx hby hml hown hnm hlk hret hZ X0 e0
  have hK : own_ks "org/axisfold/search/KNearest" a0 Z kt1 := ⟨hw _ (List.mem_of_getElem? (i := 24) rfl), trivial⟩
  have hF : own_fs "org/axisfold/search/KNearest" a0 Z ft1 := ⟨hw _ (List.mem_of_getElem? (i := 9) rfl), hw _ (List.mem_of_getElem? (i := 12) rfl), hw _ (List.mem_of_getElem? (i := 15) rfl), hw _ (List.mem_of_getElem? (i := 22) rfl), hw _ (List.mem_of_getElem? (i := 31) rfl), trivial⟩
  have N0 := Fr.nil n0
  refine own_blk dec1 seq1 hby hx hZ hown hK hF 1 [] [] X0 e0 ?_
  show own_Aft X0 h0 _ 1 [.val (.ref a), .val (.int (3 : Int32))] [.ref a]
  refine fun T1 X1 eh1 => ?_
  refine own_initO X1 hx hZ hown (hw _ (List.mem_of_getElem? (i := 6) rfl)) (hw _ (List.mem_of_getElem? (i := 7) rfl)) (hw _ (List.mem_of_getElem? (i := 8) rfl)) eh1 (by rw [hml]; rfl) (hb hby d1_1) (by decide) 0 (Nat.le_of_eq rfl) (by decide) (fun T2 X2 eh2 => ?_)
  refine own_blk dec1 seq1 hby hx hZ hown hK hF 5 [true] [] X2 eh2 ?_
  show (((1 : Int32)).toInt ≤ ((3 : Int32)).toInt) ∧ own_Aft X2 h0 _ 25 [.val (.ref a), .val (.int (3 : Int32))] [.int (3 : Int32), .ref a]
  refine ⟨by decide, fun T3 X3 eh3 => ?_⟩
  refine own_putF X3 hx hZ hown (hw _ (List.mem_of_getElem? (i := 9) rfl)) eh3 F0_capacity E0 (Or.inr ⟨(hw _ (List.mem_of_getElem? (i := 10) rfl)), rfl, hnm⟩) (hw _ (List.mem_of_getElem? (i := 1) rfl)) (ty := .int) (by decide) rfl rfl (hb hby d1_25) (fun T4 hp4 X4 eh4 Wr4 Fd4 Ea4 => ?_)
  have F0_indices_4 := Fld.other Wr4 F0_indices (Or.inr (slot_ne (Or.inr (hw _ (List.mem_of_getElem? (i := 13) rfl))) (Or.inr (hw _ (List.mem_of_getElem? (i := 10) rfl))) (by decide) (t := (.array .int)) (t' := .int) (by decide) (by decide)))
  have F0_squaredDistances_4 := Fld.other Wr4 F0_squaredDistances (Or.inr (slot_ne (Or.inr (hw _ (List.mem_of_getElem? (i := 16) rfl))) (Or.inr (hw _ (List.mem_of_getElem? (i := 10) rfl))) (by decide) (t := (.array .double)) (t' := .int) (by decide) (by decide)))
  have F0_size_4 := Fld.other Wr4 F0_size (Or.inr (slot_ne (Or.inl (hw _ (List.mem_of_getElem? (i := 23) rfl))) (Or.inr (hw _ (List.mem_of_getElem? (i := 10) rfl))) (by decide) (t := .int) (t' := .int) (by decide) (by decide)))
  have F0_offered_4 := Fld.other Wr4 F0_offered (Or.inr (slot_ne (Or.inl (hw _ (List.mem_of_getElem? (i := 32) rfl))) (Or.inr (hw _ (List.mem_of_getElem? (i := 10) rfl))) (by decide) (t := .long) (t' := .int) (by decide) (by decide)))
  have Nf4 := Fr.snoc X4 N0 na
  have Z_4 : n0 ≤ hp4.size := by rw [Wr.size Wr4]; exact Z0
  refine own_blk dec1 seq1 hby hx hZ hown hK hF 2 [] [] X4 eh4 ?_
  show own_Aft X4 hp4 _ 30 [.val (.ref a), .val (.int (3 : Int32))] [.int (3 : Int32), .ref a]
  refine fun T5 X5 eh5 => ?_
  refine own_newP X5 hx hZ (hw _ (List.mem_of_getElem? (i := 11) rfl)) eh5 3 rfl (cap := 3) (by decide) (by decide) (hb hby d1_30) (by decide) (by decide) (fun T6 hp6 ia ga6 X6 eh6 Ex6 Ar6 => ?_)
  have ne_a_ia : a ≠ ia := fun q => absurd Ea4.lt (by rw [q, ga6]; exact Nat.lt_irrefl _)
  have nw_ia : n0 ≤ ia := by rw [ga6]; exact Z_4
  have Ea4_6 := Exa.ext Ex6 Ea4
  have Fd4_6 := Fld.ext Ex6 Fd4
  have F0_indices_6 := Fld.ext Ex6 F0_indices_4
  have F0_squaredDistances_6 := Fld.ext Ex6 F0_squaredDistances_4
  have F0_size_6 := Fld.ext Ex6 F0_size_4
  have F0_offered_6 := Fld.ext Ex6 F0_offered_4
  have Z_6 : n0 ≤ hp6.size := Nat.le_trans Z_4 Ex6.1
  have Ar6' : own_A Z hp6 ia .int [.int (0 : Int32), .int (0 : Int32), .int (0 : Int32)] := Ar6
  show own_Go p.tables e below _ (T6.setTop (mkF m 32 (Array.mk [.val (.ref a), .val (.int (3 : Int32))]) [.ref ia, .ref a]))
  refine own_putF X6 hx hZ hown (hw _ (List.mem_of_getElem? (i := 12) rfl)) eh6 F0_indices_6 Ea4_6 (Or.inr ⟨(hw _ (List.mem_of_getElem? (i := 13) rfl)), rfl, hnm⟩) (hw _ (List.mem_of_getElem? (i := 1) rfl)) (ty := (.array .int)) (by decide) rfl rfl (hb hby d1_32) (fun T7 hp7 X7 eh7 Wr7 Fd7 Ea7 => ?_)
  have Ar6'_7 := Ar6'.other Wr7 (Ne.symm ne_a_ia)
  have Fd4_7 := Fld.other Wr7 Fd4_6 (Or.inr (slot_ne (Or.inr (hw _ (List.mem_of_getElem? (i := 10) rfl))) (Or.inr (hw _ (List.mem_of_getElem? (i := 13) rfl))) (by decide) (t := .int) (t' := (.array .int)) (by decide) (by decide)))
  have F0_squaredDistances_7 := Fld.other Wr7 F0_squaredDistances_6 (Or.inr (slot_ne (Or.inr (hw _ (List.mem_of_getElem? (i := 16) rfl))) (Or.inr (hw _ (List.mem_of_getElem? (i := 13) rfl))) (by decide) (t := (.array .double)) (t' := (.array .int)) (by decide) (by decide)))
  have F0_size_7 := Fld.other Wr7 F0_size_6 (Or.inr (slot_ne (Or.inl (hw _ (List.mem_of_getElem? (i := 23) rfl))) (Or.inr (hw _ (List.mem_of_getElem? (i := 13) rfl))) (by decide) (t := .int) (t' := (.array .int)) (by decide) (by decide)))
  have F0_offered_7 := Fld.other Wr7 F0_offered_6 (Or.inr (slot_ne (Or.inl (hw _ (List.mem_of_getElem? (i := 32) rfl))) (Or.inr (hw _ (List.mem_of_getElem? (i := 13) rfl))) (by decide) (t := .long) (t' := (.array .int)) (by decide) (by decide)))
  have Nf7 := Fr.snoc X7 Nf4 na
  have Z_7 : n0 ≤ hp7.size := by rw [Wr.size Wr7]; exact Z_6
  refine own_blk dec1 seq1 hby hx hZ hown hK hF 2 [] [] X7 eh7 ?_
  show own_Aft X7 hp7 _ 37 [.val (.ref a), .val (.int (3 : Int32))] [.int (3 : Int32), .ref a]
  refine fun T8 X8 eh8 => ?_
  refine own_newP X8 hx hZ (hw _ (List.mem_of_getElem? (i := 14) rfl)) eh8 3 rfl (cap := 3) (by decide) (by decide) (hb hby d1_37) (by decide) (by decide) (fun T9 hp9 da ga9 X9 eh9 Ex9 Ar9 => ?_)
  have ne_ia_da : ia ≠ da := fun q => absurd Ar6'_7.lt (by rw [q, ga9]; exact Nat.lt_irrefl _)
  have ne_a_da : a ≠ da := fun q => absurd Ea7.lt (by rw [q, ga9]; exact Nat.lt_irrefl _)
  have nw_da : n0 ≤ da := by rw [ga9]; exact Z_7
  have Ar6'_9 := Ar6'_7.ext Ex9
  have Ea7_9 := Exa.ext Ex9 Ea7
  have Fd4_9 := Fld.ext Ex9 Fd4_7
  have Fd7_9 := Fld.ext Ex9 Fd7
  have F0_squaredDistances_9 := Fld.ext Ex9 F0_squaredDistances_7
  have F0_size_9 := Fld.ext Ex9 F0_size_7
  have F0_offered_9 := Fld.ext Ex9 F0_offered_7
  have Z_9 : n0 ≤ hp9.size := Nat.le_trans Z_7 Ex9.1
  have Ar9' : own_A Z hp9 da .double [.double 0, .double 0, .double 0] := Ar9
  show own_Go p.tables e below _ (T9.setTop (mkF m 39 (Array.mk [.val (.ref a), .val (.int (3 : Int32))]) [.ref da, .ref a]))
  refine own_putF X9 hx hZ hown (hw _ (List.mem_of_getElem? (i := 15) rfl)) eh9 F0_squaredDistances_9 Ea7_9 (Or.inr ⟨(hw _ (List.mem_of_getElem? (i := 16) rfl)), rfl, hnm⟩) (hw _ (List.mem_of_getElem? (i := 1) rfl)) (ty := (.array .double)) (by decide) rfl rfl (hb hby d1_39) (fun T10 hp10 X10 eh10 Wr10 Fd10 Ea10 => ?_)
  have Ar6'_10 := Ar6'_9.other Wr10 (Ne.symm ne_a_ia)
  have Ar9'_10 := Ar9'.other Wr10 (Ne.symm ne_a_da)
  have Fd4_10 := Fld.other Wr10 Fd4_9 (Or.inr (slot_ne (Or.inr (hw _ (List.mem_of_getElem? (i := 10) rfl))) (Or.inr (hw _ (List.mem_of_getElem? (i := 16) rfl))) (by decide) (t := .int) (t' := (.array .double)) (by decide) (by decide)))
  have Fd7_10 := Fld.other Wr10 Fd7_9 (Or.inr (slot_ne (Or.inr (hw _ (List.mem_of_getElem? (i := 13) rfl))) (Or.inr (hw _ (List.mem_of_getElem? (i := 16) rfl))) (by decide) (t := (.array .int)) (t' := (.array .double)) (by decide) (by decide)))
  have F0_size_10 := Fld.other Wr10 F0_size_9 (Or.inr (slot_ne (Or.inl (hw _ (List.mem_of_getElem? (i := 23) rfl))) (Or.inr (hw _ (List.mem_of_getElem? (i := 16) rfl))) (by decide) (t := .int) (t' := (.array .double)) (by decide) (by decide)))
  have F0_offered_10 := Fld.other Wr10 F0_offered_9 (Or.inr (slot_ne (Or.inl (hw _ (List.mem_of_getElem? (i := 32) rfl))) (Or.inr (hw _ (List.mem_of_getElem? (i := 16) rfl))) (by decide) (t := .long) (t' := (.array .double)) (by decide) (by decide)))
  have Nf10 := Fr.snoc X10 Nf7 na
  have Z_10 : n0 ≤ hp10.size := by rw [Wr.size Wr10]; exact Z_9
  exact own_retV X10 hx hlk eh10 hret (hb hby d1_42) (by decide) (by decide) (⟨rfl, Nf10, Ea10, Fd4_10, F0_size_10, F0_offered_10, ia, da, Fd7_10, Fd10, Ar6'_10, Ar9'_10, nw_ia, nw_da, ne_ia_da, (Ne.symm ne_a_ia), (Ne.symm ne_a_da)⟩)
set_option maxRecDepth 65536 in
set_option maxHeartbeats 40000000 in
theorem rm1_4 (l : Launch) (Z : State) (a0 : Array Value) (hw : ∀ d ∈ tables_1, d.before a0 Z = true) (ws : List Jvm.Cond) (a : Addr) (h0 : Heap) (n0 : Nat) (Z0 : n0 ≤ h0.size) (E0 : Exa Z h0 a "org/axisfold/search/KNearest") (na : n0 ≤ a) (F0_capacity : Fld Z h0 a "org/axisfold/search/KNearest" "capacity" "I" (.int (0 : Int32))) (F0_indices : Fld Z h0 a "org/axisfold/search/KNearest" "indices" "[I" (.null)) (F0_squaredDistances : Fld Z h0 a "org/axisfold/search/KNearest" "squaredDistances" "[D" (.null)) (F0_size : Fld Z h0 a "org/axisfold/search/KNearest" "size" "I" (.int (0 : Int32))) (F0_offered : Fld Z h0 a "org/axisfold/search/KNearest" "offered" "J" (.long (0 : Int64))) :
    MetFree l (⟨"org/axisfold/search/KNearest", "<init>", "(I)V"⟩ : MethodName) (head1 (Jvm.Cond.code (⟨"org/axisfold/search/KNearest", "<init>", "(I)V"⟩ : MethodName) prog_40_method_1_code 2 none :: ws) ({ frames := 1, cells := 2, slots := 8, locals := 12 } : Room)) (fun as_ U => as_ = #[.ref a, .int (4 : Int32)] ∧ Z.Warmed39 U.vm ∧ U.heap = h0) (fun _ _ _ _ _ => True) (fun _ U o U' => own_Fin U ({ frames := 1, cells := 2, slots := 8, locals := 12 } : Room).cells ({ frames := 1, cells := 2, slots := 8, locals := 12 } : Room).slots (fun v h L => v = none ∧ Fr n0 L ∧ Exa Z h a "org/axisfold/search/KNearest" ∧ Fld Z h a "org/axisfold/search/KNearest" "capacity" "I" (.int (4 : Int32)) ∧ Fld Z h a "org/axisfold/search/KNearest" "size" "I" (.int (0 : Int32)) ∧ Fld Z h a "org/axisfold/search/KNearest" "offered" "J" (.long (0 : Int64)) ∧ ∃ ia da, Fld Z h a "org/axisfold/search/KNearest" "indices" "[I" (.ref ia) ∧ Fld Z h a "org/axisfold/search/KNearest" "squaredDistances" "[D" (.ref da) ∧ own_A Z h ia .int [.int (0 : Int32), .int (0 : Int32), .int (0 : Int32), .int (0 : Int32)] ∧ own_A Z h da .double [.double 0, .double 0, .double 0, .double 0] ∧ n0 ≤ ia ∧ n0 ≤ da ∧ ia ≠ da ∧ ia ≠ a ∧ da ≠ a) o U') := by
  refine own_body pf1 (ls0 := [.val (.ref a), .val (.int (4 : Int32))]) (fun m => by first | (simp [entryFrame, mkF, argsToLocals, Value.category, maxLocals]; done) | rfl) ?_
  intro p e s m below meth c T0 hx hby hml hown hnm hlk hret hZ X0 e0
  have hK : own_ks "org/axisfold/search/KNearest" a0 Z kt1 := ⟨hw _ (List.mem_of_getElem? (i := 24) rfl), trivial⟩
  have hF : own_fs "org/axisfold/search/KNearest" a0 Z ft1 := ⟨hw _ (List.mem_of_getElem? (i := 9) rfl), hw _ (List.mem_of_getElem? (i := 12) rfl), hw _ (List.mem_of_getElem? (i := 15) rfl), hw _ (List.mem_of_getElem? (i := 22) rfl), hw _ (List.mem_of_getElem? (i := 31) rfl), trivial⟩
  have N0 := Fr.nil n0
  refine own_blk dec1 seq1 hby hx hZ hown hK hF 1 [] [] X0 e0 ?_
  show own_Aft X0 h0 _ 1 [.val (.ref a), .val (.int (4 : Int32))] [.ref a]
  refine fun T1 X1 eh1 => ?_
  refine own_initO X1 hx hZ hown (hw _ (List.mem_of_getElem? (i := 6) rfl)) (hw _ (List.mem_of_getElem? (i := 7) rfl)) (hw _ (List.mem_of_getElem? (i := 8) rfl)) eh1 (by rw [hml]; rfl) (hb hby d1_1) (by decide) 0 (Nat.le_of_eq rfl) (by decide) (fun T2 X2 eh2 => ?_)
  refine own_blk dec1 seq1 hby hx hZ hown hK hF 5 [true] [] X2 eh2 ?_
  show (((1 : Int32)).toInt ≤ ((4 : Int32)).toInt) ∧ own_Aft X2 h0 _ 25 [.val (.ref a), .val (.int (4 : Int32))] [.int (4 : Int32), .ref a]
  refine ⟨by decide, fun T3 X3 eh3 => ?_⟩
  refine own_putF X3 hx hZ hown (hw _ (List.mem_of_getElem? (i := 9) rfl)) eh3 F0_capacity E0 (Or.inr ⟨(hw _ (List.mem_of_getElem? (i := 10) rfl)), rfl, hnm⟩) (hw _ (List.mem_of_getElem? (i := 1) rfl)) (ty := .int) (by decide) rfl rfl (hb hby d1_25) (fun T4 hp4 X4 eh4 Wr4 Fd4 Ea4 => ?_)
  have F0_indices_4 := Fld.other Wr4 F0_indices (Or.inr (slot_ne (Or.inr (hw _ (List.mem_of_getElem? (i := 13) rfl))) (Or.inr (hw _ (List.mem_of_getElem? (i := 10) rfl))) (by decide) (t := (.array .int)) (t' := .int) (by decide) (by decide)))
  have F0_squaredDistances_4 := Fld.other Wr4 F0_squaredDistances (Or.inr (slot_ne (Or.inr (hw _ (List.mem_of_getElem? (i := 16) rfl))) (Or.inr (hw _ (List.mem_of_getElem? (i := 10) rfl))) (by decide) (t := (.array .double)) (t' := .int) (by decide) (by decide)))
  have F0_size_4 := Fld.other Wr4 F0_size (Or.inr (slot_ne (Or.inl (hw _ (List.mem_of_getElem? (i := 23) rfl))) (Or.inr (hw _ (List.mem_of_getElem? (i := 10) rfl))) (by decide) (t := .int) (t' := .int) (by decide) (by decide)))
  have F0_offered_4 := Fld.other Wr4 F0_offered (Or.inr (slot_ne (Or.inl (hw _ (List.mem_of_getElem? (i := 32) rfl))) (Or.inr (hw _ (List.mem_of_getElem? (i := 10) rfl))) (by decide) (t := .long) (t' := .int) (by decide) (by decide)))
  have Nf4 := Fr.snoc X4 N0 na
  have Z_4 : n0 ≤ hp4.size := by rw [Wr.size Wr4]; exact Z0
  refine own_blk dec1 seq1 hby hx hZ hown hK hF 2 [] [] X4 eh4 ?_
  show own_Aft X4 hp4 _ 30 [.val (.ref a), .val (.int (4 : Int32))] [.int (4 : Int32), .ref a]
  refine fun T5 X5 eh5 => ?_
  refine own_newP X5 hx hZ (hw _ (List.mem_of_getElem? (i := 11) rfl)) eh5 4 rfl (cap := 4) (by decide) (by decide) (hb hby d1_30) (by decide) (by decide) (fun T6 hp6 ia ga6 X6 eh6 Ex6 Ar6 => ?_)
  have ne_a_ia : a ≠ ia := fun q => absurd Ea4.lt (by rw [q, ga6]; exact Nat.lt_irrefl _)
  have nw_ia : n0 ≤ ia := by rw [ga6]; exact Z_4
  have Ea4_6 := Exa.ext Ex6 Ea4
  have Fd4_6 := Fld.ext Ex6 Fd4
  have F0_indices_6 := Fld.ext Ex6 F0_indices_4
  have F0_squaredDistances_6 := Fld.ext Ex6 F0_squaredDistances_4
  have F0_size_6 := Fld.ext Ex6 F0_size_4
  have F0_offered_6 := Fld.ext Ex6 F0_offered_4
  have Z_6 : n0 ≤ hp6.size := Nat.le_trans Z_4 Ex6.1
  have Ar6' : own_A Z hp6 ia .int [.int (0 : Int32), .int (0 : Int32), .int (0 : Int32), .int (0 : Int32)] := Ar6
  show own_Go p.tables e below _ (T6.setTop (mkF m 32 (Array.mk [.val (.ref a), .val (.int (4 : Int32))]) [.ref ia, .ref a]))
  refine own_putF X6 hx hZ hown (hw _ (List.mem_of_getElem? (i := 12) rfl)) eh6 F0_indices_6 Ea4_6 (Or.inr ⟨(hw _ (List.mem_of_getElem? (i := 13) rfl)), rfl, hnm⟩) (hw _ (List.mem_of_getElem? (i := 1) rfl)) (ty := (.array .int)) (by decide) rfl rfl (hb hby d1_32) (fun T7 hp7 X7 eh7 Wr7 Fd7 Ea7 => ?_)
  have Ar6'_7 := Ar6'.other Wr7 (Ne.symm ne_a_ia)
  have Fd4_7 := Fld.other Wr7 Fd4_6 (Or.inr (slot_ne (Or.inr (hw _ (List.mem_of_getElem? (i := 10) rfl))) (Or.inr (hw _ (List.mem_of_getElem? (i := 13) rfl))) (by decide) (t := .int) (t' := (.array .int)) (by decide) (by decide)))
  have F0_squaredDistances_7 := Fld.other Wr7 F0_squaredDistances_6 (Or.inr (slot_ne (Or.inr (hw _ (List.mem_of_getElem? (i := 16) rfl))) (Or.inr (hw _ (List.mem_of_getElem? (i := 13) rfl))) (by decide) (t := (.array .double)) (t' := (.array .int)) (by decide) (by decide)))
  have F0_size_7 := Fld.other Wr7 F0_size_6 (Or.inr (slot_ne (Or.inl (hw _ (List.mem_of_getElem? (i := 23) rfl))) (Or.inr (hw _ (List.mem_of_getElem? (i := 13) rfl))) (by decide) (t := .int) (t' := (.array .int)) (by decide) (by decide)))
  have F0_offered_7 := Fld.other Wr7 F0_offered_6 (Or.inr (slot_ne (Or.inl (hw _ (List.mem_of_getElem? (i := 32) rfl))) (Or.inr (hw _ (List.mem_of_getElem? (i := 13) rfl))) (by decide) (t := .long) (t' := (.array .int)) (by decide) (by decide)))
  have Nf7 := Fr.snoc X7 Nf4 na
  have Z_7 : n0 ≤ hp7.size := by rw [Wr.size Wr7]; exact Z_6
  refine own_blk dec1 seq1 hby hx hZ hown hK hF 2 [] [] X7 eh7 ?_
  show own_Aft X7 hp7 _ 37 [.val (.ref a), .val (.int (4 : Int32))] [.int (4 : Int32), .ref a]
  refine fun T8 X8 eh8 => ?_
  refine own_newP X8 hx hZ (hw _ (List.mem_of_getElem? (i := 14) rfl)) eh8 4 rfl (cap := 4) (by decide) (by decide) (hb hby d1_37) (by decide) (by decide) (fun T9 hp9 da ga9 X9 eh9 Ex9 Ar9 => ?_)
  have ne_ia_da : ia ≠ da := fun q => absurd Ar6'_7.lt (by rw [q, ga9]; exact Nat.lt_irrefl _)
  have ne_a_da : a ≠ da := fun q => absurd Ea7.lt (by rw [q, ga9]; exact Nat.lt_irrefl _)
  have nw_da : n0 ≤ da := by rw [ga9]; exact Z_7
  have Ar6'_9 := Ar6'_7.ext Ex9
  have Ea7_9 := Exa.ext Ex9 Ea7
  have Fd4_9 := Fld.ext Ex9 Fd4_7
  have Fd7_9 := Fld.ext Ex9 Fd7
  have F0_squaredDistances_9 := Fld.ext Ex9 F0_squaredDistances_7
  have F0_size_9 := Fld.ext Ex9 F0_size_7
  have F0_offered_9 := Fld.ext Ex9 F0_offered_7
  have Z_9 : n0 ≤ hp9.size := Nat.le_trans Z_7 Ex9.1
  have Ar9' : own_A Z hp9 da .double [.double 0, .double 0, .double 0, .double 0] := Ar9
  show own_Go p.tables e below _ (T9.setTop (mkF m 39 (Array.mk [.val (.ref a), .val (.int (4 : Int32))]) [.ref da, .ref a]))
  refine own_putF X9 hx hZ hown (hw _ (List.mem_of_getElem? (i := 15) rfl)) eh9 F0_squaredDistances_9 Ea7_9 (Or.inr ⟨(hw _ (List.mem_of_getElem? (i := 16) rfl)), rfl, hnm⟩) (hw _ (List.mem_of_getElem? (i := 1) rfl)) (ty := (.array .double)) (by decide) rfl rfl (hb hby d1_39) (fun T10 hp10 X10 eh10 Wr10 Fd10 Ea10 => ?_)
  have Ar6'_10 := Ar6'_9.other Wr10 (Ne.symm ne_a_ia)
  have Ar9'_10 := Ar9'.other Wr10 (Ne.symm ne_a_da)
  have Fd4_10 := Fld.other Wr10 Fd4_9 (Or.inr (slot_ne (Or.inr (hw _ (List.mem_of_getElem? (i := 10) rfl))) (Or.inr (hw _ (List.mem_of_getElem? (i := 16) rfl))) (by decide) (t := .int) (t' := (.array .double)) (by decide) (by decide)))
  have Fd7_10 := Fld.other Wr10 Fd7_9 (Or.inr (slot_ne (Or.inr (hw _ (List.mem_of_getElem? (i := 13) rfl))) (Or.inr (hw _ (List.mem_of_getElem? (i := 16) rfl))) (by decide) (t := (.array .int)) (t' := (.array .double)) (by decide) (by decide)))
  have F0_size_10 := Fld.other Wr10 F0_size_9 (Or.inr (slot_ne (Or.inl (hw _ (List.mem_of_getElem? (i := 23) rfl))) (Or.inr (hw _ (List.mem_of_getElem? (i := 16) rfl))) (by decide) (t := .int) (t' := (.array .double)) (by decide) (by decide)))
  have F0_offered_10 := Fld.other Wr10 F0_offered_9 (Or.inr (slot_ne (Or.inl (hw _ (List.mem_of_getElem? (i := 32) rfl))) (Or.inr (hw _ (List.mem_of_getElem? (i := 16) rfl))) (by decide) (t := .long) (t' := (.array .double)) (by decide) (by decide)))
  have Nf10 := Fr.snoc X10 Nf7 na
  have Z_10 : n0 ≤ hp10.size := by rw [Wr.size Wr10]; exact Z_9
  exact own_retV X10 hx hlk eh10 hret (hb hby d1_42) (by decide) (by decide) (⟨rfl, Nf10, Ea10, Fd4_10, F0_size_10, F0_offered_10, ia, da, Fd7_10, Fd10, Ar6'_10, Ar9'_10, nw_ia, nw_da, ne_ia_da, (Ne.symm ne_a_ia), (Ne.symm ne_a_da)⟩)
set_option maxRecDepth 65536 in
set_option maxHeartbeats 40000000 in
theorem rm4_1_0 (l : Launch) (Z : State) (a0 : Array Value) (hw : ∀ d ∈ tables_1, d.before a0 Z = true) (ws : List Jvm.Cond) (a ia da : Addr) (o : Int64) (ix : Int32) (x : UInt64) (b : Int) (h0 : Heap) (n0 : Nat) (Z0 : n0 ≤ h0.size) (na : n0 ≤ a) (nia : ia ≠ a) (nda : da ≠ a) (EX : Exa Z h0 a "org/axisfold/search/KNearest") (Fo : Fld Z h0 a "org/axisfold/search/KNearest" "offered" "J" (.long o)) (Fs : Fld Z h0 a "org/axisfold/search/KNearest" "size" "I" (.int (0 : Int32))) (Fc : Fld Z h0 a "org/axisfold/search/KNearest" "capacity" "I" (.int (1 : Int32))) (Fi : Fld Z h0 a "org/axisfold/search/KNearest" "indices" "[I" (.ref ia)) (Fd : Fld Z h0 a "org/axisfold/search/KNearest" "squaredDistances" "[D" (.ref da)) (ni : n0 ≤ ia) (nd : n0 ≤ da) (ne_ : ia ≠ da) (A1 : own_A Z h0 ia .int [.int (0 : Int32)]) (A2 : own_A Z h0 da .double [.double 0]) (Dx : own_D 0 b x) :
    MetFree l (⟨"org/axisfold/search/KNearest", "offer", "(ID)V"⟩ : MethodName) (head1 (Jvm.Cond.code (⟨"org/axisfold/search/KNearest", "offer", "(ID)V"⟩ : MethodName) prog_40_method_4_code 4 none :: ws) ({ frames := 2, cells := 0, slots := 0, locals := 64 } : Room)) (fun as_ U => as_ = #[.ref a, .int ix, .double x] ∧ Z.Warmed39 U.vm ∧ U.heap = h0) (fun _ _ _ _ _ => True) (fun _ U o U' => own_Fin U ({ frames := 2, cells := 0, slots := 0, locals := 64 } : Room).cells ({ frames := 2, cells := 0, slots := 0, locals := 64 } : Room).slots (fun v h L => v = none ∧ Fr n0 L ∧ (∃ o', Exa Z h a "org/axisfold/search/KNearest" ∧ Fld Z h a "org/axisfold/search/KNearest" "offered" "J" (.long o') ∧ Fld Z h a "org/axisfold/search/KNearest" "size" "I" (.int (1 : Int32)) ∧ Fld Z h a "org/axisfold/search/KNearest" "capacity" "I" (.int (1 : Int32)) ∧ Fld Z h a "org/axisfold/search/KNearest" "indices" "[I" (.ref ia) ∧ Fld Z h a "org/axisfold/search/KNearest" "squaredDistances" "[D" (.ref da)) ∧ ∃ (j0' : Int32) (z0 : UInt64) (c0 : Int), own_A Z h ia .int [.int j0'] ∧ own_A Z h da .double [.double z0] ∧ own_D 0 c0 z0 ∧ ((c0 = b))) o U') := by
  refine own_body pf4 (ls0 := [.val (.ref a), .val (.int ix), .val (.double x), .second]) (fun m => by first | (simp [entryFrame, mkF, argsToLocals, Value.category, maxLocals]; done) | rfl) ?_
  intro p e s m below meth c T0 hx hby hml hown hnm hlk hret hZ X0 e0
  have hK : own_ks "org/axisfold/search/KNearest" a0 Z kt4 := ⟨hw _ (List.mem_of_getElem? (i := 24) rfl), trivial⟩
  have hF : own_fs "org/axisfold/search/KNearest" a0 Z ft4 := ⟨hw _ (List.mem_of_getElem? (i := 9) rfl), hw _ (List.mem_of_getElem? (i := 12) rfl), hw _ (List.mem_of_getElem? (i := 15) rfl), hw _ (List.mem_of_getElem? (i := 22) rfl), hw _ (List.mem_of_getElem? (i := 31) rfl), trivial⟩
  have N0 := Fr.nil n0
  refine own_blk dec4 seq4 hby hx hZ hown hK hF 5 [] [.long o] X0 e0 ?_
  show (Fld Z h0 a "org/axisfold/search/KNearest" "offered" "J" (.long o)) ∧ own_Aft X0 h0 _ 7 [.val (.ref a), .val (.int ix), .val (.double x), .second] [.long (o + (1 : Int64)), .ref a]
  refine ⟨Fo, fun T1 X1 eh1 => ?_⟩
  refine own_putF X1 hx hZ hown (hw _ (List.mem_of_getElem? (i := 31) rfl)) eh1 Fo EX (Or.inl (hw _ (List.mem_of_getElem? (i := 32) rfl))) (hw _ (List.mem_of_getElem? (i := 1) rfl)) (ty := .long) (by decide) rfl rfl (hb hby d4_7) (fun T2 hp2 X2 eh2 Wr2 Fd2 Ea2 => ?_)
  have A1_2 := A1.other Wr2 nia
  have A2_2 := A2.other Wr2 nda
  have Fs_2 := Fld.other Wr2 Fs (Or.inr (slot_ne (Or.inl (hw _ (List.mem_of_getElem? (i := 23) rfl))) (Or.inl (hw _ (List.mem_of_getElem? (i := 32) rfl))) (by decide) (t := .int) (t' := .long) (by decide) (by decide)))
  have Fc_2 := Fld.other Wr2 Fc (Or.inr (slot_ne (Or.inr (hw _ (List.mem_of_getElem? (i := 10) rfl))) (Or.inl (hw _ (List.mem_of_getElem? (i := 32) rfl))) (by decide) (t := .int) (t' := .long) (by decide) (by decide)))
  have Fi_2 := Fld.other Wr2 Fi (Or.inr (slot_ne (Or.inr (hw _ (List.mem_of_getElem? (i := 13) rfl))) (Or.inl (hw _ (List.mem_of_getElem? (i := 32) rfl))) (by decide) (t := (.array .int)) (t' := .long) (by decide) (by decide)))
  have Fd_2 := Fld.other Wr2 Fd (Or.inr (slot_ne (Or.inr (hw _ (List.mem_of_getElem? (i := 16) rfl))) (Or.inl (hw _ (List.mem_of_getElem? (i := 32) rfl))) (by decide) (t := (.array .double)) (t' := .long) (by decide) (by decide)))
  have Nf2 := Fr.snoc X2 N0 na
  have Z_2 : n0 ≤ hp2.size := by rw [Wr.size Wr2]; exact Z0
  refine own_blk dec4 seq4 hby hx hZ hown hK hF 15 [false] [.int (0 : Int32), .int (1 : Int32), .ref ia, .ref da, .int (0 : Int32)] X2 eh2 ?_
  show (Fld Z hp2 a "org/axisfold/search/KNearest" "size" "I" (.int (0 : Int32))) ∧ (Fld Z hp2 a "org/axisfold/search/KNearest" "capacity" "I" (.int (1 : Int32))) ∧ (¬ (((1 : Int32)).toInt ≤ ((0 : Int32)).toInt)) ∧ (Fld Z hp2 a "org/axisfold/search/KNearest" "indices" "[I" (.ref ia)) ∧ (Fld Z hp2 a "org/axisfold/search/KNearest" "squaredDistances" "[D" (.ref da)) ∧ (Fld Z hp2 a "org/axisfold/search/KNearest" "size" "I" (.int (0 : Int32))) ∧ own_Aft X2 hp2 _ 37 [.val (.ref a), .val (.int ix), .val (.double x), .second] [.int (1 : Int32), .ref a, .int (0 : Int32), .ref da, .ref ia]
  refine ⟨Fs_2, Fc_2, by decide, Fi_2, Fd_2, Fs_2, fun T3 X3 eh3 => ?_⟩
  refine own_putF X3 hx hZ hown (hw _ (List.mem_of_getElem? (i := 22) rfl)) eh3 Fs_2 Ea2 (Or.inl (hw _ (List.mem_of_getElem? (i := 23) rfl))) (hw _ (List.mem_of_getElem? (i := 1) rfl)) (ty := .int) (by decide) rfl rfl (hb hby d4_37) (fun T4 hp4 X4 eh4 Wr4 Fd4 Ea4 => ?_)
  have A1_4 := A1_2.other Wr4 nia
  have A2_4 := A2_2.other Wr4 nda
  have Fd2_4 := Fld.other Wr4 Fd2 (Or.inr (slot_ne (Or.inl (hw _ (List.mem_of_getElem? (i := 32) rfl))) (Or.inl (hw _ (List.mem_of_getElem? (i := 23) rfl))) (by decide) (t := .long) (t' := .int) (by decide) (by decide)))
  have Fc_4 := Fld.other Wr4 Fc_2 (Or.inr (slot_ne (Or.inr (hw _ (List.mem_of_getElem? (i := 10) rfl))) (Or.inl (hw _ (List.mem_of_getElem? (i := 23) rfl))) (by decide) (t := .int) (t' := .int) (by decide) (by decide)))
  have Fi_4 := Fld.other Wr4 Fi_2 (Or.inr (slot_ne (Or.inr (hw _ (List.mem_of_getElem? (i := 13) rfl))) (Or.inl (hw _ (List.mem_of_getElem? (i := 23) rfl))) (by decide) (t := (.array .int)) (t' := .int) (by decide) (by decide)))
  have Fd_4 := Fld.other Wr4 Fd_2 (Or.inr (slot_ne (Or.inr (hw _ (List.mem_of_getElem? (i := 16) rfl))) (Or.inl (hw _ (List.mem_of_getElem? (i := 23) rfl))) (by decide) (t := (.array .double)) (t' := .int) (by decide) (by decide)))
  have Nf4 := Fr.snoc X4 Nf2 na
  have Z_4 : n0 ≤ hp4.size := by rw [Wr.size Wr4]; exact Z_2
  refine own_blk dec4 seq4 hby hx hZ hown hK hF 2 [] [] X4 eh4 ?_
  show own_Aft X4 hp4 _ 42 [.val (.ref a), .val (.int ix), .val (.double x), .second] [.double x, .int ix, .int (0 : Int32), .ref da, .ref ia]
  refine fun T5 X5 eh5 => ?_
  refine own_callS X5 hx hZ hown (hw _ (List.mem_of_getElem? (i := 33) rfl)) (hw _ (List.mem_of_getElem? (i := 34) rfl)) (hw _ (List.mem_of_getElem? (i := 35) rfl)) (hw _ (List.mem_of_getElem? (i := 36) rfl)) (by decide) eh5 [.ref ia, .ref da, .int (0 : Int32), .int ix, .double x] pd5 rfl (rm := ({ frames := 1, cells := 0, slots := 0, locals := 24 } : Room)) (rm5_1_0 l Z a0 hw [] ia da ix x b  hp4 n0 Z_4 ni nd ne_ A1_4 A2_4 Dx  ) (by rw [hml]; rfl) 0 rfl (Nat.le_of_eq rfl) (hb hby d4_42) (by decide) (by decide) (by decide) (by decide) (fun T6 rv6 Lc6 X6 qc6 => ?_)
  obtain ⟨rfl, Ms, KK, PP⟩ := qc6
  have nin : a ∉ [ia, da] := fun q => by rcases List.mem_cons.mp q with q | q; exact nia q.symm; exact nda (List.mem_singleton.mp q).symm
  have Fd2_k := Fld.keep Fd2_4 KK nin
  have Fd4_k := Fld.keep Fd4 KK nin
  have Fc_k := Fld.keep Fc_4 KK nin
  have Fi_k := Fld.keep Fi_4 KK nin
  have Fd_k := Fld.keep Fd_4 KK nin
  have EX_k := Exa.keep Ea4 KK
  have Nk := Fr.app Nf4 Ms
  show own_Go p.tables e below _ (T6.setTop (mkF m 45 (Array.mk [.val (.ref a), .val (.int ix), .val (.double x), .second]) []))
  refine own_blk dec4 seq4 hby hx hZ hown hK hF 1 [] [] X6 rfl ?_
  show own_Aft X6 T6.heap _ 75 [.val (.ref a), .val (.int ix), .val (.double x), .second] []
  refine fun T7 X7 eh7 => ?_
  exact own_retV X7 hx hlk eh7 hret (hb hby d4_75) (by decide) (by decide) (⟨rfl, Nk, ⟨_, EX_k, Fd2_k, Fd4_k, Fc_k, Fi_k, Fd_k⟩, PP⟩)
set_option maxRecDepth 65536 in
set_option maxHeartbeats 40000000 in
theorem rm4_1_1 (l : Launch) (Z : State) (a0 : Array Value) (hw : ∀ d ∈ tables_1, d.before a0 Z = true) (ws : List Jvm.Cond) (a ia da : Addr) (o : Int64) (ix : Int32) (x : UInt64) (b : Int) (j0 : Int32) (y0 : UInt64) (f0 : Int) (h0 : Heap) (n0 : Nat) (Z0 : n0 ≤ h0.size) (na : n0 ≤ a) (nia : ia ≠ a) (nda : da ≠ a) (EX : Exa Z h0 a "org/axisfold/search/KNearest") (Fo : Fld Z h0 a "org/axisfold/search/KNearest" "offered" "J" (.long o)) (Fs : Fld Z h0 a "org/axisfold/search/KNearest" "size" "I" (.int (1 : Int32))) (Fc : Fld Z h0 a "org/axisfold/search/KNearest" "capacity" "I" (.int (1 : Int32))) (Fi : Fld Z h0 a "org/axisfold/search/KNearest" "indices" "[I" (.ref ia)) (Fd : Fld Z h0 a "org/axisfold/search/KNearest" "squaredDistances" "[D" (.ref da)) (ni : n0 ≤ ia) (nd : n0 ≤ da) (ne_ : ia ≠ da) (A1 : own_A Z h0 ia .int [.int j0]) (A2 : own_A Z h0 da .double [.double y0]) (Dx : own_D 0 b x) (D0 : own_D 0 f0 y0) :
    MetFree l (⟨"org/axisfold/search/KNearest", "offer", "(ID)V"⟩ : MethodName) (head1 (Jvm.Cond.code (⟨"org/axisfold/search/KNearest", "offer", "(ID)V"⟩ : MethodName) prog_40_method_4_code 4 none :: ws) ({ frames := 2, cells := 0, slots := 0, locals := 64 } : Room)) (fun as_ U => as_ = #[.ref a, .int ix, .double x] ∧ Z.Warmed39 U.vm ∧ U.heap = h0) (fun _ _ _ _ _ => True) (fun _ U o U' => own_Fin U ({ frames := 2, cells := 0, slots := 0, locals := 64 } : Room).cells ({ frames := 2, cells := 0, slots := 0, locals := 64 } : Room).slots (fun v h L => v = none ∧ Fr n0 L ∧ (∃ o', Exa Z h a "org/axisfold/search/KNearest" ∧ Fld Z h a "org/axisfold/search/KNearest" "offered" "J" (.long o') ∧ Fld Z h a "org/axisfold/search/KNearest" "size" "I" (.int (1 : Int32)) ∧ Fld Z h a "org/axisfold/search/KNearest" "capacity" "I" (.int (1 : Int32)) ∧ Fld Z h a "org/axisfold/search/KNearest" "indices" "[I" (.ref ia) ∧ Fld Z h a "org/axisfold/search/KNearest" "squaredDistances" "[D" (.ref da)) ∧ ∃ (j0' : Int32) (z0 : UInt64) (c0 : Int), own_A Z h ia .int [.int j0'] ∧ own_A Z h da .double [.double z0] ∧ own_D 0 c0 z0 ∧ ((f0 ≤ b ∧ c0 = f0) ∨ (b ≤ f0 ∧ c0 = b))) o U') := by
  refine own_body pf4 (ls0 := [.val (.ref a), .val (.int ix), .val (.double x), .second]) (fun m => by first | (simp [entryFrame, mkF, argsToLocals, Value.category, maxLocals]; done) | rfl) ?_
  intro p e s m below meth c T0 hx hby hml hown hnm hlk hret hZ X0 e0
  have hK : own_ks "org/axisfold/search/KNearest" a0 Z kt4 := ⟨hw _ (List.mem_of_getElem? (i := 24) rfl), trivial⟩
  have hF : own_fs "org/axisfold/search/KNearest" a0 Z ft4 := ⟨hw _ (List.mem_of_getElem? (i := 9) rfl), hw _ (List.mem_of_getElem? (i := 12) rfl), hw _ (List.mem_of_getElem? (i := 15) rfl), hw _ (List.mem_of_getElem? (i := 22) rfl), hw _ (List.mem_of_getElem? (i := 31) rfl), trivial⟩
  have N0 := Fr.nil n0
  refine own_blk dec4 seq4 hby hx hZ hown hK hF 5 [] [.long o] X0 e0 ?_
  show (Fld Z h0 a "org/axisfold/search/KNearest" "offered" "J" (.long o)) ∧ own_Aft X0 h0 _ 7 [.val (.ref a), .val (.int ix), .val (.double x), .second] [.long (o + (1 : Int64)), .ref a]
  refine ⟨Fo, fun T1 X1 eh1 => ?_⟩
  refine own_putF X1 hx hZ hown (hw _ (List.mem_of_getElem? (i := 31) rfl)) eh1 Fo EX (Or.inl (hw _ (List.mem_of_getElem? (i := 32) rfl))) (hw _ (List.mem_of_getElem? (i := 1) rfl)) (ty := .long) (by decide) rfl rfl (hb hby d4_7) (fun T2 hp2 X2 eh2 Wr2 Fd2 Ea2 => ?_)
  have A1_2 := A1.other Wr2 nia
  have A2_2 := A2.other Wr2 nda
  have Fs_2 := Fld.other Wr2 Fs (Or.inr (slot_ne (Or.inl (hw _ (List.mem_of_getElem? (i := 23) rfl))) (Or.inl (hw _ (List.mem_of_getElem? (i := 32) rfl))) (by decide) (t := .int) (t' := .long) (by decide) (by decide)))
  have Fc_2 := Fld.other Wr2 Fc (Or.inr (slot_ne (Or.inr (hw _ (List.mem_of_getElem? (i := 10) rfl))) (Or.inl (hw _ (List.mem_of_getElem? (i := 32) rfl))) (by decide) (t := .int) (t' := .long) (by decide) (by decide)))
  have Fi_2 := Fld.other Wr2 Fi (Or.inr (slot_ne (Or.inr (hw _ (List.mem_of_getElem? (i := 13) rfl))) (Or.inl (hw _ (List.mem_of_getElem? (i := 32) rfl))) (by decide) (t := (.array .int)) (t' := .long) (by decide) (by decide)))
  have Fd_2 := Fld.other Wr2 Fd (Or.inr (slot_ne (Or.inr (hw _ (List.mem_of_getElem? (i := 16) rfl))) (Or.inl (hw _ (List.mem_of_getElem? (i := 32) rfl))) (by decide) (t := (.array .double)) (t' := .long) (by decide) (by decide)))
  have Nf2 := Fr.snoc X2 N0 na
  have Z_2 : n0 ≤ hp2.size := by rw [Wr.size Wr2]; exact Z0
  refine own_blk dec4 seq4 hby hx hZ hown hK hF 8 [true] [.int (1 : Int32), .int (1 : Int32)] X2 eh2 ?_
  show (Fld Z hp2 a "org/axisfold/search/KNearest" "size" "I" (.int (1 : Int32))) ∧ (Fld Z hp2 a "org/axisfold/search/KNearest" "capacity" "I" (.int (1 : Int32))) ∧ (((1 : Int32)).toInt ≤ ((1 : Int32)).toInt) ∧ own_Aft X2 hp2 _ 51 [.val (.ref a), .val (.int ix), .val (.double x), .second] [.double x, .int ix, .ref a]
  refine ⟨Fs_2, Fc_2, by decide, fun T3 X3 eh3 => ?_⟩
  refine own_callVP X3 hx hZ hown (hw _ (List.mem_of_getElem? (i := 49) rfl)) (hw _ (List.mem_of_getElem? (i := 50) rfl)) (hw _ (List.mem_of_getElem? (i := 52) rfl)) (hw _ (List.mem_of_getElem? (i := 51) rfl)) (hw _ (List.mem_of_getElem? (i := 2) rfl)) (hw _ (List.mem_of_getElem? (i := 53) rfl)) (by decide) eh3 Ea2 [.int ix, .double x] pd9 rfl (fr := 1) (lo := 20) (rm9_1 l Z a0 hw [] a ia da ix x b f0 j0 y0 hp2 n0 Z_2 Fs_2 Fc_2 Fi_2 Fd_2 A1_2 A2_2 Dx D0) (by rw [hml]; rfl) 0 rfl (Nat.le_of_eq rfl) (hb hby d4_51) (by decide) (by decide) (by decide) (by decide) (fun T4 rv4 X4 eh4 qc4 => ?_)
  obtain ⟨r, rfl, ho⟩ := qc4
  show own_Go p.tables e below _ (T4.setTop (mkF m 54 (Array.mk [.val (.ref a), .val (.int ix), .val (.double x), .second]) [.int r]))
  rcases ho with ⟨rfl, ho⟩ | ⟨rfl, ho⟩
  · skip
    show own_Go p.tables e below _ (T4.setTop (mkF m 54 (Array.mk [.val (.ref a), .val (.int ix), .val (.double x), .second]) [.int (1 : Int32)]))
    refine own_blk dec4 seq4 hby hx hZ hown hK hF 10 [false] [.ref ia, .ref da, .int (1 : Int32)] X4 eh4 ?_
    show (¬ (((1 : Int32)).toInt = 0)) ∧ (Fld Z hp2 a "org/axisfold/search/KNearest" "indices" "[I" (.ref ia)) ∧ (Fld Z hp2 a "org/axisfold/search/KNearest" "squaredDistances" "[D" (.ref da)) ∧ (Fld Z hp2 a "org/axisfold/search/KNearest" "size" "I" (.int (1 : Int32))) ∧ own_Aft X4 hp2 _ 72 [.val (.ref a), .val (.int ix), .val (.double x), .second] [.double x, .int ix, .int (1 : Int32), .int (0 : Int32), .ref da, .ref ia]
    refine ⟨by decide, Fi_2, Fd_2, Fs_2, fun T5 X5 eh5 => ?_⟩
    refine own_callS X5 hx hZ hown (hw _ (List.mem_of_getElem? (i := 55) rfl)) (hw _ (List.mem_of_getElem? (i := 56) rfl)) (hw _ (List.mem_of_getElem? (i := 35) rfl)) (hw _ (List.mem_of_getElem? (i := 57) rfl)) (by decide) eh5 [.ref ia, .ref da, .int (0 : Int32), .int (1 : Int32), .int ix, .double x] pd10 rfl (rm := ({ frames := 1, cells := 0, slots := 0, locals := 24 } : Room)) (rm10_1 l Z a0 hw [] ia da ix x b j0 y0 f0 hp2 n0 Z_2 ni nd ne_ A1_2 A2_2 Dx D0 ho) (by rw [hml]; rfl) 0 rfl (Nat.le_of_eq rfl) (hb hby d4_72) (by decide) (by decide) (by decide) (by decide) (fun T6 rv6 Lc6 X6 qc6 => ?_)
    obtain ⟨rfl, Ms, KK, PP⟩ := qc6
    have nin : a ∉ [ia, da] := fun q => by rcases List.mem_cons.mp q with q | q; exact nia q.symm; exact nda (List.mem_singleton.mp q).symm
    have Fd2_k := Fld.keep Fd2 KK nin
    have Fs_k := Fld.keep Fs_2 KK nin
    have Fc_k := Fld.keep Fc_2 KK nin
    have Fi_k := Fld.keep Fi_2 KK nin
    have Fd_k := Fld.keep Fd_2 KK nin
    have EX_k := Exa.keep Ea2 KK
    have Nk := Fr.app Nf2 Ms
    show own_Go p.tables e below _ (T6.setTop (mkF m 75 (Array.mk [.val (.ref a), .val (.int ix), .val (.double x), .second]) []))
    exact own_retV X6 hx hlk rfl hret (hb hby d4_75) (by decide) (by decide) (⟨rfl, Nk, ⟨_, EX_k, Fd2_k, Fs_k, Fc_k, Fi_k, Fd_k⟩, PP⟩)
  · skip
    show own_Go p.tables e below _ (T4.setTop (mkF m 54 (Array.mk [.val (.ref a), .val (.int ix), .val (.double x), .second]) [.int (0 : Int32)]))
    refine own_blk dec4 seq4 hby hx hZ hown hK hF 1 [true] [] X4 eh4 ?_
    show (((0 : Int32)).toInt = 0) ∧ own_Aft X4 hp2 _ 75 [.val (.ref a), .val (.int ix), .val (.double x), .second] []
    refine ⟨by decide, fun T7 X7 eh7 => ?_⟩
    exact own_retV X7 hx hlk eh7 hret (hb hby d4_75) (by decide) (by decide) (⟨rfl, Nf2, ⟨_, Ea2, Fd2, Fs_2, Fc_2, Fi_2, Fd_2⟩, ⟨_, _, _, A1_2, A2_2, D0, Or.inl (⟨ho, rfl⟩)⟩⟩)
set_option maxRecDepth 65536 in
set_option maxHeartbeats 40000000 in
theorem rm4_2_0 (l : Launch) (Z : State) (a0 : Array Value) (hw : ∀ d ∈ tables_1, d.before a0 Z = true) (ws : List Jvm.Cond) (a ia da : Addr) (o : Int64) (ix : Int32) (x : UInt64) (b : Int) (h0 : Heap) (n0 : Nat) (Z0 : n0 ≤ h0.size) (na : n0 ≤ a) (nia : ia ≠ a) (nda : da ≠ a) (EX : Exa Z h0 a "org/axisfold/search/KNearest") (Fo : Fld Z h0 a "org/axisfold/search/KNearest" "offered" "J" (.long o)) (Fs : Fld Z h0 a "org/axisfold/search/KNearest" "size" "I" (.int (0 : Int32))) (Fc : Fld Z h0 a "org/axisfold/search/KNearest" "capacity" "I" (.int (2 : Int32))) (Fi : Fld Z h0 a "org/axisfold/search/KNearest" "indices" "[I" (.ref ia)) (Fd : Fld Z h0 a "org/axisfold/search/KNearest" "squaredDistances" "[D" (.ref da)) (ni : n0 ≤ ia) (nd : n0 ≤ da) (ne_ : ia ≠ da) (A1 : own_A Z h0 ia .int [.int (0 : Int32), .int (0 : Int32)]) (A2 : own_A Z h0 da .double [.double 0, .double 0]) (Dx : own_D 0 b x) :
    MetFree l (⟨"org/axisfold/search/KNearest", "offer", "(ID)V"⟩ : MethodName) (head1 (Jvm.Cond.code (⟨"org/axisfold/search/KNearest", "offer", "(ID)V"⟩ : MethodName) prog_40_method_4_code 4 none :: ws) ({ frames := 2, cells := 0, slots := 0, locals := 64 } : Room)) (fun as_ U => as_ = #[.ref a, .int ix, .double x] ∧ Z.Warmed39 U.vm ∧ U.heap = h0) (fun _ _ _ _ _ => True) (fun _ U o U' => own_Fin U ({ frames := 2, cells := 0, slots := 0, locals := 64 } : Room).cells ({ frames := 2, cells := 0, slots := 0, locals := 64 } : Room).slots (fun v h L => v = none ∧ Fr n0 L ∧ (∃ o', Exa Z h a "org/axisfold/search/KNearest" ∧ Fld Z h a "org/axisfold/search/KNearest" "offered" "J" (.long o') ∧ Fld Z h a "org/axisfold/search/KNearest" "size" "I" (.int (1 : Int32)) ∧ Fld Z h a "org/axisfold/search/KNearest" "capacity" "I" (.int (2 : Int32)) ∧ Fld Z h a "org/axisfold/search/KNearest" "indices" "[I" (.ref ia) ∧ Fld Z h a "org/axisfold/search/KNearest" "squaredDistances" "[D" (.ref da)) ∧ ∃ (j0' : Int32) (z0 : UInt64) (c0 : Int), own_A Z h ia .int [.int j0', .int (0 : Int32)] ∧ own_A Z h da .double [.double z0, .double 0] ∧ own_D 0 c0 z0 ∧ ((c0 = b))) o U') := by
  refine own_body pf4 (ls0 := [.val (.ref a), .val (.int ix), .val (.double x), .second]) (fun m => by first | (simp [entryFrame, mkF, argsToLocals, Value.category, maxLocals]; done) | rfl) ?_
  intro p e s m below meth c T0 hx hby hml hown hnm hlk hret hZ X0 e0
  have hK : own_ks "org/axisfold/search/KNearest" a0 Z kt4 := ⟨hw _ (List.mem_of_getElem? (i := 24) rfl), trivial⟩
  have hF : own_fs "org/axisfold/search/KNearest" a0 Z ft4 := ⟨hw _ (List.mem_of_getElem? (i := 9) rfl), hw _ (List.mem_of_getElem? (i := 12) rfl), hw _ (List.mem_of_getElem? (i := 15) rfl), hw _ (List.mem_of_getElem? (i := 22) rfl), hw _ (List.mem_of_getElem? (i := 31) rfl), trivial⟩
  have N0 := Fr.nil n0
  refine own_blk dec4 seq4 hby hx hZ hown hK hF 5 [] [.long o] X0 e0 ?_
  show (Fld Z h0 a "org/axisfold/search/KNearest" "offered" "J" (.long o)) ∧ own_Aft X0 h0 _ 7 [.val (.ref a), .val (.int ix), .val (.double x), .second] [.long (o + (1 : Int64)), .ref a]
  refine ⟨Fo, fun T1 X1 eh1 => ?_⟩
  refine own_putF X1 hx hZ hown (hw _ (List.mem_of_getElem? (i := 31) rfl)) eh1 Fo EX (Or.inl (hw _ (List.mem_of_getElem? (i := 32) rfl))) (hw _ (List.mem_of_getElem? (i := 1) rfl)) (ty := .long) (by decide) rfl rfl (hb hby d4_7) (fun T2 hp2 X2 eh2 Wr2 Fd2 Ea2 => ?_)
  have A1_2 := A1.other Wr2 nia
  have A2_2 := A2.other Wr2 nda
  have Fs_2 := Fld.other Wr2 Fs (Or.inr (slot_ne (Or.inl (hw _ (List.mem_of_getElem? (i := 23) rfl))) (Or.inl (hw _ (List.mem_of_getElem? (i := 32) rfl))) (by decide) (t := .int) (t' := .long) (by decide) (by decide)))
  have Fc_2 := Fld.other Wr2 Fc (Or.inr (slot_ne (Or.inr (hw _ (List.mem_of_getElem? (i := 10) rfl))) (Or.inl (hw _ (List.mem_of_getElem? (i := 32) rfl))) (by decide) (t := .int) (t' := .long) (by decide) (by decide)))
  have Fi_2 := Fld.other Wr2 Fi (Or.inr (slot_ne (Or.inr (hw _ (List.mem_of_getElem? (i := 13) rfl))) (Or.inl (hw _ (List.mem_of_getElem? (i := 32) rfl))) (by decide) (t := (.array .int)) (t' := .long) (by decide) (by decide)))
  have Fd_2 := Fld.other Wr2 Fd (Or.inr (slot_ne (Or.inr (hw _ (List.mem_of_getElem? (i := 16) rfl))) (Or.inl (hw _ (List.mem_of_getElem? (i := 32) rfl))) (by decide) (t := (.array .double)) (t' := .long) (by decide) (by decide)))
  have Nf2 := Fr.snoc X2 N0 na
  have Z_2 : n0 ≤ hp2.size := by rw [Wr.size Wr2]; exact Z0
  refine own_blk dec4 seq4 hby hx hZ hown hK hF 15 [false] [.int (0 : Int32), .int (2 : Int32), .ref ia, .ref da, .int (0 : Int32)] X2 eh2 ?_
  show (Fld Z hp2 a "org/axisfold/search/KNearest" "size" "I" (.int (0 : Int32))) ∧ (Fld Z hp2 a "org/axisfold/search/KNearest" "capacity" "I" (.int (2 : Int32))) ∧ (¬ (((2 : Int32)).toInt ≤ ((0 : Int32)).toInt)) ∧ (Fld Z hp2 a "org/axisfold/search/KNearest" "indices" "[I" (.ref ia)) ∧ (Fld Z hp2 a "org/axisfold/search/KNearest" "squaredDistances" "[D" (.ref da)) ∧ (Fld Z hp2 a "org/axisfold/search/KNearest" "size" "I" (.int (0 : Int32))) ∧ own_Aft X2 hp2 _ 37 [.val (.ref a), .val (.int ix), .val (.double x), .second] [.int (1 : Int32), .ref a, .int (0 : Int32), .ref da, .ref ia]
  refine ⟨Fs_2, Fc_2, by decide, Fi_2, Fd_2, Fs_2, fun T3 X3 eh3 => ?_⟩
  refine own_putF X3 hx hZ hown (hw _ (List.mem_of_getElem? (i := 22) rfl)) eh3 Fs_2 Ea2 (Or.inl (hw _ (List.mem_of_getElem? (i := 23) rfl))) (hw _ (List.mem_of_getElem? (i := 1) rfl)) (ty := .int) (by decide) rfl rfl (hb hby d4_37) (fun T4 hp4 X4 eh4 Wr4 Fd4 Ea4 => ?_)
  have A1_4 := A1_2.other Wr4 nia
  have A2_4 := A2_2.other Wr4 nda
  have Fd2_4 := Fld.other Wr4 Fd2 (Or.inr (slot_ne (Or.inl (hw _ (List.mem_of_getElem? (i := 32) rfl))) (Or.inl (hw _ (List.mem_of_getElem? (i := 23) rfl))) (by decide) (t := .long) (t' := .int) (by decide) (by decide)))
  have Fc_4 := Fld.other Wr4 Fc_2 (Or.inr (slot_ne (Or.inr (hw _ (List.mem_of_getElem? (i := 10) rfl))) (Or.inl (hw _ (List.mem_of_getElem? (i := 23) rfl))) (by decide) (t := .int) (t' := .int) (by decide) (by decide)))
  have Fi_4 := Fld.other Wr4 Fi_2 (Or.inr (slot_ne (Or.inr (hw _ (List.mem_of_getElem? (i := 13) rfl))) (Or.inl (hw _ (List.mem_of_getElem? (i := 23) rfl))) (by decide) (t := (.array .int)) (t' := .int) (by decide) (by decide)))
  have Fd_4 := Fld.other Wr4 Fd_2 (Or.inr (slot_ne (Or.inr (hw _ (List.mem_of_getElem? (i := 16) rfl))) (Or.inl (hw _ (List.mem_of_getElem? (i := 23) rfl))) (by decide) (t := (.array .double)) (t' := .int) (by decide) (by decide)))
  have Nf4 := Fr.snoc X4 Nf2 na
  have Z_4 : n0 ≤ hp4.size := by rw [Wr.size Wr4]; exact Z_2
  refine own_blk dec4 seq4 hby hx hZ hown hK hF 2 [] [] X4 eh4 ?_
  show own_Aft X4 hp4 _ 42 [.val (.ref a), .val (.int ix), .val (.double x), .second] [.double x, .int ix, .int (0 : Int32), .ref da, .ref ia]
  refine fun T5 X5 eh5 => ?_
  refine own_callS X5 hx hZ hown (hw _ (List.mem_of_getElem? (i := 33) rfl)) (hw _ (List.mem_of_getElem? (i := 34) rfl)) (hw _ (List.mem_of_getElem? (i := 35) rfl)) (hw _ (List.mem_of_getElem? (i := 36) rfl)) (by decide) eh5 [.ref ia, .ref da, .int (0 : Int32), .int ix, .double x] pd5 rfl (rm := ({ frames := 1, cells := 0, slots := 0, locals := 24 } : Room)) (rm5_2_0 l Z a0 hw [] ia da ix x b  hp4 n0 Z_4 ni nd ne_ A1_4 A2_4 Dx  ) (by rw [hml]; rfl) 0 rfl (Nat.le_of_eq rfl) (hb hby d4_42) (by decide) (by decide) (by decide) (by decide) (fun T6 rv6 Lc6 X6 qc6 => ?_)
  obtain ⟨rfl, Ms, KK, PP⟩ := qc6
  have nin : a ∉ [ia, da] := fun q => by rcases List.mem_cons.mp q with q | q; exact nia q.symm; exact nda (List.mem_singleton.mp q).symm
  have Fd2_k := Fld.keep Fd2_4 KK nin
  have Fd4_k := Fld.keep Fd4 KK nin
  have Fc_k := Fld.keep Fc_4 KK nin
  have Fi_k := Fld.keep Fi_4 KK nin
  have Fd_k := Fld.keep Fd_4 KK nin
  have EX_k := Exa.keep Ea4 KK
  have Nk := Fr.app Nf4 Ms
  show own_Go p.tables e below _ (T6.setTop (mkF m 45 (Array.mk [.val (.ref a), .val (.int ix), .val (.double x), .second]) []))
  refine own_blk dec4 seq4 hby hx hZ hown hK hF 1 [] [] X6 rfl ?_
  show own_Aft X6 T6.heap _ 75 [.val (.ref a), .val (.int ix), .val (.double x), .second] []
  refine fun T7 X7 eh7 => ?_
  exact own_retV X7 hx hlk eh7 hret (hb hby d4_75) (by decide) (by decide) (⟨rfl, Nk, ⟨_, EX_k, Fd2_k, Fd4_k, Fc_k, Fi_k, Fd_k⟩, PP⟩)
set_option maxRecDepth 65536 in
set_option maxHeartbeats 40000000 in
theorem rm4_2_1 (l : Launch) (Z : State) (a0 : Array Value) (hw : ∀ d ∈ tables_1, d.before a0 Z = true) (ws : List Jvm.Cond) (a ia da : Addr) (o : Int64) (ix : Int32) (x : UInt64) (b : Int) (j0 : Int32) (y0 : UInt64) (f0 : Int) (h0 : Heap) (n0 : Nat) (Z0 : n0 ≤ h0.size) (na : n0 ≤ a) (nia : ia ≠ a) (nda : da ≠ a) (EX : Exa Z h0 a "org/axisfold/search/KNearest") (Fo : Fld Z h0 a "org/axisfold/search/KNearest" "offered" "J" (.long o)) (Fs : Fld Z h0 a "org/axisfold/search/KNearest" "size" "I" (.int (1 : Int32))) (Fc : Fld Z h0 a "org/axisfold/search/KNearest" "capacity" "I" (.int (2 : Int32))) (Fi : Fld Z h0 a "org/axisfold/search/KNearest" "indices" "[I" (.ref ia)) (Fd : Fld Z h0 a "org/axisfold/search/KNearest" "squaredDistances" "[D" (.ref da)) (ni : n0 ≤ ia) (nd : n0 ≤ da) (ne_ : ia ≠ da) (A1 : own_A Z h0 ia .int [.int j0, .int (0 : Int32)]) (A2 : own_A Z h0 da .double [.double y0, .double 0]) (Dx : own_D 0 b x) (D0 : own_D 0 f0 y0) :
    MetFree l (⟨"org/axisfold/search/KNearest", "offer", "(ID)V"⟩ : MethodName) (head1 (Jvm.Cond.code (⟨"org/axisfold/search/KNearest", "offer", "(ID)V"⟩ : MethodName) prog_40_method_4_code 4 none :: ws) ({ frames := 2, cells := 0, slots := 0, locals := 64 } : Room)) (fun as_ U => as_ = #[.ref a, .int ix, .double x] ∧ Z.Warmed39 U.vm ∧ U.heap = h0) (fun _ _ _ _ _ => True) (fun _ U o U' => own_Fin U ({ frames := 2, cells := 0, slots := 0, locals := 64 } : Room).cells ({ frames := 2, cells := 0, slots := 0, locals := 64 } : Room).slots (fun v h L => v = none ∧ Fr n0 L ∧ (∃ o', Exa Z h a "org/axisfold/search/KNearest" ∧ Fld Z h a "org/axisfold/search/KNearest" "offered" "J" (.long o') ∧ Fld Z h a "org/axisfold/search/KNearest" "size" "I" (.int (2 : Int32)) ∧ Fld Z h a "org/axisfold/search/KNearest" "capacity" "I" (.int (2 : Int32)) ∧ Fld Z h a "org/axisfold/search/KNearest" "indices" "[I" (.ref ia) ∧ Fld Z h a "org/axisfold/search/KNearest" "squaredDistances" "[D" (.ref da)) ∧ ∃ (j0' j1' : Int32) (z0 z1 : UInt64) (c0 c1 : Int), own_A Z h ia .int [.int j0', .int j1'] ∧ own_A Z h da .double [.double z0, .double z1] ∧ own_D 0 c0 z0 ∧ own_D 0 c1 z1 ∧ ((b ≤ f0 ∧ c0 = f0 ∧ c1 = b) ∨ (f0 ≤ b ∧ c0 = b ∧ c1 = f0))) o U') := by
  refine own_body pf4 (ls0 := [.val (.ref a), .val (.int ix), .val (.double x), .second]) (fun m => by first | (simp [entryFrame, mkF, argsToLocals, Value.category, maxLocals]; done) | rfl) ?_
  intro p e s m below meth c T0 hx hby hml hown hnm hlk hret hZ X0 e0
  have hK : own_ks "org/axisfold/search/KNearest" a0 Z kt4 := ⟨hw _ (List.mem_of_getElem? (i := 24) rfl), trivial⟩
  have hF : own_fs "org/axisfold/search/KNearest" a0 Z ft4 := ⟨hw _ (List.mem_of_getElem? (i := 9) rfl), hw _ (List.mem_of_getElem? (i := 12) rfl), hw _ (List.mem_of_getElem? (i := 15) rfl), hw _ (List.mem_of_getElem? (i := 22) rfl), hw _ (List.mem_of_getElem? (i := 31) rfl), trivial⟩
  have N0 := Fr.nil n0
  refine own_blk dec4 seq4 hby hx hZ hown hK hF 5 [] [.long o] X0 e0 ?_
  show (Fld Z h0 a "org/axisfold/search/KNearest" "offered" "J" (.long o)) ∧ own_Aft X0 h0 _ 7 [.val (.ref a), .val (.int ix), .val (.double x), .second] [.long (o + (1 : Int64)), .ref a]
  refine ⟨Fo, fun T1 X1 eh1 => ?_⟩
  refine own_putF X1 hx hZ hown (hw _ (List.mem_of_getElem? (i := 31) rfl)) eh1 Fo EX (Or.inl (hw _ (List.mem_of_getElem? (i := 32) rfl))) (hw _ (List.mem_of_getElem? (i := 1) rfl)) (ty := .long) (by decide) rfl rfl (hb hby d4_7) (fun T2 hp2 X2 eh2 Wr2 Fd2 Ea2 => ?_)
  have A1_2 := A1.other Wr2 nia
  have A2_2 := A2.other Wr2 nda
  have Fs_2 := Fld.other Wr2 Fs (Or.inr (slot_ne (Or.inl (hw _ (List.mem_of_getElem? (i := 23) rfl))) (Or.inl (hw _ (List.mem_of_getElem? (i := 32) rfl))) (by decide) (t := .int) (t' := .long) (by decide) (by decide)))
  have Fc_2 := Fld.other Wr2 Fc (Or.inr (slot_ne (Or.inr (hw _ (List.mem_of_getElem? (i := 10) rfl))) (Or.inl (hw _ (List.mem_of_getElem? (i := 32) rfl))) (by decide) (t := .int) (t' := .long) (by decide) (by decide)))
  have Fi_2 := Fld.other Wr2 Fi (Or.inr (slot_ne (Or.inr (hw _ (List.mem_of_getElem? (i := 13) rfl))) (Or.inl (hw _ (List.mem_of_getElem? (i := 32) rfl))) (by decide) (t := (.array .int)) (t' := .long) (by decide) (by decide)))
  have Fd_2 := Fld.other Wr2 Fd (Or.inr (slot_ne (Or.inr (hw _ (List.mem_of_getElem? (i := 16) rfl))) (Or.inl (hw _ (List.mem_of_getElem? (i := 32) rfl))) (by decide) (t := (.array .double)) (t' := .long) (by decide) (by decide)))
  have Nf2 := Fr.snoc X2 N0 na
  have Z_2 : n0 ≤ hp2.size := by rw [Wr.size Wr2]; exact Z0
  refine own_blk dec4 seq4 hby hx hZ hown hK hF 15 [false] [.int (1 : Int32), .int (2 : Int32), .ref ia, .ref da, .int (1 : Int32)] X2 eh2 ?_
  show (Fld Z hp2 a "org/axisfold/search/KNearest" "size" "I" (.int (1 : Int32))) ∧ (Fld Z hp2 a "org/axisfold/search/KNearest" "capacity" "I" (.int (2 : Int32))) ∧ (¬ (((2 : Int32)).toInt ≤ ((1 : Int32)).toInt)) ∧ (Fld Z hp2 a "org/axisfold/search/KNearest" "indices" "[I" (.ref ia)) ∧ (Fld Z hp2 a "org/axisfold/search/KNearest" "squaredDistances" "[D" (.ref da)) ∧ (Fld Z hp2 a "org/axisfold/search/KNearest" "size" "I" (.int (1 : Int32))) ∧ own_Aft X2 hp2 _ 37 [.val (.ref a), .val (.int ix), .val (.double x), .second] [.int (2 : Int32), .ref a, .int (1 : Int32), .ref da, .ref ia]
  refine ⟨Fs_2, Fc_2, by decide, Fi_2, Fd_2, Fs_2, fun T3 X3 eh3 => ?_⟩
  refine own_putF X3 hx hZ hown (hw _ (List.mem_of_getElem? (i := 22) rfl)) eh3 Fs_2 Ea2 (Or.inl (hw _ (List.mem_of_getElem? (i := 23) rfl))) (hw _ (List.mem_of_getElem? (i := 1) rfl)) (ty := .int) (by decide) rfl rfl (hb hby d4_37) (fun T4 hp4 X4 eh4 Wr4 Fd4 Ea4 => ?_)
  have A1_4 := A1_2.other Wr4 nia
  have A2_4 := A2_2.other Wr4 nda
  have Fd2_4 := Fld.other Wr4 Fd2 (Or.inr (slot_ne (Or.inl (hw _ (List.mem_of_getElem? (i := 32) rfl))) (Or.inl (hw _ (List.mem_of_getElem? (i := 23) rfl))) (by decide) (t := .long) (t' := .int) (by decide) (by decide)))
  have Fc_4 := Fld.other Wr4 Fc_2 (Or.inr (slot_ne (Or.inr (hw _ (List.mem_of_getElem? (i := 10) rfl))) (Or.inl (hw _ (List.mem_of_getElem? (i := 23) rfl))) (by decide) (t := .int) (t' := .int) (by decide) (by decide)))
  have Fi_4 := Fld.other Wr4 Fi_2 (Or.inr (slot_ne (Or.inr (hw _ (List.mem_of_getElem? (i := 13) rfl))) (Or.inl (hw _ (List.mem_of_getElem? (i := 23) rfl))) (by decide) (t := (.array .int)) (t' := .int) (by decide) (by decide)))
  have Fd_4 := Fld.other Wr4 Fd_2 (Or.inr (slot_ne (Or.inr (hw _ (List.mem_of_getElem? (i := 16) rfl))) (Or.inl (hw _ (List.mem_of_getElem? (i := 23) rfl))) (by decide) (t := (.array .double)) (t' := .int) (by decide) (by decide)))
  have Nf4 := Fr.snoc X4 Nf2 na
  have Z_4 : n0 ≤ hp4.size := by rw [Wr.size Wr4]; exact Z_2
  refine own_blk dec4 seq4 hby hx hZ hown hK hF 2 [] [] X4 eh4 ?_
  show own_Aft X4 hp4 _ 42 [.val (.ref a), .val (.int ix), .val (.double x), .second] [.double x, .int ix, .int (1 : Int32), .ref da, .ref ia]
  refine fun T5 X5 eh5 => ?_
  refine own_callS X5 hx hZ hown (hw _ (List.mem_of_getElem? (i := 33) rfl)) (hw _ (List.mem_of_getElem? (i := 34) rfl)) (hw _ (List.mem_of_getElem? (i := 35) rfl)) (hw _ (List.mem_of_getElem? (i := 36) rfl)) (by decide) eh5 [.ref ia, .ref da, .int (1 : Int32), .int ix, .double x] pd5 rfl (rm := ({ frames := 1, cells := 0, slots := 0, locals := 24 } : Room)) (rm5_2_1 l Z a0 hw [] ia da ix x b j0 y0 f0 hp4 n0 Z_4 ni nd ne_ A1_4 A2_4 Dx D0 ) (by rw [hml]; rfl) 0 rfl (Nat.le_of_eq rfl) (hb hby d4_42) (by decide) (by decide) (by decide) (by decide) (fun T6 rv6 Lc6 X6 qc6 => ?_)
  obtain ⟨rfl, Ms, KK, PP⟩ := qc6
  have nin : a ∉ [ia, da] := fun q => by rcases List.mem_cons.mp q with q | q; exact nia q.symm; exact nda (List.mem_singleton.mp q).symm
  have Fd2_k := Fld.keep Fd2_4 KK nin
  have Fd4_k := Fld.keep Fd4 KK nin
  have Fc_k := Fld.keep Fc_4 KK nin
  have Fi_k := Fld.keep Fi_4 KK nin
  have Fd_k := Fld.keep Fd_4 KK nin
  have EX_k := Exa.keep Ea4 KK
  have Nk := Fr.app Nf4 Ms
  show own_Go p.tables e below _ (T6.setTop (mkF m 45 (Array.mk [.val (.ref a), .val (.int ix), .val (.double x), .second]) []))
  refine own_blk dec4 seq4 hby hx hZ hown hK hF 1 [] [] X6 rfl ?_
  show own_Aft X6 T6.heap _ 75 [.val (.ref a), .val (.int ix), .val (.double x), .second] []
  refine fun T7 X7 eh7 => ?_
  exact own_retV X7 hx hlk eh7 hret (hb hby d4_75) (by decide) (by decide) (⟨rfl, Nk, ⟨_, EX_k, Fd2_k, Fd4_k, Fc_k, Fi_k, Fd_k⟩, PP⟩)
set_option maxRecDepth 65536 in
set_option maxHeartbeats 40000000 in
theorem rm4_2_2 (l : Launch) (Z : State) (a0 : Array Value) (hw : ∀ d ∈ tables_1, d.before a0 Z = true) (ws : List Jvm.Cond) (a ia da : Addr) (o : Int64) (ix : Int32) (x : UInt64) (b : Int) (j0 j1 : Int32) (y0 y1 : UInt64) (f0 f1 : Int) (h0 : Heap) (n0 : Nat) (Z0 : n0 ≤ h0.size) (na : n0 ≤ a) (nia : ia ≠ a) (nda : da ≠ a) (EX : Exa Z h0 a "org/axisfold/search/KNearest") (Fo : Fld Z h0 a "org/axisfold/search/KNearest" "offered" "J" (.long o)) (Fs : Fld Z h0 a "org/axisfold/search/KNearest" "size" "I" (.int (2 : Int32))) (Fc : Fld Z h0 a "org/axisfold/search/KNearest" "capacity" "I" (.int (2 : Int32))) (Fi : Fld Z h0 a "org/axisfold/search/KNearest" "indices" "[I" (.ref ia)) (Fd : Fld Z h0 a "org/axisfold/search/KNearest" "squaredDistances" "[D" (.ref da)) (ni : n0 ≤ ia) (nd : n0 ≤ da) (ne_ : ia ≠ da) (A1 : own_A Z h0 ia .int [.int j0, .int j1]) (A2 : own_A Z h0 da .double [.double y0, .double y1]) (Dx : own_D 0 b x) (D0 : own_D 0 f0 y0) (D1 : own_D 0 f1 y1) :
    MetFree l (⟨"org/axisfold/search/KNearest", "offer", "(ID)V"⟩ : MethodName) (head1 (Jvm.Cond.code (⟨"org/axisfold/search/KNearest", "offer", "(ID)V"⟩ : MethodName) prog_40_method_4_code 4 none :: ws) ({ frames := 2, cells := 0, slots := 0, locals := 64 } : Room)) (fun as_ U => as_ = #[.ref a, .int ix, .double x] ∧ Z.Warmed39 U.vm ∧ U.heap = h0) (fun _ _ _ _ _ => True) (fun _ U o U' => own_Fin U ({ frames := 2, cells := 0, slots := 0, locals := 64 } : Room).cells ({ frames := 2, cells := 0, slots := 0, locals := 64 } : Room).slots (fun v h L => v = none ∧ Fr n0 L ∧ (∃ o', Exa Z h a "org/axisfold/search/KNearest" ∧ Fld Z h a "org/axisfold/search/KNearest" "offered" "J" (.long o') ∧ Fld Z h a "org/axisfold/search/KNearest" "size" "I" (.int (2 : Int32)) ∧ Fld Z h a "org/axisfold/search/KNearest" "capacity" "I" (.int (2 : Int32)) ∧ Fld Z h a "org/axisfold/search/KNearest" "indices" "[I" (.ref ia) ∧ Fld Z h a "org/axisfold/search/KNearest" "squaredDistances" "[D" (.ref da)) ∧ ∃ (j0' j1' : Int32) (z0 z1 : UInt64) (c0 c1 : Int), own_A Z h ia .int [.int j0', .int j1'] ∧ own_A Z h da .double [.double z0, .double z1] ∧ own_D 0 c0 z0 ∧ own_D 0 c1 z1 ∧ ((f0 ≤ b ∧ c0 = f0 ∧ c1 = f1) ∨ (b ≤ f0 ∧ b ≤ f1 ∧ c0 = f1 ∧ c1 = b) ∨ (b ≤ f0 ∧ f1 ≤ b ∧ c0 = b ∧ c1 = f1))) o U') := by
  refine own_body pf4 (ls0 := [.val (.ref a), .val (.int ix), .val (.double x), .second]) (fun m => by first | (simp [entryFrame, mkF, argsToLocals, Value.category, maxLocals]; done) | rfl) ?_
  intro p e s m below meth c T0 hx hby hml hown hnm hlk hret hZ X0 e0
  have hK : own_ks "org/axisfold/search/KNearest" a0 Z kt4 := ⟨hw _ (List.mem_of_getElem? (i := 24) rfl), trivial⟩
  have hF : own_fs "org/axisfold/search/KNearest" a0 Z ft4 := ⟨hw _ (List.mem_of_getElem? (i := 9) rfl), hw _ (List.mem_of_getElem? (i := 12) rfl), hw _ (List.mem_of_getElem? (i := 15) rfl), hw _ (List.mem_of_getElem? (i := 22) rfl), hw _ (List.mem_of_getElem? (i := 31) rfl), trivial⟩
  have N0 := Fr.nil n0
  refine own_blk dec4 seq4 hby hx hZ hown hK hF 5 [] [.long o] X0 e0 ?_
  show (Fld Z h0 a "org/axisfold/search/KNearest" "offered" "J" (.long o)) ∧ own_Aft X0 h0 _ 7 [.val (.ref a), .val (.int ix), .val (.double x), .second] [.long (o + (1 : Int64)), .ref a]
  refine ⟨Fo, fun T1 X1 eh1 => ?_⟩
  refine own_putF X1 hx hZ hown (hw _ (List.mem_of_getElem? (i := 31) rfl)) eh1 Fo EX (Or.inl (hw _ (List.mem_of_getElem? (i := 32) rfl))) (hw _ (List.mem_of_getElem? (i := 1) rfl)) (ty := .long) (by decide) rfl rfl (hb hby d4_7) (fun T2 hp2 X2 eh2 Wr2 Fd2 Ea2 => ?_)
  have A1_2 := A1.other Wr2 nia
  have A2_2 := A2.other Wr2 nda
  have Fs_2 := Fld.other Wr2 Fs (Or.inr (slot_ne (Or.inl (hw _ (List.mem_of_getElem? (i := 23) rfl))) (Or.inl (hw _ (List.mem_of_getElem? (i := 32) rfl))) (by decide) (t := .int) (t' := .long) (by decide) (by decide)))
  have Fc_2 := Fld.other Wr2 Fc (Or.inr (slot_ne (Or.inr (hw _ (List.mem_of_getElem? (i := 10) rfl))) (Or.inl (hw _ (List.mem_of_getElem? (i := 32) rfl))) (by decide) (t := .int) (t' := .long) (by decide) (by decide)))
  have Fi_2 := Fld.other Wr2 Fi (Or.inr (slot_ne (Or.inr (hw _ (List.mem_of_getElem? (i := 13) rfl))) (Or.inl (hw _ (List.mem_of_getElem? (i := 32) rfl))) (by decide) (t := (.array .int)) (t' := .long) (by decide) (by decide)))
  have Fd_2 := Fld.other Wr2 Fd (Or.inr (slot_ne (Or.inr (hw _ (List.mem_of_getElem? (i := 16) rfl))) (Or.inl (hw _ (List.mem_of_getElem? (i := 32) rfl))) (by decide) (t := (.array .double)) (t' := .long) (by decide) (by decide)))
  have Nf2 := Fr.snoc X2 N0 na
  have Z_2 : n0 ≤ hp2.size := by rw [Wr.size Wr2]; exact Z0
  refine own_blk dec4 seq4 hby hx hZ hown hK hF 8 [true] [.int (2 : Int32), .int (2 : Int32)] X2 eh2 ?_
  show (Fld Z hp2 a "org/axisfold/search/KNearest" "size" "I" (.int (2 : Int32))) ∧ (Fld Z hp2 a "org/axisfold/search/KNearest" "capacity" "I" (.int (2 : Int32))) ∧ (((2 : Int32)).toInt ≤ ((2 : Int32)).toInt) ∧ own_Aft X2 hp2 _ 51 [.val (.ref a), .val (.int ix), .val (.double x), .second] [.double x, .int ix, .ref a]
  refine ⟨Fs_2, Fc_2, by decide, fun T3 X3 eh3 => ?_⟩
  refine own_callVP X3 hx hZ hown (hw _ (List.mem_of_getElem? (i := 49) rfl)) (hw _ (List.mem_of_getElem? (i := 50) rfl)) (hw _ (List.mem_of_getElem? (i := 52) rfl)) (hw _ (List.mem_of_getElem? (i := 51) rfl)) (hw _ (List.mem_of_getElem? (i := 2) rfl)) (hw _ (List.mem_of_getElem? (i := 53) rfl)) (by decide) eh3 Ea2 [.int ix, .double x] pd9 rfl (fr := 1) (lo := 20) (rm9_2 l Z a0 hw [] a ia da ix x b f0 j0 j1 y0 y1 hp2 n0 Z_2 Fs_2 Fc_2 Fi_2 Fd_2 A1_2 A2_2 Dx D0) (by rw [hml]; rfl) 0 rfl (Nat.le_of_eq rfl) (hb hby d4_51) (by decide) (by decide) (by decide) (by decide) (fun T4 rv4 X4 eh4 qc4 => ?_)
  obtain ⟨r, rfl, ho⟩ := qc4
  show own_Go p.tables e below _ (T4.setTop (mkF m 54 (Array.mk [.val (.ref a), .val (.int ix), .val (.double x), .second]) [.int r]))
  rcases ho with ⟨rfl, ho⟩ | ⟨rfl, ho⟩
  · skip
    show own_Go p.tables e below _ (T4.setTop (mkF m 54 (Array.mk [.val (.ref a), .val (.int ix), .val (.double x), .second]) [.int (1 : Int32)]))
    refine own_blk dec4 seq4 hby hx hZ hown hK hF 10 [false] [.ref ia, .ref da, .int (2 : Int32)] X4 eh4 ?_
    show (¬ (((1 : Int32)).toInt = 0)) ∧ (Fld Z hp2 a "org/axisfold/search/KNearest" "indices" "[I" (.ref ia)) ∧ (Fld Z hp2 a "org/axisfold/search/KNearest" "squaredDistances" "[D" (.ref da)) ∧ (Fld Z hp2 a "org/axisfold/search/KNearest" "size" "I" (.int (2 : Int32))) ∧ own_Aft X4 hp2 _ 72 [.val (.ref a), .val (.int ix), .val (.double x), .second] [.double x, .int ix, .int (2 : Int32), .int (0 : Int32), .ref da, .ref ia]
    refine ⟨by decide, Fi_2, Fd_2, Fs_2, fun T5 X5 eh5 => ?_⟩
    refine own_callS X5 hx hZ hown (hw _ (List.mem_of_getElem? (i := 55) rfl)) (hw _ (List.mem_of_getElem? (i := 56) rfl)) (hw _ (List.mem_of_getElem? (i := 35) rfl)) (hw _ (List.mem_of_getElem? (i := 57) rfl)) (by decide) eh5 [.ref ia, .ref da, .int (0 : Int32), .int (2 : Int32), .int ix, .double x] pd10 rfl (rm := ({ frames := 1, cells := 0, slots := 0, locals := 24 } : Room)) (rm10_2 l Z a0 hw [] ia da ix x b j0 j1 y0 y1 f0 f1 hp2 n0 Z_2 ni nd ne_ A1_2 A2_2 Dx D0 D1 ho) (by rw [hml]; rfl) 0 rfl (Nat.le_of_eq rfl) (hb hby d4_72) (by decide) (by decide) (by decide) (by decide) (fun T6 rv6 Lc6 X6 qc6 => ?_)
    obtain ⟨rfl, Ms, KK, PP⟩ := qc6
    have nin : a ∉ [ia, da] := fun q => by rcases List.mem_cons.mp q with q | q; exact nia q.symm; exact nda (List.mem_singleton.mp q).symm
    have Fd2_k := Fld.keep Fd2 KK nin
    have Fs_k := Fld.keep Fs_2 KK nin
    have Fc_k := Fld.keep Fc_2 KK nin
    have Fi_k := Fld.keep Fi_2 KK nin
    have Fd_k := Fld.keep Fd_2 KK nin
    have EX_k := Exa.keep Ea2 KK
    have Nk := Fr.app Nf2 Ms
    show own_Go p.tables e below _ (T6.setTop (mkF m 75 (Array.mk [.val (.ref a), .val (.int ix), .val (.double x), .second]) []))
    exact own_retV X6 hx hlk rfl hret (hb hby d4_75) (by decide) (by decide) (⟨rfl, Nk, ⟨_, EX_k, Fd2_k, Fs_k, Fc_k, Fi_k, Fd_k⟩, PP⟩)
  · skip
    show own_Go p.tables e below _ (T4.setTop (mkF m 54 (Array.mk [.val (.ref a), .val (.int ix), .val (.double x), .second]) [.int (0 : Int32)]))
    refine own_blk dec4 seq4 hby hx hZ hown hK hF 1 [true] [] X4 eh4 ?_
    show (((0 : Int32)).toInt = 0) ∧ own_Aft X4 hp2 _ 75 [.val (.ref a), .val (.int ix), .val (.double x), .second] []
    refine ⟨by decide, fun T7 X7 eh7 => ?_⟩
    exact own_retV X7 hx hlk eh7 hret (hb hby d4_75) (by decide) (by decide) (⟨rfl, Nf2, ⟨_, Ea2, Fd2, Fs_2, Fc_2, Fi_2, Fd_2⟩, ⟨_, _, _, _, _, _, A1_2, A2_2, D0, D1, Or.inl (⟨ho, rfl, rfl⟩)⟩⟩)
set_option maxRecDepth 65536 in
set_option maxHeartbeats 40000000 in
theorem rm4_3_0 (l : Launch) (Z : State) (a0 : Array Value) (hw : ∀ d ∈ tables_1, d.before a0 Z = true) (ws : List Jvm.Cond) (a ia da : Addr) (o : Int64) (ix : Int32) (x : UInt64) (b : Int) (h0 : Heap) (n0 : Nat) (Z0 : n0 ≤ h0.size) (na : n0 ≤ a) (nia : ia ≠ a) (nda : da ≠ a) (EX : Exa Z h0 a "org/axisfold/search/KNearest") (Fo : Fld Z h0 a "org/axisfold/search/KNearest" "offered" "J" (.long o)) (Fs : Fld Z h0 a "org/axisfold/search/KNearest" "size" "I" (.int (0 : Int32))) (Fc : Fld Z h0 a "org/axisfold/search/KNearest" "capacity" "I" (.int (3 : Int32))) (Fi : Fld Z h0 a "org/axisfold/search/KNearest" "indices" "[I" (.ref ia)) (Fd : Fld Z h0 a "org/axisfold/search/KNearest" "squaredDistances" "[D" (.ref da)) (ni : n0 ≤ ia) (nd : n0 ≤ da) (ne_ : ia ≠ da) (A1 : own_A Z h0 ia .int [.int (0 : Int32), .int (0 : Int32), .int (0 : Int32)]) (A2 : own_A Z h0 da .double [.double 0, .double 0, .double 0]) (Dx : own_D 0 b x) :
    MetFree l (⟨"org/axisfold/search/KNearest", "offer", "(ID)V"⟩ : MethodName) (head1 (Jvm.Cond.code (⟨"org/axisfold/search/KNearest", "offer", "(ID)V"⟩ : MethodName) prog_40_method_4_code 4 none :: ws) ({ frames := 2, cells := 0, slots := 0, locals := 64 } : Room)) (fun as_ U => as_ = #[.ref a, .int ix, .double x] ∧ Z.Warmed39 U.vm ∧ U.heap = h0) (fun _ _ _ _ _ => True) (fun _ U o U' => own_Fin U ({ frames := 2, cells := 0, slots := 0, locals := 64 } : Room).cells ({ frames := 2, cells := 0, slots := 0, locals := 64 } : Room).slots (fun v h L => v = none ∧ Fr n0 L ∧ (∃ o', Exa Z h a "org/axisfold/search/KNearest" ∧ Fld Z h a "org/axisfold/search/KNearest" "offered" "J" (.long o') ∧ Fld Z h a "org/axisfold/search/KNearest" "size" "I" (.int (1 : Int32)) ∧ Fld Z h a "org/axisfold/search/KNearest" "capacity" "I" (.int (3 : Int32)) ∧ Fld Z h a "org/axisfold/search/KNearest" "indices" "[I" (.ref ia) ∧ Fld Z h a "org/axisfold/search/KNearest" "squaredDistances" "[D" (.ref da)) ∧ ∃ (j0' : Int32) (z0 : UInt64) (c0 : Int), own_A Z h ia .int [.int j0', .int (0 : Int32), .int (0 : Int32)] ∧ own_A Z h da .double [.double z0, .double 0, .double 0] ∧ own_D 0 c0 z0 ∧ ((c0 = b))) o U') := by
  refine own_body pf4 (ls0 := [.val (.ref a), .val (.int ix), .val (.double x), .second]) (fun m => by first | (simp [entryFrame, mkF, argsToLocals, Value.category, maxLocals]; done) | rfl) ?_
  intro p e s m below meth c T0 hx hby hml hown hnm hlk hret hZ X0 e0
  have hK : own_ks "org/axisfold/search/KNearest" a0 Z kt4 := ⟨hw _ (List.mem_of_getElem? (i := 24) rfl), trivial⟩
  have hF : own_fs "org/axisfold/search/KNearest" a0 Z ft4 := ⟨hw _ (List.mem_of_getElem? (i := 9) rfl), hw _ (List.mem_of_getElem? (i := 12) rfl), hw _ (List.mem_of_getElem? (i := 15) rfl), hw _ (List.mem_of_getElem? (i := 22) rfl), hw _ (List.mem_of_getElem? (i := 31) rfl), trivial⟩
  have N0 := Fr.nil n0
  refine own_blk dec4 seq4 hby hx hZ hown hK hF 5 [] [.long o] X0 e0 ?_
  show (Fld Z h0 a "org/axisfold/search/KNearest" "offered" "J" (.long o)) ∧ own_Aft X0 h0 _ 7 [.val (.ref a), .val (.int ix), .val (.double x), .second] [.long (o + (1 : Int64)), .ref a]
  refine ⟨Fo, fun T1 X1 eh1 => ?_⟩
  refine own_putF X1 hx hZ hown (hw _ (List.mem_of_getElem? (i := 31) rfl)) eh1 Fo EX (Or.inl (hw _ (List.mem_of_getElem? (i := 32) rfl))) (hw _ (List.mem_of_getElem? (i := 1) rfl)) (ty := .long) (by decide) rfl rfl (hb hby d4_7) (fun T2 hp2 X2 eh2 Wr2 Fd2 Ea2 => ?_)
  have A1_2 := A1.other Wr2 nia
  have A2_2 := A2.other Wr2 nda
  have Fs_2 := Fld.other Wr2 Fs (Or.inr (slot_ne (Or.inl (hw _ (List.mem_of_getElem? (i := 23) rfl))) (Or.inl (hw _ (List.mem_of_getElem? (i := 32) rfl))) (by decide) (t := .int) (t' := .long) (by decide) (by decide)))
  have Fc_2 := Fld.other Wr2 Fc (Or.inr (slot_ne (Or.inr (hw _ (List.mem_of_getElem? (i := 10) rfl))) (Or.inl (hw _ (List.mem_of_getElem? (i := 32) rfl))) (by decide) (t := .int) (t' := .long) (by decide) (by decide)))
  have Fi_2 := Fld.other Wr2 Fi (Or.inr (slot_ne (Or.inr (hw _ (List.mem_of_getElem? (i := 13) rfl))) (Or.inl (hw _ (List.mem_of_getElem? (i := 32) rfl))) (by decide) (t := (.array .int)) (t' := .long) (by decide) (by decide)))
  have Fd_2 := Fld.other Wr2 Fd (Or.inr (slot_ne (Or.inr (hw _ (List.mem_of_getElem? (i := 16) rfl))) (Or.inl (hw _ (List.mem_of_getElem? (i := 32) rfl))) (by decide) (t := (.array .double)) (t' := .long) (by decide) (by decide)))
  have Nf2 := Fr.snoc X2 N0 na
  have Z_2 : n0 ≤ hp2.size := by rw [Wr.size Wr2]; exact Z0
  refine own_blk dec4 seq4 hby hx hZ hown hK hF 15 [false] [.int (0 : Int32), .int (3 : Int32), .ref ia, .ref da, .int (0 : Int32)] X2 eh2 ?_
  show (Fld Z hp2 a "org/axisfold/search/KNearest" "size" "I" (.int (0 : Int32))) ∧ (Fld Z hp2 a "org/axisfold/search/KNearest" "capacity" "I" (.int (3 : Int32))) ∧ (¬ (((3 : Int32)).toInt ≤ ((0 : Int32)).toInt)) ∧ (Fld Z hp2 a "org/axisfold/search/KNearest" "indices" "[I" (.ref ia)) ∧ (Fld Z hp2 a "org/axisfold/search/KNearest" "squaredDistances" "[D" (.ref da)) ∧ (Fld Z hp2 a "org/axisfold/search/KNearest" "size" "I" (.int (0 : Int32))) ∧ own_Aft X2 hp2 _ 37 [.val (.ref a), .val (.int ix), .val (.double x), .second] [.int (1 : Int32), .ref a, .int (0 : Int32), .ref da, .ref ia]
  refine ⟨Fs_2, Fc_2, by decide, Fi_2, Fd_2, Fs_2, fun T3 X3 eh3 => ?_⟩
  refine own_putF X3 hx hZ hown (hw _ (List.mem_of_getElem? (i := 22) rfl)) eh3 Fs_2 Ea2 (Or.inl (hw _ (List.mem_of_getElem? (i := 23) rfl))) (hw _ (List.mem_of_getElem? (i := 1) rfl)) (ty := .int) (by decide) rfl rfl (hb hby d4_37) (fun T4 hp4 X4 eh4 Wr4 Fd4 Ea4 => ?_)
  have A1_4 := A1_2.other Wr4 nia
  have A2_4 := A2_2.other Wr4 nda
  have Fd2_4 := Fld.other Wr4 Fd2 (Or.inr (slot_ne (Or.inl (hw _ (List.mem_of_getElem? (i := 32) rfl))) (Or.inl (hw _ (List.mem_of_getElem? (i := 23) rfl))) (by decide) (t := .long) (t' := .int) (by decide) (by decide)))
  have Fc_4 := Fld.other Wr4 Fc_2 (Or.inr (slot_ne (Or.inr (hw _ (List.mem_of_getElem? (i := 10) rfl))) (Or.inl (hw _ (List.mem_of_getElem? (i := 23) rfl))) (by decide) (t := .int) (t' := .int) (by decide) (by decide)))
  have Fi_4 := Fld.other Wr4 Fi_2 (Or.inr (slot_ne (Or.inr (hw _ (List.mem_of_getElem? (i := 13) rfl))) (Or.inl (hw _ (List.mem_of_getElem? (i := 23) rfl))) (by decide) (t := (.array .int)) (t' := .int) (by decide) (by decide)))
  have Fd_4 := Fld.other Wr4 Fd_2 (Or.inr (slot_ne (Or.inr (hw _ (List.mem_of_getElem? (i := 16) rfl))) (Or.inl (hw _ (List.mem_of_getElem? (i := 23) rfl))) (by decide) (t := (.array .double)) (t' := .int) (by decide) (by decide)))
  have Nf4 := Fr.snoc X4 Nf2 na
  have Z_4 : n0 ≤ hp4.size := by rw [Wr.size Wr4]; exact Z_2
  refine own_blk dec4 seq4 hby hx hZ hown hK hF 2 [] [] X4 eh4 ?_
  show own_Aft X4 hp4 _ 42 [.val (.ref a), .val (.int ix), .val (.double x), .second] [.double x, .int ix, .int (0 : Int32), .ref da, .ref ia]
  refine fun T5 X5 eh5 => ?_
  refine own_callS X5 hx hZ hown (hw _ (List.mem_of_getElem? (i := 33) rfl)) (hw _ (List.mem_of_getElem? (i := 34) rfl)) (hw _ (List.mem_of_getElem? (i := 35) rfl)) (hw _ (List.mem_of_getElem? (i := 36) rfl)) (by decide) eh5 [.ref ia, .ref da, .int (0 : Int32), .int ix, .double x] pd5 rfl (rm := ({ frames := 1, cells := 0, slots := 0, locals := 24 } : Room)) (rm5_3_0 l Z a0 hw [] ia da ix x b  hp4 n0 Z_4 ni nd ne_ A1_4 A2_4 Dx  ) (by rw [hml]; rfl) 0 rfl (Nat.le_of_eq rfl) (hb hby d4_42) (by decide) (by decide) (by decide) (by decide) (fun T6 rv6 Lc6 X6 qc6 => ?_)
  obtain ⟨rfl, Ms, KK, PP⟩ := qc6
  have nin : a ∉ [ia, da] := fun q => by rcases List.mem_cons.mp q with q | q; exact nia q.symm; exact nda (List.mem_singleton.mp q).symm
  have Fd2_k := Fld.keep Fd2_4 KK nin
  have Fd4_k := Fld.keep Fd4 KK nin
  have Fc_k := Fld.keep Fc_4 KK nin
  have Fi_k := Fld.keep Fi_4 KK nin
  have Fd_k := Fld.keep Fd_4 KK nin
  have EX_k := Exa.keep Ea4 KK
  have Nk := Fr.app Nf4 Ms
  show own_Go p.tables e below _ (T6.setTop (mkF m 45 (Array.mk [.val (.ref a), .val (.int ix), .val (.double x), .second]) []))
  refine own_blk dec4 seq4 hby hx hZ hown hK hF 1 [] [] X6 rfl ?_
  show own_Aft X6 T6.heap _ 75 [.val (.ref a), .val (.int ix), .val (.double x), .second] []
  refine fun T7 X7 eh7 => ?_
  exact own_retV X7 hx hlk eh7 hret (hb hby d4_75) (by decide) (by decide) (⟨rfl, Nk, ⟨_, EX_k, Fd2_k, Fd4_k, Fc_k, Fi_k, Fd_k⟩, PP⟩)
set_option maxRecDepth 65536 in
set_option maxHeartbeats 40000000 in
theorem rm4_3_1 (l : Launch) (Z : State) (a0 : Array Value) (hw : ∀ d ∈ tables_1, d.before a0 Z = true) (ws : List Jvm.Cond) (a ia da : Addr) (o : Int64) (ix : Int32) (x : UInt64) (b : Int) (j0 : Int32) (y0 : UInt64) (f0 : Int) (h0 : Heap) (n0 : Nat) (Z0 : n0 ≤ h0.size) (na : n0 ≤ a) (nia : ia ≠ a) (nda : da ≠ a) (EX : Exa Z h0 a "org/axisfold/search/KNearest") (Fo : Fld Z h0 a "org/axisfold/search/KNearest" "offered" "J" (.long o)) (Fs : Fld Z h0 a "org/axisfold/search/KNearest" "size" "I" (.int (1 : Int32))) (Fc : Fld Z h0 a "org/axisfold/search/KNearest" "capacity" "I" (.int (3 : Int32))) (Fi : Fld Z h0 a "org/axisfold/search/KNearest" "indices" "[I" (.ref ia)) (Fd : Fld Z h0 a "org/axisfold/search/KNearest" "squaredDistances" "[D" (.ref da)) (ni : n0 ≤ ia) (nd : n0 ≤ da) (ne_ : ia ≠ da) (A1 : own_A Z h0 ia .int [.int j0, .int (0 : Int32), .int (0 : Int32)]) (A2 : own_A Z h0 da .double [.double y0, .double 0, .double 0]) (Dx : own_D 0 b x) (D0 : own_D 0 f0 y0) :
    MetFree l (⟨"org/axisfold/search/KNearest", "offer", "(ID)V"⟩ : MethodName) (head1 (Jvm.Cond.code (⟨"org/axisfold/search/KNearest", "offer", "(ID)V"⟩ : MethodName) prog_40_method_4_code 4 none :: ws) ({ frames := 2, cells := 0, slots := 0, locals := 64 } : Room)) (fun as_ U => as_ = #[.ref a, .int ix, .double x] ∧ Z.Warmed39 U.vm ∧ U.heap = h0) (fun _ _ _ _ _ => True) (fun _ U o U' => own_Fin U ({ frames := 2, cells := 0, slots := 0, locals := 64 } : Room).cells ({ frames := 2, cells := 0, slots := 0, locals := 64 } : Room).slots (fun v h L => v = none ∧ Fr n0 L ∧ (∃ o', Exa Z h a "org/axisfold/search/KNearest" ∧ Fld Z h a "org/axisfold/search/KNearest" "offered" "J" (.long o') ∧ Fld Z h a "org/axisfold/search/KNearest" "size" "I" (.int (2 : Int32)) ∧ Fld Z h a "org/axisfold/search/KNearest" "capacity" "I" (.int (3 : Int32)) ∧ Fld Z h a "org/axisfold/search/KNearest" "indices" "[I" (.ref ia) ∧ Fld Z h a "org/axisfold/search/KNearest" "squaredDistances" "[D" (.ref da)) ∧ ∃ (j0' j1' : Int32) (z0 z1 : UInt64) (c0 c1 : Int), own_A Z h ia .int [.int j0', .int j1', .int (0 : Int32)] ∧ own_A Z h da .double [.double z0, .double z1, .double 0] ∧ own_D 0 c0 z0 ∧ own_D 0 c1 z1 ∧ ((b ≤ f0 ∧ c0 = f0 ∧ c1 = b) ∨ (f0 ≤ b ∧ c0 = b ∧ c1 = f0))) o U') := by
  refine own_body pf4 (ls0 := [.val (.ref a), .val (.int ix), .val (.double x), .second]) (fun m => by first | (simp [entryFrame, mkF, argsToLocals, Value.category, maxLocals]; done) | rfl) ?_
  intro p e s m below meth c T0 hx hby hml hown hnm hlk hret hZ X0 e0
  have hK : own_ks "org/axisfold/search/KNearest" a0 Z kt4 := ⟨hw _ (List.mem_of_getElem? (i := 24) rfl), trivial⟩
  have hF : own_fs "org/axisfold/search/KNearest" a0 Z ft4 := ⟨hw _ (List.mem_of_getElem? (i := 9) rfl), hw _ (List.mem_of_getElem? (i := 12) rfl), hw _ (List.mem_of_getElem? (i := 15) rfl), hw _ (List.mem_of_getElem? (i := 22) rfl), hw _ (List.mem_of_getElem? (i := 31) rfl), trivial⟩
  have N0 := Fr.nil n0
  refine own_blk dec4 seq4 hby hx hZ hown hK hF 5 [] [.long o] X0 e0 ?_
  show (Fld Z h0 a "org/axisfold/search/KNearest" "offered" "J" (.long o)) ∧ own_Aft X0 h0 _ 7 [.val (.ref a), .val (.int ix), .val (.double x), .second] [.long (o + (1 : Int64)), .ref a]
  refine ⟨Fo, fun T1 X1 eh1 => ?_⟩
  refine own_putF X1 hx hZ hown (hw _ (List.mem_of_getElem? (i := 31) rfl)) eh1 Fo EX (Or.inl (hw _ (List.mem_of_getElem? (i := 32) rfl))) (hw _ (List.mem_of_getElem? (i := 1) rfl)) (ty := .long) (by decide) rfl rfl (hb hby d4_7) (fun T2 hp2 X2 eh2 Wr2 Fd2 Ea2 => ?_)
  have A1_2 := A1.other Wr2 nia
  have A2_2 := A2.other Wr2 nda
  have Fs_2 := Fld.other Wr2 Fs (Or.inr (slot_ne (Or.inl (hw _ (List.mem_of_getElem? (i := 23) rfl))) (Or.inl (hw _ (List.mem_of_getElem? (i := 32) rfl))) (by decide) (t := .int) (t' := .long) (by decide) (by decide)))
  have Fc_2 := Fld.other Wr2 Fc (Or.inr (slot_ne (Or.inr (hw _ (List.mem_of_getElem? (i := 10) rfl))) (Or.inl (hw _ (List.mem_of_getElem? (i := 32) rfl))) (by decide) (t := .int) (t' := .long) (by decide) (by decide)))
  have Fi_2 := Fld.other Wr2 Fi (Or.inr (slot_ne (Or.inr (hw _ (List.mem_of_getElem? (i := 13) rfl))) (Or.inl (hw _ (List.mem_of_getElem? (i := 32) rfl))) (by decide) (t := (.array .int)) (t' := .long) (by decide) (by decide)))
  have Fd_2 := Fld.other Wr2 Fd (Or.inr (slot_ne (Or.inr (hw _ (List.mem_of_getElem? (i := 16) rfl))) (Or.inl (hw _ (List.mem_of_getElem? (i := 32) rfl))) (by decide) (t := (.array .double)) (t' := .long) (by decide) (by decide)))
  have Nf2 := Fr.snoc X2 N0 na
  have Z_2 : n0 ≤ hp2.size := by rw [Wr.size Wr2]; exact Z0
  refine own_blk dec4 seq4 hby hx hZ hown hK hF 15 [false] [.int (1 : Int32), .int (3 : Int32), .ref ia, .ref da, .int (1 : Int32)] X2 eh2 ?_
  show (Fld Z hp2 a "org/axisfold/search/KNearest" "size" "I" (.int (1 : Int32))) ∧ (Fld Z hp2 a "org/axisfold/search/KNearest" "capacity" "I" (.int (3 : Int32))) ∧ (¬ (((3 : Int32)).toInt ≤ ((1 : Int32)).toInt)) ∧ (Fld Z hp2 a "org/axisfold/search/KNearest" "indices" "[I" (.ref ia)) ∧ (Fld Z hp2 a "org/axisfold/search/KNearest" "squaredDistances" "[D" (.ref da)) ∧ (Fld Z hp2 a "org/axisfold/search/KNearest" "size" "I" (.int (1 : Int32))) ∧ own_Aft X2 hp2 _ 37 [.val (.ref a), .val (.int ix), .val (.double x), .second] [.int (2 : Int32), .ref a, .int (1 : Int32), .ref da, .ref ia]
  refine ⟨Fs_2, Fc_2, by decide, Fi_2, Fd_2, Fs_2, fun T3 X3 eh3 => ?_⟩
  refine own_putF X3 hx hZ hown (hw _ (List.mem_of_getElem? (i := 22) rfl)) eh3 Fs_2 Ea2 (Or.inl (hw _ (List.mem_of_getElem? (i := 23) rfl))) (hw _ (List.mem_of_getElem? (i := 1) rfl)) (ty := .int) (by decide) rfl rfl (hb hby d4_37) (fun T4 hp4 X4 eh4 Wr4 Fd4 Ea4 => ?_)
  have A1_4 := A1_2.other Wr4 nia
  have A2_4 := A2_2.other Wr4 nda
  have Fd2_4 := Fld.other Wr4 Fd2 (Or.inr (slot_ne (Or.inl (hw _ (List.mem_of_getElem? (i := 32) rfl))) (Or.inl (hw _ (List.mem_of_getElem? (i := 23) rfl))) (by decide) (t := .long) (t' := .int) (by decide) (by decide)))
  have Fc_4 := Fld.other Wr4 Fc_2 (Or.inr (slot_ne (Or.inr (hw _ (List.mem_of_getElem? (i := 10) rfl))) (Or.inl (hw _ (List.mem_of_getElem? (i := 23) rfl))) (by decide) (t := .int) (t' := .int) (by decide) (by decide)))
  have Fi_4 := Fld.other Wr4 Fi_2 (Or.inr (slot_ne (Or.inr (hw _ (List.mem_of_getElem? (i := 13) rfl))) (Or.inl (hw _ (List.mem_of_getElem? (i := 23) rfl))) (by decide) (t := (.array .int)) (t' := .int) (by decide) (by decide)))
  have Fd_4 := Fld.other Wr4 Fd_2 (Or.inr (slot_ne (Or.inr (hw _ (List.mem_of_getElem? (i := 16) rfl))) (Or.inl (hw _ (List.mem_of_getElem? (i := 23) rfl))) (by decide) (t := (.array .double)) (t' := .int) (by decide) (by decide)))
  have Nf4 := Fr.snoc X4 Nf2 na
  have Z_4 : n0 ≤ hp4.size := by rw [Wr.size Wr4]; exact Z_2
  refine own_blk dec4 seq4 hby hx hZ hown hK hF 2 [] [] X4 eh4 ?_
  show own_Aft X4 hp4 _ 42 [.val (.ref a), .val (.int ix), .val (.double x), .second] [.double x, .int ix, .int (1 : Int32), .ref da, .ref ia]
  refine fun T5 X5 eh5 => ?_
  refine own_callS X5 hx hZ hown (hw _ (List.mem_of_getElem? (i := 33) rfl)) (hw _ (List.mem_of_getElem? (i := 34) rfl)) (hw _ (List.mem_of_getElem? (i := 35) rfl)) (hw _ (List.mem_of_getElem? (i := 36) rfl)) (by decide) eh5 [.ref ia, .ref da, .int (1 : Int32), .int ix, .double x] pd5 rfl (rm := ({ frames := 1, cells := 0, slots := 0, locals := 24 } : Room)) (rm5_3_1 l Z a0 hw [] ia da ix x b j0 y0 f0 hp4 n0 Z_4 ni nd ne_ A1_4 A2_4 Dx D0 ) (by rw [hml]; rfl) 0 rfl (Nat.le_of_eq rfl) (hb hby d4_42) (by decide) (by decide) (by decide) (by decide) (fun T6 rv6 Lc6 X6 qc6 => ?_)
  obtain ⟨rfl, Ms, KK, PP⟩ := qc6
  have nin : a ∉ [ia, da] := fun q => by rcases List.mem_cons.mp q with q | q; exact nia q.symm; exact nda (List.mem_singleton.mp q).symm
  have Fd2_k := Fld.keep Fd2_4 KK nin
  have Fd4_k := Fld.keep Fd4 KK nin
  have Fc_k := Fld.keep Fc_4 KK nin
  have Fi_k := Fld.keep Fi_4 KK nin
  have Fd_k := Fld.keep Fd_4 KK nin
  have EX_k := Exa.keep Ea4 KK
  have Nk := Fr.app Nf4 Ms
  show own_Go p.tables e below _ (T6.setTop (mkF m 45 (Array.mk [.val (.ref a), .val (.int ix), .val (.double x), .second]) []))
  refine own_blk dec4 seq4 hby hx hZ hown hK hF 1 [] [] X6 rfl ?_
  show own_Aft X6 T6.heap _ 75 [.val (.ref a), .val (.int ix), .val (.double x), .second] []
  refine fun T7 X7 eh7 => ?_
  exact own_retV X7 hx hlk eh7 hret (hb hby d4_75) (by decide) (by decide) (⟨rfl, Nk, ⟨_, EX_k, Fd2_k, Fd4_k, Fc_k, Fi_k, Fd_k⟩, PP⟩)
set_option maxRecDepth 65536 in
set_option maxHeartbeats 40000000 in
theorem rm4_3_2 (l : Launch) (Z : State) (a0 : Array Value) (hw : ∀ d ∈ tables_1, d.before a0 Z = true) (ws : List Jvm.Cond) (a ia da : Addr) (o : Int64) (ix : Int32) (x : UInt64) (b : Int) (j0 j1 : Int32) (y0 y1 : UInt64) (f0 f1 : Int) (h0 : Heap) (n0 : Nat) (Z0 : n0 ≤ h0.size) (na : n0 ≤ a) (nia : ia ≠ a) (nda : da ≠ a) (EX : Exa Z h0 a "org/axisfold/search/KNearest") (Fo : Fld Z h0 a "org/axisfold/search/KNearest" "offered" "J" (.long o)) (Fs : Fld Z h0 a "org/axisfold/search/KNearest" "size" "I" (.int (2 : Int32))) (Fc : Fld Z h0 a "org/axisfold/search/KNearest" "capacity" "I" (.int (3 : Int32))) (Fi : Fld Z h0 a "org/axisfold/search/KNearest" "indices" "[I" (.ref ia)) (Fd : Fld Z h0 a "org/axisfold/search/KNearest" "squaredDistances" "[D" (.ref da)) (ni : n0 ≤ ia) (nd : n0 ≤ da) (ne_ : ia ≠ da) (A1 : own_A Z h0 ia .int [.int j0, .int j1, .int (0 : Int32)]) (A2 : own_A Z h0 da .double [.double y0, .double y1, .double 0]) (Dx : own_D 0 b x) (D0 : own_D 0 f0 y0) (D1 : own_D 0 f1 y1) :
    MetFree l (⟨"org/axisfold/search/KNearest", "offer", "(ID)V"⟩ : MethodName) (head1 (Jvm.Cond.code (⟨"org/axisfold/search/KNearest", "offer", "(ID)V"⟩ : MethodName) prog_40_method_4_code 4 none :: ws) ({ frames := 2, cells := 0, slots := 0, locals := 64 } : Room)) (fun as_ U => as_ = #[.ref a, .int ix, .double x] ∧ Z.Warmed39 U.vm ∧ U.heap = h0) (fun _ _ _ _ _ => True) (fun _ U o U' => own_Fin U ({ frames := 2, cells := 0, slots := 0, locals := 64 } : Room).cells ({ frames := 2, cells := 0, slots := 0, locals := 64 } : Room).slots (fun v h L => v = none ∧ Fr n0 L ∧ (∃ o', Exa Z h a "org/axisfold/search/KNearest" ∧ Fld Z h a "org/axisfold/search/KNearest" "offered" "J" (.long o') ∧ Fld Z h a "org/axisfold/search/KNearest" "size" "I" (.int (3 : Int32)) ∧ Fld Z h a "org/axisfold/search/KNearest" "capacity" "I" (.int (3 : Int32)) ∧ Fld Z h a "org/axisfold/search/KNearest" "indices" "[I" (.ref ia) ∧ Fld Z h a "org/axisfold/search/KNearest" "squaredDistances" "[D" (.ref da)) ∧ ∃ (j0' j1' j2' : Int32) (z0 z1 z2 : UInt64) (c0 c1 c2 : Int), own_A Z h ia .int [.int j0', .int j1', .int j2'] ∧ own_A Z h da .double [.double z0, .double z1, .double z2] ∧ own_D 0 c0 z0 ∧ own_D 0 c1 z1 ∧ own_D 0 c2 z2 ∧ ((b ≤ f0 ∧ c0 = f0 ∧ c1 = f1 ∧ c2 = b) ∨ (f0 ≤ b ∧ c0 = b ∧ c1 = f1 ∧ c2 = f0))) o U') := by
  refine own_body pf4 (ls0 := [.val (.ref a), .val (.int ix), .val (.double x), .second]) (fun m => by first | (simp [entryFrame, mkF, argsToLocals, Value.category, maxLocals]; done) | rfl) ?_
  intro p e s m below meth c T0 hx hby hml hown hnm hlk hret hZ X0 e0
  have hK : own_ks "org/axisfold/search/KNearest" a0 Z kt4 := ⟨hw _ (List.mem_of_getElem? (i := 24) rfl), trivial⟩
  have hF : own_fs "org/axisfold/search/KNearest" a0 Z ft4 := ⟨hw _ (List.mem_of_getElem? (i := 9) rfl), hw _ (List.mem_of_getElem? (i := 12) rfl), hw _ (List.mem_of_getElem? (i := 15) rfl), hw _ (List.mem_of_getElem? (i := 22) rfl), hw _ (List.mem_of_getElem? (i := 31) rfl), trivial⟩
  have N0 := Fr.nil n0
  refine own_blk dec4 seq4 hby hx hZ hown hK hF 5 [] [.long o] X0 e0 ?_
  show (Fld Z h0 a "org/axisfold/search/KNearest" "offered" "J" (.long o)) ∧ own_Aft X0 h0 _ 7 [.val (.ref a), .val (.int ix), .val (.double x), .second] [.long (o + (1 : Int64)), .ref a]
  refine ⟨Fo, fun T1 X1 eh1 => ?_⟩
  refine own_putF X1 hx hZ hown (hw _ (List.mem_of_getElem? (i := 31) rfl)) eh1 Fo EX (Or.inl (hw _ (List.mem_of_getElem? (i := 32) rfl))) (hw _ (List.mem_of_getElem? (i := 1) rfl)) (ty := .long) (by decide) rfl rfl (hb hby d4_7) (fun T2 hp2 X2 eh2 Wr2 Fd2 Ea2 => ?_)
  have A1_2 := A1.other Wr2 nia
  have A2_2 := A2.other Wr2 nda
  have Fs_2 := Fld.other Wr2 Fs (Or.inr (slot_ne (Or.inl (hw _ (List.mem_of_getElem? (i := 23) rfl))) (Or.inl (hw _ (List.mem_of_getElem? (i := 32) rfl))) (by decide) (t := .int) (t' := .long) (by decide) (by decide)))
  have Fc_2 := Fld.other Wr2 Fc (Or.inr (slot_ne (Or.inr (hw _ (List.mem_of_getElem? (i := 10) rfl))) (Or.inl (hw _ (List.mem_of_getElem? (i := 32) rfl))) (by decide) (t := .int) (t' := .long) (by decide) (by decide)))
  have Fi_2 := Fld.other Wr2 Fi (Or.inr (slot_ne (Or.inr (hw _ (List.mem_of_getElem? (i := 13) rfl))) (Or.inl (hw _ (List.mem_of_getElem? (i := 32) rfl))) (by decide) (t := (.array .int)) (t' := .long) (by decide) (by decide)))
  have Fd_2 := Fld.other Wr2 Fd (Or.inr (slot_ne (Or.inr (hw _ (List.mem_of_getElem? (i := 16) rfl))) (Or.inl (hw _ (List.mem_of_getElem? (i := 32) rfl))) (by decide) (t := (.array .double)) (t' := .long) (by decide) (by decide)))
  have Nf2 := Fr.snoc X2 N0 na
  have Z_2 : n0 ≤ hp2.size := by rw [Wr.size Wr2]; exact Z0
  refine own_blk dec4 seq4 hby hx hZ hown hK hF 15 [false] [.int (2 : Int32), .int (3 : Int32), .ref ia, .ref da, .int (2 : Int32)] X2 eh2 ?_
  show (Fld Z hp2 a "org/axisfold/search/KNearest" "size" "I" (.int (2 : Int32))) ∧ (Fld Z hp2 a "org/axisfold/search/KNearest" "capacity" "I" (.int (3 : Int32))) ∧ (¬ (((3 : Int32)).toInt ≤ ((2 : Int32)).toInt)) ∧ (Fld Z hp2 a "org/axisfold/search/KNearest" "indices" "[I" (.ref ia)) ∧ (Fld Z hp2 a "org/axisfold/search/KNearest" "squaredDistances" "[D" (.ref da)) ∧ (Fld Z hp2 a "org/axisfold/search/KNearest" "size" "I" (.int (2 : Int32))) ∧ own_Aft X2 hp2 _ 37 [.val (.ref a), .val (.int ix), .val (.double x), .second] [.int (3 : Int32), .ref a, .int (2 : Int32), .ref da, .ref ia]
  refine ⟨Fs_2, Fc_2, by decide, Fi_2, Fd_2, Fs_2, fun T3 X3 eh3 => ?_⟩
  refine own_putF X3 hx hZ hown (hw _ (List.mem_of_getElem? (i := 22) rfl)) eh3 Fs_2 Ea2 (Or.inl (hw _ (List.mem_of_getElem? (i := 23) rfl))) (hw _ (List.mem_of_getElem? (i := 1) rfl)) (ty := .int) (by decide) rfl rfl (hb hby d4_37) (fun T4 hp4 X4 eh4 Wr4 Fd4 Ea4 => ?_)
  have A1_4 := A1_2.other Wr4 nia
  have A2_4 := A2_2.other Wr4 nda
  have Fd2_4 := Fld.other Wr4 Fd2 (Or.inr (slot_ne (Or.inl (hw _ (List.mem_of_getElem? (i := 32) rfl))) (Or.inl (hw _ (List.mem_of_getElem? (i := 23) rfl))) (by decide) (t := .long) (t' := .int) (by decide) (by decide)))
  have Fc_4 := Fld.other Wr4 Fc_2 (Or.inr (slot_ne (Or.inr (hw _ (List.mem_of_getElem? (i := 10) rfl))) (Or.inl (hw _ (List.mem_of_getElem? (i := 23) rfl))) (by decide) (t := .int) (t' := .int) (by decide) (by decide)))
  have Fi_4 := Fld.other Wr4 Fi_2 (Or.inr (slot_ne (Or.inr (hw _ (List.mem_of_getElem? (i := 13) rfl))) (Or.inl (hw _ (List.mem_of_getElem? (i := 23) rfl))) (by decide) (t := (.array .int)) (t' := .int) (by decide) (by decide)))
  have Fd_4 := Fld.other Wr4 Fd_2 (Or.inr (slot_ne (Or.inr (hw _ (List.mem_of_getElem? (i := 16) rfl))) (Or.inl (hw _ (List.mem_of_getElem? (i := 23) rfl))) (by decide) (t := (.array .double)) (t' := .int) (by decide) (by decide)))
  have Nf4 := Fr.snoc X4 Nf2 na
  have Z_4 : n0 ≤ hp4.size := by rw [Wr.size Wr4]; exact Z_2
  refine own_blk dec4 seq4 hby hx hZ hown hK hF 2 [] [] X4 eh4 ?_
  show own_Aft X4 hp4 _ 42 [.val (.ref a), .val (.int ix), .val (.double x), .second] [.double x, .int ix, .int (2 : Int32), .ref da, .ref ia]
  refine fun T5 X5 eh5 => ?_
  refine own_callS X5 hx hZ hown (hw _ (List.mem_of_getElem? (i := 33) rfl)) (hw _ (List.mem_of_getElem? (i := 34) rfl)) (hw _ (List.mem_of_getElem? (i := 35) rfl)) (hw _ (List.mem_of_getElem? (i := 36) rfl)) (by decide) eh5 [.ref ia, .ref da, .int (2 : Int32), .int ix, .double x] pd5 rfl (rm := ({ frames := 1, cells := 0, slots := 0, locals := 24 } : Room)) (rm5_3_2 l Z a0 hw [] ia da ix x b j0 j1 y0 y1 f0 f1 hp4 n0 Z_4 ni nd ne_ A1_4 A2_4 Dx D0 D1 ) (by rw [hml]; rfl) 0 rfl (Nat.le_of_eq rfl) (hb hby d4_42) (by decide) (by decide) (by decide) (by decide) (fun T6 rv6 Lc6 X6 qc6 => ?_)
  obtain ⟨rfl, Ms, KK, PP⟩ := qc6
  have nin : a ∉ [ia, da] := fun q => by rcases List.mem_cons.mp q with q | q; exact nia q.symm; exact nda (List.mem_singleton.mp q).symm
  have Fd2_k := Fld.keep Fd2_4 KK nin
  have Fd4_k := Fld.keep Fd4 KK nin
  have Fc_k := Fld.keep Fc_4 KK nin
  have Fi_k := Fld.keep Fi_4 KK nin
  have Fd_k := Fld.keep Fd_4 KK nin
  have EX_k := Exa.keep Ea4 KK
  have Nk := Fr.app Nf4 Ms
  show own_Go p.tables e below _ (T6.setTop (mkF m 45 (Array.mk [.val (.ref a), .val (.int ix), .val (.double x), .second]) []))
  refine own_blk dec4 seq4 hby hx hZ hown hK hF 1 [] [] X6 rfl ?_
  show own_Aft X6 T6.heap _ 75 [.val (.ref a), .val (.int ix), .val (.double x), .second] []
  refine fun T7 X7 eh7 => ?_
  exact own_retV X7 hx hlk eh7 hret (hb hby d4_75) (by decide) (by decide) (⟨rfl, Nk, ⟨_, EX_k, Fd2_k, Fd4_k, Fc_k, Fi_k, Fd_k⟩, PP⟩)
set_option maxRecDepth 65536 in
set_option maxHeartbeats 40000000 in
theorem rm4_3_3 (l : Launch) (Z : State) (a0 : Array Value) (hw : ∀ d ∈ tables_1, d.before a0 Z = true) (ws : List Jvm.Cond) (a ia da : Addr) (o : Int64) (ix : Int32) (x : UInt64) (b : Int) (j0 j1 j2 : Int32) (y0 y1 y2 : UInt64) (f0 f1 f2 : Int) (h0 : Heap) (n0 : Nat) (Z0 : n0 ≤ h0.size) (na : n0 ≤ a) (nia : ia ≠ a) (nda : da ≠ a) (EX : Exa Z h0 a "org/axisfold/search/KNearest") (Fo : Fld Z h0 a "org/axisfold/search/KNearest" "offered" "J" (.long o)) (Fs : Fld Z h0 a "org/axisfold/search/KNearest" "size" "I" (.int (3 : Int32))) (Fc : Fld Z h0 a "org/axisfold/search/KNearest" "capacity" "I" (.int (3 : Int32))) (Fi : Fld Z h0 a "org/axisfold/search/KNearest" "indices" "[I" (.ref ia)) (Fd : Fld Z h0 a "org/axisfold/search/KNearest" "squaredDistances" "[D" (.ref da)) (ni : n0 ≤ ia) (nd : n0 ≤ da) (ne_ : ia ≠ da) (A1 : own_A Z h0 ia .int [.int j0, .int j1, .int j2]) (A2 : own_A Z h0 da .double [.double y0, .double y1, .double y2]) (Dx : own_D 0 b x) (D0 : own_D 0 f0 y0) (D1 : own_D 0 f1 y1) (D2 : own_D 0 f2 y2) :
    MetFree l (⟨"org/axisfold/search/KNearest", "offer", "(ID)V"⟩ : MethodName) (head1 (Jvm.Cond.code (⟨"org/axisfold/search/KNearest", "offer", "(ID)V"⟩ : MethodName) prog_40_method_4_code 4 none :: ws) ({ frames := 2, cells := 0, slots := 0, locals := 64 } : Room)) (fun as_ U => as_ = #[.ref a, .int ix, .double x] ∧ Z.Warmed39 U.vm ∧ U.heap = h0) (fun _ _ _ _ _ => True) (fun _ U o U' => own_Fin U ({ frames := 2, cells := 0, slots := 0, locals := 64 } : Room).cells ({ frames := 2, cells := 0, slots := 0, locals := 64 } : Room).slots (fun v h L => v = none ∧ Fr n0 L ∧ (∃ o', Exa Z h a "org/axisfold/search/KNearest" ∧ Fld Z h a "org/axisfold/search/KNearest" "offered" "J" (.long o') ∧ Fld Z h a "org/axisfold/search/KNearest" "size" "I" (.int (3 : Int32)) ∧ Fld Z h a "org/axisfold/search/KNearest" "capacity" "I" (.int (3 : Int32)) ∧ Fld Z h a "org/axisfold/search/KNearest" "indices" "[I" (.ref ia) ∧ Fld Z h a "org/axisfold/search/KNearest" "squaredDistances" "[D" (.ref da)) ∧ ∃ (j0' j1' j2' : Int32) (z0 z1 z2 : UInt64) (c0 c1 c2 : Int), own_A Z h ia .int [.int j0', .int j1', .int j2'] ∧ own_A Z h da .double [.double z0, .double z1, .double z2] ∧ own_D 0 c0 z0 ∧ own_D 0 c1 z1 ∧ own_D 0 c2 z2 ∧ ((f0 ≤ b ∧ c0 = f0 ∧ c1 = f1 ∧ c2 = f2) ∨ (b ≤ f0 ∧ f1 ≤ f2 ∧ b ≤ f2 ∧ c0 = f2 ∧ c1 = f1 ∧ c2 = b) ∨ (b ≤ f0 ∧ f1 ≤ f2 ∧ f2 ≤ b ∧ c0 = b ∧ c1 = f1 ∧ c2 = f2) ∨ (b ≤ f0 ∧ f2 ≤ f1 ∧ b ≤ f1 ∧ c0 = f1 ∧ c1 = b ∧ c2 = f2) ∨ (b ≤ f0 ∧ f2 ≤ f1 ∧ f1 ≤ b ∧ c0 = b ∧ c1 = f1 ∧ c2 = f2))) o U') := by
  refine own_body pf4 (ls0 := [.val (.ref a), .val (.int ix), .val (.double x), .second]) (fun m => by first | (simp [entryFrame, mkF, argsToLocals, Value.category, maxLocals]; done) | rfl) ?_
  intro p e s m below meth c T0 hx hby hml hown hnm hlk hret hZ X0 e0
  have hK : own_ks "org/axisfold/search/KNearest" a0 Z kt4 := ⟨hw _ (List.mem_of_getElem? (i := 24) rfl), trivial⟩
  have hF : own_fs "org/axisfold/search/KNearest" a0 Z ft4 := ⟨hw _ (List.mem_of_getElem? (i := 9) rfl), hw _ (List.mem_of_getElem? (i := 12) rfl), hw _ (List.mem_of_getElem? (i := 15) rfl), hw _ (List.mem_of_getElem? (i := 22) rfl), hw _ (List.mem_of_getElem? (i := 31) rfl), trivial⟩
  have N0 := Fr.nil n0
  refine own_blk dec4 seq4 hby hx hZ hown hK hF 5 [] [.long o] X0 e0 ?_
  show (Fld Z h0 a "org/axisfold/search/KNearest" "offered" "J" (.long o)) ∧ own_Aft X0 h0 _ 7 [.val (.ref a), .val (.int ix), .val (.double x), .second] [.long (o + (1 : Int64)), .ref a]
  refine ⟨Fo, fun T1 X1 eh1 => ?_⟩
  refine own_putF X1 hx hZ hown (hw _ (List.mem_of_getElem? (i := 31) rfl)) eh1 Fo EX (Or.inl (hw _ (List.mem_of_getElem? (i := 32) rfl))) (hw _ (List.mem_of_getElem? (i := 1) rfl)) (ty := .long) (by decide) rfl rfl (hb hby d4_7) (fun T2 hp2 X2 eh2 Wr2 Fd2 Ea2 => ?_)
  have A1_2 := A1.other Wr2 nia
  have A2_2 := A2.other Wr2 nda
  have Fs_2 := Fld.other Wr2 Fs (Or.inr (slot_ne (Or.inl (hw _ (List.mem_of_getElem? (i := 23) rfl))) (Or.inl (hw _ (List.mem_of_getElem? (i := 32) rfl))) (by decide) (t := .int) (t' := .long) (by decide) (by decide)))
  have Fc_2 := Fld.other Wr2 Fc (Or.inr (slot_ne (Or.inr (hw _ (List.mem_of_getElem? (i := 10) rfl))) (Or.inl (hw _ (List.mem_of_getElem? (i := 32) rfl))) (by decide) (t := .int) (t' := .long) (by decide) (by decide)))
  have Fi_2 := Fld.other Wr2 Fi (Or.inr (slot_ne (Or.inr (hw _ (List.mem_of_getElem? (i := 13) rfl))) (Or.inl (hw _ (List.mem_of_getElem? (i := 32) rfl))) (by decide) (t := (.array .int)) (t' := .long) (by decide) (by decide)))
  have Fd_2 := Fld.other Wr2 Fd (Or.inr (slot_ne (Or.inr (hw _ (List.mem_of_getElem? (i := 16) rfl))) (Or.inl (hw _ (List.mem_of_getElem? (i := 32) rfl))) (by decide) (t := (.array .double)) (t' := .long) (by decide) (by decide)))
  have Nf2 := Fr.snoc X2 N0 na
  have Z_2 : n0 ≤ hp2.size := by rw [Wr.size Wr2]; exact Z0
  refine own_blk dec4 seq4 hby hx hZ hown hK hF 8 [true] [.int (3 : Int32), .int (3 : Int32)] X2 eh2 ?_
  show (Fld Z hp2 a "org/axisfold/search/KNearest" "size" "I" (.int (3 : Int32))) ∧ (Fld Z hp2 a "org/axisfold/search/KNearest" "capacity" "I" (.int (3 : Int32))) ∧ (((3 : Int32)).toInt ≤ ((3 : Int32)).toInt) ∧ own_Aft X2 hp2 _ 51 [.val (.ref a), .val (.int ix), .val (.double x), .second] [.double x, .int ix, .ref a]
  refine ⟨Fs_2, Fc_2, by decide, fun T3 X3 eh3 => ?_⟩
  refine own_callVP X3 hx hZ hown (hw _ (List.mem_of_getElem? (i := 49) rfl)) (hw _ (List.mem_of_getElem? (i := 50) rfl)) (hw _ (List.mem_of_getElem? (i := 52) rfl)) (hw _ (List.mem_of_getElem? (i := 51) rfl)) (hw _ (List.mem_of_getElem? (i := 2) rfl)) (hw _ (List.mem_of_getElem? (i := 53) rfl)) (by decide) eh3 Ea2 [.int ix, .double x] pd9 rfl (fr := 1) (lo := 20) (rm9_3 l Z a0 hw [] a ia da ix x b f0 j0 j1 j2 y0 y1 y2 hp2 n0 Z_2 Fs_2 Fc_2 Fi_2 Fd_2 A1_2 A2_2 Dx D0) (by rw [hml]; rfl) 0 rfl (Nat.le_of_eq rfl) (hb hby d4_51) (by decide) (by decide) (by decide) (by decide) (fun T4 rv4 X4 eh4 qc4 => ?_)
  obtain ⟨r, rfl, ho⟩ := qc4
  show own_Go p.tables e below _ (T4.setTop (mkF m 54 (Array.mk [.val (.ref a), .val (.int ix), .val (.double x), .second]) [.int r]))
  rcases ho with ⟨rfl, ho⟩ | ⟨rfl, ho⟩
  · skip
    show own_Go p.tables e below _ (T4.setTop (mkF m 54 (Array.mk [.val (.ref a), .val (.int ix), .val (.double x), .second]) [.int (1 : Int32)]))
    refine own_blk dec4 seq4 hby hx hZ hown hK hF 10 [false] [.ref ia, .ref da, .int (3 : Int32)] X4 eh4 ?_
    show (¬ (((1 : Int32)).toInt = 0)) ∧ (Fld Z hp2 a "org/axisfold/search/KNearest" "indices" "[I" (.ref ia)) ∧ (Fld Z hp2 a "org/axisfold/search/KNearest" "squaredDistances" "[D" (.ref da)) ∧ (Fld Z hp2 a "org/axisfold/search/KNearest" "size" "I" (.int (3 : Int32))) ∧ own_Aft X4 hp2 _ 72 [.val (.ref a), .val (.int ix), .val (.double x), .second] [.double x, .int ix, .int (3 : Int32), .int (0 : Int32), .ref da, .ref ia]
    refine ⟨by decide, Fi_2, Fd_2, Fs_2, fun T5 X5 eh5 => ?_⟩
    refine own_callS X5 hx hZ hown (hw _ (List.mem_of_getElem? (i := 55) rfl)) (hw _ (List.mem_of_getElem? (i := 56) rfl)) (hw _ (List.mem_of_getElem? (i := 35) rfl)) (hw _ (List.mem_of_getElem? (i := 57) rfl)) (by decide) eh5 [.ref ia, .ref da, .int (0 : Int32), .int (3 : Int32), .int ix, .double x] pd10 rfl (rm := ({ frames := 1, cells := 0, slots := 0, locals := 24 } : Room)) (rm10_3 l Z a0 hw [] ia da ix x b j0 j1 j2 y0 y1 y2 f0 f1 f2 hp2 n0 Z_2 ni nd ne_ A1_2 A2_2 Dx D0 D1 D2 ho) (by rw [hml]; rfl) 0 rfl (Nat.le_of_eq rfl) (hb hby d4_72) (by decide) (by decide) (by decide) (by decide) (fun T6 rv6 Lc6 X6 qc6 => ?_)
    obtain ⟨rfl, Ms, KK, PP⟩ := qc6
    have nin : a ∉ [ia, da] := fun q => by rcases List.mem_cons.mp q with q | q; exact nia q.symm; exact nda (List.mem_singleton.mp q).symm
    have Fd2_k := Fld.keep Fd2 KK nin
    have Fs_k := Fld.keep Fs_2 KK nin
    have Fc_k := Fld.keep Fc_2 KK nin
    have Fi_k := Fld.keep Fi_2 KK nin
    have Fd_k := Fld.keep Fd_2 KK nin
    have EX_k := Exa.keep Ea2 KK
    have Nk := Fr.app Nf2 Ms
    show own_Go p.tables e below _ (T6.setTop (mkF m 75 (Array.mk [.val (.ref a), .val (.int ix), .val (.double x), .second]) []))
    exact own_retV X6 hx hlk rfl hret (hb hby d4_75) (by decide) (by decide) (⟨rfl, Nk, ⟨_, EX_k, Fd2_k, Fs_k, Fc_k, Fi_k, Fd_k⟩, PP⟩)
  · skip
    show own_Go p.tables e below _ (T4.setTop (mkF m 54 (Array.mk [.val (.ref a), .val (.int ix), .val (.double x), .second]) [.int (0 : Int32)]))
    refine own_blk dec4 seq4 hby hx hZ hown hK hF 1 [true] [] X4 eh4 ?_
    show (((0 : Int32)).toInt = 0) ∧ own_Aft X4 hp2 _ 75 [.val (.ref a), .val (.int ix), .val (.double x), .second] []
    refine ⟨by decide, fun T7 X7 eh7 => ?_⟩
    exact own_retV X7 hx hlk eh7 hret (hb hby d4_75) (by decide) (by decide) (⟨rfl, Nf2, ⟨_, Ea2, Fd2, Fs_2, Fc_2, Fi_2, Fd_2⟩, ⟨_, _, _, _, _, _, _, _, _, A1_2, A2_2, D0, D1, D2, Or.inl (⟨ho, rfl, rfl, rfl⟩)⟩⟩)
set_option maxRecDepth 65536 in
set_option maxHeartbeats 40000000 in
theorem rm4_4_0 (l : Launch) (Z : State) (a0 : Array Value) (hw : ∀ d ∈ tables_1, d.before a0 Z = true) (ws : List Jvm.Cond) (a ia da : Addr) (o : Int64) (ix : Int32) (x : UInt64) (b : Int) (h0 : Heap) (n0 : Nat) (Z0 : n0 ≤ h0.size) (na : n0 ≤ a) (nia : ia ≠ a) (nda : da ≠ a) (EX : Exa Z h0 a "org/axisfold/search/KNearest") (Fo : Fld Z h0 a "org/axisfold/search/KNearest" "offered" "J" (.long o)) (Fs : Fld Z h0 a "org/axisfold/search/KNearest" "size" "I" (.int (0 : Int32))) (Fc : Fld Z h0 a "org/axisfold/search/KNearest" "capacity" "I" (.int (4 : Int32))) (Fi : Fld Z h0 a "org/axisfold/search/KNearest" "indices" "[I" (.ref ia)) (Fd : Fld Z h0 a "org/axisfold/search/KNearest" "squaredDistances" "[D" (.ref da)) (ni : n0 ≤ ia) (nd : n0 ≤ da) (ne_ : ia ≠ da) (A1 : own_A Z h0 ia .int [.int (0 : Int32), .int (0 : Int32), .int (0 : Int32), .int (0 : Int32)]) (A2 : own_A Z h0 da .double [.double 0, .double 0, .double 0, .double 0]) (Dx : own_D 0 b x) :
    MetFree l (⟨"org/axisfold/search/KNearest", "offer", "(ID)V"⟩ : MethodName) (head1 (Jvm.Cond.code (⟨"org/axisfold/search/KNearest", "offer", "(ID)V"⟩ : MethodName) prog_40_method_4_code 4 none :: ws) ({ frames := 2, cells := 0, slots := 0, locals := 64 } : Room)) (fun as_ U => as_ = #[.ref a, .int ix, .double x] ∧ Z.Warmed39 U.vm ∧ U.heap = h0) (fun _ _ _ _ _ => True) (fun _ U o U' => own_Fin U ({ frames := 2, cells := 0, slots := 0, locals := 64 } : Room).cells ({ frames := 2, cells := 0, slots := 0, locals := 64 } : Room).slots (fun v h L => v = none ∧ Fr n0 L ∧ (∃ o', Exa Z h a "org/axisfold/search/KNearest" ∧ Fld Z h a "org/axisfold/search/KNearest" "offered" "J" (.long o') ∧ Fld Z h a "org/axisfold/search/KNearest" "size" "I" (.int (1 : Int32)) ∧ Fld Z h a "org/axisfold/search/KNearest" "capacity" "I" (.int (4 : Int32)) ∧ Fld Z h a "org/axisfold/search/KNearest" "indices" "[I" (.ref ia) ∧ Fld Z h a "org/axisfold/search/KNearest" "squaredDistances" "[D" (.ref da)) ∧ ∃ (j0' : Int32) (z0 : UInt64) (c0 : Int), own_A Z h ia .int [.int j0', .int (0 : Int32), .int (0 : Int32), .int (0 : Int32)] ∧ own_A Z h da .double [.double z0, .double 0, .double 0, .double 0] ∧ own_D 0 c0 z0 ∧ ((c0 = b))) o U') := by
  refine own_body pf4 (ls0 := [.val (.ref a), .val (.int ix), .val (.double x), .second]) (fun m => by first | (simp [entryFrame, mkF, argsToLocals, Value.category, maxLocals]; done) | rfl) ?_
  intro p e s m below meth c T0 hx hby hml hown hnm hlk hret hZ X0 e0
  have hK : own_ks "org/axisfold/search/KNearest" a0 Z kt4 := ⟨hw _ (List.mem_of_getElem? (i := 24) rfl), trivial⟩
  have hF : own_fs "org/axisfold/search/KNearest" a0 Z ft4 := ⟨hw _ (List.mem_of_getElem? (i := 9) rfl), hw _ (List.mem_of_getElem? (i := 12) rfl), hw _ (List.mem_of_getElem? (i := 15) rfl), hw _ (List.mem_of_getElem? (i := 22) rfl), hw _ (List.mem_of_getElem? (i := 31) rfl), trivial⟩
  have N0 := Fr.nil n0
  refine own_blk dec4 seq4 hby hx hZ hown hK hF 5 [] [.long o] X0 e0 ?_
  show (Fld Z h0 a "org/axisfold/search/KNearest" "offered" "J" (.long o)) ∧ own_Aft X0 h0 _ 7 [.val (.ref a), .val (.int ix), .val (.double x), .second] [.long (o + (1 : Int64)), .ref a]
  refine ⟨Fo, fun T1 X1 eh1 => ?_⟩
  refine own_putF X1 hx hZ hown (hw _ (List.mem_of_getElem? (i := 31) rfl)) eh1 Fo EX (Or.inl (hw _ (List.mem_of_getElem? (i := 32) rfl))) (hw _ (List.mem_of_getElem? (i := 1) rfl)) (ty := .long) (by decide) rfl rfl (hb hby d4_7) (fun T2 hp2 X2 eh2 Wr2 Fd2 Ea2 => ?_)
  have A1_2 := A1.other Wr2 nia
  have A2_2 := A2.other Wr2 nda
  have Fs_2 := Fld.other Wr2 Fs (Or.inr (slot_ne (Or.inl (hw _ (List.mem_of_getElem? (i := 23) rfl))) (Or.inl (hw _ (List.mem_of_getElem? (i := 32) rfl))) (by decide) (t := .int) (t' := .long) (by decide) (by decide)))
  have Fc_2 := Fld.other Wr2 Fc (Or.inr (slot_ne (Or.inr (hw _ (List.mem_of_getElem? (i := 10) rfl))) (Or.inl (hw _ (List.mem_of_getElem? (i := 32) rfl))) (by decide) (t := .int) (t' := .long) (by decide) (by decide)))
  have Fi_2 := Fld.other Wr2 Fi (Or.inr (slot_ne (Or.inr (hw _ (List.mem_of_getElem? (i := 13) rfl))) (Or.inl (hw _ (List.mem_of_getElem? (i := 32) rfl))) (by decide) (t := (.array .int)) (t' := .long) (by decide) (by decide)))
  have Fd_2 := Fld.other Wr2 Fd (Or.inr (slot_ne (Or.inr (hw _ (List.mem_of_getElem? (i := 16) rfl))) (Or.inl (hw _ (List.mem_of_getElem? (i := 32) rfl))) (by decide) (t := (.array .double)) (t' := .long) (by decide) (by decide)))
  have Nf2 := Fr.snoc X2 N0 na
  have Z_2 : n0 ≤ hp2.size := by rw [Wr.size Wr2]; exact Z0
  refine own_blk dec4 seq4 hby hx hZ hown hK hF 15 [false] [.int (0 : Int32), .int (4 : Int32), .ref ia, .ref da, .int (0 : Int32)] X2 eh2 ?_
  show (Fld Z hp2 a "org/axisfold/search/KNearest" "size" "I" (.int (0 : Int32))) ∧ (Fld Z hp2 a "org/axisfold/search/KNearest" "capacity" "I" (.int (4 : Int32))) ∧ (¬ (((4 : Int32)).toInt ≤ ((0 : Int32)).toInt)) ∧ (Fld Z hp2 a "org/axisfold/search/KNearest" "indices" "[I" (.ref ia)) ∧ (Fld Z hp2 a "org/axisfold/search/KNearest" "squaredDistances" "[D" (.ref da)) ∧ (Fld Z hp2 a "org/axisfold/search/KNearest" "size" "I" (.int (0 : Int32))) ∧ own_Aft X2 hp2 _ 37 [.val (.ref a), .val (.int ix), .val (.double x), .second] [.int (1 : Int32), .ref a, .int (0 : Int32), .ref da, .ref ia]
  refine ⟨Fs_2, Fc_2, by decide, Fi_2, Fd_2, Fs_2, fun T3 X3 eh3 => ?_⟩
  refine own_putF X3 hx hZ hown (hw _ (List.mem_of_getElem? (i := 22) rfl)) eh3 Fs_2 Ea2 (Or.inl (hw _ (List.mem_of_getElem? (i := 23) rfl))) (hw _ (List.mem_of_getElem? (i := 1) rfl)) (ty := .int) (by decide) rfl rfl (hb hby d4_37) (fun T4 hp4 X4 eh4 Wr4 Fd4 Ea4 => ?_)
  have A1_4 := A1_2.other Wr4 nia
  have A2_4 := A2_2.other Wr4 nda
  have Fd2_4 := Fld.other Wr4 Fd2 (Or.inr (slot_ne (Or.inl (hw _ (List.mem_of_getElem? (i := 32) rfl))) (Or.inl (hw _ (List.mem_of_getElem? (i := 23) rfl))) (by decide) (t := .long) (t' := .int) (by decide) (by decide)))
  have Fc_4 := Fld.other Wr4 Fc_2 (Or.inr (slot_ne (Or.inr (hw _ (List.mem_of_getElem? (i := 10) rfl))) (Or.inl (hw _ (List.mem_of_getElem? (i := 23) rfl))) (by decide) (t := .int) (t' := .int) (by decide) (by decide)))
  have Fi_4 := Fld.other Wr4 Fi_2 (Or.inr (slot_ne (Or.inr (hw _ (List.mem_of_getElem? (i := 13) rfl))) (Or.inl (hw _ (List.mem_of_getElem? (i := 23) rfl))) (by decide) (t := (.array .int)) (t' := .int) (by decide) (by decide)))
  have Fd_4 := Fld.other Wr4 Fd_2 (Or.inr (slot_ne (Or.inr (hw _ (List.mem_of_getElem? (i := 16) rfl))) (Or.inl (hw _ (List.mem_of_getElem? (i := 23) rfl))) (by decide) (t := (.array .double)) (t' := .int) (by decide) (by decide)))
  have Nf4 := Fr.snoc X4 Nf2 na
  have Z_4 : n0 ≤ hp4.size := by rw [Wr.size Wr4]; exact Z_2
  refine own_blk dec4 seq4 hby hx hZ hown hK hF 2 [] [] X4 eh4 ?_
  show own_Aft X4 hp4 _ 42 [.val (.ref a), .val (.int ix), .val (.double x), .second] [.double x, .int ix, .int (0 : Int32), .ref da, .ref ia]
  refine fun T5 X5 eh5 => ?_
  refine own_callS X5 hx hZ hown (hw _ (List.mem_of_getElem? (i := 33) rfl)) (hw _ (List.mem_of_getElem? (i := 34) rfl)) (hw _ (List.mem_of_getElem? (i := 35) rfl)) (hw _ (List.mem_of_getElem? (i := 36) rfl)) (by decide) eh5 [.ref ia, .ref da, .int (0 : Int32), .int ix, .double x] pd5 rfl (rm := ({ frames := 1, cells := 0, slots := 0, locals := 24 } : Room)) (rm5_4_0 l Z a0 hw [] ia da ix x b  hp4 n0 Z_4 ni nd ne_ A1_4 A2_4 Dx  ) (by rw [hml]; rfl) 0 rfl (Nat.le_of_eq rfl) (hb hby d4_42) (by decide) (by decide) (by decide) (by decide) (fun T6 rv6 Lc6 X6 qc6 => ?_)
  obtain ⟨rfl, Ms, KK, PP⟩ := qc6
  have nin : a ∉ [ia, da] := fun q => by rcases List.mem_cons.mp q with q | q; exact nia q.symm; exact nda (List.mem_singleton.mp q).symm
  have Fd2_k := Fld.keep Fd2_4 KK nin
  have Fd4_k := Fld.keep Fd4 KK nin
  have Fc_k := Fld.keep Fc_4 KK nin
  have Fi_k := Fld.keep Fi_4 KK nin
  have Fd_k := Fld.keep Fd_4 KK nin
  have EX_k := Exa.keep Ea4 KK
  have Nk := Fr.app Nf4 Ms
  show own_Go p.tables e below _ (T6.setTop (mkF m 45 (Array.mk [.val (.ref a), .val (.int ix), .val (.double x), .second]) []))
  refine own_blk dec4 seq4 hby hx hZ hown hK hF 1 [] [] X6 rfl ?_
  show own_Aft X6 T6.heap _ 75 [.val (.ref a), .val (.int ix), .val (.double x), .second] []
  refine fun T7 X7 eh7 => ?_
  exact own_retV X7 hx hlk eh7 hret (hb hby d4_75) (by decide) (by decide) (⟨rfl, Nk, ⟨_, EX_k, Fd2_k, Fd4_k, Fc_k, Fi_k, Fd_k⟩, PP⟩)
set_option maxRecDepth 65536 in
set_option maxHeartbeats 40000000 in
theorem rm4_4_1 (l : Launch) (Z : State) (a0 : Array Value) (hw : ∀ d ∈ tables_1, d.before a0 Z = true) (ws : List Jvm.Cond) (a ia da : Addr) (o : Int64) (ix : Int32) (x : UInt64) (b : Int) (j0 : Int32) (y0 : UInt64) (f0 : Int) (h0 : Heap) (n0 : Nat) (Z0 : n0 ≤ h0.size) (na : n0 ≤ a) (nia : ia ≠ a) (nda : da ≠ a) (EX : Exa Z h0 a "org/axisfold/search/KNearest") (Fo : Fld Z h0 a "org/axisfold/search/KNearest" "offered" "J" (.long o)) (Fs : Fld Z h0 a "org/axisfold/search/KNearest" "size" "I" (.int (1 : Int32))) (Fc : Fld Z h0 a "org/axisfold/search/KNearest" "capacity" "I" (.int (4 : Int32))) (Fi : Fld Z h0 a "org/axisfold/search/KNearest" "indices" "[I" (.ref ia)) (Fd : Fld Z h0 a "org/axisfold/search/KNearest" "squaredDistances" "[D" (.ref da)) (ni : n0 ≤ ia) (nd : n0 ≤ da) (ne_ : ia ≠ da) (A1 : own_A Z h0 ia .int [.int j0, .int (0 : Int32), .int (0 : Int32), .int (0 : Int32)]) (A2 : own_A Z h0 da .double [.double y0, .double 0, .double 0, .double 0]) (Dx : own_D 0 b x) (D0 : own_D 0 f0 y0) :
    MetFree l (⟨"org/axisfold/search/KNearest", "offer", "(ID)V"⟩ : MethodName) (head1 (Jvm.Cond.code (⟨"org/axisfold/search/KNearest", "offer", "(ID)V"⟩ : MethodName) prog_40_method_4_code 4 none :: ws) ({ frames := 2, cells := 0, slots := 0, locals := 64 } : Room)) (fun as_ U => as_ = #[.ref a, .int ix, .double x] ∧ Z.Warmed39 U.vm ∧ U.heap = h0) (fun _ _ _ _ _ => True) (fun _ U o U' => own_Fin U ({ frames := 2, cells := 0, slots := 0, locals := 64 } : Room).cells ({ frames := 2, cells := 0, slots := 0, locals := 64 } : Room).slots (fun v h L => v = none ∧ Fr n0 L ∧ (∃ o', Exa Z h a "org/axisfold/search/KNearest" ∧ Fld Z h a "org/axisfold/search/KNearest" "offered" "J" (.long o') ∧ Fld Z h a "org/axisfold/search/KNearest" "size" "I" (.int (2 : Int32)) ∧ Fld Z h a "org/axisfold/search/KNearest" "capacity" "I" (.int (4 : Int32)) ∧ Fld Z h a "org/axisfold/search/KNearest" "indices" "[I" (.ref ia) ∧ Fld Z h a "org/axisfold/search/KNearest" "squaredDistances" "[D" (.ref da)) ∧ ∃ (j0' j1' : Int32) (z0 z1 : UInt64) (c0 c1 : Int), own_A Z h ia .int [.int j0', .int j1', .int (0 : Int32), .int (0 : Int32)] ∧ own_A Z h da .double [.double z0, .double z1, .double 0, .double 0] ∧ own_D 0 c0 z0 ∧ own_D 0 c1 z1 ∧ ((b ≤ f0 ∧ c0 = f0 ∧ c1 = b) ∨ (f0 ≤ b ∧ c0 = b ∧ c1 = f0))) o U') := by
  refine own_body pf4 (ls0 := [.val (.ref a), .val (.int ix), .val (.double x), .second]) (fun m => by first | (simp [entryFrame, mkF, argsToLocals, Value.category, maxLocals]; done) | rfl) ?_
  intro p e s m below meth c T0 hx hby hml hown hnm hlk hret hZ X0 e0
  have hK : own_ks "org/axisfold/search/KNearest" a0 Z kt4 := ⟨hw _ (List.mem_of_getElem? (i := 24) rfl), trivial⟩
  have hF : own_fs "org/axisfold/search/KNearest" a0 Z ft4 := ⟨hw _ (List.mem_of_getElem? (i := 9) rfl), hw _ (List.mem_of_getElem? (i := 12) rfl), hw _ (List.mem_of_getElem? (i := 15) rfl), hw _ (List.mem_of_getElem? (i := 22) rfl), hw _ (List.mem_of_getElem? (i := 31) rfl), trivial⟩
  have N0 := Fr.nil n0
  refine own_blk dec4 seq4 hby hx hZ hown hK hF 5 [] [.long o] X0 e0 ?_
  show (Fld Z h0 a "org/axisfold/search/KNearest" "offered" "J" (.long o)) ∧ own_Aft X0 h0 _ 7 [.val (.ref a), .val (.int ix), .val (.double x), .second] [.long (o + (1 : Int64)), .ref a]
  refine ⟨Fo, fun T1 X1 eh1 => ?_⟩
  refine own_putF X1 hx hZ hown (hw _ (List.mem_of_getElem? (i := 31) rfl)) eh1 Fo EX (Or.inl (hw _ (List.mem_of_getElem? (i := 32) rfl))) (hw _ (List.mem_of_getElem? (i := 1) rfl)) (ty := .long) (by decide) rfl rfl (hb hby d4_7) (fun T2 hp2 X2 eh2 Wr2 Fd2 Ea2 => ?_)
  have A1_2 := A1.other Wr2 nia
  have A2_2 := A2.other Wr2 nda
  have Fs_2 := Fld.other Wr2 Fs (Or.inr (slot_ne (Or.inl (hw _ (List.mem_of_getElem? (i := 23) rfl))) (Or.inl (hw _ (List.mem_of_getElem? (i := 32) rfl))) (by decide) (t := .int) (t' := .long) (by decide) (by decide)))
  have Fc_2 := Fld.other Wr2 Fc (Or.inr (slot_ne (Or.inr (hw _ (List.mem_of_getElem? (i := 10) rfl))) (Or.inl (hw _ (List.mem_of_getElem? (i := 32) rfl))) (by decide) (t := .int) (t' := .long) (by decide) (by decide)))
  have Fi_2 := Fld.other Wr2 Fi (Or.inr (slot_ne (Or.inr (hw _ (List.mem_of_getElem? (i := 13) rfl))) (Or.inl (hw _ (List.mem_of_getElem? (i := 32) rfl))) (by decide) (t := (.array .int)) (t' := .long) (by decide) (by decide)))
  have Fd_2 := Fld.other Wr2 Fd (Or.inr (slot_ne (Or.inr (hw _ (List.mem_of_getElem? (i := 16) rfl))) (Or.inl (hw _ (List.mem_of_getElem? (i := 32) rfl))) (by decide) (t := (.array .double)) (t' := .long) (by decide) (by decide)))
  have Nf2 := Fr.snoc X2 N0 na
  have Z_2 : n0 ≤ hp2.size := by rw [Wr.size Wr2]; exact Z0
  refine own_blk dec4 seq4 hby hx hZ hown hK hF 15 [false] [.int (1 : Int32), .int (4 : Int32), .ref ia, .ref da, .int (1 : Int32)] X2 eh2 ?_
  show (Fld Z hp2 a "org/axisfold/search/KNearest" "size" "I" (.int (1 : Int32))) ∧ (Fld Z hp2 a "org/axisfold/search/KNearest" "capacity" "I" (.int (4 : Int32))) ∧ (¬ (((4 : Int32)).toInt ≤ ((1 : Int32)).toInt)) ∧ (Fld Z hp2 a "org/axisfold/search/KNearest" "indices" "[I" (.ref ia)) ∧ (Fld Z hp2 a "org/axisfold/search/KNearest" "squaredDistances" "[D" (.ref da)) ∧ (Fld Z hp2 a "org/axisfold/search/KNearest" "size" "I" (.int (1 : Int32))) ∧ own_Aft X2 hp2 _ 37 [.val (.ref a), .val (.int ix), .val (.double x), .second] [.int (2 : Int32), .ref a, .int (1 : Int32), .ref da, .ref ia]
  refine ⟨Fs_2, Fc_2, by decide, Fi_2, Fd_2, Fs_2, fun T3 X3 eh3 => ?_⟩
  refine own_putF X3 hx hZ hown (hw _ (List.mem_of_getElem? (i := 22) rfl)) eh3 Fs_2 Ea2 (Or.inl (hw _ (List.mem_of_getElem? (i := 23) rfl))) (hw _ (List.mem_of_getElem? (i := 1) rfl)) (ty := .int) (by decide) rfl rfl (hb hby d4_37) (fun T4 hp4 X4 eh4 Wr4 Fd4 Ea4 => ?_)
  have A1_4 := A1_2.other Wr4 nia
  have A2_4 := A2_2.other Wr4 nda
  have Fd2_4 := Fld.other Wr4 Fd2 (Or.inr (slot_ne (Or.inl (hw _ (List.mem_of_getElem? (i := 32) rfl))) (Or.inl (hw _ (List.mem_of_getElem? (i := 23) rfl))) (by decide) (t := .long) (t' := .int) (by decide) (by decide)))
  have Fc_4 := Fld.other Wr4 Fc_2 (Or.inr (slot_ne (Or.inr (hw _ (List.mem_of_getElem? (i := 10) rfl))) (Or.inl (hw _ (List.mem_of_getElem? (i := 23) rfl))) (by decide) (t := .int) (t' := .int) (by decide) (by decide)))
  have Fi_4 := Fld.other Wr4 Fi_2 (Or.inr (slot_ne (Or.inr (hw _ (List.mem_of_getElem? (i := 13) rfl))) (Or.inl (hw _ (List.mem_of_getElem? (i := 23) rfl))) (by decide) (t := (.array .int)) (t' := .int) (by decide) (by decide)))
  have Fd_4 := Fld.other Wr4 Fd_2 (Or.inr (slot_ne (Or.inr (hw _ (List.mem_of_getElem? (i := 16) rfl))) (Or.inl (hw _ (List.mem_of_getElem? (i := 23) rfl))) (by decide) (t := (.array .double)) (t' := .int) (by decide) (by decide)))
  have Nf4 := Fr.snoc X4 Nf2 na
  have Z_4 : n0 ≤ hp4.size := by rw [Wr.size Wr4]; exact Z_2
  refine own_blk dec4 seq4 hby hx hZ hown hK hF 2 [] [] X4 eh4 ?_
  show own_Aft X4 hp4 _ 42 [.val (.ref a), .val (.int ix), .val (.double x), .second] [.double x, .int ix, .int (1 : Int32), .ref da, .ref ia]
  refine fun T5 X5 eh5 => ?_
  refine own_callS X5 hx hZ hown (hw _ (List.mem_of_getElem? (i := 33) rfl)) (hw _ (List.mem_of_getElem? (i := 34) rfl)) (hw _ (List.mem_of_getElem? (i := 35) rfl)) (hw _ (List.mem_of_getElem? (i := 36) rfl)) (by decide) eh5 [.ref ia, .ref da, .int (1 : Int32), .int ix, .double x] pd5 rfl (rm := ({ frames := 1, cells := 0, slots := 0, locals := 24 } : Room)) (rm5_4_1 l Z a0 hw [] ia da ix x b j0 y0 f0 hp4 n0 Z_4 ni nd ne_ A1_4 A2_4 Dx D0 ) (by rw [hml]; rfl) 0 rfl (Nat.le_of_eq rfl) (hb hby d4_42) (by decide) (by decide) (by decide) (by decide) (fun T6 rv6 Lc6 X6 qc6 => ?_)
  obtain ⟨rfl, Ms, KK, PP⟩ := qc6
  have nin : a ∉ [ia, da] := fun q => by rcases List.mem_cons.mp q with q | q; exact nia q.symm; exact nda (List.mem_singleton.mp q).symm
  have Fd2_k := Fld.keep Fd2_4 KK nin
  have Fd4_k := Fld.keep Fd4 KK nin
  have Fc_k := Fld.keep Fc_4 KK nin
  have Fi_k := Fld.keep Fi_4 KK nin
  have Fd_k := Fld.keep Fd_4 KK nin
  have EX_k := Exa.keep Ea4 KK
  have Nk := Fr.app Nf4 Ms
  show own_Go p.tables e below _ (T6.setTop (mkF m 45 (Array.mk [.val (.ref a), .val (.int ix), .val (.double x), .second]) []))
  refine own_blk dec4 seq4 hby hx hZ hown hK hF 1 [] [] X6 rfl ?_
  show own_Aft X6 T6.heap _ 75 [.val (.ref a), .val (.int ix), .val (.double x), .second] []
  refine fun T7 X7 eh7 => ?_
  exact own_retV X7 hx hlk eh7 hret (hb hby d4_75) (by decide) (by decide) (⟨rfl, Nk, ⟨_, EX_k, Fd2_k, Fd4_k, Fc_k, Fi_k, Fd_k⟩, PP⟩)
set_option maxRecDepth 65536 in
set_option maxHeartbeats 40000000 in
theorem rm4_4_2 (l : Launch) (Z : State) (a0 : Array Value) (hw : ∀ d ∈ tables_1, d.before a0 Z = true) (ws : List Jvm.Cond) (a ia da : Addr) (o : Int64) (ix : Int32) (x : UInt64) (b : Int) (j0 j1 : Int32) (y0 y1 : UInt64) (f0 f1 : Int) (h0 : Heap) (n0 : Nat) (Z0 : n0 ≤ h0.size) (na : n0 ≤ a) (nia : ia ≠ a) (nda : da ≠ a) (EX : Exa Z h0 a "org/axisfold/search/KNearest") (Fo : Fld Z h0 a "org/axisfold/search/KNearest" "offered" "J" (.long o)) (Fs : Fld Z h0 a "org/axisfold/search/KNearest" "size" "I" (.int (2 : Int32))) (Fc : Fld Z h0 a "org/axisfold/search/KNearest" "capacity" "I" (.int (4 : Int32))) (Fi : Fld Z h0 a "org/axisfold/search/KNearest" "indices" "[I" (.ref ia)) (Fd : Fld Z h0 a "org/axisfold/search/KNearest" "squaredDistances" "[D" (.ref da)) (ni : n0 ≤ ia) (nd : n0 ≤ da) (ne_ : ia ≠ da) (A1 : own_A Z h0 ia .int [.int j0, .int j1, .int (0 : Int32), .int (0 : Int32)]) (A2 : own_A Z h0 da .double [.double y0, .double y1, .double 0, .double 0]) (Dx : own_D 0 b x) (D0 : own_D 0 f0 y0) (D1 : own_D 0 f1 y1) :
    MetFree l (⟨"org/axisfold/search/KNearest", "offer", "(ID)V"⟩ : MethodName) (head1 (Jvm.Cond.code (⟨"org/axisfold/search/KNearest", "offer", "(ID)V"⟩ : MethodName) prog_40_method_4_code 4 none :: ws) ({ frames := 2, cells := 0, slots := 0, locals := 64 } : Room)) (fun as_ U => as_ = #[.ref a, .int ix, .double x] ∧ Z.Warmed39 U.vm ∧ U.heap = h0) (fun _ _ _ _ _ => True) (fun _ U o U' => own_Fin U ({ frames := 2, cells := 0, slots := 0, locals := 64 } : Room).cells ({ frames := 2, cells := 0, slots := 0, locals := 64 } : Room).slots (fun v h L => v = none ∧ Fr n0 L ∧ (∃ o', Exa Z h a "org/axisfold/search/KNearest" ∧ Fld Z h a "org/axisfold/search/KNearest" "offered" "J" (.long o') ∧ Fld Z h a "org/axisfold/search/KNearest" "size" "I" (.int (3 : Int32)) ∧ Fld Z h a "org/axisfold/search/KNearest" "capacity" "I" (.int (4 : Int32)) ∧ Fld Z h a "org/axisfold/search/KNearest" "indices" "[I" (.ref ia) ∧ Fld Z h a "org/axisfold/search/KNearest" "squaredDistances" "[D" (.ref da)) ∧ ∃ (j0' j1' j2' : Int32) (z0 z1 z2 : UInt64) (c0 c1 c2 : Int), own_A Z h ia .int [.int j0', .int j1', .int j2', .int (0 : Int32)] ∧ own_A Z h da .double [.double z0, .double z1, .double z2, .double 0] ∧ own_D 0 c0 z0 ∧ own_D 0 c1 z1 ∧ own_D 0 c2 z2 ∧ ((b ≤ f0 ∧ c0 = f0 ∧ c1 = f1 ∧ c2 = b) ∨ (f0 ≤ b ∧ c0 = b ∧ c1 = f1 ∧ c2 = f0))) o U') := by
  refine own_body pf4 (ls0 := [.val (.ref a), .val (.int ix), .val (.double x), .second]) (fun m => by first | (simp [entryFrame, mkF, argsToLocals, Value.category, maxLocals]; done) | rfl) ?_
  intro p e s m below meth c T0 hx hby hml hown hnm hlk hret hZ X0 e0
  have hK : own_ks "org/axisfold/search/KNearest" a0 Z kt4 := ⟨hw _ (List.mem_of_getElem? (i := 24) rfl), trivial⟩
  have hF : own_fs "org/axisfold/search/KNearest" a0 Z ft4 := ⟨hw _ (List.mem_of_getElem? (i := 9) rfl), hw _ (List.mem_of_getElem? (i := 12) rfl), hw _ (List.mem_of_getElem? (i := 15) rfl), hw _ (List.mem_of_getElem? (i := 22) rfl), hw _ (List.mem_of_getElem? (i := 31) rfl), trivial⟩
  have N0 := Fr.nil n0
  refine own_blk dec4 seq4 hby hx hZ hown hK hF 5 [] [.long o] X0 e0 ?_
  show (Fld Z h0 a "org/axisfold/search/KNearest" "offered" "J" (.long o)) ∧ own_Aft X0 h0 _ 7 [.val (.ref a), .val (.int ix), .val (.double x), .second] [.long (o + (1 : Int64)), .ref a]
  refine ⟨Fo, fun T1 X1 eh1 => ?_⟩
  refine own_putF X1 hx hZ hown (hw _ (List.mem_of_getElem? (i := 31) rfl)) eh1 Fo EX (Or.inl (hw _ (List.mem_of_getElem? (i := 32) rfl))) (hw _ (List.mem_of_getElem? (i := 1) rfl)) (ty := .long) (by decide) rfl rfl (hb hby d4_7) (fun T2 hp2 X2 eh2 Wr2 Fd2 Ea2 => ?_)
  have A1_2 := A1.other Wr2 nia
  have A2_2 := A2.other Wr2 nda
  have Fs_2 := Fld.other Wr2 Fs (Or.inr (slot_ne (Or.inl (hw _ (List.mem_of_getElem? (i := 23) rfl))) (Or.inl (hw _ (List.mem_of_getElem? (i := 32) rfl))) (by decide) (t := .int) (t' := .long) (by decide) (by decide)))
  have Fc_2 := Fld.other Wr2 Fc (Or.inr (slot_ne (Or.inr (hw _ (List.mem_of_getElem? (i := 10) rfl))) (Or.inl (hw _ (List.mem_of_getElem? (i := 32) rfl))) (by decide) (t := .int) (t' := .long) (by decide) (by decide)))
  have Fi_2 := Fld.other Wr2 Fi (Or.inr (slot_ne (Or.inr (hw _ (List.mem_of_getElem? (i := 13) rfl))) (Or.inl (hw _ (List.mem_of_getElem? (i := 32) rfl))) (by decide) (t := (.array .int)) (t' := .long) (by decide) (by decide)))
  have Fd_2 := Fld.other Wr2 Fd (Or.inr (slot_ne (Or.inr (hw _ (List.mem_of_getElem? (i := 16) rfl))) (Or.inl (hw _ (List.mem_of_getElem? (i := 32) rfl))) (by decide) (t := (.array .double)) (t' := .long) (by decide) (by decide)))
  have Nf2 := Fr.snoc X2 N0 na
  have Z_2 : n0 ≤ hp2.size := by rw [Wr.size Wr2]; exact Z0
  refine own_blk dec4 seq4 hby hx hZ hown hK hF 15 [false] [.int (2 : Int32), .int (4 : Int32), .ref ia, .ref da, .int (2 : Int32)] X2 eh2 ?_
  show (Fld Z hp2 a "org/axisfold/search/KNearest" "size" "I" (.int (2 : Int32))) ∧ (Fld Z hp2 a "org/axisfold/search/KNearest" "capacity" "I" (.int (4 : Int32))) ∧ (¬ (((4 : Int32)).toInt ≤ ((2 : Int32)).toInt)) ∧ (Fld Z hp2 a "org/axisfold/search/KNearest" "indices" "[I" (.ref ia)) ∧ (Fld Z hp2 a "org/axisfold/search/KNearest" "squaredDistances" "[D" (.ref da)) ∧ (Fld Z hp2 a "org/axisfold/search/KNearest" "size" "I" (.int (2 : Int32))) ∧ own_Aft X2 hp2 _ 37 [.val (.ref a), .val (.int ix), .val (.double x), .second] [.int (3 : Int32), .ref a, .int (2 : Int32), .ref da, .ref ia]
  refine ⟨Fs_2, Fc_2, by decide, Fi_2, Fd_2, Fs_2, fun T3 X3 eh3 => ?_⟩
  refine own_putF X3 hx hZ hown (hw _ (List.mem_of_getElem? (i := 22) rfl)) eh3 Fs_2 Ea2 (Or.inl (hw _ (List.mem_of_getElem? (i := 23) rfl))) (hw _ (List.mem_of_getElem? (i := 1) rfl)) (ty := .int) (by decide) rfl rfl (hb hby d4_37) (fun T4 hp4 X4 eh4 Wr4 Fd4 Ea4 => ?_)
  have A1_4 := A1_2.other Wr4 nia
  have A2_4 := A2_2.other Wr4 nda
  have Fd2_4 := Fld.other Wr4 Fd2 (Or.inr (slot_ne (Or.inl (hw _ (List.mem_of_getElem? (i := 32) rfl))) (Or.inl (hw _ (List.mem_of_getElem? (i := 23) rfl))) (by decide) (t := .long) (t' := .int) (by decide) (by decide)))
  have Fc_4 := Fld.other Wr4 Fc_2 (Or.inr (slot_ne (Or.inr (hw _ (List.mem_of_getElem? (i := 10) rfl))) (Or.inl (hw _ (List.mem_of_getElem? (i := 23) rfl))) (by decide) (t := .int) (t' := .int) (by decide) (by decide)))
  have Fi_4 := Fld.other Wr4 Fi_2 (Or.inr (slot_ne (Or.inr (hw _ (List.mem_of_getElem? (i := 13) rfl))) (Or.inl (hw _ (List.mem_of_getElem? (i := 23) rfl))) (by decide) (t := (.array .int)) (t' := .int) (by decide) (by decide)))
  have Fd_4 := Fld.other Wr4 Fd_2 (Or.inr (slot_ne (Or.inr (hw _ (List.mem_of_getElem? (i := 16) rfl))) (Or.inl (hw _ (List.mem_of_getElem? (i := 23) rfl))) (by decide) (t := (.array .double)) (t' := .int) (by decide) (by decide)))
  have Nf4 := Fr.snoc X4 Nf2 na
  have Z_4 : n0 ≤ hp4.size := by rw [Wr.size Wr4]; exact Z_2
  refine own_blk dec4 seq4 hby hx hZ hown hK hF 2 [] [] X4 eh4 ?_
  show own_Aft X4 hp4 _ 42 [.val (.ref a), .val (.int ix), .val (.double x), .second] [.double x, .int ix, .int (2 : Int32), .ref da, .ref ia]
  refine fun T5 X5 eh5 => ?_
  refine own_callS X5 hx hZ hown (hw _ (List.mem_of_getElem? (i := 33) rfl)) (hw _ (List.mem_of_getElem? (i := 34) rfl)) (hw _ (List.mem_of_getElem? (i := 35) rfl)) (hw _ (List.mem_of_getElem? (i := 36) rfl)) (by decide) eh5 [.ref ia, .ref da, .int (2 : Int32), .int ix, .double x] pd5 rfl (rm := ({ frames := 1, cells := 0, slots := 0, locals := 24 } : Room)) (rm5_4_2 l Z a0 hw [] ia da ix x b j0 j1 y0 y1 f0 f1 hp4 n0 Z_4 ni nd ne_ A1_4 A2_4 Dx D0 D1 ) (by rw [hml]; rfl) 0 rfl (Nat.le_of_eq rfl) (hb hby d4_42) (by decide) (by decide) (by decide) (by decide) (fun T6 rv6 Lc6 X6 qc6 => ?_)
  obtain ⟨rfl, Ms, KK, PP⟩ := qc6
  have nin : a ∉ [ia, da] := fun q => by rcases List.mem_cons.mp q with q | q; exact nia q.symm; exact nda (List.mem_singleton.mp q).symm
  have Fd2_k := Fld.keep Fd2_4 KK nin
  have Fd4_k := Fld.keep Fd4 KK nin
  have Fc_k := Fld.keep Fc_4 KK nin
  have Fi_k := Fld.keep Fi_4 KK nin
  have Fd_k := Fld.keep Fd_4 KK nin
  have EX_k := Exa.keep Ea4 KK
  have Nk := Fr.app Nf4 Ms
  show own_Go p.tables e below _ (T6.setTop (mkF m 45 (Array.mk [.val (.ref a), .val (.int ix), .val (.double x), .second]) []))
  refine own_blk dec4 seq4 hby hx hZ hown hK hF 1 [] [] X6 rfl ?_
  show own_Aft X6 T6.heap _ 75 [.val (.ref a), .val (.int ix), .val (.double x), .second] []
  refine fun T7 X7 eh7 => ?_
  exact own_retV X7 hx hlk eh7 hret (hb hby d4_75) (by decide) (by decide) (⟨rfl, Nk, ⟨_, EX_k, Fd2_k, Fd4_k, Fc_k, Fi_k, Fd_k⟩, PP⟩)
set_option maxRecDepth 65536 in
set_option maxHeartbeats 40000000 in
theorem rm4_4_3 (l : Launch) (Z : State) (a0 : Array Value) (hw : ∀ d ∈ tables_1, d.before a0 Z = true) (ws : List Jvm.Cond) (a ia da : Addr) (o : Int64) (ix : Int32) (x : UInt64) (b : Int) (j0 j1 j2 : Int32) (y0 y1 y2 : UInt64) (f0 f1 f2 : Int) (h0 : Heap) (n0 : Nat) (Z0 : n0 ≤ h0.size) (na : n0 ≤ a) (nia : ia ≠ a) (nda : da ≠ a) (EX : Exa Z h0 a "org/axisfold/search/KNearest") (Fo : Fld Z h0 a "org/axisfold/search/KNearest" "offered" "J" (.long o)) (Fs : Fld Z h0 a "org/axisfold/search/KNearest" "size" "I" (.int (3 : Int32))) (Fc : Fld Z h0 a "org/axisfold/search/KNearest" "capacity" "I" (.int (4 : Int32))) (Fi : Fld Z h0 a "org/axisfold/search/KNearest" "indices" "[I" (.ref ia)) (Fd : Fld Z h0 a "org/axisfold/search/KNearest" "squaredDistances" "[D" (.ref da)) (ni : n0 ≤ ia) (nd : n0 ≤ da) (ne_ : ia ≠ da) (A1 : own_A Z h0 ia .int [.int j0, .int j1, .int j2, .int (0 : Int32)]) (A2 : own_A Z h0 da .double [.double y0, .double y1, .double y2, .double 0]) (Dx : own_D 0 b x) (D0 : own_D 0 f0 y0) (D1 : own_D 0 f1 y1) (D2 : own_D 0 f2 y2) :
    MetFree l (⟨"org/axisfold/search/KNearest", "offer", "(ID)V"⟩ : MethodName) (head1 (Jvm.Cond.code (⟨"org/axisfold/search/KNearest", "offer", "(ID)V"⟩ : MethodName) prog_40_method_4_code 4 none :: ws) ({ frames := 2, cells := 0, slots := 0, locals := 64 } : Room)) (fun as_ U => as_ = #[.ref a, .int ix, .double x] ∧ Z.Warmed39 U.vm ∧ U.heap = h0) (fun _ _ _ _ _ => True) (fun _ U o U' => own_Fin U ({ frames := 2, cells := 0, slots := 0, locals := 64 } : Room).cells ({ frames := 2, cells := 0, slots := 0, locals := 64 } : Room).slots (fun v h L => v = none ∧ Fr n0 L ∧ (∃ o', Exa Z h a "org/axisfold/search/KNearest" ∧ Fld Z h a "org/axisfold/search/KNearest" "offered" "J" (.long o') ∧ Fld Z h a "org/axisfold/search/KNearest" "size" "I" (.int (4 : Int32)) ∧ Fld Z h a "org/axisfold/search/KNearest" "capacity" "I" (.int (4 : Int32)) ∧ Fld Z h a "org/axisfold/search/KNearest" "indices" "[I" (.ref ia) ∧ Fld Z h a "org/axisfold/search/KNearest" "squaredDistances" "[D" (.ref da)) ∧ ∃ (j0' j1' j2' j3' : Int32) (z0 z1 z2 z3 : UInt64) (c0 c1 c2 c3 : Int), own_A Z h ia .int [.int j0', .int j1', .int j2', .int j3'] ∧ own_A Z h da .double [.double z0, .double z1, .double z2, .double z3] ∧ own_D 0 c0 z0 ∧ own_D 0 c1 z1 ∧ own_D 0 c2 z2 ∧ own_D 0 c3 z3 ∧ ((b ≤ f1 ∧ c0 = f0 ∧ c1 = f1 ∧ c2 = f2 ∧ c3 = b) ∨ (f1 ≤ b ∧ b ≤ f0 ∧ c0 = f0 ∧ c1 = b ∧ c2 = f2 ∧ c3 = f1) ∨ (f1 ≤ b ∧ f0 ≤ b ∧ c0 = b ∧ c1 = f0 ∧ c2 = f2 ∧ c3 = f1))) o U') := by
  refine own_body pf4 (ls0 := [.val (.ref a), .val (.int ix), .val (.double x), .second]) (fun m => by first | (simp [entryFrame, mkF, argsToLocals, Value.category, maxLocals]; done) | rfl) ?_
  intro p e s m below meth c T0 hx hby hml hown hnm hlk hret hZ X0 e0
  have hK : own_ks "org/axisfold/search/KNearest" a0 Z kt4 := ⟨hw _ (List.mem_of_getElem? (i := 24) rfl), trivial⟩
  have hF : own_fs "org/axisfold/search/KNearest" a0 Z ft4 := ⟨hw _ (List.mem_of_getElem? (i := 9) rfl), hw _ (List.mem_of_getElem? (i := 12) rfl), hw _ (List.mem_of_getElem? (i := 15) rfl), hw _ (List.mem_of_getElem? (i := 22) rfl), hw _ (List.mem_of_getElem? (i := 31) rfl), trivial⟩
  have N0 := Fr.nil n0
  refine own_blk dec4 seq4 hby hx hZ hown hK hF 5 [] [.long o] X0 e0 ?_
  show (Fld Z h0 a "org/axisfold/search/KNearest" "offered" "J" (.long o)) ∧ own_Aft X0 h0 _ 7 [.val (.ref a), .val (.int ix), .val (.double x), .second] [.long (o + (1 : Int64)), .ref a]
  refine ⟨Fo, fun T1 X1 eh1 => ?_⟩
  refine own_putF X1 hx hZ hown (hw _ (List.mem_of_getElem? (i := 31) rfl)) eh1 Fo EX (Or.inl (hw _ (List.mem_of_getElem? (i := 32) rfl))) (hw _ (List.mem_of_getElem? (i := 1) rfl)) (ty := .long) (by decide) rfl rfl (hb hby d4_7) (fun T2 hp2 X2 eh2 Wr2 Fd2 Ea2 => ?_)
  have A1_2 := A1.other Wr2 nia
  have A2_2 := A2.other Wr2 nda
  have Fs_2 := Fld.other Wr2 Fs (Or.inr (slot_ne (Or.inl (hw _ (List.mem_of_getElem? (i := 23) rfl))) (Or.inl (hw _ (List.mem_of_getElem? (i := 32) rfl))) (by decide) (t := .int) (t' := .long) (by decide) (by decide)))
  have Fc_2 := Fld.other Wr2 Fc (Or.inr (slot_ne (Or.inr (hw _ (List.mem_of_getElem? (i := 10) rfl))) (Or.inl (hw _ (List.mem_of_getElem? (i := 32) rfl))) (by decide) (t := .int) (t' := .long) (by decide) (by decide)))
  have Fi_2 := Fld.other Wr2 Fi (Or.inr (slot_ne (Or.inr (hw _ (List.mem_of_getElem? (i := 13) rfl))) (Or.inl (hw _ (List.mem_of_getElem? (i := 32) rfl))) (by decide) (t := (.array .int)) (t' := .long) (by decide) (by decide)))
  have Fd_2 := Fld.other Wr2 Fd (Or.inr (slot_ne (Or.inr (hw _ (List.mem_of_getElem? (i := 16) rfl))) (Or.inl (hw _ (List.mem_of_getElem? (i := 32) rfl))) (by decide) (t := (.array .double)) (t' := .long) (by decide) (by decide)))
  have Nf2 := Fr.snoc X2 N0 na
  have Z_2 : n0 ≤ hp2.size := by rw [Wr.size Wr2]; exact Z0
  refine own_blk dec4 seq4 hby hx hZ hown hK hF 15 [false] [.int (3 : Int32), .int (4 : Int32), .ref ia, .ref da, .int (3 : Int32)] X2 eh2 ?_
  show (Fld Z hp2 a "org/axisfold/search/KNearest" "size" "I" (.int (3 : Int32))) ∧ (Fld Z hp2 a "org/axisfold/search/KNearest" "capacity" "I" (.int (4 : Int32))) ∧ (¬ (((4 : Int32)).toInt ≤ ((3 : Int32)).toInt)) ∧ (Fld Z hp2 a "org/axisfold/search/KNearest" "indices" "[I" (.ref ia)) ∧ (Fld Z hp2 a "org/axisfold/search/KNearest" "squaredDistances" "[D" (.ref da)) ∧ (Fld Z hp2 a "org/axisfold/search/KNearest" "size" "I" (.int (3 : Int32))) ∧ own_Aft X2 hp2 _ 37 [.val (.ref a), .val (.int ix), .val (.double x), .second] [.int (4 : Int32), .ref a, .int (3 : Int32), .ref da, .ref ia]
  refine ⟨Fs_2, Fc_2, by decide, Fi_2, Fd_2, Fs_2, fun T3 X3 eh3 => ?_⟩
  refine own_putF X3 hx hZ hown (hw _ (List.mem_of_getElem? (i := 22) rfl)) eh3 Fs_2 Ea2 (Or.inl (hw _ (List.mem_of_getElem? (i := 23) rfl))) (hw _ (List.mem_of_getElem? (i := 1) rfl)) (ty := .int) (by decide) rfl rfl (hb hby d4_37) (fun T4 hp4 X4 eh4 Wr4 Fd4 Ea4 => ?_)
  have A1_4 := A1_2.other Wr4 nia
  have A2_4 := A2_2.other Wr4 nda
  have Fd2_4 := Fld.other Wr4 Fd2 (Or.inr (slot_ne (Or.inl (hw _ (List.mem_of_getElem? (i := 32) rfl))) (Or.inl (hw _ (List.mem_of_getElem? (i := 23) rfl))) (by decide) (t := .long) (t' := .int) (by decide) (by decide)))
  have Fc_4 := Fld.other Wr4 Fc_2 (Or.inr (slot_ne (Or.inr (hw _ (List.mem_of_getElem? (i := 10) rfl))) (Or.inl (hw _ (List.mem_of_getElem? (i := 23) rfl))) (by decide) (t := .int) (t' := .int) (by decide) (by decide)))
  have Fi_4 := Fld.other Wr4 Fi_2 (Or.inr (slot_ne (Or.inr (hw _ (List.mem_of_getElem? (i := 13) rfl))) (Or.inl (hw _ (List.mem_of_getElem? (i := 23) rfl))) (by decide) (t := (.array .int)) (t' := .int) (by decide) (by decide)))
  have Fd_4 := Fld.other Wr4 Fd_2 (Or.inr (slot_ne (Or.inr (hw _ (List.mem_of_getElem? (i := 16) rfl))) (Or.inl (hw _ (List.mem_of_getElem? (i := 23) rfl))) (by decide) (t := (.array .double)) (t' := .int) (by decide) (by decide)))
  have Nf4 := Fr.snoc X4 Nf2 na
  have Z_4 : n0 ≤ hp4.size := by rw [Wr.size Wr4]; exact Z_2
  refine own_blk dec4 seq4 hby hx hZ hown hK hF 2 [] [] X4 eh4 ?_
  show own_Aft X4 hp4 _ 42 [.val (.ref a), .val (.int ix), .val (.double x), .second] [.double x, .int ix, .int (3 : Int32), .ref da, .ref ia]
  refine fun T5 X5 eh5 => ?_
  refine own_callS X5 hx hZ hown (hw _ (List.mem_of_getElem? (i := 33) rfl)) (hw _ (List.mem_of_getElem? (i := 34) rfl)) (hw _ (List.mem_of_getElem? (i := 35) rfl)) (hw _ (List.mem_of_getElem? (i := 36) rfl)) (by decide) eh5 [.ref ia, .ref da, .int (3 : Int32), .int ix, .double x] pd5 rfl (rm := ({ frames := 1, cells := 0, slots := 0, locals := 24 } : Room)) (rm5_4_3 l Z a0 hw [] ia da ix x b j0 j1 j2 y0 y1 y2 f0 f1 f2 hp4 n0 Z_4 ni nd ne_ A1_4 A2_4 Dx D0 D1 D2 ) (by rw [hml]; rfl) 0 rfl (Nat.le_of_eq rfl) (hb hby d4_42) (by decide) (by decide) (by decide) (by decide) (fun T6 rv6 Lc6 X6 qc6 => ?_)
  obtain ⟨rfl, Ms, KK, PP⟩ := qc6
  have nin : a ∉ [ia, da] := fun q => by rcases List.mem_cons.mp q with q | q; exact nia q.symm; exact nda (List.mem_singleton.mp q).symm
  have Fd2_k := Fld.keep Fd2_4 KK nin
  have Fd4_k := Fld.keep Fd4 KK nin
  have Fc_k := Fld.keep Fc_4 KK nin
  have Fi_k := Fld.keep Fi_4 KK nin
  have Fd_k := Fld.keep Fd_4 KK nin
  have EX_k := Exa.keep Ea4 KK
  have Nk := Fr.app Nf4 Ms
  show own_Go p.tables e below _ (T6.setTop (mkF m 45 (Array.mk [.val (.ref a), .val (.int ix), .val (.double x), .second]) []))
  refine own_blk dec4 seq4 hby hx hZ hown hK hF 1 [] [] X6 rfl ?_
  show own_Aft X6 T6.heap _ 75 [.val (.ref a), .val (.int ix), .val (.double x), .second] []
  refine fun T7 X7 eh7 => ?_
  exact own_retV X7 hx hlk eh7 hret (hb hby d4_75) (by decide) (by decide) (⟨rfl, Nk, ⟨_, EX_k, Fd2_k, Fd4_k, Fc_k, Fi_k, Fd_k⟩, PP⟩)
set_option maxRecDepth 65536 in
set_option maxHeartbeats 40000000 in
theorem net {p : Program} {l : Launch} {e : Env} {R : Room} {s : State} {m : MethodId} {args : Array Value} {below : List Frame} {meth : Method} {c : Code} {T0 : State} {locs : List Loc} {cells slots : Nat} {Z : State} {a0 : Array Value} {h0 : Heap} {Q : Outcome → State → Prop} (X0 : Stand p l e R s m args below meth c T0 locs cells slots) (hx : p.tables.exec = Jvm.exec) (hby : c.code = code) (hml : c.maxLocals = maxLocals) (hown : s.vm.findClass "org/axisfold/search/KNearestLimitPinLaw" = some m.cls) (hZ : Z.Warmed39 s.vm) (hK : own_ks "org/axisfold/search/KNearestLimitPinLaw" a0 Z kt0) (hF : own_fs "org/axisfold/search/KNearestLimitPinLaw" a0 Z ft0) (e0 : T0.heap = h0) (s0 s1 s2 s3 s4 s5 s6 s7 s8 s9 s10 s16 : Slot) (p_ q_ r_ t_ : Int32) (hw : ∀ d ∈ tables_1, d.before a0 Z = true) (hR1 : 1 ≤ R.frames) (hR2 : 13 ≤ R.locals) (hC : cells ≤ R.cells) (hS : slots ≤ R.slots)
    (kk : ∀ (A1 B1 E1 F1 A5 E2 B2 F5 B5 E5 : Int32) (s15 : Slot) (_ : ((A1.toInt = p_.toInt ∧ B1.toInt = q_.toInt ∧ p_.toInt ≤ q_.toInt) ∨ (A1.toInt = q_.toInt ∧ B1.toInt = p_.toInt ∧ q_.toInt ≤ p_.toInt))) (_ : ((E1.toInt = r_.toInt ∧ F1.toInt = t_.toInt ∧ r_.toInt ≤ t_.toInt) ∨ (E1.toInt = t_.toInt ∧ F1.toInt = r_.toInt ∧ t_.toInt ≤ r_.toInt))) (_ : ((A5.toInt = A1.toInt ∧ E2.toInt = E1.toInt ∧ A1.toInt ≤ E1.toInt) ∨ (A5.toInt = E1.toInt ∧ E2.toInt = A1.toInt ∧ E1.toInt ≤ A1.toInt))) (_ : ((B2.toInt = B1.toInt ∧ F5.toInt = F1.toInt ∧ B1.toInt ≤ F1.toInt) ∨ (B2.toInt = F1.toInt ∧ F5.toInt = B1.toInt ∧ F1.toInt ≤ B1.toInt))) (_ : ((B5.toInt = B2.toInt ∧ E5.toInt = E2.toInt ∧ B2.toInt ≤ E2.toInt) ∨ (B5.toInt = E2.toInt ∧ E5.toInt = B2.toInt ∧ E2.toInt ≤ B2.toInt))), own_Aft X0 h0 Q 291 [s0, s1, s2, s3, s4, s5, s6, s7, s8, s9, s10, .val (.int A5), .val (.int B5), .val (.int E5), .val (.int F5), s15, s16] []) : own_Go p.tables e below Q (T0.setTop (mkF m 181 (Array.mk [s0, s1, s2, s3, s4, s5, s6, s7, s8, s9, s10, .val (.int p_), .val (.int q_), .val (.int r_), .val (.int t_), .unset, s16]) [])) := by
  refine own_blk dec0 seq0 hby hx hZ hown hK hF 2 [] [] X0 e0 ?_
  show own_Aft X0 h0 _ 185 [s0, s1, s2, s3, s4, s5, s6, s7, s8, s9, s10, .val (.int p_), .val (.int q_), .val (.int r_), .val (.int t_), .unset, s16] [.int q_, .int p_]
  refine fun T1 X1 eh1 => ?_
  refine own_callSP X1 hx hZ hown (hw _ (List.mem_of_getElem? (i := 38) rfl)) (hw _ (List.mem_of_getElem? (i := 39) rfl)) (hw _ (List.mem_of_getElem? (i := 40) rfl)) (hw _ (List.mem_of_getElem? (i := 41) rfl)) (by decide) eh1 [.int p_, .int q_] pd6 rfl (fr := 0) (lo := 0) (rm6 l Z a0 hw [] p_ q_ h0 0 (Nat.zero_le _)) (by rw [hml]; rfl) 0 rfl (Nat.le_of_eq rfl) (hb hby at_185) (by omega) (by omega) (by omega) (by omega) (fun T2 rv2 X2 eh2 qc2 => ?_)
  obtain ⟨A1, rfl, u1, u2, u3⟩ := qc2
  show own_Go p.tables e below _ (T2.setTop (mkF m 188 (Array.mk [s0, s1, s2, s3, s4, s5, s6, s7, s8, s9, s10, .val (.int p_), .val (.int q_), .val (.int r_), .val (.int t_), .unset, s16]) [.int A1]))
  refine own_blk dec0 seq0 hby hx hZ hown hK hF 3 [] [] X2 eh2 ?_
  show own_Aft X2 h0 _ 194 [s0, s1, s2, s3, s4, s5, s6, s7, s8, s9, s10, .val (.int p_), .val (.int q_), .val (.int r_), .val (.int t_), .val (.int A1), s16] [.int q_, .int p_]
  refine fun T3 X3 eh3 => ?_
  refine own_callSP X3 hx hZ hown (hw _ (List.mem_of_getElem? (i := 42) rfl)) (hw _ (List.mem_of_getElem? (i := 43) rfl)) (hw _ (List.mem_of_getElem? (i := 40) rfl)) (hw _ (List.mem_of_getElem? (i := 44) rfl)) (by decide) eh3 [.int p_, .int q_] pd7 rfl (fr := 0) (lo := 0) (rm7 l Z a0 hw [] p_ q_ h0 0 (Nat.zero_le _)) (by rw [hml]; rfl) 0 rfl (Nat.le_of_eq rfl) (hb hby at_194) (by omega) (by omega) (by omega) (by omega) (fun T4 rv4 X4 eh4 qc4 => ?_)
  obtain ⟨B1, rfl, v1, v2, v3⟩ := qc4
  show own_Go p.tables e below _ (T4.setTop (mkF m 197 (Array.mk [s0, s1, s2, s3, s4, s5, s6, s7, s8, s9, s10, .val (.int p_), .val (.int q_), .val (.int r_), .val (.int t_), .val (.int A1), s16]) [.int B1]))
  have P1 : ((A1.toInt = p_.toInt ∧ B1.toInt = q_.toInt ∧ p_.toInt ≤ q_.toInt) ∨ (A1.toInt = q_.toInt ∧ B1.toInt = p_.toInt ∧ q_.toInt ≤ p_.toInt)) := by rcases u3 with h3 | h3 <;> rcases v3 with g3 | g3 <;> (have h4 := congrArg Int32.toInt h3; have g4 := congrArg Int32.toInt g3; omega)
  clear u1 u2 u3 v1 v2 v3
  refine own_blk dec0 seq0 hby hx hZ hown hK hF 5 [] [] X4 eh4 ?_
  show own_Aft X4 h0 _ 207 [s0, s1, s2, s3, s4, s5, s6, s7, s8, s9, s10, .val (.int A1), .val (.int B1), .val (.int r_), .val (.int t_), .val (.int A1), s16] [.int t_, .int r_]
  refine fun T5 X5 eh5 => ?_
  refine own_callSP X5 hx hZ hown (hw _ (List.mem_of_getElem? (i := 38) rfl)) (hw _ (List.mem_of_getElem? (i := 39) rfl)) (hw _ (List.mem_of_getElem? (i := 40) rfl)) (hw _ (List.mem_of_getElem? (i := 41) rfl)) (by decide) eh5 [.int r_, .int t_] pd6 rfl (fr := 0) (lo := 0) (rm6 l Z a0 hw [] r_ t_ h0 0 (Nat.zero_le _)) (by rw [hml]; rfl) 0 rfl (Nat.le_of_eq rfl) (hb hby at_207) (by omega) (by omega) (by omega) (by omega) (fun T6 rv6 X6 eh6 qc6 => ?_)
  obtain ⟨E1, rfl, u1, u2, u3⟩ := qc6
  show own_Go p.tables e below _ (T6.setTop (mkF m 210 (Array.mk [s0, s1, s2, s3, s4, s5, s6, s7, s8, s9, s10, .val (.int A1), .val (.int B1), .val (.int r_), .val (.int t_), .val (.int A1), s16]) [.int E1]))
  refine own_blk dec0 seq0 hby hx hZ hown hK hF 3 [] [] X6 eh6 ?_
  show own_Aft X6 h0 _ 216 [s0, s1, s2, s3, s4, s5, s6, s7, s8, s9, s10, .val (.int A1), .val (.int B1), .val (.int r_), .val (.int t_), .val (.int E1), s16] [.int t_, .int r_]
  refine fun T7 X7 eh7 => ?_
  refine own_callSP X7 hx hZ hown (hw _ (List.mem_of_getElem? (i := 42) rfl)) (hw _ (List.mem_of_getElem? (i := 43) rfl)) (hw _ (List.mem_of_getElem? (i := 40) rfl)) (hw _ (List.mem_of_getElem? (i := 44) rfl)) (by decide) eh7 [.int r_, .int t_] pd7 rfl (fr := 0) (lo := 0) (rm7 l Z a0 hw [] r_ t_ h0 0 (Nat.zero_le _)) (by rw [hml]; rfl) 0 rfl (Nat.le_of_eq rfl) (hb hby at_216) (by omega) (by omega) (by omega) (by omega) (fun T8 rv8 X8 eh8 qc8 => ?_)
  obtain ⟨F1, rfl, v1, v2, v3⟩ := qc8
  show own_Go p.tables e below _ (T8.setTop (mkF m 219 (Array.mk [s0, s1, s2, s3, s4, s5, s6, s7, s8, s9, s10, .val (.int A1), .val (.int B1), .val (.int r_), .val (.int t_), .val (.int E1), s16]) [.int F1]))
  have P2 : ((E1.toInt = r_.toInt ∧ F1.toInt = t_.toInt ∧ r_.toInt ≤ t_.toInt) ∨ (E1.toInt = t_.toInt ∧ F1.toInt = r_.toInt ∧ t_.toInt ≤ r_.toInt)) := by rcases u3 with h3 | h3 <;> rcases v3 with g3 | g3 <;> (have h4 := congrArg Int32.toInt h3; have g4 := congrArg Int32.toInt g3; omega)
  clear u1 u2 u3 v1 v2 v3
  refine own_blk dec0 seq0 hby hx hZ hown hK hF 5 [] [] X8 eh8 ?_
  show own_Aft X8 h0 _ 229 [s0, s1, s2, s3, s4, s5, s6, s7, s8, s9, s10, .val (.int A1), .val (.int B1), .val (.int E1), .val (.int F1), .val (.int E1), s16] [.int E1, .int A1]
  refine fun T9 X9 eh9 => ?_
  refine own_callSP X9 hx hZ hown (hw _ (List.mem_of_getElem? (i := 38) rfl)) (hw _ (List.mem_of_getElem? (i := 39) rfl)) (hw _ (List.mem_of_getElem? (i := 40) rfl)) (hw _ (List.mem_of_getElem? (i := 41) rfl)) (by decide) eh9 [.int A1, .int E1] pd6 rfl (fr := 0) (lo := 0) (rm6 l Z a0 hw [] A1 E1 h0 0 (Nat.zero_le _)) (by rw [hml]; rfl) 0 rfl (Nat.le_of_eq rfl) (hb hby at_229) (by omega) (by omega) (by omega) (by omega) (fun T10 rv10 X10 eh10 qc10 => ?_)
  obtain ⟨A5, rfl, u1, u2, u3⟩ := qc10
  show own_Go p.tables e below _ (T10.setTop (mkF m 232 (Array.mk [s0, s1, s2, s3, s4, s5, s6, s7, s8, s9, s10, .val (.int A1), .val (.int B1), .val (.int E1), .val (.int F1), .val (.int E1), s16]) [.int A5]))
  refine own_blk dec0 seq0 hby hx hZ hown hK hF 3 [] [] X10 eh10 ?_
  show own_Aft X10 h0 _ 238 [s0, s1, s2, s3, s4, s5, s6, s7, s8, s9, s10, .val (.int A1), .val (.int B1), .val (.int E1), .val (.int F1), .val (.int A5), s16] [.int E1, .int A1]
  refine fun T11 X11 eh11 => ?_
  refine own_callSP X11 hx hZ hown (hw _ (List.mem_of_getElem? (i := 42) rfl)) (hw _ (List.mem_of_getElem? (i := 43) rfl)) (hw _ (List.mem_of_getElem? (i := 40) rfl)) (hw _ (List.mem_of_getElem? (i := 44) rfl)) (by decide) eh11 [.int A1, .int E1] pd7 rfl (fr := 0) (lo := 0) (rm7 l Z a0 hw [] A1 E1 h0 0 (Nat.zero_le _)) (by rw [hml]; rfl) 0 rfl (Nat.le_of_eq rfl) (hb hby at_238) (by omega) (by omega) (by omega) (by omega) (fun T12 rv12 X12 eh12 qc12 => ?_)
  obtain ⟨E2, rfl, v1, v2, v3⟩ := qc12
  show own_Go p.tables e below _ (T12.setTop (mkF m 241 (Array.mk [s0, s1, s2, s3, s4, s5, s6, s7, s8, s9, s10, .val (.int A1), .val (.int B1), .val (.int E1), .val (.int F1), .val (.int A5), s16]) [.int E2]))
  have P3 : ((A5.toInt = A1.toInt ∧ E2.toInt = E1.toInt ∧ A1.toInt ≤ E1.toInt) ∨ (A5.toInt = E1.toInt ∧ E2.toInt = A1.toInt ∧ E1.toInt ≤ A1.toInt)) := by rcases u3 with h3 | h3 <;> rcases v3 with g3 | g3 <;> (have h4 := congrArg Int32.toInt h3; have g4 := congrArg Int32.toInt g3; omega)
  clear u1 u2 u3 v1 v2 v3
  refine own_blk dec0 seq0 hby hx hZ hown hK hF 5 [] [] X12 eh12 ?_
  show own_Aft X12 h0 _ 251 [s0, s1, s2, s3, s4, s5, s6, s7, s8, s9, s10, .val (.int A5), .val (.int B1), .val (.int E2), .val (.int F1), .val (.int A5), s16] [.int F1, .int B1]
  refine fun T13 X13 eh13 => ?_
  refine own_callSP X13 hx hZ hown (hw _ (List.mem_of_getElem? (i := 38) rfl)) (hw _ (List.mem_of_getElem? (i := 39) rfl)) (hw _ (List.mem_of_getElem? (i := 40) rfl)) (hw _ (List.mem_of_getElem? (i := 41) rfl)) (by decide) eh13 [.int B1, .int F1] pd6 rfl (fr := 0) (lo := 0) (rm6 l Z a0 hw [] B1 F1 h0 0 (Nat.zero_le _)) (by rw [hml]; rfl) 0 rfl (Nat.le_of_eq rfl) (hb hby at_251) (by omega) (by omega) (by omega) (by omega) (fun T14 rv14 X14 eh14 qc14 => ?_)
  obtain ⟨B2, rfl, u1, u2, u3⟩ := qc14
  show own_Go p.tables e below _ (T14.setTop (mkF m 254 (Array.mk [s0, s1, s2, s3, s4, s5, s6, s7, s8, s9, s10, .val (.int A5), .val (.int B1), .val (.int E2), .val (.int F1), .val (.int A5), s16]) [.int B2]))
  refine own_blk dec0 seq0 hby hx hZ hown hK hF 3 [] [] X14 eh14 ?_
  show own_Aft X14 h0 _ 260 [s0, s1, s2, s3, s4, s5, s6, s7, s8, s9, s10, .val (.int A5), .val (.int B1), .val (.int E2), .val (.int F1), .val (.int B2), s16] [.int F1, .int B1]
  refine fun T15 X15 eh15 => ?_
  refine own_callSP X15 hx hZ hown (hw _ (List.mem_of_getElem? (i := 42) rfl)) (hw _ (List.mem_of_getElem? (i := 43) rfl)) (hw _ (List.mem_of_getElem? (i := 40) rfl)) (hw _ (List.mem_of_getElem? (i := 44) rfl)) (by decide) eh15 [.int B1, .int F1] pd7 rfl (fr := 0) (lo := 0) (rm7 l Z a0 hw [] B1 F1 h0 0 (Nat.zero_le _)) (by rw [hml]; rfl) 0 rfl (Nat.le_of_eq rfl) (hb hby at_260) (by omega) (by omega) (by omega) (by omega) (fun T16 rv16 X16 eh16 qc16 => ?_)
  obtain ⟨F5, rfl, v1, v2, v3⟩ := qc16
  show own_Go p.tables e below _ (T16.setTop (mkF m 263 (Array.mk [s0, s1, s2, s3, s4, s5, s6, s7, s8, s9, s10, .val (.int A5), .val (.int B1), .val (.int E2), .val (.int F1), .val (.int B2), s16]) [.int F5]))
  have P4 : ((B2.toInt = B1.toInt ∧ F5.toInt = F1.toInt ∧ B1.toInt ≤ F1.toInt) ∨ (B2.toInt = F1.toInt ∧ F5.toInt = B1.toInt ∧ F1.toInt ≤ B1.toInt)) := by rcases u3 with h3 | h3 <;> rcases v3 with g3 | g3 <;> (have h4 := congrArg Int32.toInt h3; have g4 := congrArg Int32.toInt g3; omega)
  clear u1 u2 u3 v1 v2 v3
  refine own_blk dec0 seq0 hby hx hZ hown hK hF 5 [] [] X16 eh16 ?_
  show own_Aft X16 h0 _ 273 [s0, s1, s2, s3, s4, s5, s6, s7, s8, s9, s10, .val (.int A5), .val (.int B2), .val (.int E2), .val (.int F5), .val (.int B2), s16] [.int E2, .int B2]
  refine fun T17 X17 eh17 => ?_
  refine own_callSP X17 hx hZ hown (hw _ (List.mem_of_getElem? (i := 38) rfl)) (hw _ (List.mem_of_getElem? (i := 39) rfl)) (hw _ (List.mem_of_getElem? (i := 40) rfl)) (hw _ (List.mem_of_getElem? (i := 41) rfl)) (by decide) eh17 [.int B2, .int E2] pd6 rfl (fr := 0) (lo := 0) (rm6 l Z a0 hw [] B2 E2 h0 0 (Nat.zero_le _)) (by rw [hml]; rfl) 0 rfl (Nat.le_of_eq rfl) (hb hby at_273) (by omega) (by omega) (by omega) (by omega) (fun T18 rv18 X18 eh18 qc18 => ?_)
  obtain ⟨B5, rfl, u1, u2, u3⟩ := qc18
  show own_Go p.tables e below _ (T18.setTop (mkF m 276 (Array.mk [s0, s1, s2, s3, s4, s5, s6, s7, s8, s9, s10, .val (.int A5), .val (.int B2), .val (.int E2), .val (.int F5), .val (.int B2), s16]) [.int B5]))
  refine own_blk dec0 seq0 hby hx hZ hown hK hF 3 [] [] X18 eh18 ?_
  show own_Aft X18 h0 _ 282 [s0, s1, s2, s3, s4, s5, s6, s7, s8, s9, s10, .val (.int A5), .val (.int B2), .val (.int E2), .val (.int F5), .val (.int B5), s16] [.int E2, .int B2]
  refine fun T19 X19 eh19 => ?_
  refine own_callSP X19 hx hZ hown (hw _ (List.mem_of_getElem? (i := 42) rfl)) (hw _ (List.mem_of_getElem? (i := 43) rfl)) (hw _ (List.mem_of_getElem? (i := 40) rfl)) (hw _ (List.mem_of_getElem? (i := 44) rfl)) (by decide) eh19 [.int B2, .int E2] pd7 rfl (fr := 0) (lo := 0) (rm7 l Z a0 hw [] B2 E2 h0 0 (Nat.zero_le _)) (by rw [hml]; rfl) 0 rfl (Nat.le_of_eq rfl) (hb hby at_282) (by omega) (by omega) (by omega) (by omega) (fun T20 rv20 X20 eh20 qc20 => ?_)
  obtain ⟨E5, rfl, v1, v2, v3⟩ := qc20
  show own_Go p.tables e below _ (T20.setTop (mkF m 285 (Array.mk [s0, s1, s2, s3, s4, s5, s6, s7, s8, s9, s10, .val (.int A5), .val (.int B2), .val (.int E2), .val (.int F5), .val (.int B5), s16]) [.int E5]))
  have P5 : ((B5.toInt = B2.toInt ∧ E5.toInt = E2.toInt ∧ B2.toInt ≤ E2.toInt) ∨ (B5.toInt = E2.toInt ∧ E5.toInt = B2.toInt ∧ E2.toInt ≤ B2.toInt)) := by rcases u3 with h3 | h3 <;> rcases v3 with g3 | g3 <;> (have h4 := congrArg Int32.toInt h3; have g4 := congrArg Int32.toInt g3; omega)
  clear u1 u2 u3 v1 v2 v3
  refine own_blk dec0 seq0 hby hx hZ hown hK hF 3 [] [] X20 eh20 ?_
  show own_Aft X20 h0 _ 291 [s0, s1, s2, s3, s4, s5, s6, s7, s8, s9, s10, .val (.int A5), .val (.int B5), .val (.int E5), .val (.int F5), .val (.int B5), s16] []
  refine fun T21 X21 eh21 => ?_
  exact kk A1 B1 E1 F1 A5 E2 B2 F5 B5 E5 _ P1 P2 P3 P4 P5 T21 X21 eh21
set_option maxHeartbeats 4000000 in
theorem own_fin_1_1 (d0 : Int) (g1_0 : Int) (A1 B1 E1 F1 A5 E2 B2 F5 B5 E5 : Int) (R1 : (g1_0 = d0)) (m0 : d0 ≤ 2147483647) (H1 : ((A1 = d0 ∧ B1 = (2147483647 : Int) ∧ d0 ≤ (2147483647 : Int)) ∨ (A1 = (2147483647 : Int) ∧ B1 = d0 ∧ (2147483647 : Int) ≤ d0))) (H2 : ((E1 = (2147483647 : Int) ∧ F1 = (2147483647 : Int) ∧ (2147483647 : Int) ≤ (2147483647 : Int)) ∨ (E1 = (2147483647 : Int) ∧ F1 = (2147483647 : Int) ∧ (2147483647 : Int) ≤ (2147483647 : Int)))) (H3 : ((A5 = A1 ∧ E2 = E1 ∧ A1 ≤ E1) ∨ (A5 = E1 ∧ E2 = A1 ∧ E1 ≤ A1))) (H4 : ((B2 = B1 ∧ F5 = F1 ∧ B1 ≤ F1) ∨ (B2 = F1 ∧ F5 = B1 ∧ F1 ≤ B1))) (H5 : ((B5 = B2 ∧ E5 = E2 ∧ B2 ≤ E2) ∨ (B5 = E2 ∧ E5 = B2 ∧ E2 ≤ B2))) : g1_0 = A5 := by
  rcases R1 with rfl <;> rcases H1 with ⟨rfl, rfl, u1⟩ | ⟨rfl, rfl, u1⟩ <;> rcases H2 with ⟨rfl, rfl, u2⟩ | ⟨rfl, rfl, u2⟩ <;> rcases H3 with ⟨rfl, rfl, u3⟩ | ⟨rfl, rfl, u3⟩ <;> rcases H4 with ⟨rfl, rfl, u4⟩ | ⟨rfl, rfl, u4⟩ <;> rcases H5 with ⟨rfl, rfl, u5⟩ | ⟨rfl, rfl, u5⟩ <;> omega
set_option maxHeartbeats 4000000 in
theorem own_fin_1_2 (d0 d1 : Int) (g1_0 g2_0 : Int) (A1 B1 E1 F1 A5 E2 B2 F5 B5 E5 : Int) (R1 : (g1_0 = d0)) (R2 : (g1_0 ≤ d1 ∧ g2_0 = g1_0) ∨ (d1 ≤ g1_0 ∧ g2_0 = d1)) (m0 : d0 ≤ 2147483647) (m1 : d1 ≤ 2147483647) (H1 : ((A1 = d0 ∧ B1 = d1 ∧ d0 ≤ d1) ∨ (A1 = d1 ∧ B1 = d0 ∧ d1 ≤ d0))) (H2 : ((E1 = (2147483647 : Int) ∧ F1 = (2147483647 : Int) ∧ (2147483647 : Int) ≤ (2147483647 : Int)) ∨ (E1 = (2147483647 : Int) ∧ F1 = (2147483647 : Int) ∧ (2147483647 : Int) ≤ (2147483647 : Int)))) (H3 : ((A5 = A1 ∧ E2 = E1 ∧ A1 ≤ E1) ∨ (A5 = E1 ∧ E2 = A1 ∧ E1 ≤ A1))) (H4 : ((B2 = B1 ∧ F5 = F1 ∧ B1 ≤ F1) ∨ (B2 = F1 ∧ F5 = B1 ∧ F1 ≤ B1))) (H5 : ((B5 = B2 ∧ E5 = E2 ∧ B2 ≤ E2) ∨ (B5 = E2 ∧ E5 = B2 ∧ E2 ≤ B2))) : g2_0 = A5 := by
  rcases R1 with rfl <;> rcases R2 with ⟨h1_0, rfl⟩ | ⟨h1_0, rfl⟩ <;> rcases H1 with ⟨rfl, rfl, u1⟩ | ⟨rfl, rfl, u1⟩ <;> rcases H2 with ⟨rfl, rfl, u2⟩ | ⟨rfl, rfl, u2⟩ <;> rcases H3 with ⟨rfl, rfl, u3⟩ | ⟨rfl, rfl, u3⟩ <;> rcases H4 with ⟨rfl, rfl, u4⟩ | ⟨rfl, rfl, u4⟩ <;> rcases H5 with ⟨rfl, rfl, u5⟩ | ⟨rfl, rfl, u5⟩ <;> omega
set_option maxHeartbeats 4000000 in
theorem own_fin_1_3 (d0 d1 d2 : Int) (g1_0 g2_0 g3_0 : Int) (A1 B1 E1 F1 A5 E2 B2 F5 B5 E5 : Int) (R1 : (g1_0 = d0)) (R2 : (g1_0 ≤ d1 ∧ g2_0 = g1_0) ∨ (d1 ≤ g1_0 ∧ g2_0 = d1)) (R3 : (g2_0 ≤ d2 ∧ g3_0 = g2_0) ∨ (d2 ≤ g2_0 ∧ g3_0 = d2)) (m0 : d0 ≤ 2147483647) (m1 : d1 ≤ 2147483647) (m2 : d2 ≤ 2147483647) (H1 : ((A1 = d0 ∧ B1 = d1 ∧ d0 ≤ d1) ∨ (A1 = d1 ∧ B1 = d0 ∧ d1 ≤ d0))) (H2 : ((E1 = d2 ∧ F1 = (2147483647 : Int) ∧ d2 ≤ (2147483647 : Int)) ∨ (E1 = (2147483647 : Int) ∧ F1 = d2 ∧ (2147483647 : Int) ≤ d2))) (H3 : ((A5 = A1 ∧ E2 = E1 ∧ A1 ≤ E1) ∨ (A5 = E1 ∧ E2 = A1 ∧ E1 ≤ A1))) (H4 : ((B2 = B1 ∧ F5 = F1 ∧ B1 ≤ F1) ∨ (B2 = F1 ∧ F5 = B1 ∧ F1 ≤ B1))) (H5 : ((B5 = B2 ∧ E5 = E2 ∧ B2 ≤ E2) ∨ (B5 = E2 ∧ E5 = B2 ∧ E2 ≤ B2))) : g3_0 = A5 := by
  rcases R1 with rfl <;> rcases R2 with ⟨h1_0, rfl⟩ | ⟨h1_0, rfl⟩ <;> rcases R3 with ⟨h2_0, rfl⟩ | ⟨h2_0, rfl⟩ <;> rcases H1 with ⟨rfl, rfl, u1⟩ | ⟨rfl, rfl, u1⟩ <;> rcases H2 with ⟨rfl, rfl, u2⟩ | ⟨rfl, rfl, u2⟩ <;> rcases H3 with ⟨rfl, rfl, u3⟩ | ⟨rfl, rfl, u3⟩ <;> rcases H4 with ⟨rfl, rfl, u4⟩ | ⟨rfl, rfl, u4⟩ <;> rcases H5 with ⟨rfl, rfl, u5⟩ | ⟨rfl, rfl, u5⟩ <;> omega
set_option maxHeartbeats 4000000 in
theorem own_fin_1_4 (d0 d1 d2 d3 : Int) (g1_0 g2_0 g3_0 g4_0 : Int) (A1 B1 E1 F1 A5 E2 B2 F5 B5 E5 : Int) (R1 : (g1_0 = d0)) (R2 : (g1_0 ≤ d1 ∧ g2_0 = g1_0) ∨ (d1 ≤ g1_0 ∧ g2_0 = d1)) (R3 : (g2_0 ≤ d2 ∧ g3_0 = g2_0) ∨ (d2 ≤ g2_0 ∧ g3_0 = d2)) (R4 : (g3_0 ≤ d3 ∧ g4_0 = g3_0) ∨ (d3 ≤ g3_0 ∧ g4_0 = d3)) (m0 : d0 ≤ 2147483647) (m1 : d1 ≤ 2147483647) (m2 : d2 ≤ 2147483647) (m3 : d3 ≤ 2147483647) (H1 : ((A1 = d0 ∧ B1 = d1 ∧ d0 ≤ d1) ∨ (A1 = d1 ∧ B1 = d0 ∧ d1 ≤ d0))) (H2 : ((E1 = d2 ∧ F1 = d3 ∧ d2 ≤ d3) ∨ (E1 = d3 ∧ F1 = d2 ∧ d3 ≤ d2))) (H3 : ((A5 = A1 ∧ E2 = E1 ∧ A1 ≤ E1) ∨ (A5 = E1 ∧ E2 = A1 ∧ E1 ≤ A1))) (H4 : ((B2 = B1 ∧ F5 = F1 ∧ B1 ≤ F1) ∨ (B2 = F1 ∧ F5 = B1 ∧ F1 ≤ B1))) (H5 : ((B5 = B2 ∧ E5 = E2 ∧ B2 ≤ E2) ∨ (B5 = E2 ∧ E5 = B2 ∧ E2 ≤ B2))) : g4_0 = A5 := by
  rcases R1 with rfl <;> rcases R2 with ⟨h1_0, rfl⟩ | ⟨h1_0, rfl⟩ <;> rcases R3 with ⟨h2_0, rfl⟩ | ⟨h2_0, rfl⟩ <;> rcases R4 with ⟨h3_0, rfl⟩ | ⟨h3_0, rfl⟩ <;> rcases H1 with ⟨rfl, rfl, u1⟩ | ⟨rfl, rfl, u1⟩ <;> rcases H2 with ⟨rfl, rfl, u2⟩ | ⟨rfl, rfl, u2⟩ <;> rcases H3 with ⟨rfl, rfl, u3⟩ | ⟨rfl, rfl, u3⟩ <;> rcases H4 with ⟨rfl, rfl, u4⟩ | ⟨rfl, rfl, u4⟩ <;> rcases H5 with ⟨rfl, rfl, u5⟩ | ⟨rfl, rfl, u5⟩ <;> omega
set_option maxHeartbeats 4000000 in
theorem own_fin_2_2 (d0 d1 : Int) (g1_0 g2_0 g2_1 : Int) (A1 B1 E1 F1 A5 E2 B2 F5 B5 E5 : Int) (R1 : (g1_0 = d0)) (R2 : (d1 ≤ g1_0 ∧ g2_0 = g1_0 ∧ g2_1 = d1) ∨ (g1_0 ≤ d1 ∧ g2_0 = d1 ∧ g2_1 = g1_0)) (m0 : d0 ≤ 2147483647) (m1 : d1 ≤ 2147483647) (H1 : ((A1 = d0 ∧ B1 = d1 ∧ d0 ≤ d1) ∨ (A1 = d1 ∧ B1 = d0 ∧ d1 ≤ d0))) (H2 : ((E1 = (2147483647 : Int) ∧ F1 = (2147483647 : Int) ∧ (2147483647 : Int) ≤ (2147483647 : Int)) ∨ (E1 = (2147483647 : Int) ∧ F1 = (2147483647 : Int) ∧ (2147483647 : Int) ≤ (2147483647 : Int)))) (H3 : ((A5 = A1 ∧ E2 = E1 ∧ A1 ≤ E1) ∨ (A5 = E1 ∧ E2 = A1 ∧ E1 ≤ A1))) (H4 : ((B2 = B1 ∧ F5 = F1 ∧ B1 ≤ F1) ∨ (B2 = F1 ∧ F5 = B1 ∧ F1 ≤ B1))) (H5 : ((B5 = B2 ∧ E5 = E2 ∧ B2 ≤ E2) ∨ (B5 = E2 ∧ E5 = B2 ∧ E2 ≤ B2))) : g2_0 = B5 := by
  rcases R1 with rfl <;> rcases R2 with ⟨h1_0, rfl, rfl⟩ | ⟨h1_0, rfl, rfl⟩ <;> rcases H1 with ⟨rfl, rfl, u1⟩ | ⟨rfl, rfl, u1⟩ <;> rcases H2 with ⟨rfl, rfl, u2⟩ | ⟨rfl, rfl, u2⟩ <;> rcases H3 with ⟨rfl, rfl, u3⟩ | ⟨rfl, rfl, u3⟩ <;> rcases H4 with ⟨rfl, rfl, u4⟩ | ⟨rfl, rfl, u4⟩ <;> rcases H5 with ⟨rfl, rfl, u5⟩ | ⟨rfl, rfl, u5⟩ <;> omega
set_option maxHeartbeats 4000000 in
theorem own_fin_2_3 (d0 d1 d2 : Int) (g1_0 g2_0 g2_1 g3_0 g3_1 : Int) (A1 B1 E1 F1 A5 E2 B2 F5 B5 E5 : Int) (R1 : (g1_0 = d0)) (R2 : (d1 ≤ g1_0 ∧ g2_0 = g1_0 ∧ g2_1 = d1) ∨ (g1_0 ≤ d1 ∧ g2_0 = d1 ∧ g2_1 = g1_0)) (R3 : (g2_0 ≤ d2 ∧ g3_0 = g2_0 ∧ g3_1 = g2_1) ∨ (d2 ≤ g2_0 ∧ d2 ≤ g2_1 ∧ g3_0 = g2_1 ∧ g3_1 = d2) ∨ (d2 ≤ g2_0 ∧ g2_1 ≤ d2 ∧ g3_0 = d2 ∧ g3_1 = g2_1)) (m0 : d0 ≤ 2147483647) (m1 : d1 ≤ 2147483647) (m2 : d2 ≤ 2147483647) (H1 : ((A1 = d0 ∧ B1 = d1 ∧ d0 ≤ d1) ∨ (A1 = d1 ∧ B1 = d0 ∧ d1 ≤ d0))) (H2 : ((E1 = d2 ∧ F1 = (2147483647 : Int) ∧ d2 ≤ (2147483647 : Int)) ∨ (E1 = (2147483647 : Int) ∧ F1 = d2 ∧ (2147483647 : Int) ≤ d2))) (H3 : ((A5 = A1 ∧ E2 = E1 ∧ A1 ≤ E1) ∨ (A5 = E1 ∧ E2 = A1 ∧ E1 ≤ A1))) (H4 : ((B2 = B1 ∧ F5 = F1 ∧ B1 ≤ F1) ∨ (B2 = F1 ∧ F5 = B1 ∧ F1 ≤ B1))) (H5 : ((B5 = B2 ∧ E5 = E2 ∧ B2 ≤ E2) ∨ (B5 = E2 ∧ E5 = B2 ∧ E2 ≤ B2))) : g3_0 = B5 := by
  rcases R1 with rfl <;> rcases R2 with ⟨h1_0, rfl, rfl⟩ | ⟨h1_0, rfl, rfl⟩ <;> rcases R3 with ⟨h2_0, rfl, rfl⟩ | ⟨h2_0, h2_1, rfl, rfl⟩ | ⟨h2_0, h2_1, rfl, rfl⟩ <;> rcases H1 with ⟨rfl, rfl, u1⟩ | ⟨rfl, rfl, u1⟩ <;> rcases H2 with ⟨rfl, rfl, u2⟩ | ⟨rfl, rfl, u2⟩ <;> rcases H3 with ⟨rfl, rfl, u3⟩ | ⟨rfl, rfl, u3⟩ <;> rcases H4 with ⟨rfl, rfl, u4⟩ | ⟨rfl, rfl, u4⟩ <;> rcases H5 with ⟨rfl, rfl, u5⟩ | ⟨rfl, rfl, u5⟩ <;> omega
set_option maxHeartbeats 4000000 in
theorem own_fin_2_4 (d0 d1 d2 d3 : Int) (g1_0 g2_0 g2_1 g3_0 g3_1 g4_0 g4_1 : Int) (A1 B1 E1 F1 A5 E2 B2 F5 B5 E5 : Int) (R1 : (g1_0 = d0)) (R2 : (d1 ≤ g1_0 ∧ g2_0 = g1_0 ∧ g2_1 = d1) ∨ (g1_0 ≤ d1 ∧ g2_0 = d1 ∧ g2_1 = g1_0)) (R3 : (g2_0 ≤ d2 ∧ g3_0 = g2_0 ∧ g3_1 = g2_1) ∨ (d2 ≤ g2_0 ∧ d2 ≤ g2_1 ∧ g3_0 = g2_1 ∧ g3_1 = d2) ∨ (d2 ≤ g2_0 ∧ g2_1 ≤ d2 ∧ g3_0 = d2 ∧ g3_1 = g2_1)) (R4 : (g3_0 ≤ d3 ∧ g4_0 = g3_0 ∧ g4_1 = g3_1) ∨ (d3 ≤ g3_0 ∧ d3 ≤ g3_1 ∧ g4_0 = g3_1 ∧ g4_1 = d3) ∨ (d3 ≤ g3_0 ∧ g3_1 ≤ d3 ∧ g4_0 = d3 ∧ g4_1 = g3_1)) (m0 : d0 ≤ 2147483647) (m1 : d1 ≤ 2147483647) (m2 : d2 ≤ 2147483647) (m3 : d3 ≤ 2147483647) (H1 : ((A1 = d0 ∧ B1 = d1 ∧ d0 ≤ d1) ∨ (A1 = d1 ∧ B1 = d0 ∧ d1 ≤ d0))) (H2 : ((E1 = d2 ∧ F1 = d3 ∧ d2 ≤ d3) ∨ (E1 = d3 ∧ F1 = d2 ∧ d3 ≤ d2))) (H3 : ((A5 = A1 ∧ E2 = E1 ∧ A1 ≤ E1) ∨ (A5 = E1 ∧ E2 = A1 ∧ E1 ≤ A1))) (H4 : ((B2 = B1 ∧ F5 = F1 ∧ B1 ≤ F1) ∨ (B2 = F1 ∧ F5 = B1 ∧ F1 ≤ B1))) (H5 : ((B5 = B2 ∧ E5 = E2 ∧ B2 ≤ E2) ∨ (B5 = E2 ∧ E5 = B2 ∧ E2 ≤ B2))) : g4_0 = B5 := by
  rcases R1 with rfl <;> rcases R2 with ⟨h1_0, rfl, rfl⟩ | ⟨h1_0, rfl, rfl⟩ <;> rcases R3 with ⟨h2_0, rfl, rfl⟩ | ⟨h2_0, h2_1, rfl, rfl⟩ | ⟨h2_0, h2_1, rfl, rfl⟩ <;> rcases R4 with ⟨h3_0, rfl, rfl⟩ | ⟨h3_0, h3_1, rfl, rfl⟩ | ⟨h3_0, h3_1, rfl, rfl⟩ <;> rcases H1 with ⟨rfl, rfl, u1⟩ | ⟨rfl, rfl, u1⟩ <;> rcases H2 with ⟨rfl, rfl, u2⟩ | ⟨rfl, rfl, u2⟩ <;> rcases H3 with ⟨rfl, rfl, u3⟩ | ⟨rfl, rfl, u3⟩ <;> rcases H4 with ⟨rfl, rfl, u4⟩ | ⟨rfl, rfl, u4⟩ <;> rcases H5 with ⟨rfl, rfl, u5⟩ | ⟨rfl, rfl, u5⟩ <;> omega
set_option maxHeartbeats 4000000 in
theorem own_fin_3_3 (d0 d1 d2 : Int) (g1_0 g2_0 g2_1 g3_0 g3_1 g3_2 : Int) (A1 B1 E1 F1 A5 E2 B2 F5 B5 E5 : Int) (R1 : (g1_0 = d0)) (R2 : (d1 ≤ g1_0 ∧ g2_0 = g1_0 ∧ g2_1 = d1) ∨ (g1_0 ≤ d1 ∧ g2_0 = d1 ∧ g2_1 = g1_0)) (R3 : (d2 ≤ g2_0 ∧ g3_0 = g2_0 ∧ g3_1 = g2_1 ∧ g3_2 = d2) ∨ (g2_0 ≤ d2 ∧ g3_0 = d2 ∧ g3_1 = g2_1 ∧ g3_2 = g2_0)) (m0 : d0 ≤ 2147483647) (m1 : d1 ≤ 2147483647) (m2 : d2 ≤ 2147483647) (H1 : ((A1 = d0 ∧ B1 = d1 ∧ d0 ≤ d1) ∨ (A1 = d1 ∧ B1 = d0 ∧ d1 ≤ d0))) (H2 : ((E1 = d2 ∧ F1 = (2147483647 : Int) ∧ d2 ≤ (2147483647 : Int)) ∨ (E1 = (2147483647 : Int) ∧ F1 = d2 ∧ (2147483647 : Int) ≤ d2))) (H3 : ((A5 = A1 ∧ E2 = E1 ∧ A1 ≤ E1) ∨ (A5 = E1 ∧ E2 = A1 ∧ E1 ≤ A1))) (H4 : ((B2 = B1 ∧ F5 = F1 ∧ B1 ≤ F1) ∨ (B2 = F1 ∧ F5 = B1 ∧ F1 ≤ B1))) (H5 : ((B5 = B2 ∧ E5 = E2 ∧ B2 ≤ E2) ∨ (B5 = E2 ∧ E5 = B2 ∧ E2 ≤ B2))) : g3_0 = E5 := by
  rcases R1 with rfl <;> rcases R2 with ⟨h1_0, rfl, rfl⟩ | ⟨h1_0, rfl, rfl⟩ <;> rcases R3 with ⟨h2_0, rfl, rfl, rfl⟩ | ⟨h2_0, rfl, rfl, rfl⟩ <;> rcases H1 with ⟨rfl, rfl, u1⟩ | ⟨rfl, rfl, u1⟩ <;> rcases H2 with ⟨rfl, rfl, u2⟩ | ⟨rfl, rfl, u2⟩ <;> rcases H3 with ⟨rfl, rfl, u3⟩ | ⟨rfl, rfl, u3⟩ <;> rcases H4 with ⟨rfl, rfl, u4⟩ | ⟨rfl, rfl, u4⟩ <;> rcases H5 with ⟨rfl, rfl, u5⟩ | ⟨rfl, rfl, u5⟩ <;> omega
set_option maxHeartbeats 4000000 in
theorem own_fin_3_4 (d0 d1 d2 d3 : Int) (g1_0 g2_0 g2_1 g3_0 g3_1 g3_2 g4_0 g4_1 g4_2 : Int) (A1 B1 E1 F1 A5 E2 B2 F5 B5 E5 : Int) (R1 : (g1_0 = d0)) (R2 : (d1 ≤ g1_0 ∧ g2_0 = g1_0 ∧ g2_1 = d1) ∨ (g1_0 ≤ d1 ∧ g2_0 = d1 ∧ g2_1 = g1_0)) (R3 : (d2 ≤ g2_0 ∧ g3_0 = g2_0 ∧ g3_1 = g2_1 ∧ g3_2 = d2) ∨ (g2_0 ≤ d2 ∧ g3_0 = d2 ∧ g3_1 = g2_1 ∧ g3_2 = g2_0)) (R4 : (g3_0 ≤ d3 ∧ g4_0 = g3_0 ∧ g4_1 = g3_1 ∧ g4_2 = g3_2) ∨ (d3 ≤ g3_0 ∧ g3_1 ≤ g3_2 ∧ d3 ≤ g3_2 ∧ g4_0 = g3_2 ∧ g4_1 = g3_1 ∧ g4_2 = d3) ∨ (d3 ≤ g3_0 ∧ g3_1 ≤ g3_2 ∧ g3_2 ≤ d3 ∧ g4_0 = d3 ∧ g4_1 = g3_1 ∧ g4_2 = g3_2) ∨ (d3 ≤ g3_0 ∧ g3_2 ≤ g3_1 ∧ d3 ≤ g3_1 ∧ g4_0 = g3_1 ∧ g4_1 = d3 ∧ g4_2 = g3_2) ∨ (d3 ≤ g3_0 ∧ g3_2 ≤ g3_1 ∧ g3_1 ≤ d3 ∧ g4_0 = d3 ∧ g4_1 = g3_1 ∧ g4_2 = g3_2)) (m0 : d0 ≤ 2147483647) (m1 : d1 ≤ 2147483647) (m2 : d2 ≤ 2147483647) (m3 : d3 ≤ 2147483647) (H1 : ((A1 = d0 ∧ B1 = d1 ∧ d0 ≤ d1) ∨ (A1 = d1 ∧ B1 = d0 ∧ d1 ≤ d0))) (H2 : ((E1 = d2 ∧ F1 = d3 ∧ d2 ≤ d3) ∨ (E1 = d3 ∧ F1 = d2 ∧ d3 ≤ d2))) (H3 : ((A5 = A1 ∧ E2 = E1 ∧ A1 ≤ E1) ∨ (A5 = E1 ∧ E2 = A1 ∧ E1 ≤ A1))) (H4 : ((B2 = B1 ∧ F5 = F1 ∧ B1 ≤ F1) ∨ (B2 = F1 ∧ F5 = B1 ∧ F1 ≤ B1))) (H5 : ((B5 = B2 ∧ E5 = E2 ∧ B2 ≤ E2) ∨ (B5 = E2 ∧ E5 = B2 ∧ E2 ≤ B2))) : g4_0 = E5 := by
  rcases R1 with rfl <;> rcases R2 with ⟨h1_0, rfl, rfl⟩ | ⟨h1_0, rfl, rfl⟩ <;> rcases R3 with ⟨h2_0, rfl, rfl, rfl⟩ | ⟨h2_0, rfl, rfl, rfl⟩ <;> rcases R4 with ⟨h3_0, rfl, rfl, rfl⟩ | ⟨h3_0, h3_1, h3_2, rfl, rfl, rfl⟩ | ⟨h3_0, h3_1, h3_2, rfl, rfl, rfl⟩ | ⟨h3_0, h3_1, h3_2, rfl, rfl, rfl⟩ | ⟨h3_0, h3_1, h3_2, rfl, rfl, rfl⟩ <;> rcases H1 with ⟨rfl, rfl, u1⟩ | ⟨rfl, rfl, u1⟩ <;> rcases H2 with ⟨rfl, rfl, u2⟩ | ⟨rfl, rfl, u2⟩ <;> rcases H3 with ⟨rfl, rfl, u3⟩ | ⟨rfl, rfl, u3⟩ <;> rcases H4 with ⟨rfl, rfl, u4⟩ | ⟨rfl, rfl, u4⟩ <;> rcases H5 with ⟨rfl, rfl, u5⟩ | ⟨rfl, rfl, u5⟩ <;> omega
set_option maxHeartbeats 4000000 in
theorem own_fin_4_4 (d0 d1 d2 d3 : Int) (g1_0 g2_0 g2_1 g3_0 g3_1 g3_2 g4_0 g4_1 g4_2 g4_3 : Int) (A1 B1 E1 F1 A5 E2 B2 F5 B5 E5 : Int) (R1 : (g1_0 = d0)) (R2 : (d1 ≤ g1_0 ∧ g2_0 = g1_0 ∧ g2_1 = d1) ∨ (g1_0 ≤ d1 ∧ g2_0 = d1 ∧ g2_1 = g1_0)) (R3 : (d2 ≤ g2_0 ∧ g3_0 = g2_0 ∧ g3_1 = g2_1 ∧ g3_2 = d2) ∨ (g2_0 ≤ d2 ∧ g3_0 = d2 ∧ g3_1 = g2_1 ∧ g3_2 = g2_0)) (R4 : (d3 ≤ g3_1 ∧ g4_0 = g3_0 ∧ g4_1 = g3_1 ∧ g4_2 = g3_2 ∧ g4_3 = d3) ∨ (g3_1 ≤ d3 ∧ d3 ≤ g3_0 ∧ g4_0 = g3_0 ∧ g4_1 = d3 ∧ g4_2 = g3_2 ∧ g4_3 = g3_1) ∨ (g3_1 ≤ d3 ∧ g3_0 ≤ d3 ∧ g4_0 = d3 ∧ g4_1 = g3_0 ∧ g4_2 = g3_2 ∧ g4_3 = g3_1)) (m0 : d0 ≤ 2147483647) (m1 : d1 ≤ 2147483647) (m2 : d2 ≤ 2147483647) (m3 : d3 ≤ 2147483647) (H1 : ((A1 = d0 ∧ B1 = d1 ∧ d0 ≤ d1) ∨ (A1 = d1 ∧ B1 = d0 ∧ d1 ≤ d0))) (H2 : ((E1 = d2 ∧ F1 = d3 ∧ d2 ≤ d3) ∨ (E1 = d3 ∧ F1 = d2 ∧ d3 ≤ d2))) (H3 : ((A5 = A1 ∧ E2 = E1 ∧ A1 ≤ E1) ∨ (A5 = E1 ∧ E2 = A1 ∧ E1 ≤ A1))) (H4 : ((B2 = B1 ∧ F5 = F1 ∧ B1 ≤ F1) ∨ (B2 = F1 ∧ F5 = B1 ∧ F1 ≤ B1))) (H5 : ((B5 = B2 ∧ E5 = E2 ∧ B2 ≤ E2) ∨ (B5 = E2 ∧ E5 = B2 ∧ E2 ≤ B2))) : g4_0 = F5 := by
  rcases R1 with rfl <;> rcases R2 with ⟨h1_0, rfl, rfl⟩ | ⟨h1_0, rfl, rfl⟩ <;> rcases R3 with ⟨h2_0, rfl, rfl, rfl⟩ | ⟨h2_0, rfl, rfl, rfl⟩ <;> rcases R4 with ⟨h3_0, rfl, rfl, rfl, rfl⟩ | ⟨h3_0, h3_1, rfl, rfl, rfl, rfl⟩ | ⟨h3_0, h3_1, rfl, rfl, rfl, rfl⟩ <;> rcases H1 with ⟨rfl, rfl, u1⟩ | ⟨rfl, rfl, u1⟩ <;> rcases H2 with ⟨rfl, rfl, u2⟩ | ⟨rfl, rfl, u2⟩ <;> rcases H3 with ⟨rfl, rfl, u3⟩ | ⟨rfl, rfl, u3⟩ <;> rcases H4 with ⟨rfl, rfl, u4⟩ | ⟨rfl, rfl, u4⟩ <;> rcases H5 with ⟨rfl, rfl, u5⟩ | ⟨rfl, rfl, u5⟩ <;> omega
set_option maxRecDepth 65536 in
set_option maxHeartbeats 40000000 in
theorem rm0 (l : Launch) (Z : State) (a0 : Array Value) (hw : ∀ d ∈ tables_1, d.before a0 Z = true) (ws : List Jvm.Cond) (sel dd0 dd1 dd2 dd3 idx : Int32) (h0 : Heap) (n0 : Nat) (Z0 : n0 ≤ h0.size)  :
    MetFree l x (head1 (Jvm.Cond.code x code maxLocals ret :: ws) room_1) (fun as_ U => as_ = #[.int sel, .int dd0, .int dd1, .int dd2, .int dd3, .int idx] ∧ Z.Warmed39 U.vm ∧ U.heap = h0) (fun _ _ _ _ _ => True) (fun _ U o U' => own_Fin U 16 128 (fun v h L => v = some (.int 1) ∧ Fr n0 L) o U') := by
  refine own_body pf0 (ls0 := [.val (.int sel), .val (.int dd0), .val (.int dd1), .val (.int dd2), .val (.int dd3), .val (.int idx), .unset, .unset, .unset, .unset, .unset, .unset, .unset, .unset, .unset, .unset, .unset]) (fun m => by first | (simp [entryFrame, mkF, argsToLocals, Value.category, maxLocals]; done) | rfl) ?_
  intro p e s m below meth c T0 hx hby hml hown hnm hlk hret hZ X0 e0
  have hK : own_ks "org/axisfold/search/KNearestLimitPinLaw" a0 Z kt0 := ⟨hw _ (List.mem_of_getElem? (i := 25) rfl), hw _ (List.mem_of_getElem? (i := 37) rfl), trivial⟩
  have hF : own_fs "org/axisfold/search/KNearestLimitPinLaw" a0 Z ft0 := trivial
  have N0 := Fr.nil n0
  have s1 := own_and32 sel 3 (by decide)
  have s2 : (3 : Int32).toInt = 3 := rfl
  have s3 : (1 : Int32).toInt = 1 := rfl
  have s4 : ((1 : Int32) + (sel &&& (3 : Int32))).toInt = 1 + (sel &&& (3 : Int32)).toInt := by rw [own_add32 (by omega) (by omega), s3]
  have s5 := own_and32 (Jvm.Free.XT.ushr sel (2 : Int32)) 7 (by decide)
  have s6 := own_rem_pos s5.1 (b := 5) (by decide)
  have s7 : (5 : Int32).toInt = 5 := rfl
  refine own_blk dec0 seq0 hby hx hZ hown hK hF 14 [] [.int (7 : Int32)] X0 e0 ?_
  show ((Int8.ofInt 7).toInt32 = (7 : Int32)) ∧ ((5 : Int32) ≠ 0) ∧ own_Aft X0 h0 _ 17 [.val (.int sel), .val (.int dd0), .val (.int dd1), .val (.int dd2), .val (.int dd3), .val (.int idx), .val (.int ((1 : Int32) + (sel &&& (3 : Int32)))), .val (.int (((Jvm.Free.XT.ushr sel (2 : Int32)) &&& (7 : Int32)) % (5 : Int32))), .unset, .unset, .unset, .unset, .unset, .unset, .unset, .unset, .unset] []
  refine ⟨by decide +kernel, by decide, fun T1 X1 eh1 => ?_⟩
  generalize (1 : Int32) + (sel &&& (3 : Int32)) = kn at s4 ⊢
  generalize (Jvm.Free.XT.ushr sel (2 : Int32) &&& (7 : Int32)) % (5 : Int32) = nn at s6 ⊢
  show own_Go p.tables e below _ (T1.setTop (mkF m 17 (Array.mk [.val (.int sel), .val (.int dd0), .val (.int dd1), .val (.int dd2), .val (.int dd3), .val (.int idx), .val (.int kn), .val (.int nn), .unset, .unset, .unset, .unset, .unset, .unset, .unset, .unset, .unset]) []))
  obtain hk | hk | hk | hk : kn.toInt = (1 : Int32).toInt ∨ kn.toInt = (2 : Int32).toInt ∨ kn.toInt = (3 : Int32).toInt ∨ kn.toInt = (4 : Int32).toInt := by show kn.toInt = 1 ∨ kn.toInt = 2 ∨ kn.toInt = 3 ∨ kn.toInt = 4; omega
  · skip
    obtain rfl : kn = (1 : Int32) := Int32.toInt_inj.mp hk
    show own_Go p.tables e below _ (T1.setTop (mkF m 17 (Array.mk [.val (.int sel), .val (.int dd0), .val (.int dd1), .val (.int dd2), .val (.int dd3), .val (.int idx), .val (.int (1 : Int32)), .val (.int nn), .unset, .unset, .unset, .unset, .unset, .unset, .unset, .unset, .unset]) []))
    refine own_new X1 hx hZ hown (hw _ (List.mem_of_getElem? (i := 0) rfl)) (hw _ (List.mem_of_getElem? (i := 1) rfl)) (hw _ (List.mem_of_getElem? (i := 2) rfl)) eh1 (hb hby at_17) (by decide) (by decide) (fun T2 hp2 ao ga2 X2 eh2 Ex2 Ea2 Dn2 => ?_)
    have nw_ao : n0 ≤ ao := by rw [ga2]; exact Z0
    have Z_2 : n0 ≤ hp2.size := Nat.le_trans Z0 Ex2.1
    have Fn2_capacity : Fld Z hp2 ao "org/axisfold/search/KNearest" "capacity" "I" (.int (0 : Int32)) := Dn2 (Or.inr (hw _ (List.mem_of_getElem? (i := 10) rfl))) (ty := .int) (by decide)
    have Fn2_indices : Fld Z hp2 ao "org/axisfold/search/KNearest" "indices" "[I" (.null) := Dn2 (Or.inr (hw _ (List.mem_of_getElem? (i := 13) rfl))) (ty := (.array .int)) (by decide)
    have Fn2_squaredDistances : Fld Z hp2 ao "org/axisfold/search/KNearest" "squaredDistances" "[D" (.null) := Dn2 (Or.inr (hw _ (List.mem_of_getElem? (i := 16) rfl))) (ty := (.array .double)) (by decide)
    have Fn2_size : Fld Z hp2 ao "org/axisfold/search/KNearest" "size" "I" (.int (0 : Int32)) := Dn2 (Or.inl (hw _ (List.mem_of_getElem? (i := 23) rfl))) (ty := .int) (by decide)
    have Fn2_offered : Fld Z hp2 ao "org/axisfold/search/KNearest" "offered" "J" (.long (0 : Int64)) := Dn2 (Or.inl (hw _ (List.mem_of_getElem? (i := 32) rfl))) (ty := .long) (by decide)
    show own_Go p.tables e below _ (T2.setTop (mkF m 20 (Array.mk [.val (.int sel), .val (.int dd0), .val (.int dd1), .val (.int dd2), .val (.int dd3), .val (.int idx), .val (.int (1 : Int32)), .val (.int nn), .unset, .unset, .unset, .unset, .unset, .unset, .unset, .unset, .unset]) [.ref ao]))
    refine own_blk dec0 seq0 hby hx hZ hown hK hF 2 [] [] X2 eh2 ?_
    show own_Aft X2 hp2 _ 23 [.val (.int sel), .val (.int dd0), .val (.int dd1), .val (.int dd2), .val (.int dd3), .val (.int idx), .val (.int (1 : Int32)), .val (.int nn), .unset, .unset, .unset, .unset, .unset, .unset, .unset, .unset, .unset] [.int (1 : Int32), .ref ao, .ref ao]
    refine fun T3 X3 eh3 => ?_
    refine own_callI X3 hx hZ hown rfl (hw _ (List.mem_of_getElem? (i := 3) rfl)) (hw _ (List.mem_of_getElem? (i := 4) rfl)) (hw _ (List.mem_of_getElem? (i := 2) rfl)) (hw _ (List.mem_of_getElem? (i := 5) rfl)) (by decide) eh3 ao [.int (1 : Int32)] pd1 rfl (rm := ({ frames := 1, cells := 2, slots := 2, locals := 12 } : Room)) (rm1_1 l Z a0 hw [] ao hp2 n0 Z_2 Ea2 nw_ao Fn2_capacity Fn2_indices Fn2_squaredDistances Fn2_size Fn2_offered) (by rw [hml]; rfl) 1 rfl (Nat.le_of_eq rfl) (hb hby at_23) (by decide) (by decide) (by decide) (by decide) (fun T4 rv4 Lc4 X4 qc4 => ?_)
    obtain ⟨rfl, M0, EX_0, Fc_0, Fs_0, Fo_0, ia, da, Fi_0, Fd_0, A1_0, A2_0, ni, nd, ne_, nia, nda⟩ := qc4
    have Nn0 := Fr.app N0 M0
    have Zn0 : n0 ≤ T4.heap.size := Nat.le_trans nw_ao (Nat.le_of_lt EX_0.lt)
    show own_Go p.tables e below _ (T4.setTop (mkF m 26 (Array.mk [.val (.int sel), .val (.int dd0), .val (.int dd1), .val (.int dd2), .val (.int dd3), .val (.int idx), .val (.int (1 : Int32)), .val (.int nn), .unset, .unset, .unset, .unset, .unset, .unset, .unset, .unset, .unset]) [.ref ao]))
    refine own_blk dec0 seq0 hby hx hZ hown hK hF 1 [] [] X4 rfl ?_
    show own_Aft X4 T4.heap _ 28 [.val (.int sel), .val (.int dd0), .val (.int dd1), .val (.int dd2), .val (.int dd3), .val (.int idx), .val (.int (1 : Int32)), .val (.int nn), .val (.ref ao), .unset, .unset, .unset, .unset, .unset, .unset, .unset, .unset] []
    refine fun T5 X5 eh5 => ?_
    obtain hn | hn | hn | hn | hn : nn.toInt = (0 : Int32).toInt ∨ nn.toInt = (1 : Int32).toInt ∨ nn.toInt = (2 : Int32).toInt ∨ nn.toInt = (3 : Int32).toInt ∨ nn.toInt = (4 : Int32).toInt := by show nn.toInt = 0 ∨ nn.toInt = 1 ∨ nn.toInt = 2 ∨ nn.toInt = 3 ∨ nn.toInt = 4; omega
    · skip
      obtain rfl : nn = (0 : Int32) := Int32.toInt_inj.mp hn
      show own_Go p.tables e below _ (T5.setTop (mkF m 28 (Array.mk [.val (.int sel), .val (.int dd0), .val (.int dd1), .val (.int dd2), .val (.int dd3), .val (.int idx), .val (.int (1 : Int32)), .val (.int (0 : Int32)), .val (.ref ao), .unset, .unset, .unset, .unset, .unset, .unset, .unset, .unset]) []))
      refine own_blk dec0 seq0 hby hx hZ hown hK hF 12 [true, true, true, true] [] X5 eh5 ?_
      show (((0 : Int32)).toInt ≤ 0) ∧ (((0 : Int32)).toInt ≤ ((1 : Int32)).toInt) ∧ (((0 : Int32)).toInt ≤ ((2 : Int32)).toInt) ∧ (((0 : Int32)).toInt ≤ ((3 : Int32)).toInt) ∧ own_Aft X5 T4.heap _ 98 [.val (.int sel), .val (.int dd0), .val (.int dd1), .val (.int dd2), .val (.int dd3), .val (.int idx), .val (.int (1 : Int32)), .val (.int (0 : Int32)), .val (.ref ao), .unset, .unset, .unset, .unset, .unset, .unset, .unset, .unset] [.ref ao]
      refine ⟨by decide, by decide, by decide, by decide, fun T6 X6 eh6 => ?_⟩
      refine own_callVP X6 hx hZ hown (hw _ (List.mem_of_getElem? (i := 17) rfl)) (hw _ (List.mem_of_getElem? (i := 18) rfl)) (hw _ (List.mem_of_getElem? (i := 20) rfl)) (hw _ (List.mem_of_getElem? (i := 19) rfl)) (hw _ (List.mem_of_getElem? (i := 2) rfl)) (hw _ (List.mem_of_getElem? (i := 21) rfl)) (by decide) eh6 EX_0 [] pd3 rfl (fr := 0) (lo := 0) (rm3_1_0 l Z a0 hw [] ao da  T4.heap n0 Zn0 Fs_0 Fc_0 ) (by rw [hml]; rfl) 0 rfl (Nat.le_of_eq rfl) (hb hby at_98) (by decide) (by decide) (by decide) (by decide) (fun T7 rv7 X7 eh7 qc7 => ?_)
      obtain rfl := qc7
      show own_Go p.tables e below _ (T7.setTop (mkF m 101 (Array.mk [.val (.int sel), .val (.int dd0), .val (.int dd1), .val (.int dd2), .val (.int dd3), .val (.int idx), .val (.int (1 : Int32)), .val (.int (0 : Int32)), .val (.ref ao), .unset, .unset, .unset, .unset, .unset, .unset, .unset, .unset]) [.double 9218868437227405312]))
      refine own_blk dec0 seq0 hby hx hZ hown hK hF 10 [false, false] [] X7 eh7 ?_
      show (¬ (((1 : Int32)).toInt ≤ ((0 : Int32)).toInt)) ∧ (¬ ((cmpValue (FP.dcmp 9218868437227405312 9218868437227405312) .l).toInt ≠ 0)) ∧ own_Aft X7 T4.heap _ 124 [.val (.int sel), .val (.int dd0), .val (.int dd1), .val (.int dd2), .val (.int dd3), .val (.int idx), .val (.int (1 : Int32)), .val (.int (0 : Int32)), .val (.ref ao), .val (.double 9218868437227405312), .second, .unset, .unset, .unset, .unset, .unset, .unset] [.int (1 : Int32)]
      refine ⟨by decide, by rw [own_cv_eq (own_eq own_infn own_infn rfl)]; omega, fun T8 X8 eh8 => ?_⟩
      exact own_ret X8 hx hlk eh8 hret (by first | rfl | decide) (Or.inl ⟨rfl, by simp, _, rfl⟩) (hb hby at_124) (by decide) (by decide) (⟨rfl, Nn0⟩)
    · skip
      obtain rfl : nn = (1 : Int32) := Int32.toInt_inj.mp hn
      show own_Go p.tables e below _ (T5.setTop (mkF m 28 (Array.mk [.val (.int sel), .val (.int dd0), .val (.int dd1), .val (.int dd2), .val (.int dd3), .val (.int idx), .val (.int (1 : Int32)), .val (.int (1 : Int32)), .val (.ref ao), .unset, .unset, .unset, .unset, .unset, .unset, .unset, .unset]) []))
      refine own_blk dec0 seq0 hby hx hZ hown hK hF 6 [false] [] X5 eh5 ?_
      show (¬ (((1 : Int32)).toInt ≤ 0)) ∧ own_Aft X5 T4.heap _ 39 [.val (.int sel), .val (.int dd0), .val (.int dd1), .val (.int dd2), .val (.int dd3), .val (.int idx), .val (.int (1 : Int32)), .val (.int (1 : Int32)), .val (.ref ao), .unset, .unset, .unset, .unset, .unset, .unset, .unset, .unset] [.double (FP.i2d dd0), .int idx, .ref ao]
      refine ⟨by decide, fun T9 X9 eh9 => ?_⟩
      refine own_callV X9 hx hZ hown (hw _ (List.mem_of_getElem? (i := 26) rfl)) (hw _ (List.mem_of_getElem? (i := 27) rfl)) (hw _ (List.mem_of_getElem? (i := 29) rfl)) (hw _ (List.mem_of_getElem? (i := 28) rfl)) (hw _ (List.mem_of_getElem? (i := 2) rfl)) (hw _ (List.mem_of_getElem? (i := 30) rfl)) (by decide) eh9 EX_0 [.int idx, .double (FP.i2d dd0)] pd4 rfl (rm := ({ frames := 2, cells := 0, slots := 0, locals := 64 } : Room)) (rm4_1_0 l Z a0 hw [] ao ia da (0 : Int64) idx (FP.i2d dd0) dd0.toInt  T4.heap n0 Zn0 nw_ao nia nda EX_0 Fo_0 Fs_0 Fc_0 Fi_0 Fd_0 ni nd ne_ A1_0 A2_0 (own_D.i2d dd0) ) (by rw [hml]; rfl) 0 rfl (Nat.le_of_eq rfl) (hb hby at_39) (by decide) (by decide) (by decide) (by decide) (fun T10 rv10 Lc10 X10 qc10 => ?_)
      obtain ⟨rfl, M1, ⟨o1, EX_1, Fo_1, Fs_1, Fc_1, Fi_1, Fd_1⟩, j1_0, y1_0, g1_0, A1_1, A2_1, D1_0, R1⟩ := qc10
      have Nn1 := Fr.app Nn0 M1
      have Zn1 : n0 ≤ T10.heap.size := Nat.le_trans nw_ao (Nat.le_of_lt EX_1.lt)
      show own_Go p.tables e below _ (T10.setTop (mkF m 42 (Array.mk [.val (.int sel), .val (.int dd0), .val (.int dd1), .val (.int dd2), .val (.int dd3), .val (.int idx), .val (.int (1 : Int32)), .val (.int (1 : Int32)), .val (.ref ao), .unset, .unset, .unset, .unset, .unset, .unset, .unset, .unset]) []))
      refine own_blk dec0 seq0 hby hx hZ hown hK hF 10 [true, true, true] [] X10 rfl ?_
      show (((1 : Int32)).toInt ≤ ((1 : Int32)).toInt) ∧ (((1 : Int32)).toInt ≤ ((2 : Int32)).toInt) ∧ (((1 : Int32)).toInt ≤ ((3 : Int32)).toInt) ∧ own_Aft X10 T10.heap _ 98 [.val (.int sel), .val (.int dd0), .val (.int dd1), .val (.int dd2), .val (.int dd3), .val (.int idx), .val (.int (1 : Int32)), .val (.int (1 : Int32)), .val (.ref ao), .unset, .unset, .unset, .unset, .unset, .unset, .unset, .unset] [.ref ao]
      refine ⟨by decide, by decide, by decide, fun T11 X11 eh11 => ?_⟩
      refine own_callVP X11 hx hZ hown (hw _ (List.mem_of_getElem? (i := 17) rfl)) (hw _ (List.mem_of_getElem? (i := 18) rfl)) (hw _ (List.mem_of_getElem? (i := 20) rfl)) (hw _ (List.mem_of_getElem? (i := 19) rfl)) (hw _ (List.mem_of_getElem? (i := 2) rfl)) (hw _ (List.mem_of_getElem? (i := 21) rfl)) (by decide) eh11 EX_1 [] pd3 rfl (fr := 0) (lo := 0) (rm3_1_1 l Z a0 hw [] ao da y1_0 T10.heap n0 Zn1 Fs_1 Fc_1 Fd_1 A2_1) (by rw [hml]; rfl) 0 rfl (Nat.le_of_eq rfl) (hb hby at_98) (by decide) (by decide) (by decide) (by decide) (fun T12 rv12 X12 eh12 qc12 => ?_)
      obtain rfl := qc12
      show own_Go p.tables e below _ (T12.setTop (mkF m 101 (Array.mk [.val (.int sel), .val (.int dd0), .val (.int dd1), .val (.int dd2), .val (.int dd3), .val (.int idx), .val (.int (1 : Int32)), .val (.int (1 : Int32)), .val (.ref ao), .unset, .unset, .unset, .unset, .unset, .unset, .unset, .unset]) [.double y1_0]))
      refine own_blk dec0 seq0 hby hx hZ hown hK hF 24 [true, false, true, true, true] [] X12 eh12 ?_
      show (((1 : Int32)).toInt ≤ ((1 : Int32)).toInt) ∧ (¬ (((1 : Int32)).toInt ≤ 0)) ∧ (((1 : Int32)).toInt ≤ ((1 : Int32)).toInt) ∧ (((1 : Int32)).toInt ≤ ((2 : Int32)).toInt) ∧ (((1 : Int32)).toInt ≤ ((3 : Int32)).toInt) ∧ own_Aft X12 T10.heap _ 181 [.val (.int sel), .val (.int dd0), .val (.int dd1), .val (.int dd2), .val (.int dd3), .val (.int idx), .val (.int (1 : Int32)), .val (.int (1 : Int32)), .val (.ref ao), .val (.double y1_0), .second, .val (.int dd0), .val (.int (2147483647 : Int32)), .val (.int (2147483647 : Int32)), .val (.int (2147483647 : Int32)), .unset, .unset] []
      refine ⟨by decide, by decide, by decide, by decide, by decide, fun T13 X13 eh13 => ?_⟩
      refine net X13 hx hby hml hown hZ hK hF eh13 _ _ _ _ _ _ _ _ _ _ _ _ dd0 (2147483647 : Int32) (2147483647 : Int32) (2147483647 : Int32) hw (by decide) (by decide) (by decide) (by decide) (fun A1 B1 E1 F1 A5 E2 B2 F5 B5 E5 sl15 P1 P2 P3 P4 P5 T14 X14 eh14 => ?_)
      show own_Go p.tables e below _ (T14.setTop (mkF m 291 (Array.mk [.val (.int sel), .val (.int dd0), .val (.int dd1), .val (.int dd2), .val (.int dd3), .val (.int idx), .val (.int (1 : Int32)), .val (.int (1 : Int32)), .val (.ref ao), .val (.double y1_0), .second, .val (.int A5), .val (.int B5), .val (.int E5), .val (.int F5), sl15, .unset]) []))
      have big : (2147483647 : Int32).toInt = 2147483647 := rfl
      try rw [big] at P1
      try rw [big] at P2
      have FIN := own_fin_1_1 dd0.toInt g1_0 A1.toInt B1.toInt E1.toInt F1.toInt A5.toInt E2.toInt B2.toInt F5.toInt B5.toInt E5.toInt R1 (by have := Int32.toInt_lt dd0; omega) P1 P2 P3 P4 P5
      refine own_blk dec0 seq0 hby hx hZ hown hK hF 13 [false, false] [] X14 eh14 ?_
      show (¬ (((1 : Int32)).toInt ≠ ((1 : Int32)).toInt)) ∧ (¬ ((cmpValue (FP.dcmp y1_0 (FP.i2d A5)) .l).toInt ≠ 0)) ∧ own_Aft X14 T10.heap _ 348 [.val (.int sel), .val (.int dd0), .val (.int dd1), .val (.int dd2), .val (.int dd3), .val (.int idx), .val (.int (1 : Int32)), .val (.int (1 : Int32)), .val (.ref ao), .val (.double y1_0), .second, .val (.int A5), .val (.int B5), .val (.int E5), .val (.int F5), sl15, .val (.int A5)] [.int (1 : Int32)]
      refine ⟨by decide, by rw [own_cv_eq (D1_0.eq (own_D.i2d A5) FIN)]; omega, fun T15 X15 eh15 => ?_⟩
      exact own_ret X15 hx hlk eh15 hret (by first | rfl | decide) (Or.inl ⟨rfl, by simp, _, rfl⟩) (hb hby at_348) (by decide) (by decide) (⟨rfl, Nn1⟩)
    · skip
      obtain rfl : nn = (2 : Int32) := Int32.toInt_inj.mp hn
      show own_Go p.tables e below _ (T5.setTop (mkF m 28 (Array.mk [.val (.int sel), .val (.int dd0), .val (.int dd1), .val (.int dd2), .val (.int dd3), .val (.int idx), .val (.int (1 : Int32)), .val (.int (2 : Int32)), .val (.ref ao), .unset, .unset, .unset, .unset, .unset, .unset, .unset, .unset]) []))
      refine own_blk dec0 seq0 hby hx hZ hown hK hF 6 [false] [] X5 eh5 ?_
      show (¬ (((2 : Int32)).toInt ≤ 0)) ∧ own_Aft X5 T4.heap _ 39 [.val (.int sel), .val (.int dd0), .val (.int dd1), .val (.int dd2), .val (.int dd3), .val (.int idx), .val (.int (1 : Int32)), .val (.int (2 : Int32)), .val (.ref ao), .unset, .unset, .unset, .unset, .unset, .unset, .unset, .unset] [.double (FP.i2d dd0), .int idx, .ref ao]
      refine ⟨by decide, fun T16 X16 eh16 => ?_⟩
      refine own_callV X16 hx hZ hown (hw _ (List.mem_of_getElem? (i := 26) rfl)) (hw _ (List.mem_of_getElem? (i := 27) rfl)) (hw _ (List.mem_of_getElem? (i := 29) rfl)) (hw _ (List.mem_of_getElem? (i := 28) rfl)) (hw _ (List.mem_of_getElem? (i := 2) rfl)) (hw _ (List.mem_of_getElem? (i := 30) rfl)) (by decide) eh16 EX_0 [.int idx, .double (FP.i2d dd0)] pd4 rfl (rm := ({ frames := 2, cells := 0, slots := 0, locals := 64 } : Room)) (rm4_1_0 l Z a0 hw [] ao ia da (0 : Int64) idx (FP.i2d dd0) dd0.toInt  T4.heap n0 Zn0 nw_ao nia nda EX_0 Fo_0 Fs_0 Fc_0 Fi_0 Fd_0 ni nd ne_ A1_0 A2_0 (own_D.i2d dd0) ) (by rw [hml]; rfl) 0 rfl (Nat.le_of_eq rfl) (hb hby at_39) (by decide) (by decide) (by decide) (by decide) (fun T17 rv17 Lc17 X17 qc17 => ?_)
      obtain ⟨rfl, M1, ⟨o1, EX_1, Fo_1, Fs_1, Fc_1, Fi_1, Fd_1⟩, j1_0, y1_0, g1_0, A1_1, A2_1, D1_0, R1⟩ := qc17
      have Nn1 := Fr.app Nn0 M1
      have Zn1 : n0 ≤ T17.heap.size := Nat.le_trans nw_ao (Nat.le_of_lt EX_1.lt)
      show own_Go p.tables e below _ (T17.setTop (mkF m 42 (Array.mk [.val (.int sel), .val (.int dd0), .val (.int dd1), .val (.int dd2), .val (.int dd3), .val (.int idx), .val (.int (1 : Int32)), .val (.int (2 : Int32)), .val (.ref ao), .unset, .unset, .unset, .unset, .unset, .unset, .unset, .unset]) []))
      refine own_blk dec0 seq0 hby hx hZ hown hK hF 9 [false] [.int (11 : Int32)] X17 rfl ?_
      show (¬ (((2 : Int32)).toInt ≤ ((1 : Int32)).toInt)) ∧ ((Int8.ofInt 11).toInt32 = (11 : Int32)) ∧ own_Aft X17 T17.heap _ 57 [.val (.int sel), .val (.int dd0), .val (.int dd1), .val (.int dd2), .val (.int dd3), .val (.int idx), .val (.int (1 : Int32)), .val (.int (2 : Int32)), .val (.ref ao), .unset, .unset, .unset, .unset, .unset, .unset, .unset, .unset] [.double (FP.i2d dd1), .int (Jvm.Free.XT.ushr idx (11 : Int32)), .ref ao]
      refine ⟨by decide, by decide +kernel, fun T18 X18 eh18 => ?_⟩
      refine own_callV X18 hx hZ hown (hw _ (List.mem_of_getElem? (i := 26) rfl)) (hw _ (List.mem_of_getElem? (i := 27) rfl)) (hw _ (List.mem_of_getElem? (i := 29) rfl)) (hw _ (List.mem_of_getElem? (i := 28) rfl)) (hw _ (List.mem_of_getElem? (i := 2) rfl)) (hw _ (List.mem_of_getElem? (i := 30) rfl)) (by decide) eh18 EX_1 [.int (Jvm.Free.XT.ushr idx (11 : Int32)), .double (FP.i2d dd1)] pd4 rfl (rm := ({ frames := 2, cells := 0, slots := 0, locals := 64 } : Room)) (rm4_1_1 l Z a0 hw [] ao ia da o1 (Jvm.Free.XT.ushr idx (11 : Int32)) (FP.i2d dd1) dd1.toInt j1_0 y1_0 g1_0 T17.heap n0 Zn1 nw_ao nia nda EX_1 Fo_1 Fs_1 Fc_1 Fi_1 Fd_1 ni nd ne_ A1_1 A2_1 (own_D.i2d dd1) D1_0) (by rw [hml]; rfl) 0 rfl (Nat.le_of_eq rfl) (hb hby at_57) (by decide) (by decide) (by decide) (by decide) (fun T19 rv19 Lc19 X19 qc19 => ?_)
      obtain ⟨rfl, M2, ⟨o2, EX_2, Fo_2, Fs_2, Fc_2, Fi_2, Fd_2⟩, j2_0, y2_0, g2_0, A1_2, A2_2, D2_0, R2⟩ := qc19
      have Nn2 := Fr.app Nn1 M2
      have Zn2 : n0 ≤ T19.heap.size := Nat.le_trans nw_ao (Nat.le_of_lt EX_2.lt)
      show own_Go p.tables e below _ (T19.setTop (mkF m 60 (Array.mk [.val (.int sel), .val (.int dd0), .val (.int dd1), .val (.int dd2), .val (.int dd3), .val (.int idx), .val (.int (1 : Int32)), .val (.int (2 : Int32)), .val (.ref ao), .unset, .unset, .unset, .unset, .unset, .unset, .unset, .unset]) []))
      refine own_blk dec0 seq0 hby hx hZ hown hK hF 7 [true, true] [] X19 rfl ?_
      show (((2 : Int32)).toInt ≤ ((2 : Int32)).toInt) ∧ (((2 : Int32)).toInt ≤ ((3 : Int32)).toInt) ∧ own_Aft X19 T19.heap _ 98 [.val (.int sel), .val (.int dd0), .val (.int dd1), .val (.int dd2), .val (.int dd3), .val (.int idx), .val (.int (1 : Int32)), .val (.int (2 : Int32)), .val (.ref ao), .unset, .unset, .unset, .unset, .unset, .unset, .unset, .unset] [.ref ao]
      refine ⟨by decide, by decide, fun T20 X20 eh20 => ?_⟩
      refine own_callVP X20 hx hZ hown (hw _ (List.mem_of_getElem? (i := 17) rfl)) (hw _ (List.mem_of_getElem? (i := 18) rfl)) (hw _ (List.mem_of_getElem? (i := 20) rfl)) (hw _ (List.mem_of_getElem? (i := 19) rfl)) (hw _ (List.mem_of_getElem? (i := 2) rfl)) (hw _ (List.mem_of_getElem? (i := 21) rfl)) (by decide) eh20 EX_2 [] pd3 rfl (fr := 0) (lo := 0) (rm3_1_1 l Z a0 hw [] ao da y2_0 T19.heap n0 Zn2 Fs_2 Fc_2 Fd_2 A2_2) (by rw [hml]; rfl) 0 rfl (Nat.le_of_eq rfl) (hb hby at_98) (by decide) (by decide) (by decide) (by decide) (fun T21 rv21 X21 eh21 qc21 => ?_)
      obtain rfl := qc21
      show own_Go p.tables e below _ (T21.setTop (mkF m 101 (Array.mk [.val (.int sel), .val (.int dd0), .val (.int dd1), .val (.int dd2), .val (.int dd3), .val (.int idx), .val (.int (1 : Int32)), .val (.int (2 : Int32)), .val (.ref ao), .unset, .unset, .unset, .unset, .unset, .unset, .unset, .unset]) [.double y2_0]))
      refine own_blk dec0 seq0 hby hx hZ hown hK hF 24 [true, false, false, true, true] [] X21 eh21 ?_
      show (((1 : Int32)).toInt ≤ ((2 : Int32)).toInt) ∧ (¬ (((2 : Int32)).toInt ≤ 0)) ∧ (¬ (((2 : Int32)).toInt ≤ ((1 : Int32)).toInt)) ∧ (((2 : Int32)).toInt ≤ ((2 : Int32)).toInt) ∧ (((2 : Int32)).toInt ≤ ((3 : Int32)).toInt) ∧ own_Aft X21 T19.heap _ 179 [.val (.int sel), .val (.int dd0), .val (.int dd1), .val (.int dd2), .val (.int dd3), .val (.int idx), .val (.int (1 : Int32)), .val (.int (2 : Int32)), .val (.ref ao), .val (.double y2_0), .second, .val (.int dd0), .val (.int dd1), .val (.int (2147483647 : Int32)), .unset, .unset, .unset] [.int (2147483647 : Int32)]
      refine ⟨by decide, by decide, by decide, by decide, by decide, fun T22 X22 eh22 => ?_⟩
      refine own_blk dec0 seq0 hby hx hZ hown hK hF 1 [] [] X22 eh22 ?_
      show own_Aft X22 T19.heap _ 181 [.val (.int sel), .val (.int dd0), .val (.int dd1), .val (.int dd2), .val (.int dd3), .val (.int idx), .val (.int (1 : Int32)), .val (.int (2 : Int32)), .val (.ref ao), .val (.double y2_0), .second, .val (.int dd0), .val (.int dd1), .val (.int (2147483647 : Int32)), .val (.int (2147483647 : Int32)), .unset, .unset] []
      refine fun T23 X23 eh23 => ?_
      refine net X23 hx hby hml hown hZ hK hF eh23 _ _ _ _ _ _ _ _ _ _ _ _ dd0 dd1 (2147483647 : Int32) (2147483647 : Int32) hw (by decide) (by decide) (by decide) (by decide) (fun A1 B1 E1 F1 A5 E2 B2 F5 B5 E5 sl15 P1 P2 P3 P4 P5 T24 X24 eh24 => ?_)
      show own_Go p.tables e below _ (T24.setTop (mkF m 291 (Array.mk [.val (.int sel), .val (.int dd0), .val (.int dd1), .val (.int dd2), .val (.int dd3), .val (.int idx), .val (.int (1 : Int32)), .val (.int (2 : Int32)), .val (.ref ao), .val (.double y2_0), .second, .val (.int A5), .val (.int B5), .val (.int E5), .val (.int F5), sl15, .unset]) []))
      have big : (2147483647 : Int32).toInt = 2147483647 := rfl
      try rw [big] at P1
      try rw [big] at P2
      have FIN := own_fin_1_2 dd0.toInt dd1.toInt g1_0 g2_0 A1.toInt B1.toInt E1.toInt F1.toInt A5.toInt E2.toInt B2.toInt F5.toInt B5.toInt E5.toInt R1 R2 (by have := Int32.toInt_lt dd0; omega) (by have := Int32.toInt_lt dd1; omega) P1 P2 P3 P4 P5
      refine own_blk dec0 seq0 hby hx hZ hown hK hF 13 [false, false] [] X24 eh24 ?_
      show (¬ (((1 : Int32)).toInt ≠ ((1 : Int32)).toInt)) ∧ (¬ ((cmpValue (FP.dcmp y2_0 (FP.i2d A5)) .l).toInt ≠ 0)) ∧ own_Aft X24 T19.heap _ 348 [.val (.int sel), .val (.int dd0), .val (.int dd1), .val (.int dd2), .val (.int dd3), .val (.int idx), .val (.int (1 : Int32)), .val (.int (2 : Int32)), .val (.ref ao), .val (.double y2_0), .second, .val (.int A5), .val (.int B5), .val (.int E5), .val (.int F5), sl15, .val (.int A5)] [.int (1 : Int32)]
      refine ⟨by decide, by rw [own_cv_eq (D2_0.eq (own_D.i2d A5) FIN)]; omega, fun T25 X25 eh25 => ?_⟩
      exact own_ret X25 hx hlk eh25 hret (by first | rfl | decide) (Or.inl ⟨rfl, by simp, _, rfl⟩) (hb hby at_348) (by decide) (by decide) (⟨rfl, Nn2⟩)
    · skip
      obtain rfl : nn = (3 : Int32) := Int32.toInt_inj.mp hn
      show own_Go p.tables e below _ (T5.setTop (mkF m 28 (Array.mk [.val (.int sel), .val (.int dd0), .val (.int dd1), .val (.int dd2), .val (.int dd3), .val (.int idx), .val (.int (1 : Int32)), .val (.int (3 : Int32)), .val (.ref ao), .unset, .unset, .unset, .unset, .unset, .unset, .unset, .unset]) []))
      refine own_blk dec0 seq0 hby hx hZ hown hK hF 6 [false] [] X5 eh5 ?_
      show (¬ (((3 : Int32)).toInt ≤ 0)) ∧ own_Aft X5 T4.heap _ 39 [.val (.int sel), .val (.int dd0), .val (.int dd1), .val (.int dd2), .val (.int dd3), .val (.int idx), .val (.int (1 : Int32)), .val (.int (3 : Int32)), .val (.ref ao), .unset, .unset, .unset, .unset, .unset, .unset, .unset, .unset] [.double (FP.i2d dd0), .int idx, .ref ao]
      refine ⟨by decide, fun T26 X26 eh26 => ?_⟩
      refine own_callV X26 hx hZ hown (hw _ (List.mem_of_getElem? (i := 26) rfl)) (hw _ (List.mem_of_getElem? (i := 27) rfl)) (hw _ (List.mem_of_getElem? (i := 29) rfl)) (hw _ (List.mem_of_getElem? (i := 28) rfl)) (hw _ (List.mem_of_getElem? (i := 2) rfl)) (hw _ (List.mem_of_getElem? (i := 30) rfl)) (by decide) eh26 EX_0 [.int idx, .double (FP.i2d dd0)] pd4 rfl (rm := ({ frames := 2, cells := 0, slots := 0, locals := 64 } : Room)) (rm4_1_0 l Z a0 hw [] ao ia da (0 : Int64) idx (FP.i2d dd0) dd0.toInt  T4.heap n0 Zn0 nw_ao nia nda EX_0 Fo_0 Fs_0 Fc_0 Fi_0 Fd_0 ni nd ne_ A1_0 A2_0 (own_D.i2d dd0) ) (by rw [hml]; rfl) 0 rfl (Nat.le_of_eq rfl) (hb hby at_39) (by decide) (by decide) (by decide) (by decide) (fun T27 rv27 Lc27 X27 qc27 => ?_)
      obtain ⟨rfl, M1, ⟨o1, EX_1, Fo_1, Fs_1, Fc_1, Fi_1, Fd_1⟩, j1_0, y1_0, g1_0, A1_1, A2_1, D1_0, R1⟩ := qc27
      have Nn1 := Fr.app Nn0 M1
      have Zn1 : n0 ≤ T27.heap.size := Nat.le_trans nw_ao (Nat.le_of_lt EX_1.lt)
      show own_Go p.tables e below _ (T27.setTop (mkF m 42 (Array.mk [.val (.int sel), .val (.int dd0), .val (.int dd1), .val (.int dd2), .val (.int dd3), .val (.int idx), .val (.int (1 : Int32)), .val (.int (3 : Int32)), .val (.ref ao), .unset, .unset, .unset, .unset, .unset, .unset, .unset, .unset]) []))
      refine own_blk dec0 seq0 hby hx hZ hown hK hF 9 [false] [.int (11 : Int32)] X27 rfl ?_
      show (¬ (((3 : Int32)).toInt ≤ ((1 : Int32)).toInt)) ∧ ((Int8.ofInt 11).toInt32 = (11 : Int32)) ∧ own_Aft X27 T27.heap _ 57 [.val (.int sel), .val (.int dd0), .val (.int dd1), .val (.int dd2), .val (.int dd3), .val (.int idx), .val (.int (1 : Int32)), .val (.int (3 : Int32)), .val (.ref ao), .unset, .unset, .unset, .unset, .unset, .unset, .unset, .unset] [.double (FP.i2d dd1), .int (Jvm.Free.XT.ushr idx (11 : Int32)), .ref ao]
      refine ⟨by decide, by decide +kernel, fun T28 X28 eh28 => ?_⟩
      refine own_callV X28 hx hZ hown (hw _ (List.mem_of_getElem? (i := 26) rfl)) (hw _ (List.mem_of_getElem? (i := 27) rfl)) (hw _ (List.mem_of_getElem? (i := 29) rfl)) (hw _ (List.mem_of_getElem? (i := 28) rfl)) (hw _ (List.mem_of_getElem? (i := 2) rfl)) (hw _ (List.mem_of_getElem? (i := 30) rfl)) (by decide) eh28 EX_1 [.int (Jvm.Free.XT.ushr idx (11 : Int32)), .double (FP.i2d dd1)] pd4 rfl (rm := ({ frames := 2, cells := 0, slots := 0, locals := 64 } : Room)) (rm4_1_1 l Z a0 hw [] ao ia da o1 (Jvm.Free.XT.ushr idx (11 : Int32)) (FP.i2d dd1) dd1.toInt j1_0 y1_0 g1_0 T27.heap n0 Zn1 nw_ao nia nda EX_1 Fo_1 Fs_1 Fc_1 Fi_1 Fd_1 ni nd ne_ A1_1 A2_1 (own_D.i2d dd1) D1_0) (by rw [hml]; rfl) 0 rfl (Nat.le_of_eq rfl) (hb hby at_57) (by decide) (by decide) (by decide) (by decide) (fun T29 rv29 Lc29 X29 qc29 => ?_)
      obtain ⟨rfl, M2, ⟨o2, EX_2, Fo_2, Fs_2, Fc_2, Fi_2, Fd_2⟩, j2_0, y2_0, g2_0, A1_2, A2_2, D2_0, R2⟩ := qc29
      have Nn2 := Fr.app Nn1 M2
      have Zn2 : n0 ≤ T29.heap.size := Nat.le_trans nw_ao (Nat.le_of_lt EX_2.lt)
      show own_Go p.tables e below _ (T29.setTop (mkF m 60 (Array.mk [.val (.int sel), .val (.int dd0), .val (.int dd1), .val (.int dd2), .val (.int dd3), .val (.int idx), .val (.int (1 : Int32)), .val (.int (3 : Int32)), .val (.ref ao), .unset, .unset, .unset, .unset, .unset, .unset, .unset, .unset]) []))
      refine own_blk dec0 seq0 hby hx hZ hown hK hF 9 [false] [.int (22 : Int32)] X29 rfl ?_
      show (¬ (((3 : Int32)).toInt ≤ ((2 : Int32)).toInt)) ∧ ((Int8.ofInt 22).toInt32 = (22 : Int32)) ∧ own_Aft X29 T29.heap _ 75 [.val (.int sel), .val (.int dd0), .val (.int dd1), .val (.int dd2), .val (.int dd3), .val (.int idx), .val (.int (1 : Int32)), .val (.int (3 : Int32)), .val (.ref ao), .unset, .unset, .unset, .unset, .unset, .unset, .unset, .unset] [.double (FP.i2d dd2), .int (Jvm.Free.XT.ushr idx (22 : Int32)), .ref ao]
      refine ⟨by decide, by decide +kernel, fun T30 X30 eh30 => ?_⟩
      refine own_callV X30 hx hZ hown (hw _ (List.mem_of_getElem? (i := 26) rfl)) (hw _ (List.mem_of_getElem? (i := 27) rfl)) (hw _ (List.mem_of_getElem? (i := 29) rfl)) (hw _ (List.mem_of_getElem? (i := 28) rfl)) (hw _ (List.mem_of_getElem? (i := 2) rfl)) (hw _ (List.mem_of_getElem? (i := 30) rfl)) (by decide) eh30 EX_2 [.int (Jvm.Free.XT.ushr idx (22 : Int32)), .double (FP.i2d dd2)] pd4 rfl (rm := ({ frames := 2, cells := 0, slots := 0, locals := 64 } : Room)) (rm4_1_1 l Z a0 hw [] ao ia da o2 (Jvm.Free.XT.ushr idx (22 : Int32)) (FP.i2d dd2) dd2.toInt j2_0 y2_0 g2_0 T29.heap n0 Zn2 nw_ao nia nda EX_2 Fo_2 Fs_2 Fc_2 Fi_2 Fd_2 ni nd ne_ A1_2 A2_2 (own_D.i2d dd2) D2_0) (by rw [hml]; rfl) 0 rfl (Nat.le_of_eq rfl) (hb hby at_75) (by decide) (by decide) (by decide) (by decide) (fun T31 rv31 Lc31 X31 qc31 => ?_)
      obtain ⟨rfl, M3, ⟨o3, EX_3, Fo_3, Fs_3, Fc_3, Fi_3, Fd_3⟩, j3_0, y3_0, g3_0, A1_3, A2_3, D3_0, R3⟩ := qc31
      have Nn3 := Fr.app Nn2 M3
      have Zn3 : n0 ≤ T31.heap.size := Nat.le_trans nw_ao (Nat.le_of_lt EX_3.lt)
      show own_Go p.tables e below _ (T31.setTop (mkF m 78 (Array.mk [.val (.int sel), .val (.int dd0), .val (.int dd1), .val (.int dd2), .val (.int dd3), .val (.int idx), .val (.int (1 : Int32)), .val (.int (3 : Int32)), .val (.ref ao), .unset, .unset, .unset, .unset, .unset, .unset, .unset, .unset]) []))
      refine own_blk dec0 seq0 hby hx hZ hown hK hF 4 [true] [] X31 rfl ?_
      show (((3 : Int32)).toInt ≤ ((3 : Int32)).toInt) ∧ own_Aft X31 T31.heap _ 98 [.val (.int sel), .val (.int dd0), .val (.int dd1), .val (.int dd2), .val (.int dd3), .val (.int idx), .val (.int (1 : Int32)), .val (.int (3 : Int32)), .val (.ref ao), .unset, .unset, .unset, .unset, .unset, .unset, .unset, .unset] [.ref ao]
      refine ⟨by decide, fun T32 X32 eh32 => ?_⟩
      refine own_callVP X32 hx hZ hown (hw _ (List.mem_of_getElem? (i := 17) rfl)) (hw _ (List.mem_of_getElem? (i := 18) rfl)) (hw _ (List.mem_of_getElem? (i := 20) rfl)) (hw _ (List.mem_of_getElem? (i := 19) rfl)) (hw _ (List.mem_of_getElem? (i := 2) rfl)) (hw _ (List.mem_of_getElem? (i := 21) rfl)) (by decide) eh32 EX_3 [] pd3 rfl (fr := 0) (lo := 0) (rm3_1_1 l Z a0 hw [] ao da y3_0 T31.heap n0 Zn3 Fs_3 Fc_3 Fd_3 A2_3) (by rw [hml]; rfl) 0 rfl (Nat.le_of_eq rfl) (hb hby at_98) (by decide) (by decide) (by decide) (by decide) (fun T33 rv33 X33 eh33 qc33 => ?_)
      obtain rfl := qc33
      show own_Go p.tables e below _ (T33.setTop (mkF m 101 (Array.mk [.val (.int sel), .val (.int dd0), .val (.int dd1), .val (.int dd2), .val (.int dd3), .val (.int idx), .val (.int (1 : Int32)), .val (.int (3 : Int32)), .val (.ref ao), .unset, .unset, .unset, .unset, .unset, .unset, .unset, .unset]) [.double y3_0]))
      refine own_blk dec0 seq0 hby hx hZ hown hK hF 24 [true, false, false, false, true] [] X33 eh33 ?_
      show (((1 : Int32)).toInt ≤ ((3 : Int32)).toInt) ∧ (¬ (((3 : Int32)).toInt ≤ 0)) ∧ (¬ (((3 : Int32)).toInt ≤ ((1 : Int32)).toInt)) ∧ (¬ (((3 : Int32)).toInt ≤ ((2 : Int32)).toInt)) ∧ (((3 : Int32)).toInt ≤ ((3 : Int32)).toInt) ∧ own_Aft X33 T31.heap _ 177 [.val (.int sel), .val (.int dd0), .val (.int dd1), .val (.int dd2), .val (.int dd3), .val (.int idx), .val (.int (1 : Int32)), .val (.int (3 : Int32)), .val (.ref ao), .val (.double y3_0), .second, .val (.int dd0), .val (.int dd1), .val (.int dd2), .unset, .unset, .unset] []
      refine ⟨by decide, by decide, by decide, by decide, by decide, fun T34 X34 eh34 => ?_⟩
      refine own_blk dec0 seq0 hby hx hZ hown hK hF 2 [] [] X34 eh34 ?_
      show own_Aft X34 T31.heap _ 181 [.val (.int sel), .val (.int dd0), .val (.int dd1), .val (.int dd2), .val (.int dd3), .val (.int idx), .val (.int (1 : Int32)), .val (.int (3 : Int32)), .val (.ref ao), .val (.double y3_0), .second, .val (.int dd0), .val (.int dd1), .val (.int dd2), .val (.int (2147483647 : Int32)), .unset, .unset] []
      refine fun T35 X35 eh35 => ?_
      refine net X35 hx hby hml hown hZ hK hF eh35 _ _ _ _ _ _ _ _ _ _ _ _ dd0 dd1 dd2 (2147483647 : Int32) hw (by decide) (by decide) (by decide) (by decide) (fun A1 B1 E1 F1 A5 E2 B2 F5 B5 E5 sl15 P1 P2 P3 P4 P5 T36 X36 eh36 => ?_)
      show own_Go p.tables e below _ (T36.setTop (mkF m 291 (Array.mk [.val (.int sel), .val (.int dd0), .val (.int dd1), .val (.int dd2), .val (.int dd3), .val (.int idx), .val (.int (1 : Int32)), .val (.int (3 : Int32)), .val (.ref ao), .val (.double y3_0), .second, .val (.int A5), .val (.int B5), .val (.int E5), .val (.int F5), sl15, .unset]) []))
      have big : (2147483647 : Int32).toInt = 2147483647 := rfl
      try rw [big] at P1
      try rw [big] at P2
      have FIN := own_fin_1_3 dd0.toInt dd1.toInt dd2.toInt g1_0 g2_0 g3_0 A1.toInt B1.toInt E1.toInt F1.toInt A5.toInt E2.toInt B2.toInt F5.toInt B5.toInt E5.toInt R1 R2 R3 (by have := Int32.toInt_lt dd0; omega) (by have := Int32.toInt_lt dd1; omega) (by have := Int32.toInt_lt dd2; omega) P1 P2 P3 P4 P5
      refine own_blk dec0 seq0 hby hx hZ hown hK hF 13 [false, false] [] X36 eh36 ?_
      show (¬ (((1 : Int32)).toInt ≠ ((1 : Int32)).toInt)) ∧ (¬ ((cmpValue (FP.dcmp y3_0 (FP.i2d A5)) .l).toInt ≠ 0)) ∧ own_Aft X36 T31.heap _ 348 [.val (.int sel), .val (.int dd0), .val (.int dd1), .val (.int dd2), .val (.int dd3), .val (.int idx), .val (.int (1 : Int32)), .val (.int (3 : Int32)), .val (.ref ao), .val (.double y3_0), .second, .val (.int A5), .val (.int B5), .val (.int E5), .val (.int F5), sl15, .val (.int A5)] [.int (1 : Int32)]
      refine ⟨by decide, by rw [own_cv_eq (D3_0.eq (own_D.i2d A5) FIN)]; omega, fun T37 X37 eh37 => ?_⟩
      exact own_ret X37 hx hlk eh37 hret (by first | rfl | decide) (Or.inl ⟨rfl, by simp, _, rfl⟩) (hb hby at_348) (by decide) (by decide) (⟨rfl, Nn3⟩)
    · skip
      obtain rfl : nn = (4 : Int32) := Int32.toInt_inj.mp hn
      show own_Go p.tables e below _ (T5.setTop (mkF m 28 (Array.mk [.val (.int sel), .val (.int dd0), .val (.int dd1), .val (.int dd2), .val (.int dd3), .val (.int idx), .val (.int (1 : Int32)), .val (.int (4 : Int32)), .val (.ref ao), .unset, .unset, .unset, .unset, .unset, .unset, .unset, .unset]) []))
      refine own_blk dec0 seq0 hby hx hZ hown hK hF 6 [false] [] X5 eh5 ?_
      show (¬ (((4 : Int32)).toInt ≤ 0)) ∧ own_Aft X5 T4.heap _ 39 [.val (.int sel), .val (.int dd0), .val (.int dd1), .val (.int dd2), .val (.int dd3), .val (.int idx), .val (.int (1 : Int32)), .val (.int (4 : Int32)), .val (.ref ao), .unset, .unset, .unset, .unset, .unset, .unset, .unset, .unset] [.double (FP.i2d dd0), .int idx, .ref ao]
      refine ⟨by decide, fun T38 X38 eh38 => ?_⟩
      refine own_callV X38 hx hZ hown (hw _ (List.mem_of_getElem? (i := 26) rfl)) (hw _ (List.mem_of_getElem? (i := 27) rfl)) (hw _ (List.mem_of_getElem? (i := 29) rfl)) (hw _ (List.mem_of_getElem? (i := 28) rfl)) (hw _ (List.mem_of_getElem? (i := 2) rfl)) (hw _ (List.mem_of_getElem? (i := 30) rfl)) (by decide) eh38 EX_0 [.int idx, .double (FP.i2d dd0)] pd4 rfl (rm := ({ frames := 2, cells := 0, slots := 0, locals := 64 } : Room)) (rm4_1_0 l Z a0 hw [] ao ia da (0 : Int64) idx (FP.i2d dd0) dd0.toInt  T4.heap n0 Zn0 nw_ao nia nda EX_0 Fo_0 Fs_0 Fc_0 Fi_0 Fd_0 ni nd ne_ A1_0 A2_0 (own_D.i2d dd0) ) (by rw [hml]; rfl) 0 rfl (Nat.le_of_eq rfl) (hb hby at_39) (by decide) (by decide) (by decide) (by decide) (fun T39 rv39 Lc39 X39 qc39 => ?_)
      obtain ⟨rfl, M1, ⟨o1, EX_1, Fo_1, Fs_1, Fc_1, Fi_1, Fd_1⟩, j1_0, y1_0, g1_0, A1_1, A2_1, D1_0, R1⟩ := qc39
      have Nn1 := Fr.app Nn0 M1
      have Zn1 : n0 ≤ T39.heap.size := Nat.le_trans nw_ao (Nat.le_of_lt EX_1.lt)
      show own_Go p.tables e below _ (T39.setTop (mkF m 42 (Array.mk [.val (.int sel), .val (.int dd0), .val (.int dd1), .val (.int dd2), .val (.int dd3), .val (.int idx), .val (.int (1 : Int32)), .val (.int (4 : Int32)), .val (.ref ao), .unset, .unset, .unset, .unset, .unset, .unset, .unset, .unset]) []))
      refine own_blk dec0 seq0 hby hx hZ hown hK hF 9 [false] [.int (11 : Int32)] X39 rfl ?_
      show (¬ (((4 : Int32)).toInt ≤ ((1 : Int32)).toInt)) ∧ ((Int8.ofInt 11).toInt32 = (11 : Int32)) ∧ own_Aft X39 T39.heap _ 57 [.val (.int sel), .val (.int dd0), .val (.int dd1), .val (.int dd2), .val (.int dd3), .val (.int idx), .val (.int (1 : Int32)), .val (.int (4 : Int32)), .val (.ref ao), .unset, .unset, .unset, .unset, .unset, .unset, .unset, .unset] [.double (FP.i2d dd1), .int (Jvm.Free.XT.ushr idx (11 : Int32)), .ref ao]
      refine ⟨by decide, by decide +kernel, fun T40 X40 eh40 => ?_⟩
      refine own_callV X40 hx hZ hown (hw _ (List.mem_of_getElem? (i := 26) rfl)) (hw _ (List.mem_of_getElem? (i := 27) rfl)) (hw _ (List.mem_of_getElem? (i := 29) rfl)) (hw _ (List.mem_of_getElem? (i := 28) rfl)) (hw _ (List.mem_of_getElem? (i := 2) rfl)) (hw _ (List.mem_of_getElem? (i := 30) rfl)) (by decide) eh40 EX_1 [.int (Jvm.Free.XT.ushr idx (11 : Int32)), .double (FP.i2d dd1)] pd4 rfl (rm := ({ frames := 2, cells := 0, slots := 0, locals := 64 } : Room)) (rm4_1_1 l Z a0 hw [] ao ia da o1 (Jvm.Free.XT.ushr idx (11 : Int32)) (FP.i2d dd1) dd1.toInt j1_0 y1_0 g1_0 T39.heap n0 Zn1 nw_ao nia nda EX_1 Fo_1 Fs_1 Fc_1 Fi_1 Fd_1 ni nd ne_ A1_1 A2_1 (own_D.i2d dd1) D1_0) (by rw [hml]; rfl) 0 rfl (Nat.le_of_eq rfl) (hb hby at_57) (by decide) (by decide) (by decide) (by decide) (fun T41 rv41 Lc41 X41 qc41 => ?_)
      obtain ⟨rfl, M2, ⟨o2, EX_2, Fo_2, Fs_2, Fc_2, Fi_2, Fd_2⟩, j2_0, y2_0, g2_0, A1_2, A2_2, D2_0, R2⟩ := qc41
      have Nn2 := Fr.app Nn1 M2
      have Zn2 : n0 ≤ T41.heap.size := Nat.le_trans nw_ao (Nat.le_of_lt EX_2.lt)
      show own_Go p.tables e below _ (T41.setTop (mkF m 60 (Array.mk [.val (.int sel), .val (.int dd0), .val (.int dd1), .val (.int dd2), .val (.int dd3), .val (.int idx), .val (.int (1 : Int32)), .val (.int (4 : Int32)), .val (.ref ao), .unset, .unset, .unset, .unset, .unset, .unset, .unset, .unset]) []))
      refine own_blk dec0 seq0 hby hx hZ hown hK hF 9 [false] [.int (22 : Int32)] X41 rfl ?_
      show (¬ (((4 : Int32)).toInt ≤ ((2 : Int32)).toInt)) ∧ ((Int8.ofInt 22).toInt32 = (22 : Int32)) ∧ own_Aft X41 T41.heap _ 75 [.val (.int sel), .val (.int dd0), .val (.int dd1), .val (.int dd2), .val (.int dd3), .val (.int idx), .val (.int (1 : Int32)), .val (.int (4 : Int32)), .val (.ref ao), .unset, .unset, .unset, .unset, .unset, .unset, .unset, .unset] [.double (FP.i2d dd2), .int (Jvm.Free.XT.ushr idx (22 : Int32)), .ref ao]
      refine ⟨by decide, by decide +kernel, fun T42 X42 eh42 => ?_⟩
      refine own_callV X42 hx hZ hown (hw _ (List.mem_of_getElem? (i := 26) rfl)) (hw _ (List.mem_of_getElem? (i := 27) rfl)) (hw _ (List.mem_of_getElem? (i := 29) rfl)) (hw _ (List.mem_of_getElem? (i := 28) rfl)) (hw _ (List.mem_of_getElem? (i := 2) rfl)) (hw _ (List.mem_of_getElem? (i := 30) rfl)) (by decide) eh42 EX_2 [.int (Jvm.Free.XT.ushr idx (22 : Int32)), .double (FP.i2d dd2)] pd4 rfl (rm := ({ frames := 2, cells := 0, slots := 0, locals := 64 } : Room)) (rm4_1_1 l Z a0 hw [] ao ia da o2 (Jvm.Free.XT.ushr idx (22 : Int32)) (FP.i2d dd2) dd2.toInt j2_0 y2_0 g2_0 T41.heap n0 Zn2 nw_ao nia nda EX_2 Fo_2 Fs_2 Fc_2 Fi_2 Fd_2 ni nd ne_ A1_2 A2_2 (own_D.i2d dd2) D2_0) (by rw [hml]; rfl) 0 rfl (Nat.le_of_eq rfl) (hb hby at_75) (by decide) (by decide) (by decide) (by decide) (fun T43 rv43 Lc43 X43 qc43 => ?_)
      obtain ⟨rfl, M3, ⟨o3, EX_3, Fo_3, Fs_3, Fc_3, Fi_3, Fd_3⟩, j3_0, y3_0, g3_0, A1_3, A2_3, D3_0, R3⟩ := qc43
      have Nn3 := Fr.app Nn2 M3
      have Zn3 : n0 ≤ T43.heap.size := Nat.le_trans nw_ao (Nat.le_of_lt EX_3.lt)
      show own_Go p.tables e below _ (T43.setTop (mkF m 78 (Array.mk [.val (.int sel), .val (.int dd0), .val (.int dd1), .val (.int dd2), .val (.int dd3), .val (.int idx), .val (.int (1 : Int32)), .val (.int (4 : Int32)), .val (.ref ao), .unset, .unset, .unset, .unset, .unset, .unset, .unset, .unset]) []))
      refine own_blk dec0 seq0 hby hx hZ hown hK hF 9 [false] [] X43 rfl ?_
      show (¬ (((4 : Int32)).toInt ≤ ((3 : Int32)).toInt)) ∧ own_Aft X43 T43.heap _ 93 [.val (.int sel), .val (.int dd0), .val (.int dd1), .val (.int dd2), .val (.int dd3), .val (.int idx), .val (.int (1 : Int32)), .val (.int (4 : Int32)), .val (.ref ao), .unset, .unset, .unset, .unset, .unset, .unset, .unset, .unset] [.double (FP.i2d dd3), .int (idx ^^^ (-1 : Int32)), .ref ao]
      refine ⟨by decide, fun T44 X44 eh44 => ?_⟩
      refine own_callV X44 hx hZ hown (hw _ (List.mem_of_getElem? (i := 26) rfl)) (hw _ (List.mem_of_getElem? (i := 27) rfl)) (hw _ (List.mem_of_getElem? (i := 29) rfl)) (hw _ (List.mem_of_getElem? (i := 28) rfl)) (hw _ (List.mem_of_getElem? (i := 2) rfl)) (hw _ (List.mem_of_getElem? (i := 30) rfl)) (by decide) eh44 EX_3 [.int (idx ^^^ (-1 : Int32)), .double (FP.i2d dd3)] pd4 rfl (rm := ({ frames := 2, cells := 0, slots := 0, locals := 64 } : Room)) (rm4_1_1 l Z a0 hw [] ao ia da o3 (idx ^^^ (-1 : Int32)) (FP.i2d dd3) dd3.toInt j3_0 y3_0 g3_0 T43.heap n0 Zn3 nw_ao nia nda EX_3 Fo_3 Fs_3 Fc_3 Fi_3 Fd_3 ni nd ne_ A1_3 A2_3 (own_D.i2d dd3) D3_0) (by rw [hml]; rfl) 0 rfl (Nat.le_of_eq rfl) (hb hby at_93) (by decide) (by decide) (by decide) (by decide) (fun T45 rv45 Lc45 X45 qc45 => ?_)
      obtain ⟨rfl, M4, ⟨o4, EX_4, Fo_4, Fs_4, Fc_4, Fi_4, Fd_4⟩, j4_0, y4_0, g4_0, A1_4, A2_4, D4_0, R4⟩ := qc45
      have Nn4 := Fr.app Nn3 M4
      have Zn4 : n0 ≤ T45.heap.size := Nat.le_trans nw_ao (Nat.le_of_lt EX_4.lt)
      show own_Go p.tables e below _ (T45.setTop (mkF m 96 (Array.mk [.val (.int sel), .val (.int dd0), .val (.int dd1), .val (.int dd2), .val (.int dd3), .val (.int idx), .val (.int (1 : Int32)), .val (.int (4 : Int32)), .val (.ref ao), .unset, .unset, .unset, .unset, .unset, .unset, .unset, .unset]) []))
      refine own_blk dec0 seq0 hby hx hZ hown hK hF 1 [] [] X45 rfl ?_
      show own_Aft X45 T45.heap _ 98 [.val (.int sel), .val (.int dd0), .val (.int dd1), .val (.int dd2), .val (.int dd3), .val (.int idx), .val (.int (1 : Int32)), .val (.int (4 : Int32)), .val (.ref ao), .unset, .unset, .unset, .unset, .unset, .unset, .unset, .unset] [.ref ao]
      refine fun T46 X46 eh46 => ?_
      refine own_callVP X46 hx hZ hown (hw _ (List.mem_of_getElem? (i := 17) rfl)) (hw _ (List.mem_of_getElem? (i := 18) rfl)) (hw _ (List.mem_of_getElem? (i := 20) rfl)) (hw _ (List.mem_of_getElem? (i := 19) rfl)) (hw _ (List.mem_of_getElem? (i := 2) rfl)) (hw _ (List.mem_of_getElem? (i := 21) rfl)) (by decide) eh46 EX_4 [] pd3 rfl (fr := 0) (lo := 0) (rm3_1_1 l Z a0 hw [] ao da y4_0 T45.heap n0 Zn4 Fs_4 Fc_4 Fd_4 A2_4) (by rw [hml]; rfl) 0 rfl (Nat.le_of_eq rfl) (hb hby at_98) (by decide) (by decide) (by decide) (by decide) (fun T47 rv47 X47 eh47 qc47 => ?_)
      obtain rfl := qc47
      show own_Go p.tables e below _ (T47.setTop (mkF m 101 (Array.mk [.val (.int sel), .val (.int dd0), .val (.int dd1), .val (.int dd2), .val (.int dd3), .val (.int idx), .val (.int (1 : Int32)), .val (.int (4 : Int32)), .val (.ref ao), .unset, .unset, .unset, .unset, .unset, .unset, .unset, .unset]) [.double y4_0]))
      refine own_blk dec0 seq0 hby hx hZ hown hK hF 24 [true, false, false, false, false] [] X47 eh47 ?_
      show (((1 : Int32)).toInt ≤ ((4 : Int32)).toInt) ∧ (¬ (((4 : Int32)).toInt ≤ 0)) ∧ (¬ (((4 : Int32)).toInt ≤ ((1 : Int32)).toInt)) ∧ (¬ (((4 : Int32)).toInt ≤ ((2 : Int32)).toInt)) ∧ (¬ (((4 : Int32)).toInt ≤ ((3 : Int32)).toInt)) ∧ own_Aft X47 T45.heap _ 172 [.val (.int sel), .val (.int dd0), .val (.int dd1), .val (.int dd2), .val (.int dd3), .val (.int idx), .val (.int (1 : Int32)), .val (.int (4 : Int32)), .val (.ref ao), .val (.double y4_0), .second, .val (.int dd0), .val (.int dd1), .val (.int dd2), .unset, .unset, .unset] []
      refine ⟨by decide, by decide, by decide, by decide, by decide, fun T48 X48 eh48 => ?_⟩
      refine own_blk dec0 seq0 hby hx hZ hown hK hF 3 [] [] X48 eh48 ?_
      show own_Aft X48 T45.heap _ 181 [.val (.int sel), .val (.int dd0), .val (.int dd1), .val (.int dd2), .val (.int dd3), .val (.int idx), .val (.int (1 : Int32)), .val (.int (4 : Int32)), .val (.ref ao), .val (.double y4_0), .second, .val (.int dd0), .val (.int dd1), .val (.int dd2), .val (.int dd3), .unset, .unset] []
      refine fun T49 X49 eh49 => ?_
      refine net X49 hx hby hml hown hZ hK hF eh49 _ _ _ _ _ _ _ _ _ _ _ _ dd0 dd1 dd2 dd3 hw (by decide) (by decide) (by decide) (by decide) (fun A1 B1 E1 F1 A5 E2 B2 F5 B5 E5 sl15 P1 P2 P3 P4 P5 T50 X50 eh50 => ?_)
      show own_Go p.tables e below _ (T50.setTop (mkF m 291 (Array.mk [.val (.int sel), .val (.int dd0), .val (.int dd1), .val (.int dd2), .val (.int dd3), .val (.int idx), .val (.int (1 : Int32)), .val (.int (4 : Int32)), .val (.ref ao), .val (.double y4_0), .second, .val (.int A5), .val (.int B5), .val (.int E5), .val (.int F5), sl15, .unset]) []))
      have big : (2147483647 : Int32).toInt = 2147483647 := rfl
      try rw [big] at P1
      try rw [big] at P2
      have FIN := own_fin_1_4 dd0.toInt dd1.toInt dd2.toInt dd3.toInt g1_0 g2_0 g3_0 g4_0 A1.toInt B1.toInt E1.toInt F1.toInt A5.toInt E2.toInt B2.toInt F5.toInt B5.toInt E5.toInt R1 R2 R3 R4 (by have := Int32.toInt_lt dd0; omega) (by have := Int32.toInt_lt dd1; omega) (by have := Int32.toInt_lt dd2; omega) (by have := Int32.toInt_lt dd3; omega) P1 P2 P3 P4 P5
      refine own_blk dec0 seq0 hby hx hZ hown hK hF 13 [false, false] [] X50 eh50 ?_
      show (¬ (((1 : Int32)).toInt ≠ ((1 : Int32)).toInt)) ∧ (¬ ((cmpValue (FP.dcmp y4_0 (FP.i2d A5)) .l).toInt ≠ 0)) ∧ own_Aft X50 T45.heap _ 348 [.val (.int sel), .val (.int dd0), .val (.int dd1), .val (.int dd2), .val (.int dd3), .val (.int idx), .val (.int (1 : Int32)), .val (.int (4 : Int32)), .val (.ref ao), .val (.double y4_0), .second, .val (.int A5), .val (.int B5), .val (.int E5), .val (.int F5), sl15, .val (.int A5)] [.int (1 : Int32)]
      refine ⟨by decide, by rw [own_cv_eq (D4_0.eq (own_D.i2d A5) FIN)]; omega, fun T51 X51 eh51 => ?_⟩
      exact own_ret X51 hx hlk eh51 hret (by first | rfl | decide) (Or.inl ⟨rfl, by simp, _, rfl⟩) (hb hby at_348) (by decide) (by decide) (⟨rfl, Nn4⟩)
  · skip
    obtain rfl : kn = (2 : Int32) := Int32.toInt_inj.mp hk
    show own_Go p.tables e below _ (T1.setTop (mkF m 17 (Array.mk [.val (.int sel), .val (.int dd0), .val (.int dd1), .val (.int dd2), .val (.int dd3), .val (.int idx), .val (.int (2 : Int32)), .val (.int nn), .unset, .unset, .unset, .unset, .unset, .unset, .unset, .unset, .unset]) []))
    refine own_new X1 hx hZ hown (hw _ (List.mem_of_getElem? (i := 0) rfl)) (hw _ (List.mem_of_getElem? (i := 1) rfl)) (hw _ (List.mem_of_getElem? (i := 2) rfl)) eh1 (hb hby at_17) (by decide) (by decide) (fun T52 hp52 ao ga52 X52 eh52 Ex52 Ea52 Dn52 => ?_)
    have nw_ao : n0 ≤ ao := by rw [ga52]; exact Z0
    have Z_52 : n0 ≤ hp52.size := Nat.le_trans Z0 Ex52.1
    have Fn52_capacity : Fld Z hp52 ao "org/axisfold/search/KNearest" "capacity" "I" (.int (0 : Int32)) := Dn52 (Or.inr (hw _ (List.mem_of_getElem? (i := 10) rfl))) (ty := .int) (by decide)
    have Fn52_indices : Fld Z hp52 ao "org/axisfold/search/KNearest" "indices" "[I" (.null) := Dn52 (Or.inr (hw _ (List.mem_of_getElem? (i := 13) rfl))) (ty := (.array .int)) (by decide)
    have Fn52_squaredDistances : Fld Z hp52 ao "org/axisfold/search/KNearest" "squaredDistances" "[D" (.null) := Dn52 (Or.inr (hw _ (List.mem_of_getElem? (i := 16) rfl))) (ty := (.array .double)) (by decide)
    have Fn52_size : Fld Z hp52 ao "org/axisfold/search/KNearest" "size" "I" (.int (0 : Int32)) := Dn52 (Or.inl (hw _ (List.mem_of_getElem? (i := 23) rfl))) (ty := .int) (by decide)
    have Fn52_offered : Fld Z hp52 ao "org/axisfold/search/KNearest" "offered" "J" (.long (0 : Int64)) := Dn52 (Or.inl (hw _ (List.mem_of_getElem? (i := 32) rfl))) (ty := .long) (by decide)
    show own_Go p.tables e below _ (T52.setTop (mkF m 20 (Array.mk [.val (.int sel), .val (.int dd0), .val (.int dd1), .val (.int dd2), .val (.int dd3), .val (.int idx), .val (.int (2 : Int32)), .val (.int nn), .unset, .unset, .unset, .unset, .unset, .unset, .unset, .unset, .unset]) [.ref ao]))
    refine own_blk dec0 seq0 hby hx hZ hown hK hF 2 [] [] X52 eh52 ?_
    show own_Aft X52 hp52 _ 23 [.val (.int sel), .val (.int dd0), .val (.int dd1), .val (.int dd2), .val (.int dd3), .val (.int idx), .val (.int (2 : Int32)), .val (.int nn), .unset, .unset, .unset, .unset, .unset, .unset, .unset, .unset, .unset] [.int (2 : Int32), .ref ao, .ref ao]
    refine fun T53 X53 eh53 => ?_
    refine own_callI X53 hx hZ hown rfl (hw _ (List.mem_of_getElem? (i := 3) rfl)) (hw _ (List.mem_of_getElem? (i := 4) rfl)) (hw _ (List.mem_of_getElem? (i := 2) rfl)) (hw _ (List.mem_of_getElem? (i := 5) rfl)) (by decide) eh53 ao [.int (2 : Int32)] pd1 rfl (rm := ({ frames := 1, cells := 2, slots := 4, locals := 12 } : Room)) (rm1_2 l Z a0 hw [] ao hp52 n0 Z_52 Ea52 nw_ao Fn52_capacity Fn52_indices Fn52_squaredDistances Fn52_size Fn52_offered) (by rw [hml]; rfl) 1 rfl (Nat.le_of_eq rfl) (hb hby at_23) (by decide) (by decide) (by decide) (by decide) (fun T54 rv54 Lc54 X54 qc54 => ?_)
    obtain ⟨rfl, M0, EX_0, Fc_0, Fs_0, Fo_0, ia, da, Fi_0, Fd_0, A1_0, A2_0, ni, nd, ne_, nia, nda⟩ := qc54
    have Nn0 := Fr.app N0 M0
    have Zn0 : n0 ≤ T54.heap.size := Nat.le_trans nw_ao (Nat.le_of_lt EX_0.lt)
    show own_Go p.tables e below _ (T54.setTop (mkF m 26 (Array.mk [.val (.int sel), .val (.int dd0), .val (.int dd1), .val (.int dd2), .val (.int dd3), .val (.int idx), .val (.int (2 : Int32)), .val (.int nn), .unset, .unset, .unset, .unset, .unset, .unset, .unset, .unset, .unset]) [.ref ao]))
    refine own_blk dec0 seq0 hby hx hZ hown hK hF 1 [] [] X54 rfl ?_
    show own_Aft X54 T54.heap _ 28 [.val (.int sel), .val (.int dd0), .val (.int dd1), .val (.int dd2), .val (.int dd3), .val (.int idx), .val (.int (2 : Int32)), .val (.int nn), .val (.ref ao), .unset, .unset, .unset, .unset, .unset, .unset, .unset, .unset] []
    refine fun T55 X55 eh55 => ?_
    obtain hn | hn | hn | hn | hn : nn.toInt = (0 : Int32).toInt ∨ nn.toInt = (1 : Int32).toInt ∨ nn.toInt = (2 : Int32).toInt ∨ nn.toInt = (3 : Int32).toInt ∨ nn.toInt = (4 : Int32).toInt := by show nn.toInt = 0 ∨ nn.toInt = 1 ∨ nn.toInt = 2 ∨ nn.toInt = 3 ∨ nn.toInt = 4; omega
    · skip
      obtain rfl : nn = (0 : Int32) := Int32.toInt_inj.mp hn
      show own_Go p.tables e below _ (T55.setTop (mkF m 28 (Array.mk [.val (.int sel), .val (.int dd0), .val (.int dd1), .val (.int dd2), .val (.int dd3), .val (.int idx), .val (.int (2 : Int32)), .val (.int (0 : Int32)), .val (.ref ao), .unset, .unset, .unset, .unset, .unset, .unset, .unset, .unset]) []))
      refine own_blk dec0 seq0 hby hx hZ hown hK hF 12 [true, true, true, true] [] X55 eh55 ?_
      show (((0 : Int32)).toInt ≤ 0) ∧ (((0 : Int32)).toInt ≤ ((1 : Int32)).toInt) ∧ (((0 : Int32)).toInt ≤ ((2 : Int32)).toInt) ∧ (((0 : Int32)).toInt ≤ ((3 : Int32)).toInt) ∧ own_Aft X55 T54.heap _ 98 [.val (.int sel), .val (.int dd0), .val (.int dd1), .val (.int dd2), .val (.int dd3), .val (.int idx), .val (.int (2 : Int32)), .val (.int (0 : Int32)), .val (.ref ao), .unset, .unset, .unset, .unset, .unset, .unset, .unset, .unset] [.ref ao]
      refine ⟨by decide, by decide, by decide, by decide, fun T56 X56 eh56 => ?_⟩
      refine own_callVP X56 hx hZ hown (hw _ (List.mem_of_getElem? (i := 17) rfl)) (hw _ (List.mem_of_getElem? (i := 18) rfl)) (hw _ (List.mem_of_getElem? (i := 20) rfl)) (hw _ (List.mem_of_getElem? (i := 19) rfl)) (hw _ (List.mem_of_getElem? (i := 2) rfl)) (hw _ (List.mem_of_getElem? (i := 21) rfl)) (by decide) eh56 EX_0 [] pd3 rfl (fr := 0) (lo := 0) (rm3_2_0 l Z a0 hw [] ao da  T54.heap n0 Zn0 Fs_0 Fc_0 ) (by rw [hml]; rfl) 0 rfl (Nat.le_of_eq rfl) (hb hby at_98) (by decide) (by decide) (by decide) (by decide) (fun T57 rv57 X57 eh57 qc57 => ?_)
      obtain rfl := qc57
      show own_Go p.tables e below _ (T57.setTop (mkF m 101 (Array.mk [.val (.int sel), .val (.int dd0), .val (.int dd1), .val (.int dd2), .val (.int dd3), .val (.int idx), .val (.int (2 : Int32)), .val (.int (0 : Int32)), .val (.ref ao), .unset, .unset, .unset, .unset, .unset, .unset, .unset, .unset]) [.double 9218868437227405312]))
      refine own_blk dec0 seq0 hby hx hZ hown hK hF 10 [false, false] [] X57 eh57 ?_
      show (¬ (((2 : Int32)).toInt ≤ ((0 : Int32)).toInt)) ∧ (¬ ((cmpValue (FP.dcmp 9218868437227405312 9218868437227405312) .l).toInt ≠ 0)) ∧ own_Aft X57 T54.heap _ 124 [.val (.int sel), .val (.int dd0), .val (.int dd1), .val (.int dd2), .val (.int dd3), .val (.int idx), .val (.int (2 : Int32)), .val (.int (0 : Int32)), .val (.ref ao), .val (.double 9218868437227405312), .second, .unset, .unset, .unset, .unset, .unset, .unset] [.int (1 : Int32)]
      refine ⟨by decide, by rw [own_cv_eq (own_eq own_infn own_infn rfl)]; omega, fun T58 X58 eh58 => ?_⟩
      exact own_ret X58 hx hlk eh58 hret (by first | rfl | decide) (Or.inl ⟨rfl, by simp, _, rfl⟩) (hb hby at_124) (by decide) (by decide) (⟨rfl, Nn0⟩)
    · skip
      obtain rfl : nn = (1 : Int32) := Int32.toInt_inj.mp hn
      show own_Go p.tables e below _ (T55.setTop (mkF m 28 (Array.mk [.val (.int sel), .val (.int dd0), .val (.int dd1), .val (.int dd2), .val (.int dd3), .val (.int idx), .val (.int (2 : Int32)), .val (.int (1 : Int32)), .val (.ref ao), .unset, .unset, .unset, .unset, .unset, .unset, .unset, .unset]) []))
      refine own_blk dec0 seq0 hby hx hZ hown hK hF 6 [false] [] X55 eh55 ?_
      show (¬ (((1 : Int32)).toInt ≤ 0)) ∧ own_Aft X55 T54.heap _ 39 [.val (.int sel), .val (.int dd0), .val (.int dd1), .val (.int dd2), .val (.int dd3), .val (.int idx), .val (.int (2 : Int32)), .val (.int (1 : Int32)), .val (.ref ao), .unset, .unset, .unset, .unset, .unset, .unset, .unset, .unset] [.double (FP.i2d dd0), .int idx, .ref ao]
      refine ⟨by decide, fun T59 X59 eh59 => ?_⟩
      refine own_callV X59 hx hZ hown (hw _ (List.mem_of_getElem? (i := 26) rfl)) (hw _ (List.mem_of_getElem? (i := 27) rfl)) (hw _ (List.mem_of_getElem? (i := 29) rfl)) (hw _ (List.mem_of_getElem? (i := 28) rfl)) (hw _ (List.mem_of_getElem? (i := 2) rfl)) (hw _ (List.mem_of_getElem? (i := 30) rfl)) (by decide) eh59 EX_0 [.int idx, .double (FP.i2d dd0)] pd4 rfl (rm := ({ frames := 2, cells := 0, slots := 0, locals := 64 } : Room)) (rm4_2_0 l Z a0 hw [] ao ia da (0 : Int64) idx (FP.i2d dd0) dd0.toInt  T54.heap n0 Zn0 nw_ao nia nda EX_0 Fo_0 Fs_0 Fc_0 Fi_0 Fd_0 ni nd ne_ A1_0 A2_0 (own_D.i2d dd0) ) (by rw [hml]; rfl) 0 rfl (Nat.le_of_eq rfl) (hb hby at_39) (by decide) (by decide) (by decide) (by decide) (fun T60 rv60 Lc60 X60 qc60 => ?_)
      obtain ⟨rfl, M1, ⟨o1, EX_1, Fo_1, Fs_1, Fc_1, Fi_1, Fd_1⟩, j1_0, y1_0, g1_0, A1_1, A2_1, D1_0, R1⟩ := qc60
      have Nn1 := Fr.app Nn0 M1
      have Zn1 : n0 ≤ T60.heap.size := Nat.le_trans nw_ao (Nat.le_of_lt EX_1.lt)
      show own_Go p.tables e below _ (T60.setTop (mkF m 42 (Array.mk [.val (.int sel), .val (.int dd0), .val (.int dd1), .val (.int dd2), .val (.int dd3), .val (.int idx), .val (.int (2 : Int32)), .val (.int (1 : Int32)), .val (.ref ao), .unset, .unset, .unset, .unset, .unset, .unset, .unset, .unset]) []))
      refine own_blk dec0 seq0 hby hx hZ hown hK hF 10 [true, true, true] [] X60 rfl ?_
      show (((1 : Int32)).toInt ≤ ((1 : Int32)).toInt) ∧ (((1 : Int32)).toInt ≤ ((2 : Int32)).toInt) ∧ (((1 : Int32)).toInt ≤ ((3 : Int32)).toInt) ∧ own_Aft X60 T60.heap _ 98 [.val (.int sel), .val (.int dd0), .val (.int dd1), .val (.int dd2), .val (.int dd3), .val (.int idx), .val (.int (2 : Int32)), .val (.int (1 : Int32)), .val (.ref ao), .unset, .unset, .unset, .unset, .unset, .unset, .unset, .unset] [.ref ao]
      refine ⟨by decide, by decide, by decide, fun T61 X61 eh61 => ?_⟩
      refine own_callVP X61 hx hZ hown (hw _ (List.mem_of_getElem? (i := 17) rfl)) (hw _ (List.mem_of_getElem? (i := 18) rfl)) (hw _ (List.mem_of_getElem? (i := 20) rfl)) (hw _ (List.mem_of_getElem? (i := 19) rfl)) (hw _ (List.mem_of_getElem? (i := 2) rfl)) (hw _ (List.mem_of_getElem? (i := 21) rfl)) (by decide) eh61 EX_1 [] pd3 rfl (fr := 0) (lo := 0) (rm3_2_1 l Z a0 hw [] ao da  T60.heap n0 Zn1 Fs_1 Fc_1 ) (by rw [hml]; rfl) 0 rfl (Nat.le_of_eq rfl) (hb hby at_98) (by decide) (by decide) (by decide) (by decide) (fun T62 rv62 X62 eh62 qc62 => ?_)
      obtain rfl := qc62
      show own_Go p.tables e below _ (T62.setTop (mkF m 101 (Array.mk [.val (.int sel), .val (.int dd0), .val (.int dd1), .val (.int dd2), .val (.int dd3), .val (.int idx), .val (.int (2 : Int32)), .val (.int (1 : Int32)), .val (.ref ao), .unset, .unset, .unset, .unset, .unset, .unset, .unset, .unset]) [.double 9218868437227405312]))
      refine own_blk dec0 seq0 hby hx hZ hown hK hF 10 [false, false] [] X62 eh62 ?_
      show (¬ (((2 : Int32)).toInt ≤ ((1 : Int32)).toInt)) ∧ (¬ ((cmpValue (FP.dcmp 9218868437227405312 9218868437227405312) .l).toInt ≠ 0)) ∧ own_Aft X62 T60.heap _ 124 [.val (.int sel), .val (.int dd0), .val (.int dd1), .val (.int dd2), .val (.int dd3), .val (.int idx), .val (.int (2 : Int32)), .val (.int (1 : Int32)), .val (.ref ao), .val (.double 9218868437227405312), .second, .unset, .unset, .unset, .unset, .unset, .unset] [.int (1 : Int32)]
      refine ⟨by decide, by rw [own_cv_eq (own_eq own_infn own_infn rfl)]; omega, fun T63 X63 eh63 => ?_⟩
      exact own_ret X63 hx hlk eh63 hret (by first | rfl | decide) (Or.inl ⟨rfl, by simp, _, rfl⟩) (hb hby at_124) (by decide) (by decide) (⟨rfl, Nn1⟩)
    · skip
      obtain rfl : nn = (2 : Int32) := Int32.toInt_inj.mp hn
      show own_Go p.tables e below _ (T55.setTop (mkF m 28 (Array.mk [.val (.int sel), .val (.int dd0), .val (.int dd1), .val (.int dd2), .val (.int dd3), .val (.int idx), .val (.int (2 : Int32)), .val (.int (2 : Int32)), .val (.ref ao), .unset, .unset, .unset, .unset, .unset, .unset, .unset, .unset]) []))
      refine own_blk dec0 seq0 hby hx hZ hown hK hF 6 [false] [] X55 eh55 ?_
      show (¬ (((2 : Int32)).toInt ≤ 0)) ∧ own_Aft X55 T54.heap _ 39 [.val (.int sel), .val (.int dd0), .val (.int dd1), .val (.int dd2), .val (.int dd3), .val (.int idx), .val (.int (2 : Int32)), .val (.int (2 : Int32)), .val (.ref ao), .unset, .unset, .unset, .unset, .unset, .unset, .unset, .unset] [.double (FP.i2d dd0), .int idx, .ref ao]
      refine ⟨by decide, fun T64 X64 eh64 => ?_⟩
      refine own_callV X64 hx hZ hown (hw _ (List.mem_of_getElem? (i := 26) rfl)) (hw _ (List.mem_of_getElem? (i := 27) rfl)) (hw _ (List.mem_of_getElem? (i := 29) rfl)) (hw _ (List.mem_of_getElem? (i := 28) rfl)) (hw _ (List.mem_of_getElem? (i := 2) rfl)) (hw _ (List.mem_of_getElem? (i := 30) rfl)) (by decide) eh64 EX_0 [.int idx, .double (FP.i2d dd0)] pd4 rfl (rm := ({ frames := 2, cells := 0, slots := 0, locals := 64 } : Room)) (rm4_2_0 l Z a0 hw [] ao ia da (0 : Int64) idx (FP.i2d dd0) dd0.toInt  T54.heap n0 Zn0 nw_ao nia nda EX_0 Fo_0 Fs_0 Fc_0 Fi_0 Fd_0 ni nd ne_ A1_0 A2_0 (own_D.i2d dd0) ) (by rw [hml]; rfl) 0 rfl (Nat.le_of_eq rfl) (hb hby at_39) (by decide) (by decide) (by decide) (by decide) (fun T65 rv65 Lc65 X65 qc65 => ?_)
      obtain ⟨rfl, M1, ⟨o1, EX_1, Fo_1, Fs_1, Fc_1, Fi_1, Fd_1⟩, j1_0, y1_0, g1_0, A1_1, A2_1, D1_0, R1⟩ := qc65
      have Nn1 := Fr.app Nn0 M1
      have Zn1 : n0 ≤ T65.heap.size := Nat.le_trans nw_ao (Nat.le_of_lt EX_1.lt)
      show own_Go p.tables e below _ (T65.setTop (mkF m 42 (Array.mk [.val (.int sel), .val (.int dd0), .val (.int dd1), .val (.int dd2), .val (.int dd3), .val (.int idx), .val (.int (2 : Int32)), .val (.int (2 : Int32)), .val (.ref ao), .unset, .unset, .unset, .unset, .unset, .unset, .unset, .unset]) []))
      refine own_blk dec0 seq0 hby hx hZ hown hK hF 9 [false] [.int (11 : Int32)] X65 rfl ?_
      show (¬ (((2 : Int32)).toInt ≤ ((1 : Int32)).toInt)) ∧ ((Int8.ofInt 11).toInt32 = (11 : Int32)) ∧ own_Aft X65 T65.heap _ 57 [.val (.int sel), .val (.int dd0), .val (.int dd1), .val (.int dd2), .val (.int dd3), .val (.int idx), .val (.int (2 : Int32)), .val (.int (2 : Int32)), .val (.ref ao), .unset, .unset, .unset, .unset, .unset, .unset, .unset, .unset] [.double (FP.i2d dd1), .int (Jvm.Free.XT.ushr idx (11 : Int32)), .ref ao]
      refine ⟨by decide, by decide +kernel, fun T66 X66 eh66 => ?_⟩
      refine own_callV X66 hx hZ hown (hw _ (List.mem_of_getElem? (i := 26) rfl)) (hw _ (List.mem_of_getElem? (i := 27) rfl)) (hw _ (List.mem_of_getElem? (i := 29) rfl)) (hw _ (List.mem_of_getElem? (i := 28) rfl)) (hw _ (List.mem_of_getElem? (i := 2) rfl)) (hw _ (List.mem_of_getElem? (i := 30) rfl)) (by decide) eh66 EX_1 [.int (Jvm.Free.XT.ushr idx (11 : Int32)), .double (FP.i2d dd1)] pd4 rfl (rm := ({ frames := 2, cells := 0, slots := 0, locals := 64 } : Room)) (rm4_2_1 l Z a0 hw [] ao ia da o1 (Jvm.Free.XT.ushr idx (11 : Int32)) (FP.i2d dd1) dd1.toInt j1_0 y1_0 g1_0 T65.heap n0 Zn1 nw_ao nia nda EX_1 Fo_1 Fs_1 Fc_1 Fi_1 Fd_1 ni nd ne_ A1_1 A2_1 (own_D.i2d dd1) D1_0) (by rw [hml]; rfl) 0 rfl (Nat.le_of_eq rfl) (hb hby at_57) (by decide) (by decide) (by decide) (by decide) (fun T67 rv67 Lc67 X67 qc67 => ?_)
      obtain ⟨rfl, M2, ⟨o2, EX_2, Fo_2, Fs_2, Fc_2, Fi_2, Fd_2⟩, j2_0, j2_1, y2_0, y2_1, g2_0, g2_1, A1_2, A2_2, D2_0, D2_1, R2⟩ := qc67
      have Nn2 := Fr.app Nn1 M2
      have Zn2 : n0 ≤ T67.heap.size := Nat.le_trans nw_ao (Nat.le_of_lt EX_2.lt)
      show own_Go p.tables e below _ (T67.setTop (mkF m 60 (Array.mk [.val (.int sel), .val (.int dd0), .val (.int dd1), .val (.int dd2), .val (.int dd3), .val (.int idx), .val (.int (2 : Int32)), .val (.int (2 : Int32)), .val (.ref ao), .unset, .unset, .unset, .unset, .unset, .unset, .unset, .unset]) []))
      refine own_blk dec0 seq0 hby hx hZ hown hK hF 7 [true, true] [] X67 rfl ?_
      show (((2 : Int32)).toInt ≤ ((2 : Int32)).toInt) ∧ (((2 : Int32)).toInt ≤ ((3 : Int32)).toInt) ∧ own_Aft X67 T67.heap _ 98 [.val (.int sel), .val (.int dd0), .val (.int dd1), .val (.int dd2), .val (.int dd3), .val (.int idx), .val (.int (2 : Int32)), .val (.int (2 : Int32)), .val (.ref ao), .unset, .unset, .unset, .unset, .unset, .unset, .unset, .unset] [.ref ao]
      refine ⟨by decide, by decide, fun T68 X68 eh68 => ?_⟩
      refine own_callVP X68 hx hZ hown (hw _ (List.mem_of_getElem? (i := 17) rfl)) (hw _ (List.mem_of_getElem? (i := 18) rfl)) (hw _ (List.mem_of_getElem? (i := 20) rfl)) (hw _ (List.mem_of_getElem? (i := 19) rfl)) (hw _ (List.mem_of_getElem? (i := 2) rfl)) (hw _ (List.mem_of_getElem? (i := 21) rfl)) (by decide) eh68 EX_2 [] pd3 rfl (fr := 0) (lo := 0) (rm3_2_2 l Z a0 hw [] ao da y2_0 y2_1 T67.heap n0 Zn2 Fs_2 Fc_2 Fd_2 A2_2) (by rw [hml]; rfl) 0 rfl (Nat.le_of_eq rfl) (hb hby at_98) (by decide) (by decide) (by decide) (by decide) (fun T69 rv69 X69 eh69 qc69 => ?_)
      obtain rfl := qc69
      show own_Go p.tables e below _ (T69.setTop (mkF m 101 (Array.mk [.val (.int sel), .val (.int dd0), .val (.int dd1), .val (.int dd2), .val (.int dd3), .val (.int idx), .val (.int (2 : Int32)), .val (.int (2 : Int32)), .val (.ref ao), .unset, .unset, .unset, .unset, .unset, .unset, .unset, .unset]) [.double y2_0]))
      refine own_blk dec0 seq0 hby hx hZ hown hK hF 24 [true, false, false, true, true] [] X69 eh69 ?_
      show (((2 : Int32)).toInt ≤ ((2 : Int32)).toInt) ∧ (¬ (((2 : Int32)).toInt ≤ 0)) ∧ (¬ (((2 : Int32)).toInt ≤ ((1 : Int32)).toInt)) ∧ (((2 : Int32)).toInt ≤ ((2 : Int32)).toInt) ∧ (((2 : Int32)).toInt ≤ ((3 : Int32)).toInt) ∧ own_Aft X69 T67.heap _ 179 [.val (.int sel), .val (.int dd0), .val (.int dd1), .val (.int dd2), .val (.int dd3), .val (.int idx), .val (.int (2 : Int32)), .val (.int (2 : Int32)), .val (.ref ao), .val (.double y2_0), .second, .val (.int dd0), .val (.int dd1), .val (.int (2147483647 : Int32)), .unset, .unset, .unset] [.int (2147483647 : Int32)]
      refine ⟨by decide, by decide, by decide, by decide, by decide, fun T70 X70 eh70 => ?_⟩
      refine own_blk dec0 seq0 hby hx hZ hown hK hF 1 [] [] X70 eh70 ?_
      show own_Aft X70 T67.heap _ 181 [.val (.int sel), .val (.int dd0), .val (.int dd1), .val (.int dd2), .val (.int dd3), .val (.int idx), .val (.int (2 : Int32)), .val (.int (2 : Int32)), .val (.ref ao), .val (.double y2_0), .second, .val (.int dd0), .val (.int dd1), .val (.int (2147483647 : Int32)), .val (.int (2147483647 : Int32)), .unset, .unset] []
      refine fun T71 X71 eh71 => ?_
      refine net X71 hx hby hml hown hZ hK hF eh71 _ _ _ _ _ _ _ _ _ _ _ _ dd0 dd1 (2147483647 : Int32) (2147483647 : Int32) hw (by decide) (by decide) (by decide) (by decide) (fun A1 B1 E1 F1 A5 E2 B2 F5 B5 E5 sl15 P1 P2 P3 P4 P5 T72 X72 eh72 => ?_)
      show own_Go p.tables e below _ (T72.setTop (mkF m 291 (Array.mk [.val (.int sel), .val (.int dd0), .val (.int dd1), .val (.int dd2), .val (.int dd3), .val (.int idx), .val (.int (2 : Int32)), .val (.int (2 : Int32)), .val (.ref ao), .val (.double y2_0), .second, .val (.int A5), .val (.int B5), .val (.int E5), .val (.int F5), sl15, .unset]) []))
      have big : (2147483647 : Int32).toInt = 2147483647 := rfl
      try rw [big] at P1
      try rw [big] at P2
      have FIN := own_fin_2_2 dd0.toInt dd1.toInt g1_0 g2_0 g2_1 A1.toInt B1.toInt E1.toInt F1.toInt A5.toInt E2.toInt B2.toInt F5.toInt B5.toInt E5.toInt R1 R2 (by have := Int32.toInt_lt dd0; omega) (by have := Int32.toInt_lt dd1; omega) P1 P2 P3 P4 P5
      refine own_blk dec0 seq0 hby hx hZ hown hK hF 16 [true, false, false] [] X72 eh72 ?_
      show (((2 : Int32)).toInt ≠ ((1 : Int32)).toInt) ∧ (¬ (((2 : Int32)).toInt ≠ ((2 : Int32)).toInt)) ∧ (¬ ((cmpValue (FP.dcmp y2_0 (FP.i2d B5)) .l).toInt ≠ 0)) ∧ own_Aft X72 T67.heap _ 348 [.val (.int sel), .val (.int dd0), .val (.int dd1), .val (.int dd2), .val (.int dd3), .val (.int idx), .val (.int (2 : Int32)), .val (.int (2 : Int32)), .val (.ref ao), .val (.double y2_0), .second, .val (.int A5), .val (.int B5), .val (.int E5), .val (.int F5), sl15, .val (.int B5)] [.int (1 : Int32)]
      refine ⟨by decide, by decide, by rw [own_cv_eq (D2_0.eq (own_D.i2d B5) FIN)]; omega, fun T73 X73 eh73 => ?_⟩
      exact own_ret X73 hx hlk eh73 hret (by first | rfl | decide) (Or.inl ⟨rfl, by simp, _, rfl⟩) (hb hby at_348) (by decide) (by decide) (⟨rfl, Nn2⟩)
    · skip
      obtain rfl : nn = (3 : Int32) := Int32.toInt_inj.mp hn
      show own_Go p.tables e below _ (T55.setTop (mkF m 28 (Array.mk [.val (.int sel), .val (.int dd0), .val (.int dd1), .val (.int dd2), .val (.int dd3), .val (.int idx), .val (.int (2 : Int32)), .val (.int (3 : Int32)), .val (.ref ao), .unset, .unset, .unset, .unset, .unset, .unset, .unset, .unset]) []))
      refine own_blk dec0 seq0 hby hx hZ hown hK hF 6 [false] [] X55 eh55 ?_
      show (¬ (((3 : Int32)).toInt ≤ 0)) ∧ own_Aft X55 T54.heap _ 39 [.val (.int sel), .val (.int dd0), .val (.int dd1), .val (.int dd2), .val (.int dd3), .val (.int idx), .val (.int (2 : Int32)), .val (.int (3 : Int32)), .val (.ref ao), .unset, .unset, .unset, .unset, .unset, .unset, .unset, .unset] [.double (FP.i2d dd0), .int idx, .ref ao]
      refine ⟨by decide, fun T74 X74 eh74 => ?_⟩
      refine own_callV X74 hx hZ hown (hw _ (List.mem_of_getElem? (i := 26) rfl)) (hw _ (List.mem_of_getElem? (i := 27) rfl)) (hw _ (List.mem_of_getElem? (i := 29) rfl)) (hw _ (List.mem_of_getElem? (i := 28) rfl)) (hw _ (List.mem_of_getElem? (i := 2) rfl)) (hw _ (List.mem_of_getElem? (i := 30) rfl)) (by decide) eh74 EX_0 [.int idx, .double (FP.i2d dd0)] pd4 rfl (rm := ({ frames := 2, cells := 0, slots := 0, locals := 64 } : Room)) (rm4_2_0 l Z a0 hw [] ao ia da (0 : Int64) idx (FP.i2d dd0) dd0.toInt  T54.heap n0 Zn0 nw_ao nia nda EX_0 Fo_0 Fs_0 Fc_0 Fi_0 Fd_0 ni nd ne_ A1_0 A2_0 (own_D.i2d dd0) ) (by rw [hml]; rfl) 0 rfl (Nat.le_of_eq rfl) (hb hby at_39) (by decide) (by decide) (by decide) (by decide) (fun T75 rv75 Lc75 X75 qc75 => ?_)
      obtain ⟨rfl, M1, ⟨o1, EX_1, Fo_1, Fs_1, Fc_1, Fi_1, Fd_1⟩, j1_0, y1_0, g1_0, A1_1, A2_1, D1_0, R1⟩ := qc75
      have Nn1 := Fr.app Nn0 M1
      have Zn1 : n0 ≤ T75.heap.size := Nat.le_trans nw_ao (Nat.le_of_lt EX_1.lt)
      show own_Go p.tables e below _ (T75.setTop (mkF m 42 (Array.mk [.val (.int sel), .val (.int dd0), .val (.int dd1), .val (.int dd2), .val (.int dd3), .val (.int idx), .val (.int (2 : Int32)), .val (.int (3 : Int32)), .val (.ref ao), .unset, .unset, .unset, .unset, .unset, .unset, .unset, .unset]) []))
      refine own_blk dec0 seq0 hby hx hZ hown hK hF 9 [false] [.int (11 : Int32)] X75 rfl ?_
      show (¬ (((3 : Int32)).toInt ≤ ((1 : Int32)).toInt)) ∧ ((Int8.ofInt 11).toInt32 = (11 : Int32)) ∧ own_Aft X75 T75.heap _ 57 [.val (.int sel), .val (.int dd0), .val (.int dd1), .val (.int dd2), .val (.int dd3), .val (.int idx), .val (.int (2 : Int32)), .val (.int (3 : Int32)), .val (.ref ao), .unset, .unset, .unset, .unset, .unset, .unset, .unset, .unset] [.double (FP.i2d dd1), .int (Jvm.Free.XT.ushr idx (11 : Int32)), .ref ao]
      refine ⟨by decide, by decide +kernel, fun T76 X76 eh76 => ?_⟩
      refine own_callV X76 hx hZ hown (hw _ (List.mem_of_getElem? (i := 26) rfl)) (hw _ (List.mem_of_getElem? (i := 27) rfl)) (hw _ (List.mem_of_getElem? (i := 29) rfl)) (hw _ (List.mem_of_getElem? (i := 28) rfl)) (hw _ (List.mem_of_getElem? (i := 2) rfl)) (hw _ (List.mem_of_getElem? (i := 30) rfl)) (by decide) eh76 EX_1 [.int (Jvm.Free.XT.ushr idx (11 : Int32)), .double (FP.i2d dd1)] pd4 rfl (rm := ({ frames := 2, cells := 0, slots := 0, locals := 64 } : Room)) (rm4_2_1 l Z a0 hw [] ao ia da o1 (Jvm.Free.XT.ushr idx (11 : Int32)) (FP.i2d dd1) dd1.toInt j1_0 y1_0 g1_0 T75.heap n0 Zn1 nw_ao nia nda EX_1 Fo_1 Fs_1 Fc_1 Fi_1 Fd_1 ni nd ne_ A1_1 A2_1 (own_D.i2d dd1) D1_0) (by rw [hml]; rfl) 0 rfl (Nat.le_of_eq rfl) (hb hby at_57) (by decide) (by decide) (by decide) (by decide) (fun T77 rv77 Lc77 X77 qc77 => ?_)
      obtain ⟨rfl, M2, ⟨o2, EX_2, Fo_2, Fs_2, Fc_2, Fi_2, Fd_2⟩, j2_0, j2_1, y2_0, y2_1, g2_0, g2_1, A1_2, A2_2, D2_0, D2_1, R2⟩ := qc77
      have Nn2 := Fr.app Nn1 M2
      have Zn2 : n0 ≤ T77.heap.size := Nat.le_trans nw_ao (Nat.le_of_lt EX_2.lt)
      show own_Go p.tables e below _ (T77.setTop (mkF m 60 (Array.mk [.val (.int sel), .val (.int dd0), .val (.int dd1), .val (.int dd2), .val (.int dd3), .val (.int idx), .val (.int (2 : Int32)), .val (.int (3 : Int32)), .val (.ref ao), .unset, .unset, .unset, .unset, .unset, .unset, .unset, .unset]) []))
      refine own_blk dec0 seq0 hby hx hZ hown hK hF 9 [false] [.int (22 : Int32)] X77 rfl ?_
      show (¬ (((3 : Int32)).toInt ≤ ((2 : Int32)).toInt)) ∧ ((Int8.ofInt 22).toInt32 = (22 : Int32)) ∧ own_Aft X77 T77.heap _ 75 [.val (.int sel), .val (.int dd0), .val (.int dd1), .val (.int dd2), .val (.int dd3), .val (.int idx), .val (.int (2 : Int32)), .val (.int (3 : Int32)), .val (.ref ao), .unset, .unset, .unset, .unset, .unset, .unset, .unset, .unset] [.double (FP.i2d dd2), .int (Jvm.Free.XT.ushr idx (22 : Int32)), .ref ao]
      refine ⟨by decide, by decide +kernel, fun T78 X78 eh78 => ?_⟩
      refine own_callV X78 hx hZ hown (hw _ (List.mem_of_getElem? (i := 26) rfl)) (hw _ (List.mem_of_getElem? (i := 27) rfl)) (hw _ (List.mem_of_getElem? (i := 29) rfl)) (hw _ (List.mem_of_getElem? (i := 28) rfl)) (hw _ (List.mem_of_getElem? (i := 2) rfl)) (hw _ (List.mem_of_getElem? (i := 30) rfl)) (by decide) eh78 EX_2 [.int (Jvm.Free.XT.ushr idx (22 : Int32)), .double (FP.i2d dd2)] pd4 rfl (rm := ({ frames := 2, cells := 0, slots := 0, locals := 64 } : Room)) (rm4_2_2 l Z a0 hw [] ao ia da o2 (Jvm.Free.XT.ushr idx (22 : Int32)) (FP.i2d dd2) dd2.toInt j2_0 j2_1 y2_0 y2_1 g2_0 g2_1 T77.heap n0 Zn2 nw_ao nia nda EX_2 Fo_2 Fs_2 Fc_2 Fi_2 Fd_2 ni nd ne_ A1_2 A2_2 (own_D.i2d dd2) D2_0 D2_1) (by rw [hml]; rfl) 0 rfl (Nat.le_of_eq rfl) (hb hby at_75) (by decide) (by decide) (by decide) (by decide) (fun T79 rv79 Lc79 X79 qc79 => ?_)
      obtain ⟨rfl, M3, ⟨o3, EX_3, Fo_3, Fs_3, Fc_3, Fi_3, Fd_3⟩, j3_0, j3_1, y3_0, y3_1, g3_0, g3_1, A1_3, A2_3, D3_0, D3_1, R3⟩ := qc79
      have Nn3 := Fr.app Nn2 M3
      have Zn3 : n0 ≤ T79.heap.size := Nat.le_trans nw_ao (Nat.le_of_lt EX_3.lt)
      show own_Go p.tables e below _ (T79.setTop (mkF m 78 (Array.mk [.val (.int sel), .val (.int dd0), .val (.int dd1), .val (.int dd2), .val (.int dd3), .val (.int idx), .val (.int (2 : Int32)), .val (.int (3 : Int32)), .val (.ref ao), .unset, .unset, .unset, .unset, .unset, .unset, .unset, .unset]) []))
      refine own_blk dec0 seq0 hby hx hZ hown hK hF 4 [true] [] X79 rfl ?_
      show (((3 : Int32)).toInt ≤ ((3 : Int32)).toInt) ∧ own_Aft X79 T79.heap _ 98 [.val (.int sel), .val (.int dd0), .val (.int dd1), .val (.int dd2), .val (.int dd3), .val (.int idx), .val (.int (2 : Int32)), .val (.int (3 : Int32)), .val (.ref ao), .unset, .unset, .unset, .unset, .unset, .unset, .unset, .unset] [.ref ao]
      refine ⟨by decide, fun T80 X80 eh80 => ?_⟩
      refine own_callVP X80 hx hZ hown (hw _ (List.mem_of_getElem? (i := 17) rfl)) (hw _ (List.mem_of_getElem? (i := 18) rfl)) (hw _ (List.mem_of_getElem? (i := 20) rfl)) (hw _ (List.mem_of_getElem? (i := 19) rfl)) (hw _ (List.mem_of_getElem? (i := 2) rfl)) (hw _ (List.mem_of_getElem? (i := 21) rfl)) (by decide) eh80 EX_3 [] pd3 rfl (fr := 0) (lo := 0) (rm3_2_2 l Z a0 hw [] ao da y3_0 y3_1 T79.heap n0 Zn3 Fs_3 Fc_3 Fd_3 A2_3) (by rw [hml]; rfl) 0 rfl (Nat.le_of_eq rfl) (hb hby at_98) (by decide) (by decide) (by decide) (by decide) (fun T81 rv81 X81 eh81 qc81 => ?_)
      obtain rfl := qc81
      show own_Go p.tables e below _ (T81.setTop (mkF m 101 (Array.mk [.val (.int sel), .val (.int dd0), .val (.int dd1), .val (.int dd2), .val (.int dd3), .val (.int idx), .val (.int (2 : Int32)), .val (.int (3 : Int32)), .val (.ref ao), .unset, .unset, .unset, .unset, .unset, .unset, .unset, .unset]) [.double y3_0]))
      refine own_blk dec0 seq0 hby hx hZ hown hK hF 24 [true, false, false, false, true] [] X81 eh81 ?_
      show (((2 : Int32)).toInt ≤ ((3 : Int32)).toInt) ∧ (¬ (((3 : Int32)).toInt ≤ 0)) ∧ (¬ (((3 : Int32)).toInt ≤ ((1 : Int32)).toInt)) ∧ (¬ (((3 : Int32)).toInt ≤ ((2 : Int32)).toInt)) ∧ (((3 : Int32)).toInt ≤ ((3 : Int32)).toInt) ∧ own_Aft X81 T79.heap _ 177 [.val (.int sel), .val (.int dd0), .val (.int dd1), .val (.int dd2), .val (.int dd3), .val (.int idx), .val (.int (2 : Int32)), .val (.int (3 : Int32)), .val (.ref ao), .val (.double y3_0), .second, .val (.int dd0), .val (.int dd1), .val (.int dd2), .unset, .unset, .unset] []
      refine ⟨by decide, by decide, by decide, by decide, by decide, fun T82 X82 eh82 => ?_⟩
      refine own_blk dec0 seq0 hby hx hZ hown hK hF 2 [] [] X82 eh82 ?_
      show own_Aft X82 T79.heap _ 181 [.val (.int sel), .val (.int dd0), .val (.int dd1), .val (.int dd2), .val (.int dd3), .val (.int idx), .val (.int (2 : Int32)), .val (.int (3 : Int32)), .val (.ref ao), .val (.double y3_0), .second, .val (.int dd0), .val (.int dd1), .val (.int dd2), .val (.int (2147483647 : Int32)), .unset, .unset] []
      refine fun T83 X83 eh83 => ?_
      refine net X83 hx hby hml hown hZ hK hF eh83 _ _ _ _ _ _ _ _ _ _ _ _ dd0 dd1 dd2 (2147483647 : Int32) hw (by decide) (by decide) (by decide) (by decide) (fun A1 B1 E1 F1 A5 E2 B2 F5 B5 E5 sl15 P1 P2 P3 P4 P5 T84 X84 eh84 => ?_)
      show own_Go p.tables e below _ (T84.setTop (mkF m 291 (Array.mk [.val (.int sel), .val (.int dd0), .val (.int dd1), .val (.int dd2), .val (.int dd3), .val (.int idx), .val (.int (2 : Int32)), .val (.int (3 : Int32)), .val (.ref ao), .val (.double y3_0), .second, .val (.int A5), .val (.int B5), .val (.int E5), .val (.int F5), sl15, .unset]) []))
      have big : (2147483647 : Int32).toInt = 2147483647 := rfl
      try rw [big] at P1
      try rw [big] at P2
      have FIN := own_fin_2_3 dd0.toInt dd1.toInt dd2.toInt g1_0 g2_0 g2_1 g3_0 g3_1 A1.toInt B1.toInt E1.toInt F1.toInt A5.toInt E2.toInt B2.toInt F5.toInt B5.toInt E5.toInt R1 R2 R3 (by have := Int32.toInt_lt dd0; omega) (by have := Int32.toInt_lt dd1; omega) (by have := Int32.toInt_lt dd2; omega) P1 P2 P3 P4 P5
      refine own_blk dec0 seq0 hby hx hZ hown hK hF 16 [true, false, false] [] X84 eh84 ?_
      show (((2 : Int32)).toInt ≠ ((1 : Int32)).toInt) ∧ (¬ (((2 : Int32)).toInt ≠ ((2 : Int32)).toInt)) ∧ (¬ ((cmpValue (FP.dcmp y3_0 (FP.i2d B5)) .l).toInt ≠ 0)) ∧ own_Aft X84 T79.heap _ 348 [.val (.int sel), .val (.int dd0), .val (.int dd1), .val (.int dd2), .val (.int dd3), .val (.int idx), .val (.int (2 : Int32)), .val (.int (3 : Int32)), .val (.ref ao), .val (.double y3_0), .second, .val (.int A5), .val (.int B5), .val (.int E5), .val (.int F5), sl15, .val (.int B5)] [.int (1 : Int32)]
      refine ⟨by decide, by decide, by rw [own_cv_eq (D3_0.eq (own_D.i2d B5) FIN)]; omega, fun T85 X85 eh85 => ?_⟩
      exact own_ret X85 hx hlk eh85 hret (by first | rfl | decide) (Or.inl ⟨rfl, by simp, _, rfl⟩) (hb hby at_348) (by decide) (by decide) (⟨rfl, Nn3⟩)
    · skip
      obtain rfl : nn = (4 : Int32) := Int32.toInt_inj.mp hn
      show own_Go p.tables e below _ (T55.setTop (mkF m 28 (Array.mk [.val (.int sel), .val (.int dd0), .val (.int dd1), .val (.int dd2), .val (.int dd3), .val (.int idx), .val (.int (2 : Int32)), .val (.int (4 : Int32)), .val (.ref ao), .unset, .unset, .unset, .unset, .unset, .unset, .unset, .unset]) []))
      refine own_blk dec0 seq0 hby hx hZ hown hK hF 6 [false] [] X55 eh55 ?_
      show (¬ (((4 : Int32)).toInt ≤ 0)) ∧ own_Aft X55 T54.heap _ 39 [.val (.int sel), .val (.int dd0), .val (.int dd1), .val (.int dd2), .val (.int dd3), .val (.int idx), .val (.int (2 : Int32)), .val (.int (4 : Int32)), .val (.ref ao), .unset, .unset, .unset, .unset, .unset, .unset, .unset, .unset] [.double (FP.i2d dd0), .int idx, .ref ao]
      refine ⟨by decide, fun T86 X86 eh86 => ?_⟩
      refine own_callV X86 hx hZ hown (hw _ (List.mem_of_getElem? (i := 26) rfl)) (hw _ (List.mem_of_getElem? (i := 27) rfl)) (hw _ (List.mem_of_getElem? (i := 29) rfl)) (hw _ (List.mem_of_getElem? (i := 28) rfl)) (hw _ (List.mem_of_getElem? (i := 2) rfl)) (hw _ (List.mem_of_getElem? (i := 30) rfl)) (by decide) eh86 EX_0 [.int idx, .double (FP.i2d dd0)] pd4 rfl (rm := ({ frames := 2, cells := 0, slots := 0, locals := 64 } : Room)) (rm4_2_0 l Z a0 hw [] ao ia da (0 : Int64) idx (FP.i2d dd0) dd0.toInt  T54.heap n0 Zn0 nw_ao nia nda EX_0 Fo_0 Fs_0 Fc_0 Fi_0 Fd_0 ni nd ne_ A1_0 A2_0 (own_D.i2d dd0) ) (by rw [hml]; rfl) 0 rfl (Nat.le_of_eq rfl) (hb hby at_39) (by decide) (by decide) (by decide) (by decide) (fun T87 rv87 Lc87 X87 qc87 => ?_)
      obtain ⟨rfl, M1, ⟨o1, EX_1, Fo_1, Fs_1, Fc_1, Fi_1, Fd_1⟩, j1_0, y1_0, g1_0, A1_1, A2_1, D1_0, R1⟩ := qc87
      have Nn1 := Fr.app Nn0 M1
      have Zn1 : n0 ≤ T87.heap.size := Nat.le_trans nw_ao (Nat.le_of_lt EX_1.lt)
      show own_Go p.tables e below _ (T87.setTop (mkF m 42 (Array.mk [.val (.int sel), .val (.int dd0), .val (.int dd1), .val (.int dd2), .val (.int dd3), .val (.int idx), .val (.int (2 : Int32)), .val (.int (4 : Int32)), .val (.ref ao), .unset, .unset, .unset, .unset, .unset, .unset, .unset, .unset]) []))
      refine own_blk dec0 seq0 hby hx hZ hown hK hF 9 [false] [.int (11 : Int32)] X87 rfl ?_
      show (¬ (((4 : Int32)).toInt ≤ ((1 : Int32)).toInt)) ∧ ((Int8.ofInt 11).toInt32 = (11 : Int32)) ∧ own_Aft X87 T87.heap _ 57 [.val (.int sel), .val (.int dd0), .val (.int dd1), .val (.int dd2), .val (.int dd3), .val (.int idx), .val (.int (2 : Int32)), .val (.int (4 : Int32)), .val (.ref ao), .unset, .unset, .unset, .unset, .unset, .unset, .unset, .unset] [.double (FP.i2d dd1), .int (Jvm.Free.XT.ushr idx (11 : Int32)), .ref ao]
      refine ⟨by decide, by decide +kernel, fun T88 X88 eh88 => ?_⟩
      refine own_callV X88 hx hZ hown (hw _ (List.mem_of_getElem? (i := 26) rfl)) (hw _ (List.mem_of_getElem? (i := 27) rfl)) (hw _ (List.mem_of_getElem? (i := 29) rfl)) (hw _ (List.mem_of_getElem? (i := 28) rfl)) (hw _ (List.mem_of_getElem? (i := 2) rfl)) (hw _ (List.mem_of_getElem? (i := 30) rfl)) (by decide) eh88 EX_1 [.int (Jvm.Free.XT.ushr idx (11 : Int32)), .double (FP.i2d dd1)] pd4 rfl (rm := ({ frames := 2, cells := 0, slots := 0, locals := 64 } : Room)) (rm4_2_1 l Z a0 hw [] ao ia da o1 (Jvm.Free.XT.ushr idx (11 : Int32)) (FP.i2d dd1) dd1.toInt j1_0 y1_0 g1_0 T87.heap n0 Zn1 nw_ao nia nda EX_1 Fo_1 Fs_1 Fc_1 Fi_1 Fd_1 ni nd ne_ A1_1 A2_1 (own_D.i2d dd1) D1_0) (by rw [hml]; rfl) 0 rfl (Nat.le_of_eq rfl) (hb hby at_57) (by decide) (by decide) (by decide) (by decide) (fun T89 rv89 Lc89 X89 qc89 => ?_)
      obtain ⟨rfl, M2, ⟨o2, EX_2, Fo_2, Fs_2, Fc_2, Fi_2, Fd_2⟩, j2_0, j2_1, y2_0, y2_1, g2_0, g2_1, A1_2, A2_2, D2_0, D2_1, R2⟩ := qc89
      have Nn2 := Fr.app Nn1 M2
      have Zn2 : n0 ≤ T89.heap.size := Nat.le_trans nw_ao (Nat.le_of_lt EX_2.lt)
      show own_Go p.tables e below _ (T89.setTop (mkF m 60 (Array.mk [.val (.int sel), .val (.int dd0), .val (.int dd1), .val (.int dd2), .val (.int dd3), .val (.int idx), .val (.int (2 : Int32)), .val (.int (4 : Int32)), .val (.ref ao), .unset, .unset, .unset, .unset, .unset, .unset, .unset, .unset]) []))
      refine own_blk dec0 seq0 hby hx hZ hown hK hF 9 [false] [.int (22 : Int32)] X89 rfl ?_
      show (¬ (((4 : Int32)).toInt ≤ ((2 : Int32)).toInt)) ∧ ((Int8.ofInt 22).toInt32 = (22 : Int32)) ∧ own_Aft X89 T89.heap _ 75 [.val (.int sel), .val (.int dd0), .val (.int dd1), .val (.int dd2), .val (.int dd3), .val (.int idx), .val (.int (2 : Int32)), .val (.int (4 : Int32)), .val (.ref ao), .unset, .unset, .unset, .unset, .unset, .unset, .unset, .unset] [.double (FP.i2d dd2), .int (Jvm.Free.XT.ushr idx (22 : Int32)), .ref ao]
      refine ⟨by decide, by decide +kernel, fun T90 X90 eh90 => ?_⟩
      refine own_callV X90 hx hZ hown (hw _ (List.mem_of_getElem? (i := 26) rfl)) (hw _ (List.mem_of_getElem? (i := 27) rfl)) (hw _ (List.mem_of_getElem? (i := 29) rfl)) (hw _ (List.mem_of_getElem? (i := 28) rfl)) (hw _ (List.mem_of_getElem? (i := 2) rfl)) (hw _ (List.mem_of_getElem? (i := 30) rfl)) (by decide) eh90 EX_2 [.int (Jvm.Free.XT.ushr idx (22 : Int32)), .double (FP.i2d dd2)] pd4 rfl (rm := ({ frames := 2, cells := 0, slots := 0, locals := 64 } : Room)) (rm4_2_2 l Z a0 hw [] ao ia da o2 (Jvm.Free.XT.ushr idx (22 : Int32)) (FP.i2d dd2) dd2.toInt j2_0 j2_1 y2_0 y2_1 g2_0 g2_1 T89.heap n0 Zn2 nw_ao nia nda EX_2 Fo_2 Fs_2 Fc_2 Fi_2 Fd_2 ni nd ne_ A1_2 A2_2 (own_D.i2d dd2) D2_0 D2_1) (by rw [hml]; rfl) 0 rfl (Nat.le_of_eq rfl) (hb hby at_75) (by decide) (by decide) (by decide) (by decide) (fun T91 rv91 Lc91 X91 qc91 => ?_)
      obtain ⟨rfl, M3, ⟨o3, EX_3, Fo_3, Fs_3, Fc_3, Fi_3, Fd_3⟩, j3_0, j3_1, y3_0, y3_1, g3_0, g3_1, A1_3, A2_3, D3_0, D3_1, R3⟩ := qc91
      have Nn3 := Fr.app Nn2 M3
      have Zn3 : n0 ≤ T91.heap.size := Nat.le_trans nw_ao (Nat.le_of_lt EX_3.lt)
      show own_Go p.tables e below _ (T91.setTop (mkF m 78 (Array.mk [.val (.int sel), .val (.int dd0), .val (.int dd1), .val (.int dd2), .val (.int dd3), .val (.int idx), .val (.int (2 : Int32)), .val (.int (4 : Int32)), .val (.ref ao), .unset, .unset, .unset, .unset, .unset, .unset, .unset, .unset]) []))
      refine own_blk dec0 seq0 hby hx hZ hown hK hF 9 [false] [] X91 rfl ?_
      show (¬ (((4 : Int32)).toInt ≤ ((3 : Int32)).toInt)) ∧ own_Aft X91 T91.heap _ 93 [.val (.int sel), .val (.int dd0), .val (.int dd1), .val (.int dd2), .val (.int dd3), .val (.int idx), .val (.int (2 : Int32)), .val (.int (4 : Int32)), .val (.ref ao), .unset, .unset, .unset, .unset, .unset, .unset, .unset, .unset] [.double (FP.i2d dd3), .int (idx ^^^ (-1 : Int32)), .ref ao]
      refine ⟨by decide, fun T92 X92 eh92 => ?_⟩
      refine own_callV X92 hx hZ hown (hw _ (List.mem_of_getElem? (i := 26) rfl)) (hw _ (List.mem_of_getElem? (i := 27) rfl)) (hw _ (List.mem_of_getElem? (i := 29) rfl)) (hw _ (List.mem_of_getElem? (i := 28) rfl)) (hw _ (List.mem_of_getElem? (i := 2) rfl)) (hw _ (List.mem_of_getElem? (i := 30) rfl)) (by decide) eh92 EX_3 [.int (idx ^^^ (-1 : Int32)), .double (FP.i2d dd3)] pd4 rfl (rm := ({ frames := 2, cells := 0, slots := 0, locals := 64 } : Room)) (rm4_2_2 l Z a0 hw [] ao ia da o3 (idx ^^^ (-1 : Int32)) (FP.i2d dd3) dd3.toInt j3_0 j3_1 y3_0 y3_1 g3_0 g3_1 T91.heap n0 Zn3 nw_ao nia nda EX_3 Fo_3 Fs_3 Fc_3 Fi_3 Fd_3 ni nd ne_ A1_3 A2_3 (own_D.i2d dd3) D3_0 D3_1) (by rw [hml]; rfl) 0 rfl (Nat.le_of_eq rfl) (hb hby at_93) (by decide) (by decide) (by decide) (by decide) (fun T93 rv93 Lc93 X93 qc93 => ?_)
      obtain ⟨rfl, M4, ⟨o4, EX_4, Fo_4, Fs_4, Fc_4, Fi_4, Fd_4⟩, j4_0, j4_1, y4_0, y4_1, g4_0, g4_1, A1_4, A2_4, D4_0, D4_1, R4⟩ := qc93
      have Nn4 := Fr.app Nn3 M4
      have Zn4 : n0 ≤ T93.heap.size := Nat.le_trans nw_ao (Nat.le_of_lt EX_4.lt)
      show own_Go p.tables e below _ (T93.setTop (mkF m 96 (Array.mk [.val (.int sel), .val (.int dd0), .val (.int dd1), .val (.int dd2), .val (.int dd3), .val (.int idx), .val (.int (2 : Int32)), .val (.int (4 : Int32)), .val (.ref ao), .unset, .unset, .unset, .unset, .unset, .unset, .unset, .unset]) []))
      refine own_blk dec0 seq0 hby hx hZ hown hK hF 1 [] [] X93 rfl ?_
      show own_Aft X93 T93.heap _ 98 [.val (.int sel), .val (.int dd0), .val (.int dd1), .val (.int dd2), .val (.int dd3), .val (.int idx), .val (.int (2 : Int32)), .val (.int (4 : Int32)), .val (.ref ao), .unset, .unset, .unset, .unset, .unset, .unset, .unset, .unset] [.ref ao]
      refine fun T94 X94 eh94 => ?_
      refine own_callVP X94 hx hZ hown (hw _ (List.mem_of_getElem? (i := 17) rfl)) (hw _ (List.mem_of_getElem? (i := 18) rfl)) (hw _ (List.mem_of_getElem? (i := 20) rfl)) (hw _ (List.mem_of_getElem? (i := 19) rfl)) (hw _ (List.mem_of_getElem? (i := 2) rfl)) (hw _ (List.mem_of_getElem? (i := 21) rfl)) (by decide) eh94 EX_4 [] pd3 rfl (fr := 0) (lo := 0) (rm3_2_2 l Z a0 hw [] ao da y4_0 y4_1 T93.heap n0 Zn4 Fs_4 Fc_4 Fd_4 A2_4) (by rw [hml]; rfl) 0 rfl (Nat.le_of_eq rfl) (hb hby at_98) (by decide) (by decide) (by decide) (by decide) (fun T95 rv95 X95 eh95 qc95 => ?_)
      obtain rfl := qc95
      show own_Go p.tables e below _ (T95.setTop (mkF m 101 (Array.mk [.val (.int sel), .val (.int dd0), .val (.int dd1), .val (.int dd2), .val (.int dd3), .val (.int idx), .val (.int (2 : Int32)), .val (.int (4 : Int32)), .val (.ref ao), .unset, .unset, .unset, .unset, .unset, .unset, .unset, .unset]) [.double y4_0]))
      refine own_blk dec0 seq0 hby hx hZ hown hK hF 24 [true, false, false, false, false] [] X95 eh95 ?_
      show (((2 : Int32)).toInt ≤ ((4 : Int32)).toInt) ∧ (¬ (((4 : Int32)).toInt ≤ 0)) ∧ (¬ (((4 : Int32)).toInt ≤ ((1 : Int32)).toInt)) ∧ (¬ (((4 : Int32)).toInt ≤ ((2 : Int32)).toInt)) ∧ (¬ (((4 : Int32)).toInt ≤ ((3 : Int32)).toInt)) ∧ own_Aft X95 T93.heap _ 172 [.val (.int sel), .val (.int dd0), .val (.int dd1), .val (.int dd2), .val (.int dd3), .val (.int idx), .val (.int (2 : Int32)), .val (.int (4 : Int32)), .val (.ref ao), .val (.double y4_0), .second, .val (.int dd0), .val (.int dd1), .val (.int dd2), .unset, .unset, .unset] []
      refine ⟨by decide, by decide, by decide, by decide, by decide, fun T96 X96 eh96 => ?_⟩
      refine own_blk dec0 seq0 hby hx hZ hown hK hF 3 [] [] X96 eh96 ?_
      show own_Aft X96 T93.heap _ 181 [.val (.int sel), .val (.int dd0), .val (.int dd1), .val (.int dd2), .val (.int dd3), .val (.int idx), .val (.int (2 : Int32)), .val (.int (4 : Int32)), .val (.ref ao), .val (.double y4_0), .second, .val (.int dd0), .val (.int dd1), .val (.int dd2), .val (.int dd3), .unset, .unset] []
      refine fun T97 X97 eh97 => ?_
      refine net X97 hx hby hml hown hZ hK hF eh97 _ _ _ _ _ _ _ _ _ _ _ _ dd0 dd1 dd2 dd3 hw (by decide) (by decide) (by decide) (by decide) (fun A1 B1 E1 F1 A5 E2 B2 F5 B5 E5 sl15 P1 P2 P3 P4 P5 T98 X98 eh98 => ?_)
      show own_Go p.tables e below _ (T98.setTop (mkF m 291 (Array.mk [.val (.int sel), .val (.int dd0), .val (.int dd1), .val (.int dd2), .val (.int dd3), .val (.int idx), .val (.int (2 : Int32)), .val (.int (4 : Int32)), .val (.ref ao), .val (.double y4_0), .second, .val (.int A5), .val (.int B5), .val (.int E5), .val (.int F5), sl15, .unset]) []))
      have big : (2147483647 : Int32).toInt = 2147483647 := rfl
      try rw [big] at P1
      try rw [big] at P2
      have FIN := own_fin_2_4 dd0.toInt dd1.toInt dd2.toInt dd3.toInt g1_0 g2_0 g2_1 g3_0 g3_1 g4_0 g4_1 A1.toInt B1.toInt E1.toInt F1.toInt A5.toInt E2.toInt B2.toInt F5.toInt B5.toInt E5.toInt R1 R2 R3 R4 (by have := Int32.toInt_lt dd0; omega) (by have := Int32.toInt_lt dd1; omega) (by have := Int32.toInt_lt dd2; omega) (by have := Int32.toInt_lt dd3; omega) P1 P2 P3 P4 P5
      refine own_blk dec0 seq0 hby hx hZ hown hK hF 16 [true, false, false] [] X98 eh98 ?_
      show (((2 : Int32)).toInt ≠ ((1 : Int32)).toInt) ∧ (¬ (((2 : Int32)).toInt ≠ ((2 : Int32)).toInt)) ∧ (¬ ((cmpValue (FP.dcmp y4_0 (FP.i2d B5)) .l).toInt ≠ 0)) ∧ own_Aft X98 T93.heap _ 348 [.val (.int sel), .val (.int dd0), .val (.int dd1), .val (.int dd2), .val (.int dd3), .val (.int idx), .val (.int (2 : Int32)), .val (.int (4 : Int32)), .val (.ref ao), .val (.double y4_0), .second, .val (.int A5), .val (.int B5), .val (.int E5), .val (.int F5), sl15, .val (.int B5)] [.int (1 : Int32)]
      refine ⟨by decide, by decide, by rw [own_cv_eq (D4_0.eq (own_D.i2d B5) FIN)]; omega, fun T99 X99 eh99 => ?_⟩
      exact own_ret X99 hx hlk eh99 hret (by first | rfl | decide) (Or.inl ⟨rfl, by simp, _, rfl⟩) (hb hby at_348) (by decide) (by decide) (⟨rfl, Nn4⟩)
  · skip
    obtain rfl : kn = (3 : Int32) := Int32.toInt_inj.mp hk
    show own_Go p.tables e below _ (T1.setTop (mkF m 17 (Array.mk [.val (.int sel), .val (.int dd0), .val (.int dd1), .val (.int dd2), .val (.int dd3), .val (.int idx), .val (.int (3 : Int32)), .val (.int nn), .unset, .unset, .unset, .unset, .unset, .unset, .unset, .unset, .unset]) []))
    refine own_new X1 hx hZ hown (hw _ (List.mem_of_getElem? (i := 0) rfl)) (hw _ (List.mem_of_getElem? (i := 1) rfl)) (hw _ (List.mem_of_getElem? (i := 2) rfl)) eh1 (hb hby at_17) (by decide) (by decide) (fun T100 hp100 ao ga100 X100 eh100 Ex100 Ea100 Dn100 => ?_)
    have nw_ao : n0 ≤ ao := by rw [ga100]; exact Z0
    have Z_100 : n0 ≤ hp100.size := Nat.le_trans Z0 Ex100.1
    have Fn100_capacity : Fld Z hp100 ao "org/axisfold/search/KNearest" "capacity" "I" (.int (0 : Int32)) := Dn100 (Or.inr (hw _ (List.mem_of_getElem? (i := 10) rfl))) (ty := .int) (by decide)
    have Fn100_indices : Fld Z hp100 ao "org/axisfold/search/KNearest" "indices" "[I" (.null) := Dn100 (Or.inr (hw _ (List.mem_of_getElem? (i := 13) rfl))) (ty := (.array .int)) (by decide)
    have Fn100_squaredDistances : Fld Z hp100 ao "org/axisfold/search/KNearest" "squaredDistances" "[D" (.null) := Dn100 (Or.inr (hw _ (List.mem_of_getElem? (i := 16) rfl))) (ty := (.array .double)) (by decide)
    have Fn100_size : Fld Z hp100 ao "org/axisfold/search/KNearest" "size" "I" (.int (0 : Int32)) := Dn100 (Or.inl (hw _ (List.mem_of_getElem? (i := 23) rfl))) (ty := .int) (by decide)
    have Fn100_offered : Fld Z hp100 ao "org/axisfold/search/KNearest" "offered" "J" (.long (0 : Int64)) := Dn100 (Or.inl (hw _ (List.mem_of_getElem? (i := 32) rfl))) (ty := .long) (by decide)
    show own_Go p.tables e below _ (T100.setTop (mkF m 20 (Array.mk [.val (.int sel), .val (.int dd0), .val (.int dd1), .val (.int dd2), .val (.int dd3), .val (.int idx), .val (.int (3 : Int32)), .val (.int nn), .unset, .unset, .unset, .unset, .unset, .unset, .unset, .unset, .unset]) [.ref ao]))
    refine own_blk dec0 seq0 hby hx hZ hown hK hF 2 [] [] X100 eh100 ?_
    show own_Aft X100 hp100 _ 23 [.val (.int sel), .val (.int dd0), .val (.int dd1), .val (.int dd2), .val (.int dd3), .val (.int idx), .val (.int (3 : Int32)), .val (.int nn), .unset, .unset, .unset, .unset, .unset, .unset, .unset, .unset, .unset] [.int (3 : Int32), .ref ao, .ref ao]
    refine fun T101 X101 eh101 => ?_
    refine own_callI X101 hx hZ hown rfl (hw _ (List.mem_of_getElem? (i := 3) rfl)) (hw _ (List.mem_of_getElem? (i := 4) rfl)) (hw _ (List.mem_of_getElem? (i := 2) rfl)) (hw _ (List.mem_of_getElem? (i := 5) rfl)) (by decide) eh101 ao [.int (3 : Int32)] pd1 rfl (rm := ({ frames := 1, cells := 2, slots := 6, locals := 12 } : Room)) (rm1_3 l Z a0 hw [] ao hp100 n0 Z_100 Ea100 nw_ao Fn100_capacity Fn100_indices Fn100_squaredDistances Fn100_size Fn100_offered) (by rw [hml]; rfl) 1 rfl (Nat.le_of_eq rfl) (hb hby at_23) (by decide) (by decide) (by decide) (by decide) (fun T102 rv102 Lc102 X102 qc102 => ?_)
    obtain ⟨rfl, M0, EX_0, Fc_0, Fs_0, Fo_0, ia, da, Fi_0, Fd_0, A1_0, A2_0, ni, nd, ne_, nia, nda⟩ := qc102
    have Nn0 := Fr.app N0 M0
    have Zn0 : n0 ≤ T102.heap.size := Nat.le_trans nw_ao (Nat.le_of_lt EX_0.lt)
    show own_Go p.tables e below _ (T102.setTop (mkF m 26 (Array.mk [.val (.int sel), .val (.int dd0), .val (.int dd1), .val (.int dd2), .val (.int dd3), .val (.int idx), .val (.int (3 : Int32)), .val (.int nn), .unset, .unset, .unset, .unset, .unset, .unset, .unset, .unset, .unset]) [.ref ao]))
    refine own_blk dec0 seq0 hby hx hZ hown hK hF 1 [] [] X102 rfl ?_
    show own_Aft X102 T102.heap _ 28 [.val (.int sel), .val (.int dd0), .val (.int dd1), .val (.int dd2), .val (.int dd3), .val (.int idx), .val (.int (3 : Int32)), .val (.int nn), .val (.ref ao), .unset, .unset, .unset, .unset, .unset, .unset, .unset, .unset] []
    refine fun T103 X103 eh103 => ?_
    obtain hn | hn | hn | hn | hn : nn.toInt = (0 : Int32).toInt ∨ nn.toInt = (1 : Int32).toInt ∨ nn.toInt = (2 : Int32).toInt ∨ nn.toInt = (3 : Int32).toInt ∨ nn.toInt = (4 : Int32).toInt := by show nn.toInt = 0 ∨ nn.toInt = 1 ∨ nn.toInt = 2 ∨ nn.toInt = 3 ∨ nn.toInt = 4; omega
    · skip
      obtain rfl : nn = (0 : Int32) := Int32.toInt_inj.mp hn
      show own_Go p.tables e below _ (T103.setTop (mkF m 28 (Array.mk [.val (.int sel), .val (.int dd0), .val (.int dd1), .val (.int dd2), .val (.int dd3), .val (.int idx), .val (.int (3 : Int32)), .val (.int (0 : Int32)), .val (.ref ao), .unset, .unset, .unset, .unset, .unset, .unset, .unset, .unset]) []))
      refine own_blk dec0 seq0 hby hx hZ hown hK hF 12 [true, true, true, true] [] X103 eh103 ?_
      show (((0 : Int32)).toInt ≤ 0) ∧ (((0 : Int32)).toInt ≤ ((1 : Int32)).toInt) ∧ (((0 : Int32)).toInt ≤ ((2 : Int32)).toInt) ∧ (((0 : Int32)).toInt ≤ ((3 : Int32)).toInt) ∧ own_Aft X103 T102.heap _ 98 [.val (.int sel), .val (.int dd0), .val (.int dd1), .val (.int dd2), .val (.int dd3), .val (.int idx), .val (.int (3 : Int32)), .val (.int (0 : Int32)), .val (.ref ao), .unset, .unset, .unset, .unset, .unset, .unset, .unset, .unset] [.ref ao]
      refine ⟨by decide, by decide, by decide, by decide, fun T104 X104 eh104 => ?_⟩
      refine own_callVP X104 hx hZ hown (hw _ (List.mem_of_getElem? (i := 17) rfl)) (hw _ (List.mem_of_getElem? (i := 18) rfl)) (hw _ (List.mem_of_getElem? (i := 20) rfl)) (hw _ (List.mem_of_getElem? (i := 19) rfl)) (hw _ (List.mem_of_getElem? (i := 2) rfl)) (hw _ (List.mem_of_getElem? (i := 21) rfl)) (by decide) eh104 EX_0 [] pd3 rfl (fr := 0) (lo := 0) (rm3_3_0 l Z a0 hw [] ao da  T102.heap n0 Zn0 Fs_0 Fc_0 ) (by rw [hml]; rfl) 0 rfl (Nat.le_of_eq rfl) (hb hby at_98) (by decide) (by decide) (by decide) (by decide) (fun T105 rv105 X105 eh105 qc105 => ?_)
      obtain rfl := qc105
      show own_Go p.tables e below _ (T105.setTop (mkF m 101 (Array.mk [.val (.int sel), .val (.int dd0), .val (.int dd1), .val (.int dd2), .val (.int dd3), .val (.int idx), .val (.int (3 : Int32)), .val (.int (0 : Int32)), .val (.ref ao), .unset, .unset, .unset, .unset, .unset, .unset, .unset, .unset]) [.double 9218868437227405312]))
      refine own_blk dec0 seq0 hby hx hZ hown hK hF 10 [false, false] [] X105 eh105 ?_
      show (¬ (((3 : Int32)).toInt ≤ ((0 : Int32)).toInt)) ∧ (¬ ((cmpValue (FP.dcmp 9218868437227405312 9218868437227405312) .l).toInt ≠ 0)) ∧ own_Aft X105 T102.heap _ 124 [.val (.int sel), .val (.int dd0), .val (.int dd1), .val (.int dd2), .val (.int dd3), .val (.int idx), .val (.int (3 : Int32)), .val (.int (0 : Int32)), .val (.ref ao), .val (.double 9218868437227405312), .second, .unset, .unset, .unset, .unset, .unset, .unset] [.int (1 : Int32)]
      refine ⟨by decide, by rw [own_cv_eq (own_eq own_infn own_infn rfl)]; omega, fun T106 X106 eh106 => ?_⟩
      exact own_ret X106 hx hlk eh106 hret (by first | rfl | decide) (Or.inl ⟨rfl, by simp, _, rfl⟩) (hb hby at_124) (by decide) (by decide) (⟨rfl, Nn0⟩)
    · skip
      obtain rfl : nn = (1 : Int32) := Int32.toInt_inj.mp hn
      show own_Go p.tables e below _ (T103.setTop (mkF m 28 (Array.mk [.val (.int sel), .val (.int dd0), .val (.int dd1), .val (.int dd2), .val (.int dd3), .val (.int idx), .val (.int (3 : Int32)), .val (.int (1 : Int32)), .val (.ref ao), .unset, .unset, .unset, .unset, .unset, .unset, .unset, .unset]) []))
      refine own_blk dec0 seq0 hby hx hZ hown hK hF 6 [false] [] X103 eh103 ?_
      show (¬ (((1 : Int32)).toInt ≤ 0)) ∧ own_Aft X103 T102.heap _ 39 [.val (.int sel), .val (.int dd0), .val (.int dd1), .val (.int dd2), .val (.int dd3), .val (.int idx), .val (.int (3 : Int32)), .val (.int (1 : Int32)), .val (.ref ao), .unset, .unset, .unset, .unset, .unset, .unset, .unset, .unset] [.double (FP.i2d dd0), .int idx, .ref ao]
      refine ⟨by decide, fun T107 X107 eh107 => ?_⟩
      refine own_callV X107 hx hZ hown (hw _ (List.mem_of_getElem? (i := 26) rfl)) (hw _ (List.mem_of_getElem? (i := 27) rfl)) (hw _ (List.mem_of_getElem? (i := 29) rfl)) (hw _ (List.mem_of_getElem? (i := 28) rfl)) (hw _ (List.mem_of_getElem? (i := 2) rfl)) (hw _ (List.mem_of_getElem? (i := 30) rfl)) (by decide) eh107 EX_0 [.int idx, .double (FP.i2d dd0)] pd4 rfl (rm := ({ frames := 2, cells := 0, slots := 0, locals := 64 } : Room)) (rm4_3_0 l Z a0 hw [] ao ia da (0 : Int64) idx (FP.i2d dd0) dd0.toInt  T102.heap n0 Zn0 nw_ao nia nda EX_0 Fo_0 Fs_0 Fc_0 Fi_0 Fd_0 ni nd ne_ A1_0 A2_0 (own_D.i2d dd0) ) (by rw [hml]; rfl) 0 rfl (Nat.le_of_eq rfl) (hb hby at_39) (by decide) (by decide) (by decide) (by decide) (fun T108 rv108 Lc108 X108 qc108 => ?_)
      obtain ⟨rfl, M1, ⟨o1, EX_1, Fo_1, Fs_1, Fc_1, Fi_1, Fd_1⟩, j1_0, y1_0, g1_0, A1_1, A2_1, D1_0, R1⟩ := qc108
      have Nn1 := Fr.app Nn0 M1
      have Zn1 : n0 ≤ T108.heap.size := Nat.le_trans nw_ao (Nat.le_of_lt EX_1.lt)
      show own_Go p.tables e below _ (T108.setTop (mkF m 42 (Array.mk [.val (.int sel), .val (.int dd0), .val (.int dd1), .val (.int dd2), .val (.int dd3), .val (.int idx), .val (.int (3 : Int32)), .val (.int (1 : Int32)), .val (.ref ao), .unset, .unset, .unset, .unset, .unset, .unset, .unset, .unset]) []))
      refine own_blk dec0 seq0 hby hx hZ hown hK hF 10 [true, true, true] [] X108 rfl ?_
      show (((1 : Int32)).toInt ≤ ((1 : Int32)).toInt) ∧ (((1 : Int32)).toInt ≤ ((2 : Int32)).toInt) ∧ (((1 : Int32)).toInt ≤ ((3 : Int32)).toInt) ∧ own_Aft X108 T108.heap _ 98 [.val (.int sel), .val (.int dd0), .val (.int dd1), .val (.int dd2), .val (.int dd3), .val (.int idx), .val (.int (3 : Int32)), .val (.int (1 : Int32)), .val (.ref ao), .unset, .unset, .unset, .unset, .unset, .unset, .unset, .unset] [.ref ao]
      refine ⟨by decide, by decide, by decide, fun T109 X109 eh109 => ?_⟩
      refine own_callVP X109 hx hZ hown (hw _ (List.mem_of_getElem? (i := 17) rfl)) (hw _ (List.mem_of_getElem? (i := 18) rfl)) (hw _ (List.mem_of_getElem? (i := 20) rfl)) (hw _ (List.mem_of_getElem? (i := 19) rfl)) (hw _ (List.mem_of_getElem? (i := 2) rfl)) (hw _ (List.mem_of_getElem? (i := 21) rfl)) (by decide) eh109 EX_1 [] pd3 rfl (fr := 0) (lo := 0) (rm3_3_1 l Z a0 hw [] ao da  T108.heap n0 Zn1 Fs_1 Fc_1 ) (by rw [hml]; rfl) 0 rfl (Nat.le_of_eq rfl) (hb hby at_98) (by decide) (by decide) (by decide) (by decide) (fun T110 rv110 X110 eh110 qc110 => ?_)
      obtain rfl := qc110
      show own_Go p.tables e below _ (T110.setTop (mkF m 101 (Array.mk [.val (.int sel), .val (.int dd0), .val (.int dd1), .val (.int dd2), .val (.int dd3), .val (.int idx), .val (.int (3 : Int32)), .val (.int (1 : Int32)), .val (.ref ao), .unset, .unset, .unset, .unset, .unset, .unset, .unset, .unset]) [.double 9218868437227405312]))
      refine own_blk dec0 seq0 hby hx hZ hown hK hF 10 [false, false] [] X110 eh110 ?_
      show (¬ (((3 : Int32)).toInt ≤ ((1 : Int32)).toInt)) ∧ (¬ ((cmpValue (FP.dcmp 9218868437227405312 9218868437227405312) .l).toInt ≠ 0)) ∧ own_Aft X110 T108.heap _ 124 [.val (.int sel), .val (.int dd0), .val (.int dd1), .val (.int dd2), .val (.int dd3), .val (.int idx), .val (.int (3 : Int32)), .val (.int (1 : Int32)), .val (.ref ao), .val (.double 9218868437227405312), .second, .unset, .unset, .unset, .unset, .unset, .unset] [.int (1 : Int32)]
      refine ⟨by decide, by rw [own_cv_eq (own_eq own_infn own_infn rfl)]; omega, fun T111 X111 eh111 => ?_⟩
      exact own_ret X111 hx hlk eh111 hret (by first | rfl | decide) (Or.inl ⟨rfl, by simp, _, rfl⟩) (hb hby at_124) (by decide) (by decide) (⟨rfl, Nn1⟩)
    · skip
      obtain rfl : nn = (2 : Int32) := Int32.toInt_inj.mp hn
      show own_Go p.tables e below _ (T103.setTop (mkF m 28 (Array.mk [.val (.int sel), .val (.int dd0), .val (.int dd1), .val (.int dd2), .val (.int dd3), .val (.int idx), .val (.int (3 : Int32)), .val (.int (2 : Int32)), .val (.ref ao), .unset, .unset, .unset, .unset, .unset, .unset, .unset, .unset]) []))
      refine own_blk dec0 seq0 hby hx hZ hown hK hF 6 [false] [] X103 eh103 ?_
      show (¬ (((2 : Int32)).toInt ≤ 0)) ∧ own_Aft X103 T102.heap _ 39 [.val (.int sel), .val (.int dd0), .val (.int dd1), .val (.int dd2), .val (.int dd3), .val (.int idx), .val (.int (3 : Int32)), .val (.int (2 : Int32)), .val (.ref ao), .unset, .unset, .unset, .unset, .unset, .unset, .unset, .unset] [.double (FP.i2d dd0), .int idx, .ref ao]
      refine ⟨by decide, fun T112 X112 eh112 => ?_⟩
      refine own_callV X112 hx hZ hown (hw _ (List.mem_of_getElem? (i := 26) rfl)) (hw _ (List.mem_of_getElem? (i := 27) rfl)) (hw _ (List.mem_of_getElem? (i := 29) rfl)) (hw _ (List.mem_of_getElem? (i := 28) rfl)) (hw _ (List.mem_of_getElem? (i := 2) rfl)) (hw _ (List.mem_of_getElem? (i := 30) rfl)) (by decide) eh112 EX_0 [.int idx, .double (FP.i2d dd0)] pd4 rfl (rm := ({ frames := 2, cells := 0, slots := 0, locals := 64 } : Room)) (rm4_3_0 l Z a0 hw [] ao ia da (0 : Int64) idx (FP.i2d dd0) dd0.toInt  T102.heap n0 Zn0 nw_ao nia nda EX_0 Fo_0 Fs_0 Fc_0 Fi_0 Fd_0 ni nd ne_ A1_0 A2_0 (own_D.i2d dd0) ) (by rw [hml]; rfl) 0 rfl (Nat.le_of_eq rfl) (hb hby at_39) (by decide) (by decide) (by decide) (by decide) (fun T113 rv113 Lc113 X113 qc113 => ?_)
      obtain ⟨rfl, M1, ⟨o1, EX_1, Fo_1, Fs_1, Fc_1, Fi_1, Fd_1⟩, j1_0, y1_0, g1_0, A1_1, A2_1, D1_0, R1⟩ := qc113
      have Nn1 := Fr.app Nn0 M1
      have Zn1 : n0 ≤ T113.heap.size := Nat.le_trans nw_ao (Nat.le_of_lt EX_1.lt)
      show own_Go p.tables e below _ (T113.setTop (mkF m 42 (Array.mk [.val (.int sel), .val (.int dd0), .val (.int dd1), .val (.int dd2), .val (.int dd3), .val (.int idx), .val (.int (3 : Int32)), .val (.int (2 : Int32)), .val (.ref ao), .unset, .unset, .unset, .unset, .unset, .unset, .unset, .unset]) []))
      refine own_blk dec0 seq0 hby hx hZ hown hK hF 9 [false] [.int (11 : Int32)] X113 rfl ?_
      show (¬ (((2 : Int32)).toInt ≤ ((1 : Int32)).toInt)) ∧ ((Int8.ofInt 11).toInt32 = (11 : Int32)) ∧ own_Aft X113 T113.heap _ 57 [.val (.int sel), .val (.int dd0), .val (.int dd1), .val (.int dd2), .val (.int dd3), .val (.int idx), .val (.int (3 : Int32)), .val (.int (2 : Int32)), .val (.ref ao), .unset, .unset, .unset, .unset, .unset, .unset, .unset, .unset] [.double (FP.i2d dd1), .int (Jvm.Free.XT.ushr idx (11 : Int32)), .ref ao]
      refine ⟨by decide, by decide +kernel, fun T114 X114 eh114 => ?_⟩
      refine own_callV X114 hx hZ hown (hw _ (List.mem_of_getElem? (i := 26) rfl)) (hw _ (List.mem_of_getElem? (i := 27) rfl)) (hw _ (List.mem_of_getElem? (i := 29) rfl)) (hw _ (List.mem_of_getElem? (i := 28) rfl)) (hw _ (List.mem_of_getElem? (i := 2) rfl)) (hw _ (List.mem_of_getElem? (i := 30) rfl)) (by decide) eh114 EX_1 [.int (Jvm.Free.XT.ushr idx (11 : Int32)), .double (FP.i2d dd1)] pd4 rfl (rm := ({ frames := 2, cells := 0, slots := 0, locals := 64 } : Room)) (rm4_3_1 l Z a0 hw [] ao ia da o1 (Jvm.Free.XT.ushr idx (11 : Int32)) (FP.i2d dd1) dd1.toInt j1_0 y1_0 g1_0 T113.heap n0 Zn1 nw_ao nia nda EX_1 Fo_1 Fs_1 Fc_1 Fi_1 Fd_1 ni nd ne_ A1_1 A2_1 (own_D.i2d dd1) D1_0) (by rw [hml]; rfl) 0 rfl (Nat.le_of_eq rfl) (hb hby at_57) (by decide) (by decide) (by decide) (by decide) (fun T115 rv115 Lc115 X115 qc115 => ?_)
      obtain ⟨rfl, M2, ⟨o2, EX_2, Fo_2, Fs_2, Fc_2, Fi_2, Fd_2⟩, j2_0, j2_1, y2_0, y2_1, g2_0, g2_1, A1_2, A2_2, D2_0, D2_1, R2⟩ := qc115
      have Nn2 := Fr.app Nn1 M2
      have Zn2 : n0 ≤ T115.heap.size := Nat.le_trans nw_ao (Nat.le_of_lt EX_2.lt)
      show own_Go p.tables e below _ (T115.setTop (mkF m 60 (Array.mk [.val (.int sel), .val (.int dd0), .val (.int dd1), .val (.int dd2), .val (.int dd3), .val (.int idx), .val (.int (3 : Int32)), .val (.int (2 : Int32)), .val (.ref ao), .unset, .unset, .unset, .unset, .unset, .unset, .unset, .unset]) []))
      refine own_blk dec0 seq0 hby hx hZ hown hK hF 7 [true, true] [] X115 rfl ?_
      show (((2 : Int32)).toInt ≤ ((2 : Int32)).toInt) ∧ (((2 : Int32)).toInt ≤ ((3 : Int32)).toInt) ∧ own_Aft X115 T115.heap _ 98 [.val (.int sel), .val (.int dd0), .val (.int dd1), .val (.int dd2), .val (.int dd3), .val (.int idx), .val (.int (3 : Int32)), .val (.int (2 : Int32)), .val (.ref ao), .unset, .unset, .unset, .unset, .unset, .unset, .unset, .unset] [.ref ao]
      refine ⟨by decide, by decide, fun T116 X116 eh116 => ?_⟩
      refine own_callVP X116 hx hZ hown (hw _ (List.mem_of_getElem? (i := 17) rfl)) (hw _ (List.mem_of_getElem? (i := 18) rfl)) (hw _ (List.mem_of_getElem? (i := 20) rfl)) (hw _ (List.mem_of_getElem? (i := 19) rfl)) (hw _ (List.mem_of_getElem? (i := 2) rfl)) (hw _ (List.mem_of_getElem? (i := 21) rfl)) (by decide) eh116 EX_2 [] pd3 rfl (fr := 0) (lo := 0) (rm3_3_2 l Z a0 hw [] ao da  T115.heap n0 Zn2 Fs_2 Fc_2 ) (by rw [hml]; rfl) 0 rfl (Nat.le_of_eq rfl) (hb hby at_98) (by decide) (by decide) (by decide) (by decide) (fun T117 rv117 X117 eh117 qc117 => ?_)
      obtain rfl := qc117
      show own_Go p.tables e below _ (T117.setTop (mkF m 101 (Array.mk [.val (.int sel), .val (.int dd0), .val (.int dd1), .val (.int dd2), .val (.int dd3), .val (.int idx), .val (.int (3 : Int32)), .val (.int (2 : Int32)), .val (.ref ao), .unset, .unset, .unset, .unset, .unset, .unset, .unset, .unset]) [.double 9218868437227405312]))
      refine own_blk dec0 seq0 hby hx hZ hown hK hF 10 [false, false] [] X117 eh117 ?_
      show (¬ (((3 : Int32)).toInt ≤ ((2 : Int32)).toInt)) ∧ (¬ ((cmpValue (FP.dcmp 9218868437227405312 9218868437227405312) .l).toInt ≠ 0)) ∧ own_Aft X117 T115.heap _ 124 [.val (.int sel), .val (.int dd0), .val (.int dd1), .val (.int dd2), .val (.int dd3), .val (.int idx), .val (.int (3 : Int32)), .val (.int (2 : Int32)), .val (.ref ao), .val (.double 9218868437227405312), .second, .unset, .unset, .unset, .unset, .unset, .unset] [.int (1 : Int32)]
      refine ⟨by decide, by rw [own_cv_eq (own_eq own_infn own_infn rfl)]; omega, fun T118 X118 eh118 => ?_⟩
      exact own_ret X118 hx hlk eh118 hret (by first | rfl | decide) (Or.inl ⟨rfl, by simp, _, rfl⟩) (hb hby at_124) (by decide) (by decide) (⟨rfl, Nn2⟩)
    · skip
      obtain rfl : nn = (3 : Int32) := Int32.toInt_inj.mp hn
      show own_Go p.tables e below _ (T103.setTop (mkF m 28 (Array.mk [.val (.int sel), .val (.int dd0), .val (.int dd1), .val (.int dd2), .val (.int dd3), .val (.int idx), .val (.int (3 : Int32)), .val (.int (3 : Int32)), .val (.ref ao), .unset, .unset, .unset, .unset, .unset, .unset, .unset, .unset]) []))
      refine own_blk dec0 seq0 hby hx hZ hown hK hF 6 [false] [] X103 eh103 ?_
      show (¬ (((3 : Int32)).toInt ≤ 0)) ∧ own_Aft X103 T102.heap _ 39 [.val (.int sel), .val (.int dd0), .val (.int dd1), .val (.int dd2), .val (.int dd3), .val (.int idx), .val (.int (3 : Int32)), .val (.int (3 : Int32)), .val (.ref ao), .unset, .unset, .unset, .unset, .unset, .unset, .unset, .unset] [.double (FP.i2d dd0), .int idx, .ref ao]
      refine ⟨by decide, fun T119 X119 eh119 => ?_⟩
      refine own_callV X119 hx hZ hown (hw _ (List.mem_of_getElem? (i := 26) rfl)) (hw _ (List.mem_of_getElem? (i := 27) rfl)) (hw _ (List.mem_of_getElem? (i := 29) rfl)) (hw _ (List.mem_of_getElem? (i := 28) rfl)) (hw _ (List.mem_of_getElem? (i := 2) rfl)) (hw _ (List.mem_of_getElem? (i := 30) rfl)) (by decide) eh119 EX_0 [.int idx, .double (FP.i2d dd0)] pd4 rfl (rm := ({ frames := 2, cells := 0, slots := 0, locals := 64 } : Room)) (rm4_3_0 l Z a0 hw [] ao ia da (0 : Int64) idx (FP.i2d dd0) dd0.toInt  T102.heap n0 Zn0 nw_ao nia nda EX_0 Fo_0 Fs_0 Fc_0 Fi_0 Fd_0 ni nd ne_ A1_0 A2_0 (own_D.i2d dd0) ) (by rw [hml]; rfl) 0 rfl (Nat.le_of_eq rfl) (hb hby at_39) (by decide) (by decide) (by decide) (by decide) (fun T120 rv120 Lc120 X120 qc120 => ?_)
      obtain ⟨rfl, M1, ⟨o1, EX_1, Fo_1, Fs_1, Fc_1, Fi_1, Fd_1⟩, j1_0, y1_0, g1_0, A1_1, A2_1, D1_0, R1⟩ := qc120
      have Nn1 := Fr.app Nn0 M1
      have Zn1 : n0 ≤ T120.heap.size := Nat.le_trans nw_ao (Nat.le_of_lt EX_1.lt)
      show own_Go p.tables e below _ (T120.setTop (mkF m 42 (Array.mk [.val (.int sel), .val (.int dd0), .val (.int dd1), .val (.int dd2), .val (.int dd3), .val (.int idx), .val (.int (3 : Int32)), .val (.int (3 : Int32)), .val (.ref ao), .unset, .unset, .unset, .unset, .unset, .unset, .unset, .unset]) []))
      refine own_blk dec0 seq0 hby hx hZ hown hK hF 9 [false] [.int (11 : Int32)] X120 rfl ?_
      show (¬ (((3 : Int32)).toInt ≤ ((1 : Int32)).toInt)) ∧ ((Int8.ofInt 11).toInt32 = (11 : Int32)) ∧ own_Aft X120 T120.heap _ 57 [.val (.int sel), .val (.int dd0), .val (.int dd1), .val (.int dd2), .val (.int dd3), .val (.int idx), .val (.int (3 : Int32)), .val (.int (3 : Int32)), .val (.ref ao), .unset, .unset, .unset, .unset, .unset, .unset, .unset, .unset] [.double (FP.i2d dd1), .int (Jvm.Free.XT.ushr idx (11 : Int32)), .ref ao]
      refine ⟨by decide, by decide +kernel, fun T121 X121 eh121 => ?_⟩
      refine own_callV X121 hx hZ hown (hw _ (List.mem_of_getElem? (i := 26) rfl)) (hw _ (List.mem_of_getElem? (i := 27) rfl)) (hw _ (List.mem_of_getElem? (i := 29) rfl)) (hw _ (List.mem_of_getElem? (i := 28) rfl)) (hw _ (List.mem_of_getElem? (i := 2) rfl)) (hw _ (List.mem_of_getElem? (i := 30) rfl)) (by decide) eh121 EX_1 [.int (Jvm.Free.XT.ushr idx (11 : Int32)), .double (FP.i2d dd1)] pd4 rfl (rm := ({ frames := 2, cells := 0, slots := 0, locals := 64 } : Room)) (rm4_3_1 l Z a0 hw [] ao ia da o1 (Jvm.Free.XT.ushr idx (11 : Int32)) (FP.i2d dd1) dd1.toInt j1_0 y1_0 g1_0 T120.heap n0 Zn1 nw_ao nia nda EX_1 Fo_1 Fs_1 Fc_1 Fi_1 Fd_1 ni nd ne_ A1_1 A2_1 (own_D.i2d dd1) D1_0) (by rw [hml]; rfl) 0 rfl (Nat.le_of_eq rfl) (hb hby at_57) (by decide) (by decide) (by decide) (by decide) (fun T122 rv122 Lc122 X122 qc122 => ?_)
      obtain ⟨rfl, M2, ⟨o2, EX_2, Fo_2, Fs_2, Fc_2, Fi_2, Fd_2⟩, j2_0, j2_1, y2_0, y2_1, g2_0, g2_1, A1_2, A2_2, D2_0, D2_1, R2⟩ := qc122
      have Nn2 := Fr.app Nn1 M2
      have Zn2 : n0 ≤ T122.heap.size := Nat.le_trans nw_ao (Nat.le_of_lt EX_2.lt)
      show own_Go p.tables e below _ (T122.setTop (mkF m 60 (Array.mk [.val (.int sel), .val (.int dd0), .val (.int dd1), .val (.int dd2), .val (.int dd3), .val (.int idx), .val (.int (3 : Int32)), .val (.int (3 : Int32)), .val (.ref ao), .unset, .unset, .unset, .unset, .unset, .unset, .unset, .unset]) []))
      refine own_blk dec0 seq0 hby hx hZ hown hK hF 9 [false] [.int (22 : Int32)] X122 rfl ?_
      show (¬ (((3 : Int32)).toInt ≤ ((2 : Int32)).toInt)) ∧ ((Int8.ofInt 22).toInt32 = (22 : Int32)) ∧ own_Aft X122 T122.heap _ 75 [.val (.int sel), .val (.int dd0), .val (.int dd1), .val (.int dd2), .val (.int dd3), .val (.int idx), .val (.int (3 : Int32)), .val (.int (3 : Int32)), .val (.ref ao), .unset, .unset, .unset, .unset, .unset, .unset, .unset, .unset] [.double (FP.i2d dd2), .int (Jvm.Free.XT.ushr idx (22 : Int32)), .ref ao]
      refine ⟨by decide, by decide +kernel, fun T123 X123 eh123 => ?_⟩
      refine own_callV X123 hx hZ hown (hw _ (List.mem_of_getElem? (i := 26) rfl)) (hw _ (List.mem_of_getElem? (i := 27) rfl)) (hw _ (List.mem_of_getElem? (i := 29) rfl)) (hw _ (List.mem_of_getElem? (i := 28) rfl)) (hw _ (List.mem_of_getElem? (i := 2) rfl)) (hw _ (List.mem_of_getElem? (i := 30) rfl)) (by decide) eh123 EX_2 [.int (Jvm.Free.XT.ushr idx (22 : Int32)), .double (FP.i2d dd2)] pd4 rfl (rm := ({ frames := 2, cells := 0, slots := 0, locals := 64 } : Room)) (rm4_3_2 l Z a0 hw [] ao ia da o2 (Jvm.Free.XT.ushr idx (22 : Int32)) (FP.i2d dd2) dd2.toInt j2_0 j2_1 y2_0 y2_1 g2_0 g2_1 T122.heap n0 Zn2 nw_ao nia nda EX_2 Fo_2 Fs_2 Fc_2 Fi_2 Fd_2 ni nd ne_ A1_2 A2_2 (own_D.i2d dd2) D2_0 D2_1) (by rw [hml]; rfl) 0 rfl (Nat.le_of_eq rfl) (hb hby at_75) (by decide) (by decide) (by decide) (by decide) (fun T124 rv124 Lc124 X124 qc124 => ?_)
      obtain ⟨rfl, M3, ⟨o3, EX_3, Fo_3, Fs_3, Fc_3, Fi_3, Fd_3⟩, j3_0, j3_1, j3_2, y3_0, y3_1, y3_2, g3_0, g3_1, g3_2, A1_3, A2_3, D3_0, D3_1, D3_2, R3⟩ := qc124
      have Nn3 := Fr.app Nn2 M3
      have Zn3 : n0 ≤ T124.heap.size := Nat.le_trans nw_ao (Nat.le_of_lt EX_3.lt)
      show own_Go p.tables e below _ (T124.setTop (mkF m 78 (Array.mk [.val (.int sel), .val (.int dd0), .val (.int dd1), .val (.int dd2), .val (.int dd3), .val (.int idx), .val (.int (3 : Int32)), .val (.int (3 : Int32)), .val (.ref ao), .unset, .unset, .unset, .unset, .unset, .unset, .unset, .unset]) []))
      refine own_blk dec0 seq0 hby hx hZ hown hK hF 4 [true] [] X124 rfl ?_
      show (((3 : Int32)).toInt ≤ ((3 : Int32)).toInt) ∧ own_Aft X124 T124.heap _ 98 [.val (.int sel), .val (.int dd0), .val (.int dd1), .val (.int dd2), .val (.int dd3), .val (.int idx), .val (.int (3 : Int32)), .val (.int (3 : Int32)), .val (.ref ao), .unset, .unset, .unset, .unset, .unset, .unset, .unset, .unset] [.ref ao]
      refine ⟨by decide, fun T125 X125 eh125 => ?_⟩
      refine own_callVP X125 hx hZ hown (hw _ (List.mem_of_getElem? (i := 17) rfl)) (hw _ (List.mem_of_getElem? (i := 18) rfl)) (hw _ (List.mem_of_getElem? (i := 20) rfl)) (hw _ (List.mem_of_getElem? (i := 19) rfl)) (hw _ (List.mem_of_getElem? (i := 2) rfl)) (hw _ (List.mem_of_getElem? (i := 21) rfl)) (by decide) eh125 EX_3 [] pd3 rfl (fr := 0) (lo := 0) (rm3_3_3 l Z a0 hw [] ao da y3_0 y3_1 y3_2 T124.heap n0 Zn3 Fs_3 Fc_3 Fd_3 A2_3) (by rw [hml]; rfl) 0 rfl (Nat.le_of_eq rfl) (hb hby at_98) (by decide) (by decide) (by decide) (by decide) (fun T126 rv126 X126 eh126 qc126 => ?_)
      obtain rfl := qc126
      show own_Go p.tables e below _ (T126.setTop (mkF m 101 (Array.mk [.val (.int sel), .val (.int dd0), .val (.int dd1), .val (.int dd2), .val (.int dd3), .val (.int idx), .val (.int (3 : Int32)), .val (.int (3 : Int32)), .val (.ref ao), .unset, .unset, .unset, .unset, .unset, .unset, .unset, .unset]) [.double y3_0]))
      refine own_blk dec0 seq0 hby hx hZ hown hK hF 24 [true, false, false, false, true] [] X126 eh126 ?_
      show (((3 : Int32)).toInt ≤ ((3 : Int32)).toInt) ∧ (¬ (((3 : Int32)).toInt ≤ 0)) ∧ (¬ (((3 : Int32)).toInt ≤ ((1 : Int32)).toInt)) ∧ (¬ (((3 : Int32)).toInt ≤ ((2 : Int32)).toInt)) ∧ (((3 : Int32)).toInt ≤ ((3 : Int32)).toInt) ∧ own_Aft X126 T124.heap _ 177 [.val (.int sel), .val (.int dd0), .val (.int dd1), .val (.int dd2), .val (.int dd3), .val (.int idx), .val (.int (3 : Int32)), .val (.int (3 : Int32)), .val (.ref ao), .val (.double y3_0), .second, .val (.int dd0), .val (.int dd1), .val (.int dd2), .unset, .unset, .unset] []
      refine ⟨by decide, by decide, by decide, by decide, by decide, fun T127 X127 eh127 => ?_⟩
      refine own_blk dec0 seq0 hby hx hZ hown hK hF 2 [] [] X127 eh127 ?_
      show own_Aft X127 T124.heap _ 181 [.val (.int sel), .val (.int dd0), .val (.int dd1), .val (.int dd2), .val (.int dd3), .val (.int idx), .val (.int (3 : Int32)), .val (.int (3 : Int32)), .val (.ref ao), .val (.double y3_0), .second, .val (.int dd0), .val (.int dd1), .val (.int dd2), .val (.int (2147483647 : Int32)), .unset, .unset] []
      refine fun T128 X128 eh128 => ?_
      refine net X128 hx hby hml hown hZ hK hF eh128 _ _ _ _ _ _ _ _ _ _ _ _ dd0 dd1 dd2 (2147483647 : Int32) hw (by decide) (by decide) (by decide) (by decide) (fun A1 B1 E1 F1 A5 E2 B2 F5 B5 E5 sl15 P1 P2 P3 P4 P5 T129 X129 eh129 => ?_)
      show own_Go p.tables e below _ (T129.setTop (mkF m 291 (Array.mk [.val (.int sel), .val (.int dd0), .val (.int dd1), .val (.int dd2), .val (.int dd3), .val (.int idx), .val (.int (3 : Int32)), .val (.int (3 : Int32)), .val (.ref ao), .val (.double y3_0), .second, .val (.int A5), .val (.int B5), .val (.int E5), .val (.int F5), sl15, .unset]) []))
      have big : (2147483647 : Int32).toInt = 2147483647 := rfl
      try rw [big] at P1
      try rw [big] at P2
      have FIN := own_fin_3_3 dd0.toInt dd1.toInt dd2.toInt g1_0 g2_0 g2_1 g3_0 g3_1 g3_2 A1.toInt B1.toInt E1.toInt F1.toInt A5.toInt E2.toInt B2.toInt F5.toInt B5.toInt E5.toInt R1 R2 R3 (by have := Int32.toInt_lt dd0; omega) (by have := Int32.toInt_lt dd1; omega) (by have := Int32.toInt_lt dd2; omega) P1 P2 P3 P4 P5
      refine own_blk dec0 seq0 hby hx hZ hown hK hF 19 [true, true, false, false] [] X129 eh129 ?_
      show (((3 : Int32)).toInt ≠ ((1 : Int32)).toInt) ∧ (((3 : Int32)).toInt ≠ ((2 : Int32)).toInt) ∧ (¬ (((3 : Int32)).toInt ≠ ((3 : Int32)).toInt)) ∧ (¬ ((cmpValue (FP.dcmp y3_0 (FP.i2d E5)) .l).toInt ≠ 0)) ∧ own_Aft X129 T124.heap _ 348 [.val (.int sel), .val (.int dd0), .val (.int dd1), .val (.int dd2), .val (.int dd3), .val (.int idx), .val (.int (3 : Int32)), .val (.int (3 : Int32)), .val (.ref ao), .val (.double y3_0), .second, .val (.int A5), .val (.int B5), .val (.int E5), .val (.int F5), sl15, .val (.int E5)] [.int (1 : Int32)]
      refine ⟨by decide, by decide, by decide, by rw [own_cv_eq (D3_0.eq (own_D.i2d E5) FIN)]; omega, fun T130 X130 eh130 => ?_⟩
      exact own_ret X130 hx hlk eh130 hret (by first | rfl | decide) (Or.inl ⟨rfl, by simp, _, rfl⟩) (hb hby at_348) (by decide) (by decide) (⟨rfl, Nn3⟩)
    · skip
      obtain rfl : nn = (4 : Int32) := Int32.toInt_inj.mp hn
      show own_Go p.tables e below _ (T103.setTop (mkF m 28 (Array.mk [.val (.int sel), .val (.int dd0), .val (.int dd1), .val (.int dd2), .val (.int dd3), .val (.int idx), .val (.int (3 : Int32)), .val (.int (4 : Int32)), .val (.ref ao), .unset, .unset, .unset, .unset, .unset, .unset, .unset, .unset]) []))
      refine own_blk dec0 seq0 hby hx hZ hown hK hF 6 [false] [] X103 eh103 ?_
      show (¬ (((4 : Int32)).toInt ≤ 0)) ∧ own_Aft X103 T102.heap _ 39 [.val (.int sel), .val (.int dd0), .val (.int dd1), .val (.int dd2), .val (.int dd3), .val (.int idx), .val (.int (3 : Int32)), .val (.int (4 : Int32)), .val (.ref ao), .unset, .unset, .unset, .unset, .unset, .unset, .unset, .unset] [.double (FP.i2d dd0), .int idx, .ref ao]
      refine ⟨by decide, fun T131 X131 eh131 => ?_⟩
      refine own_callV X131 hx hZ hown (hw _ (List.mem_of_getElem? (i := 26) rfl)) (hw _ (List.mem_of_getElem? (i := 27) rfl)) (hw _ (List.mem_of_getElem? (i := 29) rfl)) (hw _ (List.mem_of_getElem? (i := 28) rfl)) (hw _ (List.mem_of_getElem? (i := 2) rfl)) (hw _ (List.mem_of_getElem? (i := 30) rfl)) (by decide) eh131 EX_0 [.int idx, .double (FP.i2d dd0)] pd4 rfl (rm := ({ frames := 2, cells := 0, slots := 0, locals := 64 } : Room)) (rm4_3_0 l Z a0 hw [] ao ia da (0 : Int64) idx (FP.i2d dd0) dd0.toInt  T102.heap n0 Zn0 nw_ao nia nda EX_0 Fo_0 Fs_0 Fc_0 Fi_0 Fd_0 ni nd ne_ A1_0 A2_0 (own_D.i2d dd0) ) (by rw [hml]; rfl) 0 rfl (Nat.le_of_eq rfl) (hb hby at_39) (by decide) (by decide) (by decide) (by decide) (fun T132 rv132 Lc132 X132 qc132 => ?_)
      obtain ⟨rfl, M1, ⟨o1, EX_1, Fo_1, Fs_1, Fc_1, Fi_1, Fd_1⟩, j1_0, y1_0, g1_0, A1_1, A2_1, D1_0, R1⟩ := qc132
      have Nn1 := Fr.app Nn0 M1
      have Zn1 : n0 ≤ T132.heap.size := Nat.le_trans nw_ao (Nat.le_of_lt EX_1.lt)
      show own_Go p.tables e below _ (T132.setTop (mkF m 42 (Array.mk [.val (.int sel), .val (.int dd0), .val (.int dd1), .val (.int dd2), .val (.int dd3), .val (.int idx), .val (.int (3 : Int32)), .val (.int (4 : Int32)), .val (.ref ao), .unset, .unset, .unset, .unset, .unset, .unset, .unset, .unset]) []))
      refine own_blk dec0 seq0 hby hx hZ hown hK hF 9 [false] [.int (11 : Int32)] X132 rfl ?_
      show (¬ (((4 : Int32)).toInt ≤ ((1 : Int32)).toInt)) ∧ ((Int8.ofInt 11).toInt32 = (11 : Int32)) ∧ own_Aft X132 T132.heap _ 57 [.val (.int sel), .val (.int dd0), .val (.int dd1), .val (.int dd2), .val (.int dd3), .val (.int idx), .val (.int (3 : Int32)), .val (.int (4 : Int32)), .val (.ref ao), .unset, .unset, .unset, .unset, .unset, .unset, .unset, .unset] [.double (FP.i2d dd1), .int (Jvm.Free.XT.ushr idx (11 : Int32)), .ref ao]
      refine ⟨by decide, by decide +kernel, fun T133 X133 eh133 => ?_⟩
      refine own_callV X133 hx hZ hown (hw _ (List.mem_of_getElem? (i := 26) rfl)) (hw _ (List.mem_of_getElem? (i := 27) rfl)) (hw _ (List.mem_of_getElem? (i := 29) rfl)) (hw _ (List.mem_of_getElem? (i := 28) rfl)) (hw _ (List.mem_of_getElem? (i := 2) rfl)) (hw _ (List.mem_of_getElem? (i := 30) rfl)) (by decide) eh133 EX_1 [.int (Jvm.Free.XT.ushr idx (11 : Int32)), .double (FP.i2d dd1)] pd4 rfl (rm := ({ frames := 2, cells := 0, slots := 0, locals := 64 } : Room)) (rm4_3_1 l Z a0 hw [] ao ia da o1 (Jvm.Free.XT.ushr idx (11 : Int32)) (FP.i2d dd1) dd1.toInt j1_0 y1_0 g1_0 T132.heap n0 Zn1 nw_ao nia nda EX_1 Fo_1 Fs_1 Fc_1 Fi_1 Fd_1 ni nd ne_ A1_1 A2_1 (own_D.i2d dd1) D1_0) (by rw [hml]; rfl) 0 rfl (Nat.le_of_eq rfl) (hb hby at_57) (by decide) (by decide) (by decide) (by decide) (fun T134 rv134 Lc134 X134 qc134 => ?_)
      obtain ⟨rfl, M2, ⟨o2, EX_2, Fo_2, Fs_2, Fc_2, Fi_2, Fd_2⟩, j2_0, j2_1, y2_0, y2_1, g2_0, g2_1, A1_2, A2_2, D2_0, D2_1, R2⟩ := qc134
      have Nn2 := Fr.app Nn1 M2
      have Zn2 : n0 ≤ T134.heap.size := Nat.le_trans nw_ao (Nat.le_of_lt EX_2.lt)
      show own_Go p.tables e below _ (T134.setTop (mkF m 60 (Array.mk [.val (.int sel), .val (.int dd0), .val (.int dd1), .val (.int dd2), .val (.int dd3), .val (.int idx), .val (.int (3 : Int32)), .val (.int (4 : Int32)), .val (.ref ao), .unset, .unset, .unset, .unset, .unset, .unset, .unset, .unset]) []))
      refine own_blk dec0 seq0 hby hx hZ hown hK hF 9 [false] [.int (22 : Int32)] X134 rfl ?_
      show (¬ (((4 : Int32)).toInt ≤ ((2 : Int32)).toInt)) ∧ ((Int8.ofInt 22).toInt32 = (22 : Int32)) ∧ own_Aft X134 T134.heap _ 75 [.val (.int sel), .val (.int dd0), .val (.int dd1), .val (.int dd2), .val (.int dd3), .val (.int idx), .val (.int (3 : Int32)), .val (.int (4 : Int32)), .val (.ref ao), .unset, .unset, .unset, .unset, .unset, .unset, .unset, .unset] [.double (FP.i2d dd2), .int (Jvm.Free.XT.ushr idx (22 : Int32)), .ref ao]
      refine ⟨by decide, by decide +kernel, fun T135 X135 eh135 => ?_⟩
      refine own_callV X135 hx hZ hown (hw _ (List.mem_of_getElem? (i := 26) rfl)) (hw _ (List.mem_of_getElem? (i := 27) rfl)) (hw _ (List.mem_of_getElem? (i := 29) rfl)) (hw _ (List.mem_of_getElem? (i := 28) rfl)) (hw _ (List.mem_of_getElem? (i := 2) rfl)) (hw _ (List.mem_of_getElem? (i := 30) rfl)) (by decide) eh135 EX_2 [.int (Jvm.Free.XT.ushr idx (22 : Int32)), .double (FP.i2d dd2)] pd4 rfl (rm := ({ frames := 2, cells := 0, slots := 0, locals := 64 } : Room)) (rm4_3_2 l Z a0 hw [] ao ia da o2 (Jvm.Free.XT.ushr idx (22 : Int32)) (FP.i2d dd2) dd2.toInt j2_0 j2_1 y2_0 y2_1 g2_0 g2_1 T134.heap n0 Zn2 nw_ao nia nda EX_2 Fo_2 Fs_2 Fc_2 Fi_2 Fd_2 ni nd ne_ A1_2 A2_2 (own_D.i2d dd2) D2_0 D2_1) (by rw [hml]; rfl) 0 rfl (Nat.le_of_eq rfl) (hb hby at_75) (by decide) (by decide) (by decide) (by decide) (fun T136 rv136 Lc136 X136 qc136 => ?_)
      obtain ⟨rfl, M3, ⟨o3, EX_3, Fo_3, Fs_3, Fc_3, Fi_3, Fd_3⟩, j3_0, j3_1, j3_2, y3_0, y3_1, y3_2, g3_0, g3_1, g3_2, A1_3, A2_3, D3_0, D3_1, D3_2, R3⟩ := qc136
      have Nn3 := Fr.app Nn2 M3
      have Zn3 : n0 ≤ T136.heap.size := Nat.le_trans nw_ao (Nat.le_of_lt EX_3.lt)
      show own_Go p.tables e below _ (T136.setTop (mkF m 78 (Array.mk [.val (.int sel), .val (.int dd0), .val (.int dd1), .val (.int dd2), .val (.int dd3), .val (.int idx), .val (.int (3 : Int32)), .val (.int (4 : Int32)), .val (.ref ao), .unset, .unset, .unset, .unset, .unset, .unset, .unset, .unset]) []))
      refine own_blk dec0 seq0 hby hx hZ hown hK hF 9 [false] [] X136 rfl ?_
      show (¬ (((4 : Int32)).toInt ≤ ((3 : Int32)).toInt)) ∧ own_Aft X136 T136.heap _ 93 [.val (.int sel), .val (.int dd0), .val (.int dd1), .val (.int dd2), .val (.int dd3), .val (.int idx), .val (.int (3 : Int32)), .val (.int (4 : Int32)), .val (.ref ao), .unset, .unset, .unset, .unset, .unset, .unset, .unset, .unset] [.double (FP.i2d dd3), .int (idx ^^^ (-1 : Int32)), .ref ao]
      refine ⟨by decide, fun T137 X137 eh137 => ?_⟩
      refine own_callV X137 hx hZ hown (hw _ (List.mem_of_getElem? (i := 26) rfl)) (hw _ (List.mem_of_getElem? (i := 27) rfl)) (hw _ (List.mem_of_getElem? (i := 29) rfl)) (hw _ (List.mem_of_getElem? (i := 28) rfl)) (hw _ (List.mem_of_getElem? (i := 2) rfl)) (hw _ (List.mem_of_getElem? (i := 30) rfl)) (by decide) eh137 EX_3 [.int (idx ^^^ (-1 : Int32)), .double (FP.i2d dd3)] pd4 rfl (rm := ({ frames := 2, cells := 0, slots := 0, locals := 64 } : Room)) (rm4_3_3 l Z a0 hw [] ao ia da o3 (idx ^^^ (-1 : Int32)) (FP.i2d dd3) dd3.toInt j3_0 j3_1 j3_2 y3_0 y3_1 y3_2 g3_0 g3_1 g3_2 T136.heap n0 Zn3 nw_ao nia nda EX_3 Fo_3 Fs_3 Fc_3 Fi_3 Fd_3 ni nd ne_ A1_3 A2_3 (own_D.i2d dd3) D3_0 D3_1 D3_2) (by rw [hml]; rfl) 0 rfl (Nat.le_of_eq rfl) (hb hby at_93) (by decide) (by decide) (by decide) (by decide) (fun T138 rv138 Lc138 X138 qc138 => ?_)
      obtain ⟨rfl, M4, ⟨o4, EX_4, Fo_4, Fs_4, Fc_4, Fi_4, Fd_4⟩, j4_0, j4_1, j4_2, y4_0, y4_1, y4_2, g4_0, g4_1, g4_2, A1_4, A2_4, D4_0, D4_1, D4_2, R4⟩ := qc138
      have Nn4 := Fr.app Nn3 M4
      have Zn4 : n0 ≤ T138.heap.size := Nat.le_trans nw_ao (Nat.le_of_lt EX_4.lt)
      show own_Go p.tables e below _ (T138.setTop (mkF m 96 (Array.mk [.val (.int sel), .val (.int dd0), .val (.int dd1), .val (.int dd2), .val (.int dd3), .val (.int idx), .val (.int (3 : Int32)), .val (.int (4 : Int32)), .val (.ref ao), .unset, .unset, .unset, .unset, .unset, .unset, .unset, .unset]) []))
      refine own_blk dec0 seq0 hby hx hZ hown hK hF 1 [] [] X138 rfl ?_
      show own_Aft X138 T138.heap _ 98 [.val (.int sel), .val (.int dd0), .val (.int dd1), .val (.int dd2), .val (.int dd3), .val (.int idx), .val (.int (3 : Int32)), .val (.int (4 : Int32)), .val (.ref ao), .unset, .unset, .unset, .unset, .unset, .unset, .unset, .unset] [.ref ao]
      refine fun T139 X139 eh139 => ?_
      refine own_callVP X139 hx hZ hown (hw _ (List.mem_of_getElem? (i := 17) rfl)) (hw _ (List.mem_of_getElem? (i := 18) rfl)) (hw _ (List.mem_of_getElem? (i := 20) rfl)) (hw _ (List.mem_of_getElem? (i := 19) rfl)) (hw _ (List.mem_of_getElem? (i := 2) rfl)) (hw _ (List.mem_of_getElem? (i := 21) rfl)) (by decide) eh139 EX_4 [] pd3 rfl (fr := 0) (lo := 0) (rm3_3_3 l Z a0 hw [] ao da y4_0 y4_1 y4_2 T138.heap n0 Zn4 Fs_4 Fc_4 Fd_4 A2_4) (by rw [hml]; rfl) 0 rfl (Nat.le_of_eq rfl) (hb hby at_98) (by decide) (by decide) (by decide) (by decide) (fun T140 rv140 X140 eh140 qc140 => ?_)
      obtain rfl := qc140
      show own_Go p.tables e below _ (T140.setTop (mkF m 101 (Array.mk [.val (.int sel), .val (.int dd0), .val (.int dd1), .val (.int dd2), .val (.int dd3), .val (.int idx), .val (.int (3 : Int32)), .val (.int (4 : Int32)), .val (.ref ao), .unset, .unset, .unset, .unset, .unset, .unset, .unset, .unset]) [.double y4_0]))
      refine own_blk dec0 seq0 hby hx hZ hown hK hF 24 [true, false, false, false, false] [] X140 eh140 ?_
      show (((3 : Int32)).toInt ≤ ((4 : Int32)).toInt) ∧ (¬ (((4 : Int32)).toInt ≤ 0)) ∧ (¬ (((4 : Int32)).toInt ≤ ((1 : Int32)).toInt)) ∧ (¬ (((4 : Int32)).toInt ≤ ((2 : Int32)).toInt)) ∧ (¬ (((4 : Int32)).toInt ≤ ((3 : Int32)).toInt)) ∧ own_Aft X140 T138.heap _ 172 [.val (.int sel), .val (.int dd0), .val (.int dd1), .val (.int dd2), .val (.int dd3), .val (.int idx), .val (.int (3 : Int32)), .val (.int (4 : Int32)), .val (.ref ao), .val (.double y4_0), .second, .val (.int dd0), .val (.int dd1), .val (.int dd2), .unset, .unset, .unset] []
      refine ⟨by decide, by decide, by decide, by decide, by decide, fun T141 X141 eh141 => ?_⟩
      refine own_blk dec0 seq0 hby hx hZ hown hK hF 3 [] [] X141 eh141 ?_
      show own_Aft X141 T138.heap _ 181 [.val (.int sel), .val (.int dd0), .val (.int dd1), .val (.int dd2), .val (.int dd3), .val (.int idx), .val (.int (3 : Int32)), .val (.int (4 : Int32)), .val (.ref ao), .val (.double y4_0), .second, .val (.int dd0), .val (.int dd1), .val (.int dd2), .val (.int dd3), .unset, .unset] []
      refine fun T142 X142 eh142 => ?_
      refine net X142 hx hby hml hown hZ hK hF eh142 _ _ _ _ _ _ _ _ _ _ _ _ dd0 dd1 dd2 dd3 hw (by decide) (by decide) (by decide) (by decide) (fun A1 B1 E1 F1 A5 E2 B2 F5 B5 E5 sl15 P1 P2 P3 P4 P5 T143 X143 eh143 => ?_)
      show own_Go p.tables e below _ (T143.setTop (mkF m 291 (Array.mk [.val (.int sel), .val (.int dd0), .val (.int dd1), .val (.int dd2), .val (.int dd3), .val (.int idx), .val (.int (3 : Int32)), .val (.int (4 : Int32)), .val (.ref ao), .val (.double y4_0), .second, .val (.int A5), .val (.int B5), .val (.int E5), .val (.int F5), sl15, .unset]) []))
      have big : (2147483647 : Int32).toInt = 2147483647 := rfl
      try rw [big] at P1
      try rw [big] at P2
      have FIN := own_fin_3_4 dd0.toInt dd1.toInt dd2.toInt dd3.toInt g1_0 g2_0 g2_1 g3_0 g3_1 g3_2 g4_0 g4_1 g4_2 A1.toInt B1.toInt E1.toInt F1.toInt A5.toInt E2.toInt B2.toInt F5.toInt B5.toInt E5.toInt R1 R2 R3 R4 (by have := Int32.toInt_lt dd0; omega) (by have := Int32.toInt_lt dd1; omega) (by have := Int32.toInt_lt dd2; omega) (by have := Int32.toInt_lt dd3; omega) P1 P2 P3 P4 P5
      refine own_blk dec0 seq0 hby hx hZ hown hK hF 19 [true, true, false, false] [] X143 eh143 ?_
      show (((3 : Int32)).toInt ≠ ((1 : Int32)).toInt) ∧ (((3 : Int32)).toInt ≠ ((2 : Int32)).toInt) ∧ (¬ (((3 : Int32)).toInt ≠ ((3 : Int32)).toInt)) ∧ (¬ ((cmpValue (FP.dcmp y4_0 (FP.i2d E5)) .l).toInt ≠ 0)) ∧ own_Aft X143 T138.heap _ 348 [.val (.int sel), .val (.int dd0), .val (.int dd1), .val (.int dd2), .val (.int dd3), .val (.int idx), .val (.int (3 : Int32)), .val (.int (4 : Int32)), .val (.ref ao), .val (.double y4_0), .second, .val (.int A5), .val (.int B5), .val (.int E5), .val (.int F5), sl15, .val (.int E5)] [.int (1 : Int32)]
      refine ⟨by decide, by decide, by decide, by rw [own_cv_eq (D4_0.eq (own_D.i2d E5) FIN)]; omega, fun T144 X144 eh144 => ?_⟩
      exact own_ret X144 hx hlk eh144 hret (by first | rfl | decide) (Or.inl ⟨rfl, by simp, _, rfl⟩) (hb hby at_348) (by decide) (by decide) (⟨rfl, Nn4⟩)
  · skip
    obtain rfl : kn = (4 : Int32) := Int32.toInt_inj.mp hk
    show own_Go p.tables e below _ (T1.setTop (mkF m 17 (Array.mk [.val (.int sel), .val (.int dd0), .val (.int dd1), .val (.int dd2), .val (.int dd3), .val (.int idx), .val (.int (4 : Int32)), .val (.int nn), .unset, .unset, .unset, .unset, .unset, .unset, .unset, .unset, .unset]) []))
    refine own_new X1 hx hZ hown (hw _ (List.mem_of_getElem? (i := 0) rfl)) (hw _ (List.mem_of_getElem? (i := 1) rfl)) (hw _ (List.mem_of_getElem? (i := 2) rfl)) eh1 (hb hby at_17) (by decide) (by decide) (fun T145 hp145 ao ga145 X145 eh145 Ex145 Ea145 Dn145 => ?_)
    have nw_ao : n0 ≤ ao := by rw [ga145]; exact Z0
    have Z_145 : n0 ≤ hp145.size := Nat.le_trans Z0 Ex145.1
    have Fn145_capacity : Fld Z hp145 ao "org/axisfold/search/KNearest" "capacity" "I" (.int (0 : Int32)) := Dn145 (Or.inr (hw _ (List.mem_of_getElem? (i := 10) rfl))) (ty := .int) (by decide)
    have Fn145_indices : Fld Z hp145 ao "org/axisfold/search/KNearest" "indices" "[I" (.null) := Dn145 (Or.inr (hw _ (List.mem_of_getElem? (i := 13) rfl))) (ty := (.array .int)) (by decide)
    have Fn145_squaredDistances : Fld Z hp145 ao "org/axisfold/search/KNearest" "squaredDistances" "[D" (.null) := Dn145 (Or.inr (hw _ (List.mem_of_getElem? (i := 16) rfl))) (ty := (.array .double)) (by decide)
    have Fn145_size : Fld Z hp145 ao "org/axisfold/search/KNearest" "size" "I" (.int (0 : Int32)) := Dn145 (Or.inl (hw _ (List.mem_of_getElem? (i := 23) rfl))) (ty := .int) (by decide)
    have Fn145_offered : Fld Z hp145 ao "org/axisfold/search/KNearest" "offered" "J" (.long (0 : Int64)) := Dn145 (Or.inl (hw _ (List.mem_of_getElem? (i := 32) rfl))) (ty := .long) (by decide)
    show own_Go p.tables e below _ (T145.setTop (mkF m 20 (Array.mk [.val (.int sel), .val (.int dd0), .val (.int dd1), .val (.int dd2), .val (.int dd3), .val (.int idx), .val (.int (4 : Int32)), .val (.int nn), .unset, .unset, .unset, .unset, .unset, .unset, .unset, .unset, .unset]) [.ref ao]))
    refine own_blk dec0 seq0 hby hx hZ hown hK hF 2 [] [] X145 eh145 ?_
    show own_Aft X145 hp145 _ 23 [.val (.int sel), .val (.int dd0), .val (.int dd1), .val (.int dd2), .val (.int dd3), .val (.int idx), .val (.int (4 : Int32)), .val (.int nn), .unset, .unset, .unset, .unset, .unset, .unset, .unset, .unset, .unset] [.int (4 : Int32), .ref ao, .ref ao]
    refine fun T146 X146 eh146 => ?_
    refine own_callI X146 hx hZ hown rfl (hw _ (List.mem_of_getElem? (i := 3) rfl)) (hw _ (List.mem_of_getElem? (i := 4) rfl)) (hw _ (List.mem_of_getElem? (i := 2) rfl)) (hw _ (List.mem_of_getElem? (i := 5) rfl)) (by decide) eh146 ao [.int (4 : Int32)] pd1 rfl (rm := ({ frames := 1, cells := 2, slots := 8, locals := 12 } : Room)) (rm1_4 l Z a0 hw [] ao hp145 n0 Z_145 Ea145 nw_ao Fn145_capacity Fn145_indices Fn145_squaredDistances Fn145_size Fn145_offered) (by rw [hml]; rfl) 1 rfl (Nat.le_of_eq rfl) (hb hby at_23) (by decide) (by decide) (by decide) (by decide) (fun T147 rv147 Lc147 X147 qc147 => ?_)
    obtain ⟨rfl, M0, EX_0, Fc_0, Fs_0, Fo_0, ia, da, Fi_0, Fd_0, A1_0, A2_0, ni, nd, ne_, nia, nda⟩ := qc147
    have Nn0 := Fr.app N0 M0
    have Zn0 : n0 ≤ T147.heap.size := Nat.le_trans nw_ao (Nat.le_of_lt EX_0.lt)
    show own_Go p.tables e below _ (T147.setTop (mkF m 26 (Array.mk [.val (.int sel), .val (.int dd0), .val (.int dd1), .val (.int dd2), .val (.int dd3), .val (.int idx), .val (.int (4 : Int32)), .val (.int nn), .unset, .unset, .unset, .unset, .unset, .unset, .unset, .unset, .unset]) [.ref ao]))
    refine own_blk dec0 seq0 hby hx hZ hown hK hF 1 [] [] X147 rfl ?_
    show own_Aft X147 T147.heap _ 28 [.val (.int sel), .val (.int dd0), .val (.int dd1), .val (.int dd2), .val (.int dd3), .val (.int idx), .val (.int (4 : Int32)), .val (.int nn), .val (.ref ao), .unset, .unset, .unset, .unset, .unset, .unset, .unset, .unset] []
    refine fun T148 X148 eh148 => ?_
    obtain hn | hn | hn | hn | hn : nn.toInt = (0 : Int32).toInt ∨ nn.toInt = (1 : Int32).toInt ∨ nn.toInt = (2 : Int32).toInt ∨ nn.toInt = (3 : Int32).toInt ∨ nn.toInt = (4 : Int32).toInt := by show nn.toInt = 0 ∨ nn.toInt = 1 ∨ nn.toInt = 2 ∨ nn.toInt = 3 ∨ nn.toInt = 4; omega
    · skip
      obtain rfl : nn = (0 : Int32) := Int32.toInt_inj.mp hn
      show own_Go p.tables e below _ (T148.setTop (mkF m 28 (Array.mk [.val (.int sel), .val (.int dd0), .val (.int dd1), .val (.int dd2), .val (.int dd3), .val (.int idx), .val (.int (4 : Int32)), .val (.int (0 : Int32)), .val (.ref ao), .unset, .unset, .unset, .unset, .unset, .unset, .unset, .unset]) []))
      refine own_blk dec0 seq0 hby hx hZ hown hK hF 12 [true, true, true, true] [] X148 eh148 ?_
      show (((0 : Int32)).toInt ≤ 0) ∧ (((0 : Int32)).toInt ≤ ((1 : Int32)).toInt) ∧ (((0 : Int32)).toInt ≤ ((2 : Int32)).toInt) ∧ (((0 : Int32)).toInt ≤ ((3 : Int32)).toInt) ∧ own_Aft X148 T147.heap _ 98 [.val (.int sel), .val (.int dd0), .val (.int dd1), .val (.int dd2), .val (.int dd3), .val (.int idx), .val (.int (4 : Int32)), .val (.int (0 : Int32)), .val (.ref ao), .unset, .unset, .unset, .unset, .unset, .unset, .unset, .unset] [.ref ao]
      refine ⟨by decide, by decide, by decide, by decide, fun T149 X149 eh149 => ?_⟩
      refine own_callVP X149 hx hZ hown (hw _ (List.mem_of_getElem? (i := 17) rfl)) (hw _ (List.mem_of_getElem? (i := 18) rfl)) (hw _ (List.mem_of_getElem? (i := 20) rfl)) (hw _ (List.mem_of_getElem? (i := 19) rfl)) (hw _ (List.mem_of_getElem? (i := 2) rfl)) (hw _ (List.mem_of_getElem? (i := 21) rfl)) (by decide) eh149 EX_0 [] pd3 rfl (fr := 0) (lo := 0) (rm3_4_0 l Z a0 hw [] ao da  T147.heap n0 Zn0 Fs_0 Fc_0 ) (by rw [hml]; rfl) 0 rfl (Nat.le_of_eq rfl) (hb hby at_98) (by decide) (by decide) (by decide) (by decide) (fun T150 rv150 X150 eh150 qc150 => ?_)
      obtain rfl := qc150
      show own_Go p.tables e below _ (T150.setTop (mkF m 101 (Array.mk [.val (.int sel), .val (.int dd0), .val (.int dd1), .val (.int dd2), .val (.int dd3), .val (.int idx), .val (.int (4 : Int32)), .val (.int (0 : Int32)), .val (.ref ao), .unset, .unset, .unset, .unset, .unset, .unset, .unset, .unset]) [.double 9218868437227405312]))
      refine own_blk dec0 seq0 hby hx hZ hown hK hF 10 [false, false] [] X150 eh150 ?_
      show (¬ (((4 : Int32)).toInt ≤ ((0 : Int32)).toInt)) ∧ (¬ ((cmpValue (FP.dcmp 9218868437227405312 9218868437227405312) .l).toInt ≠ 0)) ∧ own_Aft X150 T147.heap _ 124 [.val (.int sel), .val (.int dd0), .val (.int dd1), .val (.int dd2), .val (.int dd3), .val (.int idx), .val (.int (4 : Int32)), .val (.int (0 : Int32)), .val (.ref ao), .val (.double 9218868437227405312), .second, .unset, .unset, .unset, .unset, .unset, .unset] [.int (1 : Int32)]
      refine ⟨by decide, by rw [own_cv_eq (own_eq own_infn own_infn rfl)]; omega, fun T151 X151 eh151 => ?_⟩
      exact own_ret X151 hx hlk eh151 hret (by first | rfl | decide) (Or.inl ⟨rfl, by simp, _, rfl⟩) (hb hby at_124) (by decide) (by decide) (⟨rfl, Nn0⟩)
    · skip
      obtain rfl : nn = (1 : Int32) := Int32.toInt_inj.mp hn
      show own_Go p.tables e below _ (T148.setTop (mkF m 28 (Array.mk [.val (.int sel), .val (.int dd0), .val (.int dd1), .val (.int dd2), .val (.int dd3), .val (.int idx), .val (.int (4 : Int32)), .val (.int (1 : Int32)), .val (.ref ao), .unset, .unset, .unset, .unset, .unset, .unset, .unset, .unset]) []))
      refine own_blk dec0 seq0 hby hx hZ hown hK hF 6 [false] [] X148 eh148 ?_
      show (¬ (((1 : Int32)).toInt ≤ 0)) ∧ own_Aft X148 T147.heap _ 39 [.val (.int sel), .val (.int dd0), .val (.int dd1), .val (.int dd2), .val (.int dd3), .val (.int idx), .val (.int (4 : Int32)), .val (.int (1 : Int32)), .val (.ref ao), .unset, .unset, .unset, .unset, .unset, .unset, .unset, .unset] [.double (FP.i2d dd0), .int idx, .ref ao]
      refine ⟨by decide, fun T152 X152 eh152 => ?_⟩
      refine own_callV X152 hx hZ hown (hw _ (List.mem_of_getElem? (i := 26) rfl)) (hw _ (List.mem_of_getElem? (i := 27) rfl)) (hw _ (List.mem_of_getElem? (i := 29) rfl)) (hw _ (List.mem_of_getElem? (i := 28) rfl)) (hw _ (List.mem_of_getElem? (i := 2) rfl)) (hw _ (List.mem_of_getElem? (i := 30) rfl)) (by decide) eh152 EX_0 [.int idx, .double (FP.i2d dd0)] pd4 rfl (rm := ({ frames := 2, cells := 0, slots := 0, locals := 64 } : Room)) (rm4_4_0 l Z a0 hw [] ao ia da (0 : Int64) idx (FP.i2d dd0) dd0.toInt  T147.heap n0 Zn0 nw_ao nia nda EX_0 Fo_0 Fs_0 Fc_0 Fi_0 Fd_0 ni nd ne_ A1_0 A2_0 (own_D.i2d dd0) ) (by rw [hml]; rfl) 0 rfl (Nat.le_of_eq rfl) (hb hby at_39) (by decide) (by decide) (by decide) (by decide) (fun T153 rv153 Lc153 X153 qc153 => ?_)
      obtain ⟨rfl, M1, ⟨o1, EX_1, Fo_1, Fs_1, Fc_1, Fi_1, Fd_1⟩, j1_0, y1_0, g1_0, A1_1, A2_1, D1_0, R1⟩ := qc153
      have Nn1 := Fr.app Nn0 M1
      have Zn1 : n0 ≤ T153.heap.size := Nat.le_trans nw_ao (Nat.le_of_lt EX_1.lt)
      show own_Go p.tables e below _ (T153.setTop (mkF m 42 (Array.mk [.val (.int sel), .val (.int dd0), .val (.int dd1), .val (.int dd2), .val (.int dd3), .val (.int idx), .val (.int (4 : Int32)), .val (.int (1 : Int32)), .val (.ref ao), .unset, .unset, .unset, .unset, .unset, .unset, .unset, .unset]) []))
      refine own_blk dec0 seq0 hby hx hZ hown hK hF 10 [true, true, true] [] X153 rfl ?_
      show (((1 : Int32)).toInt ≤ ((1 : Int32)).toInt) ∧ (((1 : Int32)).toInt ≤ ((2 : Int32)).toInt) ∧ (((1 : Int32)).toInt ≤ ((3 : Int32)).toInt) ∧ own_Aft X153 T153.heap _ 98 [.val (.int sel), .val (.int dd0), .val (.int dd1), .val (.int dd2), .val (.int dd3), .val (.int idx), .val (.int (4 : Int32)), .val (.int (1 : Int32)), .val (.ref ao), .unset, .unset, .unset, .unset, .unset, .unset, .unset, .unset] [.ref ao]
      refine ⟨by decide, by decide, by decide, fun T154 X154 eh154 => ?_⟩
      refine own_callVP X154 hx hZ hown (hw _ (List.mem_of_getElem? (i := 17) rfl)) (hw _ (List.mem_of_getElem? (i := 18) rfl)) (hw _ (List.mem_of_getElem? (i := 20) rfl)) (hw _ (List.mem_of_getElem? (i := 19) rfl)) (hw _ (List.mem_of_getElem? (i := 2) rfl)) (hw _ (List.mem_of_getElem? (i := 21) rfl)) (by decide) eh154 EX_1 [] pd3 rfl (fr := 0) (lo := 0) (rm3_4_1 l Z a0 hw [] ao da  T153.heap n0 Zn1 Fs_1 Fc_1 ) (by rw [hml]; rfl) 0 rfl (Nat.le_of_eq rfl) (hb hby at_98) (by decide) (by decide) (by decide) (by decide) (fun T155 rv155 X155 eh155 qc155 => ?_)
      obtain rfl := qc155
      show own_Go p.tables e below _ (T155.setTop (mkF m 101 (Array.mk [.val (.int sel), .val (.int dd0), .val (.int dd1), .val (.int dd2), .val (.int dd3), .val (.int idx), .val (.int (4 : Int32)), .val (.int (1 : Int32)), .val (.ref ao), .unset, .unset, .unset, .unset, .unset, .unset, .unset, .unset]) [.double 9218868437227405312]))
      refine own_blk dec0 seq0 hby hx hZ hown hK hF 10 [false, false] [] X155 eh155 ?_
      show (¬ (((4 : Int32)).toInt ≤ ((1 : Int32)).toInt)) ∧ (¬ ((cmpValue (FP.dcmp 9218868437227405312 9218868437227405312) .l).toInt ≠ 0)) ∧ own_Aft X155 T153.heap _ 124 [.val (.int sel), .val (.int dd0), .val (.int dd1), .val (.int dd2), .val (.int dd3), .val (.int idx), .val (.int (4 : Int32)), .val (.int (1 : Int32)), .val (.ref ao), .val (.double 9218868437227405312), .second, .unset, .unset, .unset, .unset, .unset, .unset] [.int (1 : Int32)]
      refine ⟨by decide, by rw [own_cv_eq (own_eq own_infn own_infn rfl)]; omega, fun T156 X156 eh156 => ?_⟩
      exact own_ret X156 hx hlk eh156 hret (by first | rfl | decide) (Or.inl ⟨rfl, by simp, _, rfl⟩) (hb hby at_124) (by decide) (by decide) (⟨rfl, Nn1⟩)
    · skip
      obtain rfl : nn = (2 : Int32) := Int32.toInt_inj.mp hn
      show own_Go p.tables e below _ (T148.setTop (mkF m 28 (Array.mk [.val (.int sel), .val (.int dd0), .val (.int dd1), .val (.int dd2), .val (.int dd3), .val (.int idx), .val (.int (4 : Int32)), .val (.int (2 : Int32)), .val (.ref ao), .unset, .unset, .unset, .unset, .unset, .unset, .unset, .unset]) []))
      refine own_blk dec0 seq0 hby hx hZ hown hK hF 6 [false] [] X148 eh148 ?_
      show (¬ (((2 : Int32)).toInt ≤ 0)) ∧ own_Aft X148 T147.heap _ 39 [.val (.int sel), .val (.int dd0), .val (.int dd1), .val (.int dd2), .val (.int dd3), .val (.int idx), .val (.int (4 : Int32)), .val (.int (2 : Int32)), .val (.ref ao), .unset, .unset, .unset, .unset, .unset, .unset, .unset, .unset] [.double (FP.i2d dd0), .int idx, .ref ao]
      refine ⟨by decide, fun T157 X157 eh157 => ?_⟩
      refine own_callV X157 hx hZ hown (hw _ (List.mem_of_getElem? (i := 26) rfl)) (hw _ (List.mem_of_getElem? (i := 27) rfl)) (hw _ (List.mem_of_getElem? (i := 29) rfl)) (hw _ (List.mem_of_getElem? (i := 28) rfl)) (hw _ (List.mem_of_getElem? (i := 2) rfl)) (hw _ (List.mem_of_getElem? (i := 30) rfl)) (by decide) eh157 EX_0 [.int idx, .double (FP.i2d dd0)] pd4 rfl (rm := ({ frames := 2, cells := 0, slots := 0, locals := 64 } : Room)) (rm4_4_0 l Z a0 hw [] ao ia da (0 : Int64) idx (FP.i2d dd0) dd0.toInt  T147.heap n0 Zn0 nw_ao nia nda EX_0 Fo_0 Fs_0 Fc_0 Fi_0 Fd_0 ni nd ne_ A1_0 A2_0 (own_D.i2d dd0) ) (by rw [hml]; rfl) 0 rfl (Nat.le_of_eq rfl) (hb hby at_39) (by decide) (by decide) (by decide) (by decide) (fun T158 rv158 Lc158 X158 qc158 => ?_)
      obtain ⟨rfl, M1, ⟨o1, EX_1, Fo_1, Fs_1, Fc_1, Fi_1, Fd_1⟩, j1_0, y1_0, g1_0, A1_1, A2_1, D1_0, R1⟩ := qc158
      have Nn1 := Fr.app Nn0 M1
      have Zn1 : n0 ≤ T158.heap.size := Nat.le_trans nw_ao (Nat.le_of_lt EX_1.lt)
      show own_Go p.tables e below _ (T158.setTop (mkF m 42 (Array.mk [.val (.int sel), .val (.int dd0), .val (.int dd1), .val (.int dd2), .val (.int dd3), .val (.int idx), .val (.int (4 : Int32)), .val (.int (2 : Int32)), .val (.ref ao), .unset, .unset, .unset, .unset, .unset, .unset, .unset, .unset]) []))
      refine own_blk dec0 seq0 hby hx hZ hown hK hF 9 [false] [.int (11 : Int32)] X158 rfl ?_
      show (¬ (((2 : Int32)).toInt ≤ ((1 : Int32)).toInt)) ∧ ((Int8.ofInt 11).toInt32 = (11 : Int32)) ∧ own_Aft X158 T158.heap _ 57 [.val (.int sel), .val (.int dd0), .val (.int dd1), .val (.int dd2), .val (.int dd3), .val (.int idx), .val (.int (4 : Int32)), .val (.int (2 : Int32)), .val (.ref ao), .unset, .unset, .unset, .unset, .unset, .unset, .unset, .unset] [.double (FP.i2d dd1), .int (Jvm.Free.XT.ushr idx (11 : Int32)), .ref ao]
      refine ⟨by decide, by decide +kernel, fun T159 X159 eh159 => ?_⟩
      refine own_callV X159 hx hZ hown (hw _ (List.mem_of_getElem? (i := 26) rfl)) (hw _ (List.mem_of_getElem? (i := 27) rfl)) (hw _ (List.mem_of_getElem? (i := 29) rfl)) (hw _ (List.mem_of_getElem? (i := 28) rfl)) (hw _ (List.mem_of_getElem? (i := 2) rfl)) (hw _ (List.mem_of_getElem? (i := 30) rfl)) (by decide) eh159 EX_1 [.int (Jvm.Free.XT.ushr idx (11 : Int32)), .double (FP.i2d dd1)] pd4 rfl (rm := ({ frames := 2, cells := 0, slots := 0, locals := 64 } : Room)) (rm4_4_1 l Z a0 hw [] ao ia da o1 (Jvm.Free.XT.ushr idx (11 : Int32)) (FP.i2d dd1) dd1.toInt j1_0 y1_0 g1_0 T158.heap n0 Zn1 nw_ao nia nda EX_1 Fo_1 Fs_1 Fc_1 Fi_1 Fd_1 ni nd ne_ A1_1 A2_1 (own_D.i2d dd1) D1_0) (by rw [hml]; rfl) 0 rfl (Nat.le_of_eq rfl) (hb hby at_57) (by decide) (by decide) (by decide) (by decide) (fun T160 rv160 Lc160 X160 qc160 => ?_)
      obtain ⟨rfl, M2, ⟨o2, EX_2, Fo_2, Fs_2, Fc_2, Fi_2, Fd_2⟩, j2_0, j2_1, y2_0, y2_1, g2_0, g2_1, A1_2, A2_2, D2_0, D2_1, R2⟩ := qc160
      have Nn2 := Fr.app Nn1 M2
      have Zn2 : n0 ≤ T160.heap.size := Nat.le_trans nw_ao (Nat.le_of_lt EX_2.lt)
      show own_Go p.tables e below _ (T160.setTop (mkF m 60 (Array.mk [.val (.int sel), .val (.int dd0), .val (.int dd1), .val (.int dd2), .val (.int dd3), .val (.int idx), .val (.int (4 : Int32)), .val (.int (2 : Int32)), .val (.ref ao), .unset, .unset, .unset, .unset, .unset, .unset, .unset, .unset]) []))
      refine own_blk dec0 seq0 hby hx hZ hown hK hF 7 [true, true] [] X160 rfl ?_
      show (((2 : Int32)).toInt ≤ ((2 : Int32)).toInt) ∧ (((2 : Int32)).toInt ≤ ((3 : Int32)).toInt) ∧ own_Aft X160 T160.heap _ 98 [.val (.int sel), .val (.int dd0), .val (.int dd1), .val (.int dd2), .val (.int dd3), .val (.int idx), .val (.int (4 : Int32)), .val (.int (2 : Int32)), .val (.ref ao), .unset, .unset, .unset, .unset, .unset, .unset, .unset, .unset] [.ref ao]
      refine ⟨by decide, by decide, fun T161 X161 eh161 => ?_⟩
      refine own_callVP X161 hx hZ hown (hw _ (List.mem_of_getElem? (i := 17) rfl)) (hw _ (List.mem_of_getElem? (i := 18) rfl)) (hw _ (List.mem_of_getElem? (i := 20) rfl)) (hw _ (List.mem_of_getElem? (i := 19) rfl)) (hw _ (List.mem_of_getElem? (i := 2) rfl)) (hw _ (List.mem_of_getElem? (i := 21) rfl)) (by decide) eh161 EX_2 [] pd3 rfl (fr := 0) (lo := 0) (rm3_4_2 l Z a0 hw [] ao da  T160.heap n0 Zn2 Fs_2 Fc_2 ) (by rw [hml]; rfl) 0 rfl (Nat.le_of_eq rfl) (hb hby at_98) (by decide) (by decide) (by decide) (by decide) (fun T162 rv162 X162 eh162 qc162 => ?_)
      obtain rfl := qc162
      show own_Go p.tables e below _ (T162.setTop (mkF m 101 (Array.mk [.val (.int sel), .val (.int dd0), .val (.int dd1), .val (.int dd2), .val (.int dd3), .val (.int idx), .val (.int (4 : Int32)), .val (.int (2 : Int32)), .val (.ref ao), .unset, .unset, .unset, .unset, .unset, .unset, .unset, .unset]) [.double 9218868437227405312]))
      refine own_blk dec0 seq0 hby hx hZ hown hK hF 10 [false, false] [] X162 eh162 ?_
      show (¬ (((4 : Int32)).toInt ≤ ((2 : Int32)).toInt)) ∧ (¬ ((cmpValue (FP.dcmp 9218868437227405312 9218868437227405312) .l).toInt ≠ 0)) ∧ own_Aft X162 T160.heap _ 124 [.val (.int sel), .val (.int dd0), .val (.int dd1), .val (.int dd2), .val (.int dd3), .val (.int idx), .val (.int (4 : Int32)), .val (.int (2 : Int32)), .val (.ref ao), .val (.double 9218868437227405312), .second, .unset, .unset, .unset, .unset, .unset, .unset] [.int (1 : Int32)]
      refine ⟨by decide, by rw [own_cv_eq (own_eq own_infn own_infn rfl)]; omega, fun T163 X163 eh163 => ?_⟩
      exact own_ret X163 hx hlk eh163 hret (by first | rfl | decide) (Or.inl ⟨rfl, by simp, _, rfl⟩) (hb hby at_124) (by decide) (by decide) (⟨rfl, Nn2⟩)
    · skip
      obtain rfl : nn = (3 : Int32) := Int32.toInt_inj.mp hn
      show own_Go p.tables e below _ (T148.setTop (mkF m 28 (Array.mk [.val (.int sel), .val (.int dd0), .val (.int dd1), .val (.int dd2), .val (.int dd3), .val (.int idx), .val (.int (4 : Int32)), .val (.int (3 : Int32)), .val (.ref ao), .unset, .unset, .unset, .unset, .unset, .unset, .unset, .unset]) []))
      refine own_blk dec0 seq0 hby hx hZ hown hK hF 6 [false] [] X148 eh148 ?_
      show (¬ (((3 : Int32)).toInt ≤ 0)) ∧ own_Aft X148 T147.heap _ 39 [.val (.int sel), .val (.int dd0), .val (.int dd1), .val (.int dd2), .val (.int dd3), .val (.int idx), .val (.int (4 : Int32)), .val (.int (3 : Int32)), .val (.ref ao), .unset, .unset, .unset, .unset, .unset, .unset, .unset, .unset] [.double (FP.i2d dd0), .int idx, .ref ao]
      refine ⟨by decide, fun T164 X164 eh164 => ?_⟩
      refine own_callV X164 hx hZ hown (hw _ (List.mem_of_getElem? (i := 26) rfl)) (hw _ (List.mem_of_getElem? (i := 27) rfl)) (hw _ (List.mem_of_getElem? (i := 29) rfl)) (hw _ (List.mem_of_getElem? (i := 28) rfl)) (hw _ (List.mem_of_getElem? (i := 2) rfl)) (hw _ (List.mem_of_getElem? (i := 30) rfl)) (by decide) eh164 EX_0 [.int idx, .double (FP.i2d dd0)] pd4 rfl (rm := ({ frames := 2, cells := 0, slots := 0, locals := 64 } : Room)) (rm4_4_0 l Z a0 hw [] ao ia da (0 : Int64) idx (FP.i2d dd0) dd0.toInt  T147.heap n0 Zn0 nw_ao nia nda EX_0 Fo_0 Fs_0 Fc_0 Fi_0 Fd_0 ni nd ne_ A1_0 A2_0 (own_D.i2d dd0) ) (by rw [hml]; rfl) 0 rfl (Nat.le_of_eq rfl) (hb hby at_39) (by decide) (by decide) (by decide) (by decide) (fun T165 rv165 Lc165 X165 qc165 => ?_)
      obtain ⟨rfl, M1, ⟨o1, EX_1, Fo_1, Fs_1, Fc_1, Fi_1, Fd_1⟩, j1_0, y1_0, g1_0, A1_1, A2_1, D1_0, R1⟩ := qc165
      have Nn1 := Fr.app Nn0 M1
      have Zn1 : n0 ≤ T165.heap.size := Nat.le_trans nw_ao (Nat.le_of_lt EX_1.lt)
      show own_Go p.tables e below _ (T165.setTop (mkF m 42 (Array.mk [.val (.int sel), .val (.int dd0), .val (.int dd1), .val (.int dd2), .val (.int dd3), .val (.int idx), .val (.int (4 : Int32)), .val (.int (3 : Int32)), .val (.ref ao), .unset, .unset, .unset, .unset, .unset, .unset, .unset, .unset]) []))
      refine own_blk dec0 seq0 hby hx hZ hown hK hF 9 [false] [.int (11 : Int32)] X165 rfl ?_
      show (¬ (((3 : Int32)).toInt ≤ ((1 : Int32)).toInt)) ∧ ((Int8.ofInt 11).toInt32 = (11 : Int32)) ∧ own_Aft X165 T165.heap _ 57 [.val (.int sel), .val (.int dd0), .val (.int dd1), .val (.int dd2), .val (.int dd3), .val (.int idx), .val (.int (4 : Int32)), .val (.int (3 : Int32)), .val (.ref ao), .unset, .unset, .unset, .unset, .unset, .unset, .unset, .unset] [.double (FP.i2d dd1), .int (Jvm.Free.XT.ushr idx (11 : Int32)), .ref ao]
      refine ⟨by decide, by decide +kernel, fun T166 X166 eh166 => ?_⟩
      refine own_callV X166 hx hZ hown (hw _ (List.mem_of_getElem? (i := 26) rfl)) (hw _ (List.mem_of_getElem? (i := 27) rfl)) (hw _ (List.mem_of_getElem? (i := 29) rfl)) (hw _ (List.mem_of_getElem? (i := 28) rfl)) (hw _ (List.mem_of_getElem? (i := 2) rfl)) (hw _ (List.mem_of_getElem? (i := 30) rfl)) (by decide) eh166 EX_1 [.int (Jvm.Free.XT.ushr idx (11 : Int32)), .double (FP.i2d dd1)] pd4 rfl (rm := ({ frames := 2, cells := 0, slots := 0, locals := 64 } : Room)) (rm4_4_1 l Z a0 hw [] ao ia da o1 (Jvm.Free.XT.ushr idx (11 : Int32)) (FP.i2d dd1) dd1.toInt j1_0 y1_0 g1_0 T165.heap n0 Zn1 nw_ao nia nda EX_1 Fo_1 Fs_1 Fc_1 Fi_1 Fd_1 ni nd ne_ A1_1 A2_1 (own_D.i2d dd1) D1_0) (by rw [hml]; rfl) 0 rfl (Nat.le_of_eq rfl) (hb hby at_57) (by decide) (by decide) (by decide) (by decide) (fun T167 rv167 Lc167 X167 qc167 => ?_)
      obtain ⟨rfl, M2, ⟨o2, EX_2, Fo_2, Fs_2, Fc_2, Fi_2, Fd_2⟩, j2_0, j2_1, y2_0, y2_1, g2_0, g2_1, A1_2, A2_2, D2_0, D2_1, R2⟩ := qc167
      have Nn2 := Fr.app Nn1 M2
      have Zn2 : n0 ≤ T167.heap.size := Nat.le_trans nw_ao (Nat.le_of_lt EX_2.lt)
      show own_Go p.tables e below _ (T167.setTop (mkF m 60 (Array.mk [.val (.int sel), .val (.int dd0), .val (.int dd1), .val (.int dd2), .val (.int dd3), .val (.int idx), .val (.int (4 : Int32)), .val (.int (3 : Int32)), .val (.ref ao), .unset, .unset, .unset, .unset, .unset, .unset, .unset, .unset]) []))
      refine own_blk dec0 seq0 hby hx hZ hown hK hF 9 [false] [.int (22 : Int32)] X167 rfl ?_
      show (¬ (((3 : Int32)).toInt ≤ ((2 : Int32)).toInt)) ∧ ((Int8.ofInt 22).toInt32 = (22 : Int32)) ∧ own_Aft X167 T167.heap _ 75 [.val (.int sel), .val (.int dd0), .val (.int dd1), .val (.int dd2), .val (.int dd3), .val (.int idx), .val (.int (4 : Int32)), .val (.int (3 : Int32)), .val (.ref ao), .unset, .unset, .unset, .unset, .unset, .unset, .unset, .unset] [.double (FP.i2d dd2), .int (Jvm.Free.XT.ushr idx (22 : Int32)), .ref ao]
      refine ⟨by decide, by decide +kernel, fun T168 X168 eh168 => ?_⟩
      refine own_callV X168 hx hZ hown (hw _ (List.mem_of_getElem? (i := 26) rfl)) (hw _ (List.mem_of_getElem? (i := 27) rfl)) (hw _ (List.mem_of_getElem? (i := 29) rfl)) (hw _ (List.mem_of_getElem? (i := 28) rfl)) (hw _ (List.mem_of_getElem? (i := 2) rfl)) (hw _ (List.mem_of_getElem? (i := 30) rfl)) (by decide) eh168 EX_2 [.int (Jvm.Free.XT.ushr idx (22 : Int32)), .double (FP.i2d dd2)] pd4 rfl (rm := ({ frames := 2, cells := 0, slots := 0, locals := 64 } : Room)) (rm4_4_2 l Z a0 hw [] ao ia da o2 (Jvm.Free.XT.ushr idx (22 : Int32)) (FP.i2d dd2) dd2.toInt j2_0 j2_1 y2_0 y2_1 g2_0 g2_1 T167.heap n0 Zn2 nw_ao nia nda EX_2 Fo_2 Fs_2 Fc_2 Fi_2 Fd_2 ni nd ne_ A1_2 A2_2 (own_D.i2d dd2) D2_0 D2_1) (by rw [hml]; rfl) 0 rfl (Nat.le_of_eq rfl) (hb hby at_75) (by decide) (by decide) (by decide) (by decide) (fun T169 rv169 Lc169 X169 qc169 => ?_)
      obtain ⟨rfl, M3, ⟨o3, EX_3, Fo_3, Fs_3, Fc_3, Fi_3, Fd_3⟩, j3_0, j3_1, j3_2, y3_0, y3_1, y3_2, g3_0, g3_1, g3_2, A1_3, A2_3, D3_0, D3_1, D3_2, R3⟩ := qc169
      have Nn3 := Fr.app Nn2 M3
      have Zn3 : n0 ≤ T169.heap.size := Nat.le_trans nw_ao (Nat.le_of_lt EX_3.lt)
      show own_Go p.tables e below _ (T169.setTop (mkF m 78 (Array.mk [.val (.int sel), .val (.int dd0), .val (.int dd1), .val (.int dd2), .val (.int dd3), .val (.int idx), .val (.int (4 : Int32)), .val (.int (3 : Int32)), .val (.ref ao), .unset, .unset, .unset, .unset, .unset, .unset, .unset, .unset]) []))
      refine own_blk dec0 seq0 hby hx hZ hown hK hF 4 [true] [] X169 rfl ?_
      show (((3 : Int32)).toInt ≤ ((3 : Int32)).toInt) ∧ own_Aft X169 T169.heap _ 98 [.val (.int sel), .val (.int dd0), .val (.int dd1), .val (.int dd2), .val (.int dd3), .val (.int idx), .val (.int (4 : Int32)), .val (.int (3 : Int32)), .val (.ref ao), .unset, .unset, .unset, .unset, .unset, .unset, .unset, .unset] [.ref ao]
      refine ⟨by decide, fun T170 X170 eh170 => ?_⟩
      refine own_callVP X170 hx hZ hown (hw _ (List.mem_of_getElem? (i := 17) rfl)) (hw _ (List.mem_of_getElem? (i := 18) rfl)) (hw _ (List.mem_of_getElem? (i := 20) rfl)) (hw _ (List.mem_of_getElem? (i := 19) rfl)) (hw _ (List.mem_of_getElem? (i := 2) rfl)) (hw _ (List.mem_of_getElem? (i := 21) rfl)) (by decide) eh170 EX_3 [] pd3 rfl (fr := 0) (lo := 0) (rm3_4_3 l Z a0 hw [] ao da  T169.heap n0 Zn3 Fs_3 Fc_3 ) (by rw [hml]; rfl) 0 rfl (Nat.le_of_eq rfl) (hb hby at_98) (by decide) (by decide) (by decide) (by decide) (fun T171 rv171 X171 eh171 qc171 => ?_)
      obtain rfl := qc171
      show own_Go p.tables e below _ (T171.setTop (mkF m 101 (Array.mk [.val (.int sel), .val (.int dd0), .val (.int dd1), .val (.int dd2), .val (.int dd3), .val (.int idx), .val (.int (4 : Int32)), .val (.int (3 : Int32)), .val (.ref ao), .unset, .unset, .unset, .unset, .unset, .unset, .unset, .unset]) [.double 9218868437227405312]))
      refine own_blk dec0 seq0 hby hx hZ hown hK hF 10 [false, false] [] X171 eh171 ?_
      show (¬ (((4 : Int32)).toInt ≤ ((3 : Int32)).toInt)) ∧ (¬ ((cmpValue (FP.dcmp 9218868437227405312 9218868437227405312) .l).toInt ≠ 0)) ∧ own_Aft X171 T169.heap _ 124 [.val (.int sel), .val (.int dd0), .val (.int dd1), .val (.int dd2), .val (.int dd3), .val (.int idx), .val (.int (4 : Int32)), .val (.int (3 : Int32)), .val (.ref ao), .val (.double 9218868437227405312), .second, .unset, .unset, .unset, .unset, .unset, .unset] [.int (1 : Int32)]
      refine ⟨by decide, by rw [own_cv_eq (own_eq own_infn own_infn rfl)]; omega, fun T172 X172 eh172 => ?_⟩
      exact own_ret X172 hx hlk eh172 hret (by first | rfl | decide) (Or.inl ⟨rfl, by simp, _, rfl⟩) (hb hby at_124) (by decide) (by decide) (⟨rfl, Nn3⟩)
    · skip
      obtain rfl : nn = (4 : Int32) := Int32.toInt_inj.mp hn
      show own_Go p.tables e below _ (T148.setTop (mkF m 28 (Array.mk [.val (.int sel), .val (.int dd0), .val (.int dd1), .val (.int dd2), .val (.int dd3), .val (.int idx), .val (.int (4 : Int32)), .val (.int (4 : Int32)), .val (.ref ao), .unset, .unset, .unset, .unset, .unset, .unset, .unset, .unset]) []))
      refine own_blk dec0 seq0 hby hx hZ hown hK hF 6 [false] [] X148 eh148 ?_
      show (¬ (((4 : Int32)).toInt ≤ 0)) ∧ own_Aft X148 T147.heap _ 39 [.val (.int sel), .val (.int dd0), .val (.int dd1), .val (.int dd2), .val (.int dd3), .val (.int idx), .val (.int (4 : Int32)), .val (.int (4 : Int32)), .val (.ref ao), .unset, .unset, .unset, .unset, .unset, .unset, .unset, .unset] [.double (FP.i2d dd0), .int idx, .ref ao]
      refine ⟨by decide, fun T173 X173 eh173 => ?_⟩
      refine own_callV X173 hx hZ hown (hw _ (List.mem_of_getElem? (i := 26) rfl)) (hw _ (List.mem_of_getElem? (i := 27) rfl)) (hw _ (List.mem_of_getElem? (i := 29) rfl)) (hw _ (List.mem_of_getElem? (i := 28) rfl)) (hw _ (List.mem_of_getElem? (i := 2) rfl)) (hw _ (List.mem_of_getElem? (i := 30) rfl)) (by decide) eh173 EX_0 [.int idx, .double (FP.i2d dd0)] pd4 rfl (rm := ({ frames := 2, cells := 0, slots := 0, locals := 64 } : Room)) (rm4_4_0 l Z a0 hw [] ao ia da (0 : Int64) idx (FP.i2d dd0) dd0.toInt  T147.heap n0 Zn0 nw_ao nia nda EX_0 Fo_0 Fs_0 Fc_0 Fi_0 Fd_0 ni nd ne_ A1_0 A2_0 (own_D.i2d dd0) ) (by rw [hml]; rfl) 0 rfl (Nat.le_of_eq rfl) (hb hby at_39) (by decide) (by decide) (by decide) (by decide) (fun T174 rv174 Lc174 X174 qc174 => ?_)
      obtain ⟨rfl, M1, ⟨o1, EX_1, Fo_1, Fs_1, Fc_1, Fi_1, Fd_1⟩, j1_0, y1_0, g1_0, A1_1, A2_1, D1_0, R1⟩ := qc174
      have Nn1 := Fr.app Nn0 M1
      have Zn1 : n0 ≤ T174.heap.size := Nat.le_trans nw_ao (Nat.le_of_lt EX_1.lt)
      show own_Go p.tables e below _ (T174.setTop (mkF m 42 (Array.mk [.val (.int sel), .val (.int dd0), .val (.int dd1), .val (.int dd2), .val (.int dd3), .val (.int idx), .val (.int (4 : Int32)), .val (.int (4 : Int32)), .val (.ref ao), .unset, .unset, .unset, .unset, .unset, .unset, .unset, .unset]) []))
      refine own_blk dec0 seq0 hby hx hZ hown hK hF 9 [false] [.int (11 : Int32)] X174 rfl ?_
      show (¬ (((4 : Int32)).toInt ≤ ((1 : Int32)).toInt)) ∧ ((Int8.ofInt 11).toInt32 = (11 : Int32)) ∧ own_Aft X174 T174.heap _ 57 [.val (.int sel), .val (.int dd0), .val (.int dd1), .val (.int dd2), .val (.int dd3), .val (.int idx), .val (.int (4 : Int32)), .val (.int (4 : Int32)), .val (.ref ao), .unset, .unset, .unset, .unset, .unset, .unset, .unset, .unset] [.double (FP.i2d dd1), .int (Jvm.Free.XT.ushr idx (11 : Int32)), .ref ao]
      refine ⟨by decide, by decide +kernel, fun T175 X175 eh175 => ?_⟩
      refine own_callV X175 hx hZ hown (hw _ (List.mem_of_getElem? (i := 26) rfl)) (hw _ (List.mem_of_getElem? (i := 27) rfl)) (hw _ (List.mem_of_getElem? (i := 29) rfl)) (hw _ (List.mem_of_getElem? (i := 28) rfl)) (hw _ (List.mem_of_getElem? (i := 2) rfl)) (hw _ (List.mem_of_getElem? (i := 30) rfl)) (by decide) eh175 EX_1 [.int (Jvm.Free.XT.ushr idx (11 : Int32)), .double (FP.i2d dd1)] pd4 rfl (rm := ({ frames := 2, cells := 0, slots := 0, locals := 64 } : Room)) (rm4_4_1 l Z a0 hw [] ao ia da o1 (Jvm.Free.XT.ushr idx (11 : Int32)) (FP.i2d dd1) dd1.toInt j1_0 y1_0 g1_0 T174.heap n0 Zn1 nw_ao nia nda EX_1 Fo_1 Fs_1 Fc_1 Fi_1 Fd_1 ni nd ne_ A1_1 A2_1 (own_D.i2d dd1) D1_0) (by rw [hml]; rfl) 0 rfl (Nat.le_of_eq rfl) (hb hby at_57) (by decide) (by decide) (by decide) (by decide) (fun T176 rv176 Lc176 X176 qc176 => ?_)
      obtain ⟨rfl, M2, ⟨o2, EX_2, Fo_2, Fs_2, Fc_2, Fi_2, Fd_2⟩, j2_0, j2_1, y2_0, y2_1, g2_0, g2_1, A1_2, A2_2, D2_0, D2_1, R2⟩ := qc176
      have Nn2 := Fr.app Nn1 M2
      have Zn2 : n0 ≤ T176.heap.size := Nat.le_trans nw_ao (Nat.le_of_lt EX_2.lt)
      show own_Go p.tables e below _ (T176.setTop (mkF m 60 (Array.mk [.val (.int sel), .val (.int dd0), .val (.int dd1), .val (.int dd2), .val (.int dd3), .val (.int idx), .val (.int (4 : Int32)), .val (.int (4 : Int32)), .val (.ref ao), .unset, .unset, .unset, .unset, .unset, .unset, .unset, .unset]) []))
      refine own_blk dec0 seq0 hby hx hZ hown hK hF 9 [false] [.int (22 : Int32)] X176 rfl ?_
      show (¬ (((4 : Int32)).toInt ≤ ((2 : Int32)).toInt)) ∧ ((Int8.ofInt 22).toInt32 = (22 : Int32)) ∧ own_Aft X176 T176.heap _ 75 [.val (.int sel), .val (.int dd0), .val (.int dd1), .val (.int dd2), .val (.int dd3), .val (.int idx), .val (.int (4 : Int32)), .val (.int (4 : Int32)), .val (.ref ao), .unset, .unset, .unset, .unset, .unset, .unset, .unset, .unset] [.double (FP.i2d dd2), .int (Jvm.Free.XT.ushr idx (22 : Int32)), .ref ao]
      refine ⟨by decide, by decide +kernel, fun T177 X177 eh177 => ?_⟩
      refine own_callV X177 hx hZ hown (hw _ (List.mem_of_getElem? (i := 26) rfl)) (hw _ (List.mem_of_getElem? (i := 27) rfl)) (hw _ (List.mem_of_getElem? (i := 29) rfl)) (hw _ (List.mem_of_getElem? (i := 28) rfl)) (hw _ (List.mem_of_getElem? (i := 2) rfl)) (hw _ (List.mem_of_getElem? (i := 30) rfl)) (by decide) eh177 EX_2 [.int (Jvm.Free.XT.ushr idx (22 : Int32)), .double (FP.i2d dd2)] pd4 rfl (rm := ({ frames := 2, cells := 0, slots := 0, locals := 64 } : Room)) (rm4_4_2 l Z a0 hw [] ao ia da o2 (Jvm.Free.XT.ushr idx (22 : Int32)) (FP.i2d dd2) dd2.toInt j2_0 j2_1 y2_0 y2_1 g2_0 g2_1 T176.heap n0 Zn2 nw_ao nia nda EX_2 Fo_2 Fs_2 Fc_2 Fi_2 Fd_2 ni nd ne_ A1_2 A2_2 (own_D.i2d dd2) D2_0 D2_1) (by rw [hml]; rfl) 0 rfl (Nat.le_of_eq rfl) (hb hby at_75) (by decide) (by decide) (by decide) (by decide) (fun T178 rv178 Lc178 X178 qc178 => ?_)
      obtain ⟨rfl, M3, ⟨o3, EX_3, Fo_3, Fs_3, Fc_3, Fi_3, Fd_3⟩, j3_0, j3_1, j3_2, y3_0, y3_1, y3_2, g3_0, g3_1, g3_2, A1_3, A2_3, D3_0, D3_1, D3_2, R3⟩ := qc178
      have Nn3 := Fr.app Nn2 M3
      have Zn3 : n0 ≤ T178.heap.size := Nat.le_trans nw_ao (Nat.le_of_lt EX_3.lt)
      show own_Go p.tables e below _ (T178.setTop (mkF m 78 (Array.mk [.val (.int sel), .val (.int dd0), .val (.int dd1), .val (.int dd2), .val (.int dd3), .val (.int idx), .val (.int (4 : Int32)), .val (.int (4 : Int32)), .val (.ref ao), .unset, .unset, .unset, .unset, .unset, .unset, .unset, .unset]) []))
      refine own_blk dec0 seq0 hby hx hZ hown hK hF 9 [false] [] X178 rfl ?_
      show (¬ (((4 : Int32)).toInt ≤ ((3 : Int32)).toInt)) ∧ own_Aft X178 T178.heap _ 93 [.val (.int sel), .val (.int dd0), .val (.int dd1), .val (.int dd2), .val (.int dd3), .val (.int idx), .val (.int (4 : Int32)), .val (.int (4 : Int32)), .val (.ref ao), .unset, .unset, .unset, .unset, .unset, .unset, .unset, .unset] [.double (FP.i2d dd3), .int (idx ^^^ (-1 : Int32)), .ref ao]
      refine ⟨by decide, fun T179 X179 eh179 => ?_⟩
      refine own_callV X179 hx hZ hown (hw _ (List.mem_of_getElem? (i := 26) rfl)) (hw _ (List.mem_of_getElem? (i := 27) rfl)) (hw _ (List.mem_of_getElem? (i := 29) rfl)) (hw _ (List.mem_of_getElem? (i := 28) rfl)) (hw _ (List.mem_of_getElem? (i := 2) rfl)) (hw _ (List.mem_of_getElem? (i := 30) rfl)) (by decide) eh179 EX_3 [.int (idx ^^^ (-1 : Int32)), .double (FP.i2d dd3)] pd4 rfl (rm := ({ frames := 2, cells := 0, slots := 0, locals := 64 } : Room)) (rm4_4_3 l Z a0 hw [] ao ia da o3 (idx ^^^ (-1 : Int32)) (FP.i2d dd3) dd3.toInt j3_0 j3_1 j3_2 y3_0 y3_1 y3_2 g3_0 g3_1 g3_2 T178.heap n0 Zn3 nw_ao nia nda EX_3 Fo_3 Fs_3 Fc_3 Fi_3 Fd_3 ni nd ne_ A1_3 A2_3 (own_D.i2d dd3) D3_0 D3_1 D3_2) (by rw [hml]; rfl) 0 rfl (Nat.le_of_eq rfl) (hb hby at_93) (by decide) (by decide) (by decide) (by decide) (fun T180 rv180 Lc180 X180 qc180 => ?_)
      obtain ⟨rfl, M4, ⟨o4, EX_4, Fo_4, Fs_4, Fc_4, Fi_4, Fd_4⟩, j4_0, j4_1, j4_2, j4_3, y4_0, y4_1, y4_2, y4_3, g4_0, g4_1, g4_2, g4_3, A1_4, A2_4, D4_0, D4_1, D4_2, D4_3, R4⟩ := qc180
      have Nn4 := Fr.app Nn3 M4
      have Zn4 : n0 ≤ T180.heap.size := Nat.le_trans nw_ao (Nat.le_of_lt EX_4.lt)
      show own_Go p.tables e below _ (T180.setTop (mkF m 96 (Array.mk [.val (.int sel), .val (.int dd0), .val (.int dd1), .val (.int dd2), .val (.int dd3), .val (.int idx), .val (.int (4 : Int32)), .val (.int (4 : Int32)), .val (.ref ao), .unset, .unset, .unset, .unset, .unset, .unset, .unset, .unset]) []))
      refine own_blk dec0 seq0 hby hx hZ hown hK hF 1 [] [] X180 rfl ?_
      show own_Aft X180 T180.heap _ 98 [.val (.int sel), .val (.int dd0), .val (.int dd1), .val (.int dd2), .val (.int dd3), .val (.int idx), .val (.int (4 : Int32)), .val (.int (4 : Int32)), .val (.ref ao), .unset, .unset, .unset, .unset, .unset, .unset, .unset, .unset] [.ref ao]
      refine fun T181 X181 eh181 => ?_
      refine own_callVP X181 hx hZ hown (hw _ (List.mem_of_getElem? (i := 17) rfl)) (hw _ (List.mem_of_getElem? (i := 18) rfl)) (hw _ (List.mem_of_getElem? (i := 20) rfl)) (hw _ (List.mem_of_getElem? (i := 19) rfl)) (hw _ (List.mem_of_getElem? (i := 2) rfl)) (hw _ (List.mem_of_getElem? (i := 21) rfl)) (by decide) eh181 EX_4 [] pd3 rfl (fr := 0) (lo := 0) (rm3_4_4 l Z a0 hw [] ao da y4_0 y4_1 y4_2 y4_3 T180.heap n0 Zn4 Fs_4 Fc_4 Fd_4 A2_4) (by rw [hml]; rfl) 0 rfl (Nat.le_of_eq rfl) (hb hby at_98) (by decide) (by decide) (by decide) (by decide) (fun T182 rv182 X182 eh182 qc182 => ?_)
      obtain rfl := qc182
      show own_Go p.tables e below _ (T182.setTop (mkF m 101 (Array.mk [.val (.int sel), .val (.int dd0), .val (.int dd1), .val (.int dd2), .val (.int dd3), .val (.int idx), .val (.int (4 : Int32)), .val (.int (4 : Int32)), .val (.ref ao), .unset, .unset, .unset, .unset, .unset, .unset, .unset, .unset]) [.double y4_0]))
      refine own_blk dec0 seq0 hby hx hZ hown hK hF 24 [true, false, false, false, false] [] X182 eh182 ?_
      show (((4 : Int32)).toInt ≤ ((4 : Int32)).toInt) ∧ (¬ (((4 : Int32)).toInt ≤ 0)) ∧ (¬ (((4 : Int32)).toInt ≤ ((1 : Int32)).toInt)) ∧ (¬ (((4 : Int32)).toInt ≤ ((2 : Int32)).toInt)) ∧ (¬ (((4 : Int32)).toInt ≤ ((3 : Int32)).toInt)) ∧ own_Aft X182 T180.heap _ 172 [.val (.int sel), .val (.int dd0), .val (.int dd1), .val (.int dd2), .val (.int dd3), .val (.int idx), .val (.int (4 : Int32)), .val (.int (4 : Int32)), .val (.ref ao), .val (.double y4_0), .second, .val (.int dd0), .val (.int dd1), .val (.int dd2), .unset, .unset, .unset] []
      refine ⟨by decide, by decide, by decide, by decide, by decide, fun T183 X183 eh183 => ?_⟩
      refine own_blk dec0 seq0 hby hx hZ hown hK hF 3 [] [] X183 eh183 ?_
      show own_Aft X183 T180.heap _ 181 [.val (.int sel), .val (.int dd0), .val (.int dd1), .val (.int dd2), .val (.int dd3), .val (.int idx), .val (.int (4 : Int32)), .val (.int (4 : Int32)), .val (.ref ao), .val (.double y4_0), .second, .val (.int dd0), .val (.int dd1), .val (.int dd2), .val (.int dd3), .unset, .unset] []
      refine fun T184 X184 eh184 => ?_
      refine net X184 hx hby hml hown hZ hK hF eh184 _ _ _ _ _ _ _ _ _ _ _ _ dd0 dd1 dd2 dd3 hw (by decide) (by decide) (by decide) (by decide) (fun A1 B1 E1 F1 A5 E2 B2 F5 B5 E5 sl15 P1 P2 P3 P4 P5 T185 X185 eh185 => ?_)
      show own_Go p.tables e below _ (T185.setTop (mkF m 291 (Array.mk [.val (.int sel), .val (.int dd0), .val (.int dd1), .val (.int dd2), .val (.int dd3), .val (.int idx), .val (.int (4 : Int32)), .val (.int (4 : Int32)), .val (.ref ao), .val (.double y4_0), .second, .val (.int A5), .val (.int B5), .val (.int E5), .val (.int F5), sl15, .unset]) []))
      have big : (2147483647 : Int32).toInt = 2147483647 := rfl
      try rw [big] at P1
      try rw [big] at P2
      have FIN := own_fin_4_4 dd0.toInt dd1.toInt dd2.toInt dd3.toInt g1_0 g2_0 g2_1 g3_0 g3_1 g3_2 g4_0 g4_1 g4_2 g4_3 A1.toInt B1.toInt E1.toInt F1.toInt A5.toInt E2.toInt B2.toInt F5.toInt B5.toInt E5.toInt R1 R2 R3 R4 (by have := Int32.toInt_lt dd0; omega) (by have := Int32.toInt_lt dd1; omega) (by have := Int32.toInt_lt dd2; omega) (by have := Int32.toInt_lt dd3; omega) P1 P2 P3 P4 P5
      refine own_blk dec0 seq0 hby hx hZ hown hK hF 18 [true, true, true, false] [] X185 eh185 ?_
      show (((4 : Int32)).toInt ≠ ((1 : Int32)).toInt) ∧ (((4 : Int32)).toInt ≠ ((2 : Int32)).toInt) ∧ (((4 : Int32)).toInt ≠ ((3 : Int32)).toInt) ∧ (¬ ((cmpValue (FP.dcmp y4_0 (FP.i2d F5)) .l).toInt ≠ 0)) ∧ own_Aft X185 T180.heap _ 348 [.val (.int sel), .val (.int dd0), .val (.int dd1), .val (.int dd2), .val (.int dd3), .val (.int idx), .val (.int (4 : Int32)), .val (.int (4 : Int32)), .val (.ref ao), .val (.double y4_0), .second, .val (.int A5), .val (.int B5), .val (.int E5), .val (.int F5), sl15, .val (.int F5)] [.int (1 : Int32)]
      refine ⟨by decide, by decide, by decide, by rw [own_cv_eq (D4_0.eq (own_D.i2d F5) FIN)]; omega, fun T186 X186 eh186 => ?_⟩
      exact own_ret X186 hx hlk eh186 hret (by first | rfl | decide) (Or.inl ⟨rfl, by simp, _, rfl⟩) (hb hby at_348) (by decide) (by decide) (⟨rfl, Nn4⟩)
set_option maxRecDepth 65536 in
set_option maxHeartbeats 40000000 in
theorem comes_1 {Post : Tables → Env → Array Value → State → Outcome → State → Prop} (hpost : ∀ tb e args s v u, (limb_1_1.after args s (.returned v) u = true ∧ limb_1_2.after args s (.returned v) u = true ∧ True) → FrameEnd s (.returned v) u (Jvm.fieldLocs frame_1_writes args s ++ Jvm.arrayLocs frame_1_arrays args s ++ Jvm.staticLocs frame_1_statics s) 16 128 → Post tb e args s (.returned v) u) :
    ArmFor flags0 classFile x code maxLocals ret World_1 tables_1 room_1 Calls_1 rest_1 Pre_1 Post := by
  intro l hfl _ _ p e ha hc hk s m args below hf hA hF happ hP
  obtain ⟨hcalls, hrest, hpre⟩ := hP
  obtain ⟨-, -, -, hnamed, -, -, -, hat⟩ := (Spec.applies_iff hf).mp happ
  obtain ⟨hg, hn⟩ := and_e (Cond.before_iff.mp (show (Jvm.Cond.and given_1 narrow_1).before args s = true from hpre))
  obtain ⟨h1, g0⟩ := and_e hg
  obtain ⟨t0, g1⟩ := and_e g0
  obtain ⟨t1, g2⟩ := and_e g1
  obtain ⟨t2, g3⟩ := and_e g2
  obtain ⟨t3, g4⟩ := and_e g3
  obtain ⟨t4, g5⟩ := and_e g4
  obtain ⟨w0, w1, w2, w3, w4, w5, rfl⟩ : ∃ w0 w1 w2 w3 w4 w5 : Value, args = #[w0, w1, w2, w3, w4, w5] := by
    have hs : args.size = 6 := by simpa [Cond.value, given_1] using h1
    obtain ⟨L⟩ := args
    match L, hs with
    | [w0, w1, w2, w3, w4, w5], _ => exact ⟨w0, w1, w2, w3, w4, w5, rfl⟩
  have hw := fun d (hd : d ∈ tables_1) => atoms_spec (ws := Jvm.Cond.code x code maxLocals ret :: tables_1) hat d (List.mem_cons_of_mem _ hd)
  obtain ⟨i0, e0⟩ := is_v t0
  obtain rfl : w0 = (.int i0) := Option.some.inj e0
  obtain ⟨i1, e1⟩ := is_v t1
  obtain rfl : w1 = (.int i1) := Option.some.inj e1
  obtain ⟨i2, e2⟩ := is_v t2
  obtain rfl : w2 = (.int i2) := Option.some.inj e2
  obtain ⟨i3, e3⟩ := is_v t3
  obtain rfl : w3 = (.int i3) := Option.some.inj e3
  obtain ⟨i4, e4⟩ := is_v t4
  obtain rfl : w4 = (.int i4) := Option.some.inj e4
  obtain ⟨i5, e5⟩ := is_v g5
  obtain rfl : w5 = (.int i5) := Option.some.inj e5
  obtain ⟨n, o, h1, h2, h3, hfin⟩ := rm0 l s _ hw tables_1 i0 i1 i2 i3 i4 i5 s.heap s.heap.size (Nat.le_refl _)  p e ha hc hk s m _ below hf ((Spec.applies_iff_loose hf).mp happ).1 ⟨rfl, State.Warmed39.refl s, rfl⟩ trivial
  obtain ⟨_, L, rfl, ⟨rfl, N⟩, hq⟩ := hfin
  refine ⟨n, _, h1, h2, h3, hpost _ _ _ _ _ _ ⟨Cond.after_iff.mpr rfl, Cond.after_iff.mpr (eq_i res_at (Term.int_eval (1)) rfl), trivial⟩ ⟨hq.1, hq.2.1, (hq.2.2.sift fun y hy => Or.inr (N y hy)).mono (by decide) (by decide)⟩⟩
theorem main_1_1 : Claimed_1_1 := comes_1 fun _ _ _ _ _ _ h hF => ⟨h.1, hF⟩
theorem main_1_2 : Claimed_1_2 := comes_1 fun _ _ _ _ _ _ h hF => ⟨h.2.1, hF⟩
end Jvm.Pilot.@@N@@
namespace Jvm.Pilot.@@N@@
open Jvm Jvm.ClassFile Sem Op Lib Jvm.Free Jvm.Stand Jvm.Pilot.@@N@@.Jvm.D
/-! MADE BY PROGRAM (witnessworld.py) out of the Statement's table words and the real class files: 15 classes; the members and pool entries that the words name. The judged class is class 1, her method 1. -/
namespace start1
open Jvm.ClassFile
def u (s : String) : CpInfo := .utf8 (stringToUtf16 s)
/-- a pool by its gaps: so many unusable entries, then the entry; so many at the end -/
def gap : Nat → List CpInfo → List CpInfo
  | 0, r => r
  | n + 1, r => .unusable :: gap n r
def poolList (es : List (Nat × CpInfo)) (last : Nat) : List CpInfo := es.foldr (fun e r => gap e.1 (e.2 :: r)) (gap last [])
def pool (es : List (Nat × CpInfo)) (last : Nat) : Array CpInfo := ⟨poolList es last⟩
def fileOf (pool : Array CpInfo) (this : Nat) (attrs : Array Attribute := #[]) (ms : Array MethodInfo := #[]) (fl : Nat := 33) (sup : Nat := 0) (ifs : Array Nat := #[]) (fds : Array FieldInfo := #[]) : ClassFile where
  minorVersion := 0
  majorVersion := 65
  constantPool := pool
  accessFlags := fl
  thisClass := this
  superClass := sup
  interfaces := ifs
  fields := fds
  methods := ms
  attributes := attrs
def plain (name : String) (sup : Option ClassId) : Class where
  name := name
  kind := .ordinary
  loader := none
  accessFlags := 33
  super := sup
  interfaces := #[]
  cf := none
  fields := #[]
  methods := #[]
  instanceTypes := #[]
  staticTypes := #[]
  resolved := #[]
  callSites := []
  init := .initialized
  statics := none
  mirror := none

def pool0 : Array CpInfo := pool [(5, u "<init>"), (0, u "()V"), (1, .class_ 10), (1, u "java/lang/Object")] 113

def k0c0 : Code := { maxStack := 0, maxLocals := 1, code := object_method_1_code, exceptionTable := #[], attributes := #[] }
def k0m0 : Method := { name := "<init>", desc := "()V", sig := { parameters := [], returnType := none }, accessFlags := 1, code := some k0c0 }
/-- java/lang/Object -/
def k0 : Class := { plain "java/lang/Object" none with
  accessFlags := 33
  interfaces := #[]
  cf := some (fileOf pool0 8 #[] #[{ accessFlags := 1, nameIndex := 5, descriptorIndex := 6, attributes := #[] }] 33 0 #[] #[])
  fields := #[]
  methods := #[k0m0]
  instanceTypes := #[]
  staticTypes := #[]
  resolved := Array.replicate 124 none
  statics := none }

def pool1 : Array CpInfo := pool [(2, .class_ 4), (1, u "java/lang/Object"), (0, u "<init>"), (0, u "()V"), (0, .class_ 8), (0, u "org/axisfold/search/KNearest"), (0, .methodref 7 10), (0, .nameAndType 5 11), (0, u "(I)V"), (0, .methodref 7 13), (0, .nameAndType 14 15), (0, u "offer"), (0, u "(ID)V"), (0, .methodref 7 17), (0, .nameAndType 18 19), (0, u "limit"), (0, u "()D"), (2, .double 9218868437227405312), (3, .integer 2147483647), (0, .methodref 28 29), (0, .class_ 30), (0, .nameAndType 31 32), (0, u "java/lang/Math"), (0, u "min"), (0, u "(II)I"), (0, .methodref 28 34), (0, .nameAndType 35 32), (0, u "max"), (0, .class_ 37), (0, u "org/axisfold/search/KNearestLimitPinLaw"), (2, u "law"), (0, u "(IIIIII)Z")] 3

def k1m0 : Method := { name := "<init>", desc := "()V", sig := { parameters := [], returnType := none }, accessFlags := 1, code := none }
def k1c1 : Code := { maxStack := 4, maxLocals := 17, code := code, exceptionTable := #[], attributes := #[] }
def k1m1 : Method := { name := "law", desc := "(IIIIII)Z", sig := { parameters := [.int, .int, .int, .int, .int, .int], returnType := some .boolean }, accessFlags := 9, code := some k1c1 }
/-- org/axisfold/search/KNearestLimitPinLaw -/
def k1 : Class := { plain "org/axisfold/search/KNearestLimitPinLaw" (some 0) with
  accessFlags := 49
  interfaces := #[]
  cf := some (fileOf pool1 36 #[] #[{ accessFlags := 1, nameIndex := 5, descriptorIndex := 6, attributes := #[] }, { accessFlags := 9, nameIndex := 40, descriptorIndex := 41, attributes := #[] }] 49 2 #[] #[])
  fields := #[]
  methods := #[k1m0, k1m1]
  instanceTypes := #[]
  staticTypes := #[]
  resolved := Array.replicate 45 none
  statics := none }

def pool2 : Array CpInfo := pool [(2, .class_ 4), (1, u "org/axisfold/search/Collector"), (2, .class_ 8), (0, u "java/lang/Object")] 11

/-- org/axisfold/search/Collector -/
def k2 : Class := { plain "org/axisfold/search/Collector" (some 0) with
  accessFlags := 1537
  interfaces := #[]
  cf := some (fileOf pool2 2 #[] #[] 1537 7 #[] #[])
  fields := #[]
  methods := #[]
  instanceTypes := #[]
  staticTypes := #[]
  resolved := Array.replicate 20 none
  statics := none }

def pool3 : Array CpInfo := pool [(1, .methodref 2 3), (0, .class_ 4), (0, .nameAndType 5 6), (0, u "java/lang/Object"), (0, u "<init>"), (0, u "()V"), (9, .fieldref 17 18), (0, .class_ 19), (0, .nameAndType 20 21), (0, u "org/axisfold/search/KNearest"), (0, u "capacity"), (0, u "I"), (0, .fieldref 17 23), (0, .nameAndType 24 25), (0, u "indices"), (0, u "[I"), (0, .fieldref 17 27), (0, .nameAndType 28 29), (0, u "squaredDistances"), (0, u "[D"), (0, .fieldref 17 31), (0, .nameAndType 32 21), (0, u "size"), (2, .double 9218868437227405312), (1, .methodref 38 39), (0, .class_ 40), (0, .nameAndType 41 42), (0, u "org/axisfold/search/Neighbours"), (0, u "precedes"), (0, u "(DIDI)Z"), (0, .fieldref 17 44), (0, .nameAndType 45 46), (0, u "offered"), (0, u "J"), (0, .methodref 48 49), (0, .class_ 50), (0, .nameAndType 51 52), (0, u "org/axisfold/search/ResultHeap"), (0, u "siftUp"), (0, u "([I[DIID)V"), (0, .methodref 17 54), (0, .nameAndType 55 56), (0, u "wouldKeep"), (0, u "(ID)Z"), (0, .methodref 48 58), (0, .nameAndType 59 60), (0, u "siftDown"), (0, u "([I[DIIID)V"), (21, .class_ 83), (0, u "org/axisfold/search/Collector"), (0, u "(I)V"), (3, u "limit"), (0, u "()D"), (0, u "offer"), (0, u "(ID)V")] 23

def k3c0 : Code := { maxStack := 3, maxLocals := 2, code := prog_40_method_1_code, exceptionTable := #[], attributes := #[] }
def k3m0 : Method := { name := "<init>", desc := "(I)V", sig := { parameters := [.int], returnType := none }, accessFlags := 1, code := some k3c0 }
def k3c1 : Code := { maxStack := 2, maxLocals := 1, code := prog_40_method_2_code, exceptionTable := #[], attributes := #[] }
def k3m1 : Method := { name := "limit", desc := "()D", sig := { parameters := [], returnType := some .double }, accessFlags := 1, code := some k3c1 }
def k3c2 : Code := { maxStack := 7, maxLocals := 4, code := prog_40_method_3_code, exceptionTable := #[], attributes := #[] }
def k3m2 : Method := { name := "wouldKeep", desc := "(ID)Z", sig := { parameters := [.int, .double], returnType := some .boolean }, accessFlags := 1, code := some k3c2 }
def k3c3 : Code := { maxStack := 7, maxLocals := 4, code := prog_40_method_4_code, exceptionTable := #[], attributes := #[] }
def k3m3 : Method := { name := "offer", desc := "(ID)V", sig := { parameters := [.int, .double], returnType := none }, accessFlags := 1, code := some k3c3 }
/-- org/axisfold/search/KNearest -/
def k3 : Class := { plain "org/axisfold/search/KNearest" (some 0) with
  accessFlags := 49
  interfaces := #[2]
  cf := some (fileOf pool3 17 #[] #[{ accessFlags := 1, nameIndex := 5, descriptorIndex := 84, attributes := #[] }, { accessFlags := 1, nameIndex := 88, descriptorIndex := 89, attributes := #[] }, { accessFlags := 1, nameIndex := 55, descriptorIndex := 56, attributes := #[] }, { accessFlags := 1, nameIndex := 90, descriptorIndex := 91, attributes := #[] }] 49 2 #[82] #[{ accessFlags := 18, nameIndex := 20, descriptorIndex := 21, attributes := #[] }, { accessFlags := 18, nameIndex := 24, descriptorIndex := 25, attributes := #[] }, { accessFlags := 18, nameIndex := 28, descriptorIndex := 29, attributes := #[] }, { accessFlags := 2, nameIndex := 32, descriptorIndex := 21, attributes := #[] }, { accessFlags := 2, nameIndex := 45, descriptorIndex := 46, attributes := #[] }])
  fields := #[{ name := "capacity", type := .int, accessFlags := 18, slot := 0, constantValue := 0 }, { name := "indices", type := (.array .int), accessFlags := 18, slot := 1, constantValue := 0 }, { name := "squaredDistances", type := (.array .double), accessFlags := 18, slot := 2, constantValue := 0 }, { name := "size", type := .int, accessFlags := 2, slot := 3, constantValue := 0 }, { name := "offered", type := .long, accessFlags := 2, slot := 4, constantValue := 0 }]
  methods := #[k3m0, k3m1, k3m2, k3m3]
  instanceTypes := #[.int, (.array .int), (.array .double), .int, .long]
  staticTypes := #[]
  resolved := Array.replicate 115 none
  statics := none }

def pool4 : Array CpInfo := pool [(2, .class_ 4), (1, u "java/lang/Object"), (0, u "<init>"), (0, u "()V"), (1, .class_ 10), (1, u "org/axisfold/search/ResultHeap"), (0, u "siftDown"), (0, u "([I[DIIID)V"), (0, .methodref 14 15), (0, .class_ 16), (0, .nameAndType 17 18), (0, u "org/axisfold/search/Neighbours"), (0, u "precedes"), (0, u "(DIDI)Z"), (6, u "siftUp"), (0, u "([I[DIID)V")] 2

def k4m0 : Method := { name := "<init>", desc := "()V", sig := { parameters := [], returnType := none }, accessFlags := 2, code := none }
def k4c1 : Code := { maxStack := 6, maxLocals := 7, code := prog_44_method_4_code, exceptionTable := #[], attributes := #[] }
def k4m1 : Method := { name := "siftUp", desc := "([I[DIID)V", sig := { parameters := [(.array .int), (.array .double), .int, .int, .double], returnType := none }, accessFlags := 8, code := some k4c1 }
def k4c2 : Code := { maxStack := 7, maxLocals := 9, code := prog_44_method_5_code, exceptionTable := #[], attributes := #[] }
def k4m2 : Method := { name := "siftDown", desc := "([I[DIIID)V", sig := { parameters := [(.array .int), (.array .double), .int, .int, .int, .double], returnType := none }, accessFlags := 8, code := some k4c2 }
/-- org/axisfold/search/ResultHeap -/
def k4 : Class := { plain "org/axisfold/search/ResultHeap" (some 0) with
  accessFlags := 48
  interfaces := #[]
  cf := some (fileOf pool4 8 #[] #[{ accessFlags := 2, nameIndex := 5, descriptorIndex := 6, attributes := #[] }, { accessFlags := 8, nameIndex := 25, descriptorIndex := 26, attributes := #[] }, { accessFlags := 8, nameIndex := 11, descriptorIndex := 12, attributes := #[] }] 48 2 #[] #[])
  fields := #[]
  methods := #[k4m0, k4m1, k4m2]
  instanceTypes := #[]
  staticTypes := #[]
  resolved := Array.replicate 29 none
  statics := none }

def pool5 : Array CpInfo := pool [(1, .class_ 2), (0, u "java/lang/Math"), (1, .class_ 6), (1, u "java/lang/Object"), (0, u "<init>"), (0, u "()V"), (89, .class_ 100), (1, u "java/lang/Math$RandomNumberGeneratorHolder"), (71, u "negativeZeroFloatBits"), (0, u "J"), (2, u "negativeZeroDoubleBits"), (21, u "max"), (2, u "min"), (43, u "$assertionsDisabled"), (0, u "Z"), (88, u "(II)I"), (2, u "twoToTheDoubleScaleDown"), (0, u "D"), (4, u "twoToTheDoubleScaleUp"), (9, u "E"), (3, u "PI"), (2, u "TAU"), (2, u "DEGREES_TO_RADIANS"), (0, u "RADIANS_TO_DEGREES")] 94

def k5m0 : Method := { name := "<init>", desc := "()V", sig := { parameters := [], returnType := none }, accessFlags := 2, code := none }
def k5c1 : Code := { maxStack := 2, maxLocals := 2, code := jdk_29_method_65_code, exceptionTable := #[], attributes := #[] }
def k5m1 : Method := { name := "max", desc := "(II)I", sig := { parameters := [.int, .int], returnType := some .int }, accessFlags := 9, code := some k5c1 }
def k5c2 : Code := { maxStack := 2, maxLocals := 2, code := jdk_29_method_69_code, exceptionTable := #[], attributes := #[] }
def k5m2 : Method := { name := "min", desc := "(II)I", sig := { parameters := [.int, .int], returnType := some .int }, accessFlags := 9, code := some k5c2 }
/-- java/lang/Math -/
def k5 : Class := { plain "java/lang/Math" (some 0) with
  accessFlags := 49
  interfaces := #[]
  cf := some (fileOf pool5 1 #[.nestMembers #[98]] #[{ accessFlags := 2, nameIndex := 7, descriptorIndex := 8, attributes := #[] }, { accessFlags := 9, nameIndex := 198, descriptorIndex := 335, attributes := #[] }, { accessFlags := 9, nameIndex := 201, descriptorIndex := 335, attributes := #[] }] 49 4 #[] #[{ accessFlags := 25, nameIndex := 354, descriptorIndex := 339, attributes := #[] }, { accessFlags := 25, nameIndex := 358, descriptorIndex := 339, attributes := #[] }, { accessFlags := 25, nameIndex := 361, descriptorIndex := 339, attributes := #[] }, { accessFlags := 26, nameIndex := 364, descriptorIndex := 339, attributes := #[] }, { accessFlags := 26, nameIndex := 365, descriptorIndex := 339, attributes := #[] }, { accessFlags := 26, nameIndex := 172, descriptorIndex := 173, attributes := #[] }, { accessFlags := 26, nameIndex := 176, descriptorIndex := 173, attributes := #[] }, { accessFlags := 8, nameIndex := 344, descriptorIndex := 339, attributes := #[] }, { accessFlags := 8, nameIndex := 338, descriptorIndex := 339, attributes := #[] }, { accessFlags := 4120, nameIndex := 245, descriptorIndex := 246, attributes := #[] }])
  fields := #[{ name := "E", type := .double, accessFlags := 25, slot := 0, constantValue := 0 }, { name := "PI", type := .double, accessFlags := 25, slot := 1, constantValue := 0 }, { name := "TAU", type := .double, accessFlags := 25, slot := 2, constantValue := 0 }, { name := "DEGREES_TO_RADIANS", type := .double, accessFlags := 26, slot := 3, constantValue := 0 }, { name := "RADIANS_TO_DEGREES", type := .double, accessFlags := 26, slot := 4, constantValue := 0 }, { name := "negativeZeroFloatBits", type := .long, accessFlags := 26, slot := 5, constantValue := 0 }, { name := "negativeZeroDoubleBits", type := .long, accessFlags := 26, slot := 6, constantValue := 0 }, { name := "twoToTheDoubleScaleUp", type := .double, accessFlags := 8, slot := 7, constantValue := 0 }, { name := "twoToTheDoubleScaleDown", type := .double, accessFlags := 8, slot := 8, constantValue := 0 }, { name := "$assertionsDisabled", type := .boolean, accessFlags := 4120, slot := 9, constantValue := 0 }]
  methods := #[k5m0, k5m1, k5m2]
  instanceTypes := #[]
  staticTypes := #[.double, .double, .double, .double, .double, .long, .long, .double, .double, .boolean]
  resolved := Array.replicate 460 none
  statics := none }

def pool6 : Array CpInfo := pool [(2, .class_ 4), (1, u "java/lang/Object"), (3, .class_ 10), (1, u "org/axisfold/search/Neighbours"), (0, u "indices"), (0, u "[I"), (2, u "squaredDistances"), (0, u "[D"), (36, u "precedes"), (0, u "(DIDI)Z")] 11

def k6c0 : Code := { maxStack := 4, maxLocals := 6, code := prog_42_method_2_code, exceptionTable := #[], attributes := #[] }
def k6m0 : Method := { name := "precedes", desc := "(DIDI)Z", sig := { parameters := [.double, .int, .double, .int], returnType := some .boolean }, accessFlags := 9, code := some k6c0 }
/-- org/axisfold/search/Neighbours -/
def k6 : Class := { plain "org/axisfold/search/Neighbours" (some 0) with
  accessFlags := 49
  interfaces := #[]
  cf := some (fileOf pool6 8 #[] #[{ accessFlags := 9, nameIndex := 53, descriptorIndex := 54, attributes := #[] }] 49 2 #[] #[{ accessFlags := 18, nameIndex := 11, descriptorIndex := 12, attributes := #[] }, { accessFlags := 18, nameIndex := 15, descriptorIndex := 16, attributes := #[] }])
  fields := #[{ name := "indices", type := (.array .int), accessFlags := 18, slot := 0, constantValue := 0 }, { name := "squaredDistances", type := (.array .double), accessFlags := 18, slot := 1, constantValue := 0 }]
  methods := #[k6m0]
  instanceTypes := #[(.array .int), (.array .double)]
  staticTypes := #[]
  resolved := Array.replicate 66 none
  statics := none }

def pool7 : Array CpInfo := pool [(1, u "java/lang/Cloneable"), (0, .class_ 1), (0, u "java/lang/Object"), (0, .class_ 3)] 3

/-- java/lang/Cloneable -/
def k7 : Class := { plain "java/lang/Cloneable" (some 0) with
  accessFlags := 1537
  interfaces := #[]
  cf := some (fileOf pool7 2 #[] #[] 1537 4 #[] #[])
  fields := #[]
  methods := #[]
  instanceTypes := #[]
  staticTypes := #[]
  resolved := Array.replicate 8 none
  statics := none }

def pool8 : Array CpInfo := pool [(1, u "java/io/Serializable"), (0, .class_ 1), (0, u "java/lang/Object"), (0, .class_ 3)] 3

/-- java/io/Serializable -/
def k8 : Class := { plain "java/io/Serializable" (some 0) with
  accessFlags := 1537
  interfaces := #[]
  cf := some (fileOf pool8 2 #[] #[] 1537 4 #[] #[])
  fields := #[]
  methods := #[]
  instanceTypes := #[]
  staticTypes := #[]
  resolved := Array.replicate 8 none
  statics := none }

/-- the primitive byte -/
def k9 : Class := { plain "byte" none with kind := .primitive 'B', accessFlags := 0x411 }
/-- [B -/
def k10 : Class := { plain "[B" (some 0) with kind := .array 9 .byte, interfaces := #[7, 8], accessFlags := 1041 }

/-- the primitive double -/
def k11 : Class := { plain "double" none with kind := .primitive 'D', accessFlags := 0x411 }
/-- [D -/
def k12 : Class := { plain "[D" (some 0) with kind := .array 11 .double, interfaces := #[7, 8], accessFlags := 1041 }

/-- the primitive int -/
def k13 : Class := { plain "int" none with kind := .primitive 'I', accessFlags := 0x411 }
/-- [I -/
def k14 : Class := { plain "[I" (some 0) with kind := .array 13 .int, interfaces := #[7, 8], accessFlags := 1041 }

def heap : Heap := #[]
def classes : Array Class := #[k0, k1, k2, k3, k4, k5, k6, k7, k8, k9, k10, k11, k12, k13, k14]
def interned : List (Array UInt16 × Addr) := []
def slotsUsed : Nat := 0
def theMethod : MethodId := ⟨1, 1⟩
def args0 : Array Value := #[.int 5, .int 6, .int 7, .int 8, .int 9, .int 10]
def aboutOver (below : List Frame) : State where
  vm := { classes := classes, interned := interned.toArray }
  heap := heap
  slotsUsed := slotsUsed
  threads := #[{ frames := .invoking theMethod args0 :: below }]
def below0 : List Frame := [.native { method := ⟨0, 0⟩, args := #[] }]
def about1 : State := aboutOver below0
def p0 : Program := .bare "" "" ""
def e0 : Env := launch0.env 0 0 0
theorem w_frames : about1.frames = Frame.invoking theMethod args0 :: below0 := rfl
set_option maxRecDepth 65536 in
theorem w_args : argsFit about1.vm theMethod args0 = true := by decide +kernel
set_option maxRecDepth 65536 in
theorem w_heap : heapFits about1 = true := by decide +kernel
set_option maxRecDepth 65536 in
theorem w_runnable : about1.curStatus? = some .runnable := by decide +kernel
set_option maxRecDepth 65536 in
theorem w_alone : about1.alone = true := by decide +kernel
set_option maxRecDepth 65536 in
theorem w_named : about1.methodNamed? x = some theMethod := by decide +kernel
set_option maxRecDepth 65536 in
theorem w_hears : about1.hears theMethod below0 = true := by decide +kernel
set_option maxRecDepth 65536 in
theorem w_ripe : about1.ripe theMethod args0 below0 = true := by decide +kernel
theorem w_running : about1.status = .running := rfl
set_option maxRecDepth 65536 in
theorem w_room : about1.hasRoom e0.platform room_1 = true :=
  launch0.hasRoom_least _ room_1 (by decide +kernel) (by decide +kernel) (by decide +kernel) (by decide +kernel) (by decide +kernel) (by decide +kernel)
theorem allAtoms_all (ts : List Jvm.Cond) (a : Array Jvm.Value) (st : Jvm.State) : (allAtoms ts).before a st = ts.all (fun c => c.before a st) := by
  induction ts with
  | nil => rfl
  | cons c t ih =>
    show (Jvm.Cond.and c (allAtoms t)).before a st = _
    rw [Jvm.Cond.before_and, ih, List.all_cons]
def words1 : List Jvm.Cond := Jvm.Cond.code x code maxLocals ret :: tables_1
/-- a 'code' word, met by the world's own term for the bytes: nothing is compared byte by byte -/
theorem code_word {y : MethodName} {bytes : ByteArray} {mx : Nat} {rt : Option FieldType} {a : Array Value} {s : State} {m : MethodId} {meth : Method} {c : Code} (h1 : s.methodNamed? y = some m) (h2 : s.vm.method? m = some meth) (h3 : meth.code = some c) (h4 : c.code = bytes)
    (h5 : (c.maxLocals == mx && c.exceptionTable.isEmpty && decide (c.maxStack ≤ mostOperands) && decide (meth.sig.returnType = rt) && !meth.locks && decide (parseMethodDescriptor y.desc = some meth.sig)) = true) : (Jvm.Cond.code y bytes mx rt).before a s = true := by
  simp only [Bool.and_eq_true, beq_iff_eq, Bool.not_eq_true', decide_eq_true_eq] at h5
  obtain ⟨⟨⟨⟨⟨g1, g2⟩, g3⟩, g4⟩, g5⟩, g6⟩ := h5
  simp [Cond.before, Cond.holds, Cond.value, h1, h2, h3, h4, g1, g2, g3, g4, g5, g6]
def isCode : Jvm.Cond → Bool
  | .code _ _ _ _ => true
  | _ => false
theorem all_split {L : List Jvm.Cond} {P : Jvm.Cond → Bool} (h1 : L.all (fun c => isCode c || P c) = true) (h2 : ∀ c ∈ L.filter isCode, P c = true) : L.all P = true := by
  refine List.all_eq_true.mpr fun c hc => ?_
  have h := List.all_eq_true.mp h1 c hc
  rcases Bool.eq_false_or_eq_true (isCode c) with hi | hi
  · exact h2 c (List.mem_filter.mpr ⟨hc, hi⟩)
  · simpa [hi] using h
set_option maxRecDepth 65536 in
theorem w_c0 : (Jvm.Cond.code x code maxLocals ret).before args0 about1 = true := code_word (m := ⟨1, 1⟩) (meth := k1m1) (c := k1c1) (by decide +kernel) rfl rfl rfl (by decide +kernel)
set_option maxRecDepth 65536 in
theorem w_c1 : (Jvm.Cond.code ({ cls := "org/axisfold/search/KNearest", name := "<init>", desc := "(I)V" } : Jvm.MethodName) prog_40_method_1_code (2 : Nat) (Option.none : Option Jvm.ClassFile.FieldType)).before args0 about1 = true := code_word (m := ⟨3, 0⟩) (meth := k3m0) (c := k3c0) (by decide +kernel) rfl rfl rfl (by decide +kernel)
set_option maxRecDepth 65536 in
theorem w_c2 : (Jvm.Cond.code ({ cls := "java/lang/Object", name := "<init>", desc := "()V" } : Jvm.MethodName) object_method_1_code (1 : Nat) (Option.none : Option Jvm.ClassFile.FieldType)).before args0 about1 = true := code_word (m := ⟨0, 0⟩) (meth := k0m0) (c := k0c0) (by decide +kernel) rfl rfl rfl (by decide +kernel)
set_option maxRecDepth 65536 in
theorem w_c3 : (Jvm.Cond.code ({ cls := "org/axisfold/search/KNearest", name := "limit", desc := "()D" } : Jvm.MethodName) prog_40_method_2_code (1 : Nat) (Option.some Jvm.ClassFile.FieldType.double)).before args0 about1 = true := code_word (m := ⟨3, 1⟩) (meth := k3m1) (c := k3c1) (by decide +kernel) rfl rfl rfl (by decide +kernel)
set_option maxRecDepth 65536 in
theorem w_c4 : (Jvm.Cond.code ({ cls := "org/axisfold/search/KNearest", name := "offer", desc := "(ID)V" } : Jvm.MethodName) prog_40_method_4_code (4 : Nat) (Option.none : Option Jvm.ClassFile.FieldType)).before args0 about1 = true := code_word (m := ⟨3, 3⟩) (meth := k3m3) (c := k3c3) (by decide +kernel) rfl rfl rfl (by decide +kernel)
set_option maxRecDepth 65536 in
theorem w_c5 : (Jvm.Cond.code ({ cls := "org/axisfold/search/ResultHeap", name := "siftUp", desc := "([I[DIID)V" } : Jvm.MethodName) prog_44_method_4_code (7 : Nat) (Option.none : Option Jvm.ClassFile.FieldType)).before args0 about1 = true := code_word (m := ⟨4, 1⟩) (meth := k4m1) (c := k4c1) (by decide +kernel) rfl rfl rfl (by decide +kernel)
set_option maxRecDepth 65536 in
theorem w_c6 : (Jvm.Cond.code ({ cls := "java/lang/Math", name := "min", desc := "(II)I" } : Jvm.MethodName) jdk_29_method_69_code (2 : Nat) (Option.some Jvm.ClassFile.FieldType.int)).before args0 about1 = true := code_word (m := ⟨5, 2⟩) (meth := k5m2) (c := k5c2) (by decide +kernel) rfl rfl rfl (by decide +kernel)
set_option maxRecDepth 65536 in
theorem w_c7 : (Jvm.Cond.code ({ cls := "java/lang/Math", name := "max", desc := "(II)I" } : Jvm.MethodName) jdk_29_method_65_code (2 : Nat) (Option.some Jvm.ClassFile.FieldType.int)).before args0 about1 = true := code_word (m := ⟨5, 1⟩) (meth := k5m1) (c := k5c1) (by decide +kernel) rfl rfl rfl (by decide +kernel)
set_option maxRecDepth 65536 in
theorem w_c8 : (Jvm.Cond.code ({ cls := "org/axisfold/search/Neighbours", name := "precedes", desc := "(DIDI)Z" } : Jvm.MethodName) prog_42_method_2_code (6 : Nat) (Option.some Jvm.ClassFile.FieldType.boolean)).before args0 about1 = true := code_word (m := ⟨6, 0⟩) (meth := k6m0) (c := k6c0) (by decide +kernel) rfl rfl rfl (by decide +kernel)
set_option maxRecDepth 65536 in
theorem w_c9 : (Jvm.Cond.code ({ cls := "org/axisfold/search/KNearest", name := "wouldKeep", desc := "(ID)Z" } : Jvm.MethodName) prog_40_method_3_code (4 : Nat) (Option.some Jvm.ClassFile.FieldType.boolean)).before args0 about1 = true := code_word (m := ⟨3, 2⟩) (meth := k3m2) (c := k3c2) (by decide +kernel) rfl rfl rfl (by decide +kernel)
set_option maxRecDepth 65536 in
theorem w_c10 : (Jvm.Cond.code ({ cls := "org/axisfold/search/ResultHeap", name := "siftDown", desc := "([I[DIIID)V" } : Jvm.MethodName) prog_44_method_5_code (9 : Nat) (Option.none : Option Jvm.ClassFile.FieldType)).before args0 about1 = true := code_word (m := ⟨4, 2⟩) (meth := k4m2) (c := k4c2) (by decide +kernel) rfl rfl rfl (by decide +kernel)
def codes1 : List Jvm.Cond := [Jvm.Cond.code x code maxLocals ret, Jvm.Cond.code ({ cls := "org/axisfold/search/KNearest", name := "<init>", desc := "(I)V" } : Jvm.MethodName) prog_40_method_1_code (2 : Nat) (Option.none : Option Jvm.ClassFile.FieldType), Jvm.Cond.code ({ cls := "java/lang/Object", name := "<init>", desc := "()V" } : Jvm.MethodName) object_method_1_code (1 : Nat) (Option.none : Option Jvm.ClassFile.FieldType), Jvm.Cond.code ({ cls := "org/axisfold/search/KNearest", name := "limit", desc := "()D" } : Jvm.MethodName) prog_40_method_2_code (1 : Nat) (Option.some Jvm.ClassFile.FieldType.double), Jvm.Cond.code ({ cls := "org/axisfold/search/KNearest", name := "offer", desc := "(ID)V" } : Jvm.MethodName) prog_40_method_4_code (4 : Nat) (Option.none : Option Jvm.ClassFile.FieldType), Jvm.Cond.code ({ cls := "org/axisfold/search/ResultHeap", name := "siftUp", desc := "([I[DIID)V" } : Jvm.MethodName) prog_44_method_4_code (7 : Nat) (Option.none : Option Jvm.ClassFile.FieldType), Jvm.Cond.code ({ cls := "java/lang/Math", name := "min", desc := "(II)I" } : Jvm.MethodName) jdk_29_method_69_code (2 : Nat) (Option.some Jvm.ClassFile.FieldType.int), Jvm.Cond.code ({ cls := "java/lang/Math", name := "max", desc := "(II)I" } : Jvm.MethodName) jdk_29_method_65_code (2 : Nat) (Option.some Jvm.ClassFile.FieldType.int), Jvm.Cond.code ({ cls := "org/axisfold/search/Neighbours", name := "precedes", desc := "(DIDI)Z" } : Jvm.MethodName) prog_42_method_2_code (6 : Nat) (Option.some Jvm.ClassFile.FieldType.boolean), Jvm.Cond.code ({ cls := "org/axisfold/search/KNearest", name := "wouldKeep", desc := "(ID)Z" } : Jvm.MethodName) prog_40_method_3_code (4 : Nat) (Option.some Jvm.ClassFile.FieldType.boolean), Jvm.Cond.code ({ cls := "org/axisfold/search/ResultHeap", name := "siftDown", desc := "([I[DIIID)V" } : Jvm.MethodName) prog_44_method_5_code (9 : Nat) (Option.none : Option Jvm.ClassFile.FieldType)]
set_option maxRecDepth 65536 in
theorem codes_eq : words1.filter isCode = codes1 := rfl
theorem w_codes : ∀ c ∈ words1.filter isCode, c.before args0 about1 = true := by
  rw [codes_eq]
  intro c hc
  simp only [codes1, List.mem_cons, List.not_mem_nil, or_false] at hc
  rcases hc with rfl | rfl | rfl | rfl | rfl | rfl | rfl | rfl | rfl | rfl | rfl
  · exact w_c0
  · exact w_c1
  · exact w_c2
  · exact w_c3
  · exact w_c4
  · exact w_c5
  · exact w_c6
  · exact w_c7
  · exact w_c8
  · exact w_c9
  · exact w_c10
set_option maxRecDepth 65536 in
theorem w_t1 : (words1.take 24).all (fun c => isCode c || c.before args0 about1) = true := by decide +kernel
set_option maxRecDepth 65536 in
theorem w_t2 : ((words1.drop 24).take 24).all (fun c => isCode c || c.before args0 about1) = true := by decide +kernel
set_option maxRecDepth 65536 in
theorem w_t3 : ((words1.drop 24).drop 24).all (fun c => isCode c || c.before args0 about1) = true := by decide +kernel
theorem w_tables : (allAtoms (Jvm.Cond.code x code maxLocals ret :: tables_1)).before args0 about1 = true := by
  rw [allAtoms_all]
  show words1.all (fun c => c.before args0 about1) = true
  refine all_split ?_ w_codes
  rw [← List.take_append_drop 24 words1, List.all_append, w_t1, ← List.take_append_drop 24 (words1.drop 24), List.all_append, w_t2, w_t3]
  rfl
set_option maxRecDepth 65536 in
theorem w_case : (Jvm.Cond.and given_1 narrow_1).before args0 about1 = true := by decide +kernel
theorem w_applies : (headSpec (Jvm.Cond.code x code maxLocals ret :: tables_1) room_1).applies x e0.platform about1 = true :=
  (Spec.applies_iff w_frames).mpr ⟨w_running, w_runnable, w_alone, w_named, w_hears, w_ripe, w_room, w_tables⟩
theorem atStart : AtStart classFile x code maxLocals ret World_1 tables_1 room_1 Calls_1 rest_1 Pre_1 launch0 p0 e0 about1 theMethod args0 below0 :=
  ⟨lists_1, trivial, launch0.admits_env _ _ _, launch0.least_env, fairChoices_fair.cas, fairChoices_fair.clock, w_frames, w_args, w_heap, w_applies, trivial, trivial, w_case⟩
end start1
theorem witness_1 : WitnessClaimed_1 := ⟨start1.p0, start1.e0, start1.about1, start1.theMethod, start1.args0, start1.below0, start1.atStart⟩
end Jvm.Pilot.@@N@@
