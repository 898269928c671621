import JvmDerived
import JvmDerived.Pilot.@@N@@Statement
import JvmDerived.Pilot.@@N@@Code
set_option linter.unusedVariables false
set_option linter.unusedSimpArgs false
namespace Jvm.Pilot.@@N@@
open Jvm Jvm.ClassFile Sem Op Lib Jvm.Free Jvm.Stand Jvm.LawKit Jvm.RoadKit Bundle Jvm.Pilot.@@N@@.Jvm.D
/-! OWN KIT 1: a goal 'the run goes on to a good end', and a block of plain instructions taken in one step (own_blk) -/
def own_Go (tb : Tables) (e : Env) (below : List Frame) (Q : Outcome → State → Prop) (S : State) : Prop :=
  ∃ s₂ o, Steps tb e below S s₂ ∧ s₂.status = .running ∧ Ended s₂ below o ∧ Q o s₂
theorem own_go {tb : Tables} {e : Env} {below : List Frame} {Q : Outcome → State → Prop} {S S' : State} (h : ∀ t, Steps tb e below S' t → Steps tb e below S t) (k : own_Go tb e below Q S') : own_Go tb e below Q S := by
  obtain ⟨s2, o, a, b, c, d⟩ := k
  exact ⟨s2, o, h _ a, b, c, d⟩
/-- what a contract asks of the end -/
def own_Fin (s : State) (C S : Nat) (q : Option Value → Heap → List Loc → Prop) (o : Outcome) (U : State) : Prop :=
  ∃ v L, o = .returned v ∧ q v U.heap L ∧ FrameEnd s o U L C S
/-! local variables as lists -/
def own_nth : List Slot → Nat → Option Slot
  | [], _ => none
  | a :: _, 0 => some a
  | _ :: r, n + 1 => own_nth r n
def own_put : List Slot → Nat → Slot → List Slot
  | [], _, _ => []
  | _ :: r, 0, x => x :: r
  | a :: r, n + 1, x => a :: own_put r n x
theorem own_nth_eq : ∀ (ls : List Slot) (k : Nat), (Array.mk ls)[k]? = own_nth ls k := by
  intro ls k
  show (Array.mk ls)[k]? = _
  rw [List.getElem?_toArray]
  induction ls generalizing k with
  | nil => rfl
  | cons a r ih => cases k with
    | zero => rfl
    | succ n => exact ih n
theorem own_put_eq : ∀ (ls : List Slot) (k : Nat) (x : Slot), (Array.mk ls).setIfInBounds k x = Array.mk (own_put ls k x) := by
  intro ls k x
  have h : ls.set k x = own_put ls k x := by
    induction ls generalizing k with
    | nil => rfl
    | cons a r ih => cases k with
      | zero => rfl
      | succ n => show a :: r.set n x = a :: own_put r n x; rw [ih]
  rw [← h]
  exact List.setIfInBounds_toArray _ _ _
theorem own_nth_lt {ls : List Slot} {k : Nat} {x : Slot} (h : own_nth ls k = some x) : k < (Array.mk ls).size := by
  rw [← own_nth_eq] at h
  exact (Array.getElem?_eq_some_iff.mp h).1
theorem own_size (ls : List Slot) (k : Nat) (x : Slot) : (Array.mk (own_put ls k x)).size = (Array.mk ls).size := by
  rw [← own_put_eq]; exact Array.size_setIfInBounds
theorem own_setAt {ls : List Slot} {k : Nat} (x : Slot) (h : k < (Array.mk ls).size) : setAt (Array.mk ls) k x = some (Array.mk (own_put ls k x)) := by
  rw [← own_put_eq]
  exact if_pos h
def own_self (ls : List Slot) (k : Nat) (v : Value) : Option (List Slot) :=
  match v.category with
  | 2 => match own_nth ls (k + 1) with
    | none => none
    | some .unset => some (own_put (own_put ls k (.val v)) (k + 1) .second)
    | some .second => some (own_put (own_put ls k (.val v)) (k + 1) .second)
    | some (.val w) => match w.category with
      | 2 => match own_nth ls (k + 2) with
        | none => none
        | some _ => some (own_put (own_put (own_put ls k (.val v)) (k + 2) .unset) (k + 1) .second)
      | _ => some (own_put (own_put ls k (.val v)) (k + 1) .second)
  | _ => some (own_put ls k (.val v))
def own_sto (ls : List Slot) (k : Nat) (v : Value) : Option (List Slot) :=
  match own_nth ls k with
  | none => none
  | some .unset => own_self ls k v
  | some .second => own_self (own_put ls (k - 1) .unset) k v
  | some (.val w) => match w.category with
    | 2 => match own_nth ls (k + 1) with
      | none => none
      | some _ => own_self (own_put ls (k + 1) .unset) k v
    | _ => own_self ls k v
theorem own_storeSelf (l : Array Slot) (i : Nat) (v : Value) : storeSelf l i v = (setAt l i (.val v)).bind fun l => if v.category = 2 then l[i + 1]?.bind fun o => (match o with
    | .val old => if old.category = 2 then (setAt l (i + 2) .unset).bind fun l2 => setAt l2 (i + 1) .second else setAt l (i + 1) .second
    | _ => setAt l (i + 1) .second) else some l := rfl
theorem own_storeLocals (l : Array Slot) (i : Nat) (v : Value) : storeLocals l i v = l[i]?.bind fun o => (match o with
    | .second => (setAt l (i - 1) .unset).bind fun l2 => storeSelf l2 i v
    | .val old => if old.category = 2 then (setAt l (i + 1) .unset).bind fun l2 => storeSelf l2 i v else storeSelf l i v
    | .unset => storeSelf l i v) := rfl
theorem own_nth_ne {ls : List Slot} {k j : Nat} {x : Slot} (h : j ≠ k) : own_nth (own_put ls k x) j = own_nth ls j := by
  rw [← own_nth_eq, ← own_nth_eq, ← own_put_eq]
  exact Array.getElem?_setIfInBounds_ne (Ne.symm h)
theorem own_self_ok {ls ls' : List Slot} {k : Nat} {v : Value} (hk : k < (Array.mk ls).size) (h : own_self ls k v = some ls') : storeSelf (Array.mk ls) k v = some (Array.mk ls') := by
  rw [own_storeSelf, own_setAt _ hk]
  show (if v.category = 2 then _ else _) = _
  unfold own_self at h
  split at h
  · rename_i hc
    rw [if_pos hc, own_nth_eq, own_nth_ne (by omega)]
    split at h
    · cases h
    · rename_i hn
      cases h
      rw [hn]
      exact own_setAt _ (by rw [own_size]; exact own_nth_lt hn)
    · rename_i hn
      cases h
      rw [hn]
      exact own_setAt _ (by rw [own_size]; exact own_nth_lt hn)
    · rename_i w hn
      rw [hn]
      show (if w.category = 2 then _ else _) = _
      split at h
      · rename_i hw
        rw [if_pos hw]
        split at h
        · cases h
        · rename_i y hy
          cases h
          rw [own_setAt _ (by rw [own_size]; exact own_nth_lt hy)]
          exact own_setAt _ (by rw [own_size, own_size]; exact own_nth_lt hn)
      · rename_i hw
        cases h
        rw [if_neg (fun q => hw q)]
        exact own_setAt _ (by rw [own_size]; exact own_nth_lt hn)
  · rename_i hc
    cases h
    rw [if_neg (fun q => hc q)]
theorem own_sto_ok {ls ls' : List Slot} {k : Nat} {v : Value} (h : own_sto ls k v = some ls') : storeLocals (Array.mk ls) k v = some (Array.mk ls') := by
  rw [own_storeLocals, own_nth_eq]
  unfold own_sto at h
  split at h
  · cases h
  · rename_i hn
    rw [hn]
    exact own_self_ok (own_nth_lt hn) h
  · rename_i hn
    rw [hn]
    have := own_nth_lt hn
    show ((setAt _ (k - 1) .unset).bind _) = _
    rw [own_setAt _ (by omega)]
    exact own_self_ok (by rw [own_size]; exact this) h
  · rename_i w hn
    rw [hn]
    have := own_nth_lt hn
    show (if w.category = 2 then _ else _) = _
    split at h
    · rename_i hw
      rw [if_pos hw]
      split at h
      · cases h
      · rename_i y hy
        rw [own_setAt _ (own_nth_lt hy)]
        exact own_self_ok (by rw [own_size]; exact this) h
    · rename_i hw
      rw [if_neg (fun q => hw q)]
      exact own_self_ok this h
/-! the conditions of a branch, said of whole numbers -/
def own_c0 : ClassFile.Cond → Int32 → Prop
  | .eq, a => a.toInt = 0
  | .ne, a => a.toInt ≠ 0
  | .lt, a => a.toInt < 0
  | .ge, a => 0 ≤ a.toInt
  | .gt, a => 0 < a.toInt
  | .le, a => a.toInt ≤ 0
def own_ic : ClassFile.Cond → Int32 → Int32 → Prop
  | .eq, a, b => a.toInt = b.toInt
  | .ne, a, b => a.toInt ≠ b.toInt
  | .lt, a, b => a.toInt < b.toInt
  | .ge, a, b => b.toInt ≤ a.toInt
  | .gt, a, b => b.toInt < a.toInt
  | .le, a, b => a.toInt ≤ b.toInt
theorem own_ic_ok (cd : ClassFile.Cond) (a b : Int32) : if_icmp.holds cd a b = true ↔ own_ic cd a b := by
  cases cd
  · show ((a == b) = true) ↔ a.toInt = b.toInt
    rw [beq_iff_eq, Int32.toInt_inj]
  · show ((a != b) = true) ↔ a.toInt ≠ b.toInt
    rw [bne_iff_ne, ne_eq, ne_eq, Int32.toInt_inj]
  · show (decide (a < b) = true) ↔ a.toInt < b.toInt
    rw [decide_eq_true_eq, Int32.lt_iff_toInt_lt]
  · show (decide (a ≥ b) = true) ↔ b.toInt ≤ a.toInt
    rw [decide_eq_true_eq, ge_iff_le, Int32.le_iff_toInt_le]
  · show (decide (a > b) = true) ↔ b.toInt < a.toInt
    rw [decide_eq_true_eq, gt_iff_lt, Int32.lt_iff_toInt_lt]
  · show (decide (a ≤ b) = true) ↔ a.toInt ≤ b.toInt
    rw [decide_eq_true_eq, Int32.le_iff_toInt_le]
theorem own_c0_ok (cd : ClassFile.Cond) (a : Int32) : ifCond.holds cd a = true ↔ own_c0 cd a := by
  have h : ifCond.holds cd a = if_icmp.holds cd a 0 := by cases cd <;> rfl
  rw [h, own_ic_ok]
  cases cd <;> exact Iff.rfl
/-! what is read of an array -/
def own_at (Z : State) (h : Heap) (a : Addr) (ty : FieldType) (j : Int32) (v : Value) : Prop := ∃ cl, Arr Z h a cl ty ∧ ¬ (j < 0 ∨ cl.slots.size ≤ j.toNatClampNeg) ∧ cl.slots[j.toNatClampNeg]? = some v
def own_ln (Z : State) (h : Heap) (a : Addr) (N : Int32) : Prop := ∃ cl ty, Arr Z h a cl ty ∧ cl.slots.size.toInt32 = N
/-! one plain instruction: what it asks (obligations) and where it goes on. ds: the branches' decisions; vs: the values that are read of the heap -/
def own_len : Instr → Nat
  | .iload _ => 2 | .lload _ => 2 | .fload _ => 2 | .dload _ => 2 | .aload _ => 2
  | .istore _ => 2 | .lstore _ => 2 | .fstore _ => 2 | .dstore _ => 2 | .astore _ => 2
  | .bipush _ => 2 | .ldc _ => 2 | .newarray _ => 2
  | .sipush _ => 3 | .ldc_w _ => 3 | .ldc2_w _ => 3 | .iinc _ _ => 3 | .goto _ => 3 | .ifCond _ _ => 3 | .if_icmp _ _ => 3 | .if_acmp _ _ => 3 | .ifnull _ => 3 | .ifnonnull _ => 3
  | .getfield _ => 3 | .putfield _ => 3 | .getstatic _ => 3 | .putstatic _ => 3 | .invokevirtual _ => 3 | .invokespecial _ => 3 | .invokestatic _ => 3 | .new _ => 3 | .anewarray _ => 3 | .checkcast _ => 3 | .instanceof _ => 3
  | .invokeinterface _ _ => 5 | .invokedynamic _ => 5
  | _ => 1
def own_tgt (pc : Nat) : Int → Option Nat
  | .ofNat n => some (pc + n)
  | .negSucc n => bif Nat.ble (n + 1) pc then some (pc - (n + 1)) else none
theorem own_tgt_ok {pc t : Nat} {o : Int} (h : own_tgt pc o = some t) : 0 ≤ (pc : Int) + o ∧ ((pc : Int) + o).toNat = t := by
  cases o with
  | ofNat n =>
    have h1 : pc + n = t := Option.some.inj h
    rw [Int.ofNat_eq_natCast]
    omega
  | negSucc n =>
    have h1 : (bif Nat.ble (n + 1) pc then some (pc - (n + 1)) else none) = some t := h
    cases hb : Nat.ble (n + 1) pc with
    | false => rw [hb] at h1; cases h1
    | true =>
      rw [hb] at h1
      have h2 : pc - (n + 1) = t := Option.some.inj h1
      have h3 := Nat.le_of_ble_eq_true hb
      rw [Int.negSucc_eq]
      omega
def own_key : List (Nat × Value) → Nat → Option Value
  | [], _ => none
  | (q, v) :: r, k => bif Nat.beq q k then some v else own_key r k
def own_fld : List (Nat × String × String × String) → Nat → Option (String × String × String)
  | [], _ => none
  | (q, v) :: r, k => bif Nat.beq q k then some v else own_fld r k
def own_ldI (ls : List Slot) (j : Nat) (k : Value → Prop) : Prop := match own_nth ls j with | some (.val (.int v)) => k (.int v) | _ => False
def own_ldL (ls : List Slot) (j : Nat) (k : Value → Prop) : Prop := match own_nth ls j with | some (.val (.long v)) => k (.long v) | _ => False
def own_ldD (ls : List Slot) (j : Nat) (k : Value → Prop) : Prop := match own_nth ls j with | some (.val (.double v)) => k (.double v) | _ => False
def own_ldA (ls : List Slot) (j : Nat) (k : Value → Prop) : Prop := match own_nth ls j with | some (.val (.ref a)) => k (.ref a) | some (.val .null) => k .null | _ => False
def own_stI (ls : List Slot) (st : List Value) (j : Nat) (k : List Slot → List Value → Prop) : Prop := match st with | .int x :: r => (match own_sto ls j (.int x) with | some l => k l r | none => False) | _ => False
def own_stL (ls : List Slot) (st : List Value) (j : Nat) (k : List Slot → List Value → Prop) : Prop := match st with | .long x :: r => (match own_sto ls j (.long x) with | some l => k l r | none => False) | _ => False
def own_stD (ls : List Slot) (st : List Value) (j : Nat) (k : List Slot → List Value → Prop) : Prop := match st with | .double x :: r => (match own_sto ls j (.double x) with | some l => k l r | none => False) | _ => False
def own_stA (ls : List Slot) (st : List Value) (j : Nat) (k : List Slot → List Value → Prop) : Prop := match st with | .ref x :: r => (match own_sto ls j (.ref x) with | some l => k l r | none => False) | .null :: r => (match own_sto ls j .null with | some l => k l r | none => False) | _ => False
def own_i1 (st : List Value) (f : Int32 → Value) (k : List Value → Prop) : Prop := match st with | .int x :: r => k (f x :: r) | _ => False
def own_l1 (st : List Value) (f : Int64 → Value) (k : List Value → Prop) : Prop := match st with | .long x :: r => k (f x :: r) | _ => False
def own_i2 (st : List Value) (g : Int32 → Int32 → Prop) (f : Int32 → Int32 → Value) (k : List Value → Prop) : Prop := match st with | .int y :: .int x :: r => g x y ∧ k (f x y :: r) | _ => False
def own_p2 (st : List Value) (f : Int32 → Int32 → Value) (k : List Value → Prop) : Prop := match st with | .int y :: .int x :: r => k (f x y :: r) | _ => False
def own_q2 (st : List Value) (f : Int64 → Int64 → Value) (k : List Value → Prop) : Prop := match st with | .long y :: .long x :: r => k (f x y :: r) | _ => False
def own_l2 (st : List Value) (g : Int64 → Int64 → Prop) (f : Int64 → Int64 → Value) (k : List Value → Prop) : Prop := match st with | .long y :: .long x :: r => g x y ∧ k (f x y :: r) | _ => False
def own_li (st : List Value) (f : Int64 → Int32 → Value) (k : List Value → Prop) : Prop := match st with | .int y :: .long x :: r => k (f x y :: r) | _ => False
def own_d2 (st : List Value) (f : UInt64 → UInt64 → UInt64) (k : List Value → Prop) : Prop := match st with | .double y :: .double x :: r => Jvm.Free.Fl.NoNaN64 (f x y) ∧ k (.double (f x y) :: r) | _ => False
def own_ca (st : List Value) (k : List Value → Prop) : Prop := match st with | x :: r => (match x.category with | 1 => k (x :: r) | _ => False) | _ => False
def own_al (Z : State) (h : Heap) (ty : FieldType) (st : List Value) (vs : List Value) (k : List Value → List Value → Prop) : Prop :=
  match st with | .int j :: .ref a :: r => (match vs with | v :: vs' => own_at Z h a ty j v ∧ k vs' (v :: r) | [] => False) | _ => False
def own_br (ds : List Bool) (C : Prop) (kt kn : List Bool → Prop) : Prop :=
  match ds with | true :: d => C ∧ kt d | false :: d => (¬ C) ∧ kn d | [] => False
def own_jp (pc : Nat) (o : Int) (k : Nat → Prop) : Prop := match own_tgt pc o with | some t => k t | none => False
def own_st (Kt : List (Nat × Value)) (Ft : List (Nat × String × String × String)) (Z : State) (h : Heap) (i : Instr) (pc : Nat) (ds : List Bool) (vs : List Value) (ls : List Slot) (st : List Value)
    (kf : List Bool → List Value → List Slot → List Value → Prop) (kj : Nat → List Bool → List Value → List Slot → List Value → Prop) : Prop :=
  match i with
  | .iload j => own_ldI ls j fun v => kf ds vs ls (v :: st)
  | .iload_n j => own_ldI ls j.val fun v => kf ds vs ls (v :: st)
  | .lload j => own_ldL ls j fun v => kf ds vs ls (v :: st)
  | .lload_n j => own_ldL ls j.val fun v => kf ds vs ls (v :: st)
  | .dload j => own_ldD ls j fun v => kf ds vs ls (v :: st)
  | .dload_n j => own_ldD ls j.val fun v => kf ds vs ls (v :: st)
  | .aload j => own_ldA ls j fun v => kf ds vs ls (v :: st)
  | .aload_n j => own_ldA ls j.val fun v => kf ds vs ls (v :: st)
  | .istore j => own_stI ls st j fun l r => kf ds vs l r
  | .istore_n j => own_stI ls st j.val fun l r => kf ds vs l r
  | .lstore j => own_stL ls st j fun l r => kf ds vs l r
  | .lstore_n j => own_stL ls st j.val fun l r => kf ds vs l r
  | .dstore j => own_stD ls st j fun l r => kf ds vs l r
  | .dstore_n j => own_stD ls st j.val fun l r => kf ds vs l r
  | .astore j => own_stA ls st j fun l r => kf ds vs l r
  | .astore_n j => own_stA ls st j.val fun l r => kf ds vs l r
  | .iconst n => kf ds vs ls (.int (Int32.ofInt n) :: st)
  | .bipush n => (match vs with | .int v :: vs' => (Int8.ofInt n).toInt32 = v ∧ kf ds vs' ls (.int v :: st) | _ => False)
  | .sipush n => (match vs with | .int v :: vs' => (Int16.ofInt n).toInt32 = v ∧ kf ds vs' ls (.int v :: st) | _ => False)
  | .lconst n => kf ds vs ls (.long (Int64.ofNat n) :: st)
  | .dconst n => kf ds vs ls (.double (match n.val with | 0 => 0 | _ => 4607182418800017408) :: st)
  | .aconst_null => kf ds vs ls (.null :: st)
  | .ldc n => (match own_key Kt n with | some (.int v) => kf ds vs ls (.int v :: st) | _ => False)
  | .ldc2_w n => (match own_key Kt n with | some (.long v) => kf ds vs ls (.long v :: st) | some (.double v) => kf ds vs ls (.double v :: st) | _ => False)
  | .iadd => own_p2 st (fun x y => .int (x + y)) fun r => kf ds vs ls r
  | .isub => own_p2 st (fun x y => .int (x - y)) fun r => kf ds vs ls r
  | .imul => own_p2 st (fun x y => .int (x * y)) fun r => kf ds vs ls r
  | .idiv => own_i2 st (fun _ y => y ≠ 0) (fun x y => .int (x / y)) fun r => kf ds vs ls r
  | .irem => own_i2 st (fun _ y => y ≠ 0) (fun x y => .int (x % y)) fun r => kf ds vs ls r
  | .iand => own_p2 st (fun x y => .int (x &&& y)) fun r => kf ds vs ls r
  | .ior => own_p2 st (fun x y => .int (x ||| y)) fun r => kf ds vs ls r
  | .ixor => own_p2 st (fun x y => .int (x ^^^ y)) fun r => kf ds vs ls r
  | .ishl => own_p2 st (fun x y => .int (x <<< (y &&& 31))) fun r => kf ds vs ls r
  | .ishr => own_p2 st (fun x y => .int (x >>> (y &&& 31))) fun r => kf ds vs ls r
  | .iushr => own_p2 st (fun x y => .int (Jvm.Free.XT.ushr x y)) fun r => kf ds vs ls r
  | .ineg => own_i1 st (fun x => .int (-x)) fun r => kf ds vs ls r
  | .i2l => own_i1 st (fun x => .long x.toInt64) fun r => kf ds vs ls r
  | .i2b => own_i1 st (fun x => .int x.toInt8.toInt32) fun r => kf ds vs ls r
  | .i2s => own_i1 st (fun x => .int x.toInt16.toInt32) fun r => kf ds vs ls r
  | .i2c => own_i1 st (fun x => .int x.toUInt32.toUInt16.toUInt32.toInt32) fun r => kf ds vs ls r
  | .i2d => own_i1 st (fun x => .double (FP.i2d x)) fun r => kf ds vs ls r
  | .l2i => own_l1 st (fun x => .int x.toInt32) fun r => kf ds vs ls r
  | .l2d => own_l1 st (fun x => .double (FP.l2d x)) fun r => kf ds vs ls r
  | .ladd => own_q2 st (fun x y => .long (x + y)) fun r => kf ds vs ls r
  | .lsub => own_q2 st (fun x y => .long (x - y)) fun r => kf ds vs ls r
  | .lmul => own_q2 st (fun x y => .long (x * y)) fun r => kf ds vs ls r
  | .ldiv => own_l2 st (fun _ y => y ≠ 0) (fun x y => .long (x / y)) fun r => kf ds vs ls r
  | .land => own_q2 st (fun x y => .long (x &&& y)) fun r => kf ds vs ls r
  | .lneg => own_l1 st (fun x => .long (-x)) fun r => kf ds vs ls r
  | .lshr => own_li st (fun x y => .long (x >>> (y.toInt64 &&& 63))) fun r => kf ds vs ls r
  | .lushr => own_li st (fun x y => .long (Jvm.Free.XT.ushrL x y)) fun r => kf ds vs ls r
  | .lcmp => own_q2 st (fun x y => .int (Jvm.Free.XT.cmpL x y)) fun r => kf ds vs ls r
  | .dadd => own_d2 st FP.dadd fun r => kf ds vs ls r
  | .dsub => own_d2 st FP.dsub fun r => kf ds vs ls r
  | .dmul => own_d2 st FP.dmul fun r => kf ds vs ls r
  | .ddiv => own_d2 st FP.ddiv fun r => kf ds vs ls r
  | .dneg => (match st with | .double x :: r => kf ds vs ls (.double (FP.dneg x) :: r) | _ => False)
  | .dcmp o => (match st with | .double y :: .double x :: r => kf ds vs ls (.int (cmpValue (FP.dcmp x y) o) :: r) | _ => False)
  | .iinc j n => (match own_nth ls j with | some (.val (.int x)) => (match own_sto ls j (.int (x + Int32.ofInt n)) with | some l => kf ds vs l st | none => False) | _ => False)
  | .dup => own_ca st fun st => (match st with | x :: r => kf ds vs ls (x :: x :: r) | _ => False)
  | .pop => own_ca st fun st => (match st with | _ :: r => kf ds vs ls r | _ => False)
  | .dup2 => own_ca st fun st => (match st with | x :: r => own_ca r fun r => (match r with | y :: q => kf ds vs ls (x :: y :: x :: y :: q) | _ => False) | _ => False)
  | .goto o => own_jp pc o fun t => kj t ds vs ls st
  | .ifCond cd o => (match st with | .int x :: r => own_br ds (own_c0 cd x) (fun d => own_jp pc o fun t => kj t d vs ls r) (fun d => kf d vs ls r) | _ => False)
  | .if_icmp cd o => (match st with | .int y :: .int x :: r => own_br ds (own_ic cd x y) (fun d => own_jp pc o fun t => kj t d vs ls r) (fun d => kf d vs ls r) | _ => False)
  | .ifnull o => (match st with | .null :: r => own_jp pc o fun t => kj t ds vs ls r | .ref _ :: r => kf ds vs ls r | _ => False)
  | .ifnonnull o => (match st with | .ref _ :: r => own_jp pc o fun t => kj t ds vs ls r | .null :: r => kf ds vs ls r | _ => False)
  | .arraylength => (match st with | .ref a :: r => (match vs with | .int N :: vs' => own_ln Z h a N ∧ kf ds vs' ls (.int N :: r) | _ => False) | _ => False)
  | .iaload => own_al Z h .int st vs fun vs' r => kf ds vs' ls r
  | .daload => own_al Z h .double st vs fun vs' r => kf ds vs' ls r
  | .laload => own_al Z h .long st vs fun vs' r => kf ds vs' ls r
  | .getfield n => (match st with | .ref a :: r => (match vs with | v :: vs' => (match own_fld Ft n with | some (C, f, d) => Fld Z h a C f d v ∧ kf ds vs' ls (v :: r) | none => False) | [] => False) | _ => False)
  | _ => False
theorem own_ldI_e {ls : List Slot} {j : Nat} {k : Value → Prop} (H : own_ldI ls j k) : ∃ v, own_nth ls j = some (.val (.int v)) ∧ k (.int v) := by
  unfold own_ldI at H
  split at H
  · exact ⟨_, by assumption, H⟩
  · exact H.elim
theorem own_ldL_e {ls : List Slot} {j : Nat} {k : Value → Prop} (H : own_ldL ls j k) : ∃ v, own_nth ls j = some (.val (.long v)) ∧ k (.long v) := by
  unfold own_ldL at H
  split at H
  · exact ⟨_, by assumption, H⟩
  · exact H.elim
theorem own_ldD_e {ls : List Slot} {j : Nat} {k : Value → Prop} (H : own_ldD ls j k) : ∃ v, own_nth ls j = some (.val (.double v)) ∧ k (.double v) := by
  unfold own_ldD at H
  split at H
  · exact ⟨_, by assumption, H⟩
  · exact H.elim
theorem own_ldA_e {ls : List Slot} {j : Nat} {k : Value → Prop} (H : own_ldA ls j k) : ∃ v, own_nth ls j = some (.val v) ∧ v.isRef = true ∧ k v := by
  unfold own_ldA at H
  split at H
  · exact ⟨_, by assumption, rfl, H⟩
  · exact ⟨_, by assumption, rfl, H⟩
  · exact H.elim
theorem own_stI_e {ls : List Slot} {st : List Value} {j : Nat} {k : List Slot → List Value → Prop} (H : own_stI ls st j k) : ∃ x r l, st = .int x :: r ∧ storeLocals (Array.mk ls) j (.int x) = some (Array.mk l) ∧ k l r := by
  unfold own_stI at H
  split at H
  · split at H
    · exact ⟨_, _, _, rfl, own_sto_ok (by assumption), H⟩
    · exact H.elim
  · exact H.elim
theorem own_stL_e {ls : List Slot} {st : List Value} {j : Nat} {k : List Slot → List Value → Prop} (H : own_stL ls st j k) : ∃ x r l, st = .long x :: r ∧ storeLocals (Array.mk ls) j (.long x) = some (Array.mk l) ∧ k l r := by
  unfold own_stL at H
  split at H
  · split at H
    · exact ⟨_, _, _, rfl, own_sto_ok (by assumption), H⟩
    · exact H.elim
  · exact H.elim
theorem own_stD_e {ls : List Slot} {st : List Value} {j : Nat} {k : List Slot → List Value → Prop} (H : own_stD ls st j k) : ∃ x r l, st = .double x :: r ∧ storeLocals (Array.mk ls) j (.double x) = some (Array.mk l) ∧ k l r := by
  unfold own_stD at H
  split at H
  · split at H
    · exact ⟨_, _, _, rfl, own_sto_ok (by assumption), H⟩
    · exact H.elim
  · exact H.elim
theorem own_stA_e {ls : List Slot} {st : List Value} {j : Nat} {k : List Slot → List Value → Prop} (H : own_stA ls st j k) : ∃ x r l, st = x :: r ∧ x.isRef = true ∧ storeLocals (Array.mk ls) j x = some (Array.mk l) ∧ k l r := by
  unfold own_stA at H
  split at H
  · split at H
    · exact ⟨_, _, _, rfl, rfl, own_sto_ok (by assumption), H⟩
    · exact H.elim
  · split at H
    · exact ⟨_, _, _, rfl, rfl, own_sto_ok (by assumption), H⟩
    · exact H.elim
  · exact H.elim
theorem own_i1_e {st : List Value} {f : Int32 → Value} {k : List Value → Prop} (H : own_i1 st f k) : ∃ x r, st = .int x :: r ∧ k (f x :: r) := by
  unfold own_i1 at H
  split at H
  · exact ⟨_, _, rfl, H⟩
  · exact H.elim
theorem own_l1_e {st : List Value} {f : Int64 → Value} {k : List Value → Prop} (H : own_l1 st f k) : ∃ x r, st = .long x :: r ∧ k (f x :: r) := by
  unfold own_l1 at H
  split at H
  · exact ⟨_, _, rfl, H⟩
  · exact H.elim
theorem own_i2_e {st : List Value} {g : Int32 → Int32 → Prop} {f : Int32 → Int32 → Value} {k : List Value → Prop} (H : own_i2 st g f k) : ∃ x y r, st = .int y :: .int x :: r ∧ g x y ∧ k (f x y :: r) := by
  unfold own_i2 at H
  split at H
  · exact ⟨_, _, _, rfl, H⟩
  · exact H.elim
theorem own_p2_e {st : List Value} {f : Int32 → Int32 → Value} {k : List Value → Prop} (H : own_p2 st f k) : ∃ x y r, st = .int y :: .int x :: r ∧ k (f x y :: r) := by
  unfold own_p2 at H
  split at H
  · exact ⟨_, _, _, rfl, H⟩
  · exact H.elim
theorem own_l2_e {st : List Value} {g : Int64 → Int64 → Prop} {f : Int64 → Int64 → Value} {k : List Value → Prop} (H : own_l2 st g f k) : ∃ x y r, st = .long y :: .long x :: r ∧ g x y ∧ k (f x y :: r) := by
  unfold own_l2 at H
  split at H
  · exact ⟨_, _, _, rfl, H⟩
  · exact H.elim
theorem own_q2_e {st : List Value} {f : Int64 → Int64 → Value} {k : List Value → Prop} (H : own_q2 st f k) : ∃ x y r, st = .long y :: .long x :: r ∧ k (f x y :: r) := by
  unfold own_q2 at H
  split at H
  · exact ⟨_, _, _, rfl, H⟩
  · exact H.elim
theorem own_li_e {st : List Value} {f : Int64 → Int32 → Value} {k : List Value → Prop} (H : own_li st f k) : ∃ x y r, st = .int y :: .long x :: r ∧ k (f x y :: r) := by
  unfold own_li at H
  split at H
  · exact ⟨_, _, _, rfl, H⟩
  · exact H.elim
theorem own_d2_e {st : List Value} {f : UInt64 → UInt64 → UInt64} {k : List Value → Prop} (H : own_d2 st f k) : ∃ x y r, st = .double y :: .double x :: r ∧ Jvm.Free.Fl.NoNaN64 (f x y) ∧ k (.double (f x y) :: r) := by
  unfold own_d2 at H
  split at H
  · exact ⟨_, _, _, rfl, H⟩
  · exact H.elim
theorem own_ca_e {st : List Value} {k : List Value → Prop} (H : own_ca st k) : ∃ x r, st = x :: r ∧ x.category = 1 ∧ k (x :: r) := by
  unfold own_ca at H
  split at H
  · split at H
    · exact ⟨_, _, rfl, by assumption, H⟩
    · exact H.elim
  · exact H.elim
theorem own_al_e {Z : State} {h : Heap} {ty : FieldType} {st vs : List Value} {k : List Value → List Value → Prop} (H : own_al Z h ty st vs k) : ∃ j a r v vs', st = .int j :: .ref a :: r ∧ vs = v :: vs' ∧ own_at Z h a ty j v ∧ k vs' (v :: r) := by
  unfold own_al at H
  split at H
  · split at H
    · exact ⟨_, _, _, _, _, rfl, rfl, H⟩
    · exact H.elim
  · exact H.elim
theorem own_br_e {ds : List Bool} {C : Prop} {kt kn : List Bool → Prop} (H : own_br ds C kt kn) : (C ∧ ∃ d, kt d) ∨ ((¬ C) ∧ ∃ d, kn d) := by
  unfold own_br at H
  split at H
  · exact Or.inl ⟨H.1, _, H.2⟩
  · exact Or.inr ⟨H.1, _, H.2⟩
  · exact H.elim
theorem own_jp_e {pc : Nat} {o : Int} {k : Nat → Prop} (H : own_jp pc o k) : ∃ t, 0 ≤ (pc : Int) + o ∧ ((pc : Int) + o).toNat = t ∧ k t := by
  unfold own_jp at H
  split at H
  · rename_i t ht
    exact ⟨t, (own_tgt_ok ht).1, (own_tgt_ok ht).2, H⟩
  · exact H.elim
def own_kw (own : String) (a0 : Array Value) (Z : State) : Nat × Value → Prop
  | (n, .int v) => (Jvm.Cond.constant own n v).before a0 Z = true
  | (n, .long v) => (Jvm.Cond.constantLong own n v).before a0 Z = true
  | (n, .double v) => (Jvm.Cond.constantDouble own n v).before a0 Z = true
  | _ => False
def own_ks (own : String) (a0 : Array Value) (Z : State) : List (Nat × Value) → Prop
  | [] => True
  | x :: r => own_kw own a0 Z x ∧ own_ks own a0 Z r
def own_fs (own : String) (a0 : Array Value) (Z : State) : List (Nat × String × String × String) → Prop
  | [] => True
  | (n, C, f, d) :: r => (Jvm.Cond.fieldLink own n C f d).before a0 Z = true ∧ own_fs own a0 Z r
theorem own_key_e {own : String} {a0 : Array Value} {Z : State} {n : Nat} {v : Value} : ∀ {Kt : List (Nat × Value)}, own_ks own a0 Z Kt → own_key Kt n = some v → own_kw own a0 Z (n, v)
  | [], _, h => by cases h
  | (q, w) :: r, hk, h => by
    have h' : (bif Nat.beq q n then some w else own_key r n) = some v := h
    cases hb : Nat.beq q n with
    | true =>
      rw [hb] at h'
      have e1 : w = v := Option.some.inj h'
      have e2 := Nat.eq_of_beq_eq_true hb
      subst e1 e2
      exact hk.1
    | false =>
      rw [hb] at h'
      exact own_key_e hk.2 h'
theorem own_fld_e {own : String} {a0 : Array Value} {Z : State} {n : Nat} {C f d : String} : ∀ {Ft : List (Nat × String × String × String)}, own_fs own a0 Z Ft → own_fld Ft n = some (C, f, d) → (Jvm.Cond.fieldLink own n C f d).before a0 Z = true
  | [], _, h => by cases h
  | (q, C', f', d') :: r, hk, h => by
    have h' : (bif Nat.beq q n then some (C', f', d') else own_fld r n) = some (C, f, d) := h
    cases hb : Nat.beq q n with
    | true =>
      rw [hb] at h'
      have e1 : (C', f', d') = (C, f, d) := Option.some.inj h'
      have e2 := Nat.eq_of_beq_eq_true hb
      cases e1
      subst e2
      exact hk.1
    | false =>
      rw [hb] at h'
      exact own_fld_e hk.2 h'
section OwnRun
variable {p : Program} {l : Launch} {e : Env} {R : Room} {s : State} {m : MethodId} {args : Array Value} {below : List Frame} {meth : Method} {c : Code} {T : State} {locs : List Loc} {cells slots : Nat} {Z : State} {a0 : Array Value} {h : Heap} {Q : Outcome → State → Prop} {own : String}
/-- the run goes on well from pc with these locals and this stack, at whatever state of the same heap -/
def own_Aft (X : Stand p l e R s m args below meth c T locs cells slots) (h : Heap) (Q : Outcome → State → Prop) (pc : Nat) (ls : List Slot) (st : List Value) : Prop :=
  ∀ T', Stand p l e R s m args below meth c T' locs cells slots → T'.heap = h → own_Go p.tables e below Q (T'.setTop (mkF m pc (Array.mk ls) st))
set_option maxHeartbeats 4000000 in
theorem own_st_ok (X : Stand p l e R s m args below meth c T locs cells slots) (hx : p.tables.exec = Jvm.exec) (hZ : Z.Warmed39 s.vm) (hown : s.vm.findClass own = some m.cls) (eT : T.heap = h) {Kt : List (Nat × Value)} {Ft : List (Nat × String × String × String)} (hK : own_ks own a0 Z Kt) (hF : own_fs own a0 Z Ft)
    {i : Instr} {pc : Nat} (hd : decode c.code pc = .ok (i, own_len i)) {ds : List Bool} {vs : List Value} {ls : List Slot} {st : List Value} {kf : List Bool → List Value → List Slot → List Value → Prop} {kj : Nat → List Bool → List Value → List Slot → List Value → Prop}
    (H : own_st Kt Ft Z h i pc ds vs ls st kf kj) (Hf : ∀ ds vs ls st, kf ds vs ls st → own_Aft X h Q (pc + own_len i) ls st) (Hj : ∀ t ds vs ls st, kj t ds vs ls st → own_Aft X h Q t ls st) :
    own_Go p.tables e below Q (T.setTop (mkF m pc (Array.mk ls) st)) := by
  cases i with
  | iload j =>
    have H : (own_ldI ls j fun v => kf ds vs ls (v :: st)) := H
    obtain ⟨v, hn, hk⟩ := own_ldI_e H
    exact own_go (fun t k => XS.iload X.here hx rfl hd ((own_nth_eq _ _).trans hn) k) (Hf _ _ _ _ hk T X eT)
  | iload_n j =>
    have H : (own_ldI ls j.val fun v => kf ds vs ls (v :: st)) := H
    obtain ⟨v, hn, hk⟩ := own_ldI_e H
    exact own_go (fun t k => XS.iloadN X.here hx rfl hd ((own_nth_eq _ _).trans hn) k) (Hf _ _ _ _ hk T X eT)
  | lload j =>
    have H : (own_ldL ls j fun v => kf ds vs ls (v :: st)) := H
    obtain ⟨v, hn, hk⟩ := own_ldL_e H
    exact own_go (fun t k => XT.lload X.here hx rfl hd ((own_nth_eq _ _).trans hn) k) (Hf _ _ _ _ hk T X eT)
  | lload_n j =>
    have H : (own_ldL ls j.val fun v => kf ds vs ls (v :: st)) := H
    obtain ⟨v, hn, hk⟩ := own_ldL_e H
    exact own_go (fun t k => XT.lloadN X.here hx rfl hd ((own_nth_eq _ _).trans hn) k) (Hf _ _ _ _ hk T X eT)
  | dload j =>
    have H : (own_ldD ls j fun v => kf ds vs ls (v :: st)) := H
    obtain ⟨v, hn, hk⟩ := own_ldD_e H
    exact own_go (fun t k => XS.dload X.here hx rfl hd ((own_nth_eq _ _).trans hn) k) (Hf _ _ _ _ hk T X eT)
  | dload_n j =>
    have H : (own_ldD ls j.val fun v => kf ds vs ls (v :: st)) := H
    obtain ⟨v, hn, hk⟩ := own_ldD_e H
    exact own_go (fun t k => XS.dloadN X.here hx rfl hd ((own_nth_eq _ _).trans hn) k) (Hf _ _ _ _ hk T X eT)
  | aload j =>
    have H : (own_ldA ls j fun v => kf ds vs ls (v :: st)) := H
    obtain ⟨v, hn, hv, hk⟩ := own_ldA_e H
    exact own_go (fun t k => XS.aload X.here hx rfl hd ((own_nth_eq _ _).trans hn) hv k) (Hf _ _ _ _ hk T X eT)
  | aload_n j =>
    have H : (own_ldA ls j.val fun v => kf ds vs ls (v :: st)) := H
    obtain ⟨v, hn, hv, hk⟩ := own_ldA_e H
    exact own_go (fun t k => XS.aloadN X.here hx rfl hd ((own_nth_eq _ _).trans hn) hv k) (Hf _ _ _ _ hk T X eT)
  | istore j =>
    have H : (own_stI ls st j fun l r => kf ds vs l r) := H
    obtain ⟨x, r, l', rfl, hl, hk⟩ := own_stI_e H
    exact own_go (fun t k => XS.istore X.here hx rfl hd rfl hl k) (Hf _ _ _ _ hk T X eT)
  | istore_n j =>
    have H : (own_stI ls st j.val fun l r => kf ds vs l r) := H
    obtain ⟨x, r, l', rfl, hl, hk⟩ := own_stI_e H
    exact own_go (fun t k => XS.istoreN X.here hx rfl hd rfl hl k) (Hf _ _ _ _ hk T X eT)
  | lstore j =>
    have H : (own_stL ls st j fun l r => kf ds vs l r) := H
    obtain ⟨x, r, l', rfl, hl, hk⟩ := own_stL_e H
    exact own_go (fun t k => XT.lstore X.here hx rfl hd rfl hl k) (Hf _ _ _ _ hk T X eT)
  | lstore_n j =>
    have H : (own_stL ls st j.val fun l r => kf ds vs l r) := H
    obtain ⟨x, r, l', rfl, hl, hk⟩ := own_stL_e H
    exact own_go (fun t k => XT.lstoreN X.here hx rfl hd rfl hl k) (Hf _ _ _ _ hk T X eT)
  | dstore j =>
    have H : (own_stD ls st j fun l r => kf ds vs l r) := H
    obtain ⟨x, r, l', rfl, hl, hk⟩ := own_stD_e H
    exact own_go (fun t k => XS.dstore X.here hx rfl hd rfl hl k) (Hf _ _ _ _ hk T X eT)
  | dstore_n j =>
    have H : (own_stD ls st j.val fun l r => kf ds vs l r) := H
    obtain ⟨x, r, l', rfl, hl, hk⟩ := own_stD_e H
    exact own_go (fun t k => XS.dstoreN X.here hx rfl hd rfl hl k) (Hf _ _ _ _ hk T X eT)
  | astore j =>
    have H : (own_stA ls st j fun l r => kf ds vs l r) := H
    obtain ⟨x, r, l', rfl, hv, hl, hk⟩ := own_stA_e H
    exact own_go (fun t k => XS.astore X.here hx rfl hd rfl hv hl k) (Hf _ _ _ _ hk T X eT)
  | astore_n j =>
    have H : (own_stA ls st j.val fun l r => kf ds vs l r) := H
    obtain ⟨x, r, l', rfl, hv, hl, hk⟩ := own_stA_e H
    exact own_go (fun t k => XS.astoreN X.here hx rfl hd rfl hv hl k) (Hf _ _ _ _ hk T X eT)
  | iconst n => exact own_go (fun t k => XS.iconst X.here hx rfl hd k) (Hf _ _ _ _ H T X eT)
  | bipush n =>
    have H' : (match (generalizing := false) vs with | .int v :: vs' => (Int8.ofInt n).toInt32 = v ∧ kf ds vs' ls (.int v :: st) | _ => False) := H
    split at H'
    · obtain ⟨hv, hk⟩ := H'
      subst hv
      exact own_go (fun t k => XS.bipush X.here hx rfl hd k) (Hf _ _ _ _ hk T X eT)
    · exact H'.elim
  | sipush n =>
    have H' : (match (generalizing := false) vs with | .int v :: vs' => (Int16.ofInt n).toInt32 = v ∧ kf ds vs' ls (.int v :: st) | _ => False) := H
    split at H'
    · obtain ⟨hv, hk⟩ := H'
      subst hv
      exact own_go (fun t k => XS.sipush X.here hx rfl hd k) (Hf _ _ _ _ hk T X eT)
    · exact H'.elim
  | lconst n => exact own_go (fun t k => XT.lconst X.here hx rfl hd k) (Hf _ _ _ _ H T X eT)
  | dconst n =>
    match n, hd, H, Hf with
    | ⟨0, _⟩, hd, H, Hf => exact own_go (fun t k => XS.dconst0 X.here hx rfl hd rfl k) (Hf _ _ _ _ H T X eT)
    | ⟨1, _⟩, hd, H, Hf => exact own_go (fun t k => XS.dconst1 X.here hx rfl hd rfl k) (Hf _ _ _ _ H T X eT)
  | aconst_null => exact own_go (fun t k => XS.aconstNull X.here hx rfl hd k) (Hf _ _ _ _ H T X eT)
  | ldc n =>
    have H' : (match (generalizing := false) own_key Kt n with | some (.int v) => kf ds vs ls (.int v :: st) | _ => False) := H
    split at H'
    · rename_i v hv
      exact own_go (X.ldcInt hx hown (mv hZ (own_key_e hK hv)) (g := mkF m pc (Array.mk ls) st) rfl hd) (Hf _ _ _ _ H' T X eT)
    · exact H'.elim
  | ldc2_w n =>
    have H' : (match (generalizing := false) own_key Kt n with | some (.long v) => kf ds vs ls (.long v :: st) | some (.double v) => kf ds vs ls (.double v :: st) | _ => False) := H
    split at H'
    · rename_i v hv
      exact own_go (X.ldc2Long hx hown (mv hZ (own_key_e hK hv)) (g := mkF m pc (Array.mk ls) st) rfl hd) (Hf _ _ _ _ H' T X eT)
    · rename_i v hv
      exact own_go (X.ldc2DoubleC hx hown (mv hZ (own_key_e hK hv)) (g := mkF m pc (Array.mk ls) st) rfl hd) (Hf _ _ _ _ H' T X eT)
    · exact H'.elim
  | iadd =>
    have H : (own_p2 st (fun x y => .int (x + y)) fun r => kf ds vs ls r) := H
    obtain ⟨x, y, r, rfl, hk⟩ := own_p2_e H
    exact own_go (fun t k => XS.iadd X.here hx rfl hd rfl k) (Hf _ _ _ _ hk T X eT)
  | isub =>
    have H : (own_p2 st (fun x y => .int (x - y)) fun r => kf ds vs ls r) := H
    obtain ⟨x, y, r, rfl, hk⟩ := own_p2_e H
    exact own_go (fun t k => XS.isub X.here hx rfl hd rfl k) (Hf _ _ _ _ hk T X eT)
  | imul =>
    have H : (own_p2 st (fun x y => .int (x * y)) fun r => kf ds vs ls r) := H
    obtain ⟨x, y, r, rfl, hk⟩ := own_p2_e H
    exact own_go (fun t k => XS.imul X.here hx rfl hd rfl k) (Hf _ _ _ _ hk T X eT)
  | idiv =>
    have H : (own_i2 st (fun _ y => y ≠ 0) (fun x y => .int (x / y)) fun r => kf ds vs ls r) := H
    obtain ⟨x, y, r, rfl, hg, hk⟩ := own_i2_e H
    exact own_go (fun t k => XS.idiv X.here hx rfl hd rfl hg k) (Hf _ _ _ _ hk T X eT)
  | irem =>
    have H : (own_i2 st (fun _ y => y ≠ 0) (fun x y => .int (x % y)) fun r => kf ds vs ls r) := H
    obtain ⟨x, y, r, rfl, hg, hk⟩ := own_i2_e H
    exact own_go (fun t k => iremM X hx (g := mkF m pc (Array.mk ls) _) rfl hd rfl hg k) (Hf _ _ _ _ hk T X eT)
  | iand =>
    have H : (own_p2 st (fun x y => .int (x &&& y)) fun r => kf ds vs ls r) := H
    obtain ⟨x, y, r, rfl, hk⟩ := own_p2_e H
    exact own_go (fun t k => XS.iand X.here hx rfl hd rfl k) (Hf _ _ _ _ hk T X eT)
  | ior =>
    have H : (own_p2 st (fun x y => .int (x ||| y)) fun r => kf ds vs ls r) := H
    obtain ⟨x, y, r, rfl, hk⟩ := own_p2_e H
    exact own_go (fun t k => XT.ior X.here hx rfl hd rfl k) (Hf _ _ _ _ hk T X eT)
  | ixor =>
    have H : (own_p2 st (fun x y => .int (x ^^^ y)) fun r => kf ds vs ls r) := H
    obtain ⟨x, y, r, rfl, hk⟩ := own_p2_e H
    exact own_go (fun t k => XT.ixor X.here hx rfl hd rfl k) (Hf _ _ _ _ hk T X eT)
  | ishl =>
    have H : (own_p2 st (fun x y => .int (x <<< (y &&& 31))) fun r => kf ds vs ls r) := H
    obtain ⟨x, y, r, rfl, hk⟩ := own_p2_e H
    exact own_go (fun t k => XT.ishl X.here hx rfl hd rfl k) (Hf _ _ _ _ hk T X eT)
  | ishr =>
    have H : (own_p2 st (fun x y => .int (x >>> (y &&& 31))) fun r => kf ds vs ls r) := H
    obtain ⟨x, y, r, rfl, hk⟩ := own_p2_e H
    exact own_go (fun t k => XT.ishr X.here hx rfl hd rfl k) (Hf _ _ _ _ hk T X eT)
  | iushr =>
    have H : (own_p2 st (fun x y => .int (Jvm.Free.XT.ushr x y)) fun r => kf ds vs ls r) := H
    obtain ⟨x, y, r, rfl, hk⟩ := own_p2_e H
    exact own_go (fun t k => XT.iushr X.here hx rfl hd rfl k) (Hf _ _ _ _ hk T X eT)
  | ineg =>
    have H : (own_i1 st (fun x => .int (-x)) fun r => kf ds vs ls r) := H
    obtain ⟨x, r, rfl, hk⟩ := own_i1_e H
    exact own_go (fun t k => XS.ineg X.here hx rfl hd rfl k) (Hf _ _ _ _ hk T X eT)
  | i2l =>
    have H : (own_i1 st (fun x => .long x.toInt64) fun r => kf ds vs ls r) := H
    obtain ⟨x, r, rfl, hk⟩ := own_i1_e H
    exact own_go (fun t k => XT.i2l X.here hx rfl hd rfl k) (Hf _ _ _ _ hk T X eT)
  | i2b =>
    have H : (own_i1 st (fun x => .int x.toInt8.toInt32) fun r => kf ds vs ls r) := H
    obtain ⟨x, r, rfl, hk⟩ := own_i1_e H
    exact own_go (fun t k => XT.i2b X.here hx rfl hd rfl k) (Hf _ _ _ _ hk T X eT)
  | i2s =>
    have H : (own_i1 st (fun x => .int x.toInt16.toInt32) fun r => kf ds vs ls r) := H
    obtain ⟨x, r, rfl, hk⟩ := own_i1_e H
    exact own_go (fun t k => XT.i2s X.here hx rfl hd rfl k) (Hf _ _ _ _ hk T X eT)
  | i2c =>
    have H : (own_i1 st (fun x => .int x.toUInt32.toUInt16.toUInt32.toInt32) fun r => kf ds vs ls r) := H
    obtain ⟨x, r, rfl, hk⟩ := own_i1_e H
    exact own_go (fun t k => XT.i2c X.here hx rfl hd rfl k) (Hf _ _ _ _ hk T X eT)
  | i2d =>
    have H : (own_i1 st (fun x => .double (FP.i2d x)) fun r => kf ds vs ls r) := H
    obtain ⟨x, r, rfl, hk⟩ := own_i1_e H
    exact own_go (fun t k => XS.i2dS X.here hx rfl hd rfl rfl k) (Hf _ _ _ _ hk T X eT)
  | l2i =>
    have H : (own_l1 st (fun x => .int x.toInt32) fun r => kf ds vs ls r) := H
    obtain ⟨x, r, rfl, hk⟩ := own_l1_e H
    exact own_go (fun t k => XT.l2i X.here hx rfl hd rfl k) (Hf _ _ _ _ hk T X eT)
  | l2d =>
    have H : (own_l1 st (fun x => .double (FP.l2d x)) fun r => kf ds vs ls r) := H
    obtain ⟨x, r, rfl, hk⟩ := own_l1_e H
    exact own_go (fun t k => XS.l2dS X.here hx rfl hd rfl rfl k) (Hf _ _ _ _ hk T X eT)
  | ladd =>
    have H : (own_q2 st (fun x y => .long (x + y)) fun r => kf ds vs ls r) := H
    obtain ⟨x, y, r, rfl, hk⟩ := own_q2_e H
    exact own_go (fun t k => XT.ladd X.here hx rfl hd rfl k) (Hf _ _ _ _ hk T X eT)
  | lsub =>
    have H : (own_q2 st (fun x y => .long (x - y)) fun r => kf ds vs ls r) := H
    obtain ⟨x, y, r, rfl, hk⟩ := own_q2_e H
    exact own_go (fun t k => XT.lsub X.here hx rfl hd rfl k) (Hf _ _ _ _ hk T X eT)
  | lmul =>
    have H : (own_q2 st (fun x y => .long (x * y)) fun r => kf ds vs ls r) := H
    obtain ⟨x, y, r, rfl, hk⟩ := own_q2_e H
    exact own_go (fun t k => XT.lmul X.here hx rfl hd rfl k) (Hf _ _ _ _ hk T X eT)
  | ldiv =>
    have H : (own_l2 st (fun _ y => y ≠ 0) (fun x y => .long (x / y)) fun r => kf ds vs ls r) := H
    obtain ⟨x, y, r, rfl, hg, hk⟩ := own_l2_e H
    exact own_go (fun t k => XT.ldiv X.here hx rfl hd rfl hg k) (Hf _ _ _ _ hk T X eT)
  | land =>
    have H : (own_q2 st (fun x y => .long (x &&& y)) fun r => kf ds vs ls r) := H
    obtain ⟨x, y, r, rfl, hk⟩ := own_q2_e H
    exact own_go (fun t k => XT.land X.here hx rfl hd rfl k) (Hf _ _ _ _ hk T X eT)
  | lneg =>
    have H : (own_l1 st (fun x => .long (-x)) fun r => kf ds vs ls r) := H
    obtain ⟨x, r, rfl, hk⟩ := own_l1_e H
    exact own_go (fun t k => XT.lneg X.here hx rfl hd rfl k) (Hf _ _ _ _ hk T X eT)
  | lshr =>
    have H : (own_li st (fun x y => .long (x >>> (y.toInt64 &&& 63))) fun r => kf ds vs ls r) := H
    obtain ⟨x, y, r, rfl, hk⟩ := own_li_e H
    exact own_go (fun t k => XT.lshr X.here hx rfl hd rfl k) (Hf _ _ _ _ hk T X eT)
  | lushr =>
    have H : (own_li st (fun x y => .long (Jvm.Free.XT.ushrL x y)) fun r => kf ds vs ls r) := H
    obtain ⟨x, y, r, rfl, hk⟩ := own_li_e H
    exact own_go (fun t k => XT.lushr X.here hx rfl hd rfl k) (Hf _ _ _ _ hk T X eT)
  | lcmp =>
    have H : (own_q2 st (fun x y => .int (Jvm.Free.XT.cmpL x y)) fun r => kf ds vs ls r) := H
    obtain ⟨x, y, r, rfl, hk⟩ := own_q2_e H
    exact own_go (fun t k => XT.lcmp X.here hx rfl hd rfl k) (Hf _ _ _ _ hk T X eT)
  | dadd =>
    have H : (own_d2 st FP.dadd fun r => kf ds vs ls r) := H
    obtain ⟨x, y, r, rfl, hg, hk⟩ := own_d2_e H
    exact own_go (fun t k => XS.daddS X.here hx rfl hd rfl hg rfl k) (Hf _ _ _ _ hk T X eT)
  | dsub =>
    have H : (own_d2 st FP.dsub fun r => kf ds vs ls r) := H
    obtain ⟨x, y, r, rfl, hg, hk⟩ := own_d2_e H
    exact own_go (fun t k => XS.dsubS X.here hx rfl hd rfl hg rfl k) (Hf _ _ _ _ hk T X eT)
  | dmul =>
    have H : (own_d2 st FP.dmul fun r => kf ds vs ls r) := H
    obtain ⟨x, y, r, rfl, hg, hk⟩ := own_d2_e H
    exact own_go (fun t k => XS.dmulS X.here hx rfl hd rfl hg rfl k) (Hf _ _ _ _ hk T X eT)
  | ddiv =>
    have H : (own_d2 st FP.ddiv fun r => kf ds vs ls r) := H
    obtain ⟨x, y, r, rfl, hg, hk⟩ := own_d2_e H
    exact own_go (fun t k => XS.ddivS X.here hx rfl hd rfl hg rfl k) (Hf _ _ _ _ hk T X eT)
  | dneg =>
    have H' : (match (generalizing := false) st with | .double x :: r => kf ds vs ls (.double (FP.dneg x) :: r) | _ => False) := H
    split at H'
    · exact own_go (fun t k => XS.dnegS X.here hx rfl hd rfl rfl k) (Hf _ _ _ _ H' T X eT)
    · exact H'.elim
  | dcmp o =>
    have H' : (match (generalizing := false) st with | .double y :: .double x :: r => kf ds vs ls (.int (cmpValue (FP.dcmp x y) o) :: r) | _ => False) := H
    split at H'
    · exact own_go (fun t k => XS.dcmpS X.here hx rfl hd rfl rfl k) (Hf _ _ _ _ H' T X eT)
    · exact H'.elim
  | iinc j n =>
    have H' : (match (generalizing := false) own_nth ls j with | some (.val (.int x)) => (match (generalizing := false) own_sto ls j (.int (x + Int32.ofInt n)) with | some l => kf ds vs l st | none => False) | _ => False) := H
    split at H'
    · rename_i x hn
      split at H'
      · rename_i l' hl
        exact own_go (fun t k => XS.iinc X.here hx rfl hd ((own_nth_eq _ _).trans hn) (own_sto_ok hl) k) (Hf _ _ _ _ H' T X eT)
      · exact H'.elim
    · exact H'.elim
  | dup =>
    have H : (own_ca st fun st => (match st with | x :: r => kf ds vs ls (x :: x :: r) | _ => False)) := H
    obtain ⟨x, r, rfl, hc, hk⟩ := own_ca_e H
    exact own_go (fun t k => XS.dup X.here hx rfl hd rfl hc k) (Hf _ _ _ _ hk T X eT)
  | pop =>
    have H : (own_ca st fun st => (match st with | _ :: r => kf ds vs ls r | _ => False)) := H
    obtain ⟨x, r, rfl, hc, hk⟩ := own_ca_e H
    exact own_go (fun t k => XT.pop X.here hx rfl hd rfl hc k) (Hf _ _ _ _ hk T X eT)
  | dup2 =>
    have H : (own_ca st fun st => (match st with | x :: r => own_ca r fun r => (match r with | y :: q => kf ds vs ls (x :: y :: x :: y :: q) | _ => False) | _ => False)) := H
    obtain ⟨x, r, rfl, hc, hk⟩ := own_ca_e H
    obtain ⟨y, q, rfl, hc', hk'⟩ := own_ca_e hk
    exact own_go (fun t k => XT.dup2 X.here hx rfl hd rfl hc hc' k) (Hf _ _ _ _ hk' T X eT)
  | goto o =>
    have H : (own_jp pc o fun t => kj t ds vs ls st) := H
    obtain ⟨t', h1, h2, hk⟩ := own_jp_e H
    exact own_go (fun t k => XS.goto X.here hx rfl rfl hd h1 h2 k) (Hj _ _ _ _ _ hk T X eT)
  | ifCond cd o =>
    have H' : (match (generalizing := false) st with | .int x :: r => own_br ds (own_c0 cd x) (fun d => own_jp pc o fun t => kj t d vs ls r) (fun d => kf d vs ls r) | _ => False) := H
    split at H'
    · rename_i x r
      rcases own_br_e H' with ⟨hC, d, hk⟩ | ⟨hC, d, hk⟩
      · obtain ⟨t', h1, h2, hk⟩ := own_jp_e hk
        exact own_go (fun t k => XS.ifYes X.here hx rfl rfl hd rfl ((own_c0_ok _ _).mpr hC) h1 h2 k) (Hj _ _ _ _ _ hk T X eT)
      · have hc : ifCond.holds cd x = false := by
          cases hb : ifCond.holds cd x with
          | false => rfl
          | true => exact absurd ((own_c0_ok _ _).mp hb) hC
        exact own_go (fun t k => XS.ifNo X.here hx rfl hd rfl hc k) (Hf _ _ _ _ hk T X eT)
    · exact H'.elim
  | if_icmp cd o =>
    have H' : (match (generalizing := false) st with | .int y :: .int x :: r => own_br ds (own_ic cd x y) (fun d => own_jp pc o fun t => kj t d vs ls r) (fun d => kf d vs ls r) | _ => False) := H
    split at H'
    · rename_i y x r
      rcases own_br_e H' with ⟨hC, d, hk⟩ | ⟨hC, d, hk⟩
      · obtain ⟨t', h1, h2, hk⟩ := own_jp_e hk
        exact own_go (fun t k => XS.icmpYes X.here hx rfl rfl hd rfl ((own_ic_ok _ _ _).mpr hC) h1 h2 k) (Hj _ _ _ _ _ hk T X eT)
      · have hc : if_icmp.holds cd x y = false := by
          cases hb : if_icmp.holds cd x y with
          | false => rfl
          | true => exact absurd ((own_ic_ok _ _ _).mp hb) hC
        exact own_go (fun t k => XS.icmpNo X.here hx rfl hd rfl hc k) (Hf _ _ _ _ hk T X eT)
    · exact H'.elim
  | ifnull o =>
    have H' : (match (generalizing := false) st with | .null :: r => own_jp pc o fun t => kj t ds vs ls r | .ref _ :: r => kf ds vs ls r | _ => False) := H
    split at H'
    · obtain ⟨t', h1, h2, hk⟩ := own_jp_e H'
      exact own_go (fun t k => XS.ifnullYes X.here hx rfl rfl hd rfl h1 h2 k) (Hj _ _ _ _ _ hk T X eT)
    · exact own_go (fun t k => XS.ifnullNo X.here hx rfl hd rfl k) (Hf _ _ _ _ H' T X eT)
    · exact H'.elim
  | ifnonnull o =>
    have H' : (match (generalizing := false) st with | .ref _ :: r => own_jp pc o fun t => kj t ds vs ls r | .null :: r => kf ds vs ls r | _ => False) := H
    split at H'
    · obtain ⟨t', h1, h2, hk⟩ := own_jp_e H'
      exact own_go (fun t k => XT.ifnonnullYes X.here hx rfl rfl hd rfl h1 h2 k) (Hj _ _ _ _ _ hk T X eT)
    · exact own_go (fun t k => XT.ifnonnullNo X.here hx rfl hd rfl k) (Hf _ _ _ _ H' T X eT)
    · exact H'.elim
  | arraylength =>
    have H' : (match (generalizing := false) st with | .ref a :: r => (match (generalizing := false) vs with | .int N :: vs' => own_ln Z h a N ∧ kf ds vs' ls (.int N :: r) | _ => False) | _ => False) := H
    split at H'
    · split at H'
      · rename_i a r N vs'
        obtain ⟨⟨cl, ty, A, hN⟩, hk⟩ := H'
        subst hN
        exact own_go (X.arraylength hx (by rw [eT]; exact A.1) (State.isArrayOf_alike hZ.alike A.2.1) (g := mkF m pc (Array.mk ls) _) rfl rfl hd) (Hf _ _ _ _ hk T X eT)
      · exact H'.elim
    · exact H'.elim
  | iaload =>
    have H : (own_al Z h .int st vs fun vs' r => kf ds vs' ls r) := H
    obtain ⟨j, a, r, v, vs', rfl, rfl, ⟨cl, A, hin, hv⟩, hk⟩ := own_al_e H
    exact own_go (X.iaload hx (by rw [eT]; exact A.1) (State.isArrayOf_alike hZ.alike A.2.1) A.2.2 hin hv (g := mkF m pc (Array.mk ls) _) rfl rfl hd) (Hf _ _ _ _ hk T X eT)
  | daload =>
    have H : (own_al Z h .double st vs fun vs' r => kf ds vs' ls r) := H
    obtain ⟨j, a, r, v, vs', rfl, rfl, ⟨cl, A, hin, hv⟩, hk⟩ := own_al_e H
    exact own_go (X.daload hx (by rw [eT]; exact A.1) (State.isArrayOf_alike hZ.alike A.2.1) A.2.2 hin hv (g := mkF m pc (Array.mk ls) _) rfl rfl hd) (Hf _ _ _ _ hk T X eT)
  | laload =>
    have H : (own_al Z h .long st vs fun vs' r => kf ds vs' ls r) := H
    obtain ⟨j, a, r, v, vs', rfl, rfl, ⟨cl, A, hin, hv⟩, hk⟩ := own_al_e H
    exact own_go (X.laload hx (by rw [eT]; exact A.1) (State.isArrayOf_alike hZ.alike A.2.1) A.2.2 hin hv (g := mkF m pc (Array.mk ls) _) rfl rfl hd) (Hf _ _ _ _ hk T X eT)
  | getfield n =>
    have H' : (match (generalizing := false) st with | .ref a :: r => (match (generalizing := false) vs with | v :: vs' => (match (generalizing := false) own_fld Ft n with | some (C, f, d) => Fld Z h a C f d v ∧ kf ds vs' ls (v :: r) | none => False) | [] => False) | _ => False) := H
    split at H'
    · split at H'
      · split at H'
        · rename_i a r v vs' o C f d hf
          obtain ⟨T', X', e', st'⟩ := getF X hx hZ hown (host := "") (Or.inl (own_fld_e hF hf)) Via.refl eT H'.1 (g := mkF m pc (Array.mk ls) _) rfl rfl hd
          exact own_go st' (Hf _ _ _ _ H'.2 T' X' e')
        · exact H'.elim
      · exact H'.elim
    · exact H'.elim
  | _ => exact H.elim
def own_from : List (Nat × Instr) → Nat → List (Nat × Instr)
  | [], _ => []
  | (q, i) :: r, pc => bif Nat.beq q pc then (q, i) :: r else own_from r pc
def own_dec (code : ByteArray) (tab : List (Nat × Instr)) : Prop := ∀ e ∈ tab, decode code e.1 = .ok (e.2, own_len e.2)
def own_seq : List (Nat × Instr) → Bool
  | (q, i) :: (q', i') :: r => Nat.beq q' (q + own_len i) && own_seq ((q', i') :: r)
  | _ => true
theorem own_from_sub : ∀ {full : List (Nat × Instr)} {t : Nat}, (∀ e ∈ own_from full t, e ∈ full) ∧ (own_seq full = true → own_seq (own_from full t) = true) ∧ (∀ q i r, own_from full t = (q, i) :: r → q = t)
  | [], t => ⟨fun e h => h, fun h => h, fun q i r h => by cases h⟩
  | (q, i) :: r, t => by
    have ih := own_from_sub (full := r) (t := t)
    cases hb : Nat.beq q t with
    | true =>
      have e : own_from ((q, i) :: r) t = (q, i) :: r := by show (bif Nat.beq q t then _ else _) = _; rw [hb]; rfl
      rw [e]
      refine ⟨fun e h => h, fun h => h, fun q' i' r' h => ?_⟩
      cases h
      exact Nat.eq_of_beq_eq_true hb
    | false =>
      have e : own_from ((q, i) :: r) t = own_from r t := by show (bif Nat.beq q t then _ else _) = _; rw [hb]; rfl
      rw [e]
      refine ⟨fun e h => List.mem_cons_of_mem _ (ih.1 e h), fun h => ih.2.1 ?_, ih.2.2⟩
      cases r with
      | nil => rfl
      | cons a r' =>
        obtain ⟨q', i'⟩ := a
        have h' : (Nat.beq q' (q + own_len i) && own_seq ((q', i') :: r')) = true := h
        exact (Bool.and_eq_true_iff.mp h').2
/-! a block: n plain instructions from the table's row at hand on -/
def own_wp (Kt : List (Nat × Value)) (Ft : List (Nat × String × String × String)) (Z : State) (h : Heap) (full : List (Nat × Instr)) (P : Nat → List Slot → List Value → Prop) : Nat → List (Nat × Instr) → List Bool → List Value → List Slot → List Value → Prop
  | _, [], _, _, _, _ => False
  | 0, (q, _) :: _, _, _, ls, st => P q ls st
  | n + 1, (q, i) :: r, ds, vs, ls, st => own_st Kt Ft Z h i q ds vs ls st (fun ds vs ls st => own_wp Kt Ft Z h full P n r ds vs ls st) (fun t ds vs ls st => own_wp Kt Ft Z h full P n (own_from full t) ds vs ls st)
theorem own_wp_ok {code : ByteArray} {full : List (Nat × Instr)} (hdec : own_dec code full) (hseq : own_seq full = true) (hby : c.code = code) (hx : p.tables.exec = Jvm.exec) (hZ : Z.Warmed39 s.vm) (hown : s.vm.findClass own = some m.cls) {Kt : List (Nat × Value)} {Ft : List (Nat × String × String × String)} (hK : own_ks own a0 Z Kt) (hF : own_fs own a0 Z Ft) (X : Stand p l e R s m args below meth c T locs cells slots) :
    ∀ (n : Nat) (tab : List (Nat × Instr)) (ds : List Bool) (vs : List Value) (ls : List Slot) (st : List Value), (∀ e ∈ tab, e ∈ full) → own_seq tab = true → own_wp Kt Ft Z h full (own_Aft X h Q) n tab ds vs ls st →
      ∃ q i r, tab = (q, i) :: r ∧ own_Aft X h Q q ls st
  | _, [], _, _, _, _, _, _, H => by cases ‹Nat› <;> exact H.elim
  | 0, (q, i) :: r, ds, vs, ls, st, _, _, H => ⟨q, i, r, rfl, H⟩
  | n + 1, (q, i) :: r, ds, vs, ls, st, hsub, hs, H => by
    refine ⟨q, i, r, rfl, fun T' X' e' => ?_⟩
    have hd : decode c.code q = .ok (i, own_len i) := by rw [hby]; exact hdec (q, i) (hsub (q, i) (List.mem_cons_self ..))
    have H1 : own_st Kt Ft Z h i q ds vs ls st (fun ds vs ls st => own_wp Kt Ft Z h full (own_Aft X h Q) n r ds vs ls st) (fun t ds vs ls st => own_wp Kt Ft Z h full (own_Aft X h Q) n (own_from full t) ds vs ls st) := H
    clear H
    refine own_st_ok X' hx hZ hown e' hK hF hd H1 (fun ds vs ls st hk => ?_) (fun t ds vs ls st hk => ?_)
    · cases r with
      | nil =>
        obtain ⟨q', i', r', e1, -⟩ := own_wp_ok hdec hseq hby hx hZ hown hK hF X n [] ds vs ls st (fun e he => absurd he (List.not_mem_nil)) rfl hk
        cases e1
      | cons a r' =>
        obtain ⟨q1, i1⟩ := a
        have h' : (Nat.beq q1 (q + own_len i) && own_seq ((q1, i1) :: r')) = true := hs
        obtain ⟨g1, g2⟩ := Bool.and_eq_true_iff.mp h'
        obtain ⟨q', i', r'', e1, e2⟩ := own_wp_ok hdec hseq hby hx hZ hown hK hF X n ((q1, i1) :: r') ds vs ls st (fun e he => hsub e (List.mem_cons_of_mem _ he)) g2 hk
        cases e1
        rw [← Nat.eq_of_beq_eq_true g1]
        exact e2
    · obtain ⟨q', i', r'', e1, e2⟩ := own_wp_ok hdec hseq hby hx hZ hown hK hF X n (own_from full t) ds vs ls st (own_from_sub.1) (own_from_sub.2.1 hseq) hk
      rw [← own_from_sub.2.2 _ _ _ e1]
      exact e2
/-- **A BLOCK**: n plain instructions from pc on, in one step -/
theorem own_blk {code : ByteArray} {full : List (Nat × Instr)} (hdec : own_dec code full) (hseq : own_seq full = true) (hby : c.code = code) (hx : p.tables.exec = Jvm.exec) (hZ : Z.Warmed39 s.vm) (hown : s.vm.findClass own = some m.cls) {Kt : List (Nat × Value)} {Ft : List (Nat × String × String × String)} (hK : own_ks own a0 Z Kt) (hF : own_fs own a0 Z Ft)
    (n : Nat) (ds : List Bool) (vs : List Value) (X : Stand p l e R s m args below meth c T locs cells slots) (eT : T.heap = h) {pc : Nat} {ls : List Slot} {st : List Value} (H : own_wp Kt Ft Z h full (own_Aft X h Q) n (own_from full pc) ds vs ls st) : own_Go p.tables e below Q (T.setTop (mkF m pc (Array.mk ls) st)) := by
  obtain ⟨q, i, r, e1, e2⟩ := own_wp_ok hdec hseq hby hx hZ hown hK hF X n (own_from full pc) ds vs ls st (own_from_sub.1) (own_from_sub.2.1 hseq) H
  rw [← own_from_sub.2.2 _ _ _ e1]
  exact e2 T X eT
/-- **A RETURN** of a value -/
theorem own_ret (X : Stand p l e R s m args below meth c T locs cells slots) (hx : p.tables.exec = Jvm.exec) (hlocks : meth.locks = false) (eT : T.heap = h) {C S : Nat} {q : Option Value → Heap → List Loc → Prop} {pc : Nat} {ls : List Slot} {w : Value} {rest : List Value} {t : FieldType} {i : Instr} (hret : meth.sig.returnType = some t) (hn : narrow t w = w)
    (hi : (i = .ireturn ∧ (t = .int ∨ t = .boolean ∨ t = .byte ∨ t = .char ∨ t = .short) ∧ ∃ z, w = .int z) ∨ (i = .lreturn ∧ t = .long ∧ ∃ z, w = .long z) ∨ (i = .dreturn ∧ t = .double ∧ ∃ z, w = .double z) ∨ (i = .freturn ∧ t = .float ∧ ∃ z, w = .float z) ∨ (i = .areturn ∧ t.isReference = true ∧ w.isRef = true))
    (hd : decode c.code pc = .ok (i, 1)) (hC : cells ≤ C) (hS : slots ≤ S) (hq : q (some w) h locs) : own_Go p.tables e below (own_Fin s C S q) (T.setTop (mkF m pc (Array.mk ls) (w :: rest))) := by
  obtain ⟨fs, hr, hrun, hended, hW, hsame⟩ := X.leave (v := some w) (fun h => by rw [hret] at h; cases h) hlocks
  refine ⟨_, _, retOut X hx hret hn hi hd hr, hrun, hended, some w, locs, rfl, ?_, ⟨_, rfl⟩, hW, hsame.mono hC hS⟩
  show q (some w) T.heap locs
  rw [eT]; exact hq
/-- **A RETURN** of nothing -/
theorem own_retV (X : Stand p l e R s m args below meth c T locs cells slots) (hx : p.tables.exec = Jvm.exec) (hlocks : meth.locks = false) (eT : T.heap = h) {C S : Nat} {q : Option Value → Heap → List Loc → Prop} {pc : Nat} {ls : List Slot} (hret : meth.sig.returnType = none)
    (hd : decode c.code pc = .ok (.return_, 1)) (hC : cells ≤ C) (hS : slots ≤ S) (hq : q none h locs) : own_Go p.tables e below (own_Fin s C S q) (T.setTop (mkF m pc (Array.mk ls) [])) := by
  obtain ⟨fs, hr, hrun, hended, hW, hsame⟩ := X.leave (v := none) (fun _ => rfl) hlocks
  refine ⟨_, _, X.returnOut hx hret hd hr, hrun, hended, none, locs, rfl, ?_, ⟨_, rfl⟩, hW, hsame.mono hC hS⟩
  show q none T.heap locs
  rw [eT]; exact hq
end OwnRun
/-! OWN KIT 2: steps that change the heap, and calls, as steps of own_Go -/
section OwnHeap
variable {p : Program} {l : Launch} {e : Env} {R : Room} {s : State} {m : MethodId} {args : Array Value} {below : List Frame} {meth : Method} {c : Code} {T : State} {locs : List Loc} {cells slots : Nat} {Z : State} {a0 : Array Value} {h h' : Heap} {Q : Outcome → State → Prop} {own : String} {pc : Nat} {ls : List Slot} {st : List Value}
/-- an array with just these values -/
def own_A (Z : State) (h : Heap) (a : Addr) (ty : FieldType) (vs : List Value) : Prop := ∃ cl : Cell, Arr Z h a cl ty ∧ cl.slots.toList = vs
theorem own_A.ext {a : Addr} {ty : FieldType} {vs : List Value} (A : own_A Z h a ty vs) (E : Ext h h') : own_A Z h' a ty vs := by
  obtain ⟨cl, A, q⟩ := A
  exact ⟨cl, A.ext E, q⟩
theorem own_A.keep {a : Addr} {ty : FieldType} {vs : List Value} {ws : List Addr} (A : own_A Z h a ty vs) (K : Keep h h' ws) (q : a ∉ ws) : own_A Z h' a ty vs := by
  obtain ⟨cl, A, r⟩ := A
  exact ⟨cl, ⟨K.2.1 a cl A.1 q, A.2⟩, r⟩
theorem own_A.other {a b : Addr} {ty : FieldType} {vs : List Value} {sl : Nat} {v : Value} (A : own_A Z h b ty vs) (W : Wr h h' a sl v) (hne : b ≠ a) : own_A Z h' b ty vs := by
  obtain ⟨cl, A, r⟩ := A
  exact ⟨cl, A.other W hne, r⟩
theorem own_A.same {a : Addr} {ty : FieldType} {vs : List Value} {sl : Nat} {v : Value} (A : own_A Z h a ty vs) (W : Wr h h' a sl v) : own_A Z h' a ty (vs.set sl v) := by
  obtain ⟨cl, A, r⟩ := A
  refine ⟨_, A.same W, ?_⟩
  subst r
  exact Array.toList_setIfInBounds
theorem own_A.lt {a : Addr} {ty : FieldType} {vs : List Value} (A : own_A Z h a ty vs) : a < h.size := by
  obtain ⟨cl, A, -⟩ := A
  exact A.lt
theorem own_A.at {a : Addr} {ty : FieldType} {vs : List Value} {v : Value} (A : own_A Z h a ty vs) (j : Int32) (k : Nat) (h0 : j.toInt = k) (hv : vs[k]? = some v) : own_at Z h a ty j v := by
  obtain ⟨cl, A, r⟩ := A
  have e1 : j.toNatClampNeg = k := by rw [Int32.toNatClampNeg, h0]; rfl
  have e2 : cl.slots[k]? = some v := by rw [← Array.getElem?_toList, r]; exact hv
  refine ⟨cl, A, ?_, by rw [e1]; exact e2⟩
  rintro (q | q)
  · rw [Int32.lt_iff_toInt_lt, h0] at q
    have : (0 : Int32).toInt = 0 := rfl
    omega
  · rw [e1] at q
    exact absurd (Array.getElem?_eq_some_iff.mp e2).1 (by omega)
theorem own_A.ln {a : Addr} {ty : FieldType} {vs : List Value} (A : own_A Z h a ty vs) (N : Int32) (hN : vs.length.toInt32 = N) : own_ln Z h a N := by
  obtain ⟨cl, A, r⟩ := A
  refine ⟨cl, ty, A, ?_⟩
  rw [← hN, ← r, Array.length_toList]
theorem own_A.inb {a : Addr} {ty : FieldType} {vs : List Value} (A : own_A Z h a ty vs) : ∃ cl : Cell, Arr Z h a cl ty ∧ cl.slots.size = vs.length := by
  obtain ⟨cl, A, r⟩ := A
  exact ⟨cl, A, by rw [← r, Array.length_toList]⟩
theorem own_idx {j : Int32} {k n : Nat} (h0 : j.toInt = k) (hk : k < n) : ¬ (j < 0 ∨ n ≤ j.toNatClampNeg) := by
  have e1 : j.toNatClampNeg = k := by rw [Int32.toNatClampNeg, h0]; rfl
  rintro (q | q)
  · rw [Int32.lt_iff_toInt_lt, h0] at q
    have : (0 : Int32).toInt = 0 := rfl
    omega
  · omega
/-- new C -/
theorem own_new (X : Stand p l e R s m args below meth c T locs cells slots) (hx : p.tables.exec = Jvm.exec) (hZ : Z.Warmed39 s.vm) {C : String} {index n : Nat} (hown : s.vm.findClass own = some m.cls) (w : (Cond.classLink own index C).before a0 Z = true) (wi : (Cond.instantiable C n).before a0 Z = true) (wz : (Cond.initialized C).before a0 Z = true) (eT : T.heap = h)
    (hd : decode c.code pc = .ok (.new index, 3)) (hc : cells + 1 ≤ R.cells) (hl : slots + n ≤ R.slots)
    (k : ∀ T' h' a, a = h.size → Stand p l e R s m args below meth c T' locs (cells + 1) (slots + n) → T'.heap = h' → Ext h h' → Exa Z h' a C → (∀ {O nm d : String} {ty : FieldType}, Laid Z a0 C O nm d → parseFieldDescriptor d = some ty → Fld Z h' a O nm d (defaultValue ty)) →
      own_Go p.tables e below Q (T'.setTop (mkF m (pc + 3) (Array.mk ls) (.ref a :: st)))) : own_Go p.tables e below Q (T.setTop (mkF m pc (Array.mk ls) st)) := by
  obtain ⟨T', h', X', e', E, A, D, -, st'⟩ := newO X hx hZ hown w wi wz eT (g := mkF m pc (Array.mk ls) st) rfl hd hc hl
  exact own_go st' (k T' h' _ rfl X' e' E A D)
/-- newarray of a plain kind, of a length that is known -/
theorem own_newP (X : Stand p l e R s m args below meth c T locs cells slots) (hx : p.tables.exec = Jvm.exec) (hZ : Z.Warmed39 s.vm) {aty : ArrayType} (w : (Cond.arrayClass (newarray.typeOf aty)).before a0 Z = true) (eT : T.heap = h)
    {n : Int32} (N : Nat) (hN : n.toInt = N) {cap : Nat} (hcap : N ≤ cap) (hb : cap * 8 ≤ 536870912) (hd : decode c.code pc = .ok (.newarray aty, 2)) (hc : cells + 1 ≤ R.cells) (hl : slots + cap ≤ R.slots)
    (k : ∀ T' h' a, a = h.size → Stand p l e R s m args below meth c T' locs (cells + 1) (slots + cap) → T'.heap = h' → Ext h h' → own_A Z h' a (newarray.typeOf aty) (List.replicate N (defaultValue (newarray.typeOf aty))) →
      own_Go p.tables e below Q (T'.setTop (mkF m (pc + 2) (Array.mk ls) (.ref a :: st)))) : own_Go p.tables e below Q (T.setTop (mkF m pc (Array.mk ls) (.int n :: st))) := by
  have e1 : n.toNatClampNeg = N := by rw [Int32.toNatClampNeg, hN]; rfl
  have hn : ¬ n < 0 := by
    rw [Int32.lt_iff_toInt_lt, hN]
    have : (0 : Int32).toInt = 0 := rfl
    omega
  obtain ⟨T', h', cA, X', e', E, A, st'⟩ := newP X hx hZ w eT (g := mkF m pc (Array.mk ls) (.int n :: st)) rfl hd rfl hn (cap := cap) (by rw [e1]; exact hcap) hb hc hl
  refine own_go st' (k T' h' _ rfl X' e' E ⟨_, A, ?_⟩)
  show (Array.replicate n.toNatClampNeg _).toList = _
  rw [e1]; exact Array.toList_replicate
/-- dastore -/
theorem own_sD (X : Stand p l e R s m args below meth c T locs cells slots) (hx : p.tables.exec = Jvm.exec) (hZ : Z.Warmed39 s.vm) (eT : T.heap = h) {a : Addr} {vs : List Value} (A : own_A Z h a .double vs) {j : Int32} (kk : Nat) (hj : j.toInt = kk) (hk : kk < vs.length) {x : UInt64} (hd : decode c.code pc = .ok (.dastore, 1))
    (k : ∀ T' h', Stand p l e R s m args below meth c T' (locs ++ [⟨a, kk⟩]) cells slots → T'.heap = h' → Wr h h' a kk (.double x) → own_A Z h' a .double (vs.set kk (.double x)) → own_Go p.tables e below Q (T'.setTop (mkF m (pc + 1) (Array.mk ls) st))) :
    own_Go p.tables e below Q (T.setTop (mkF m pc (Array.mk ls) (.double x :: .int j :: .ref a :: st))) := by
  have e1 : j.toNatClampNeg = kk := by rw [Int32.toNatClampNeg, hj]; rfl
  have A' := A
  obtain ⟨cl, Ar, hs⟩ := A.inb
  obtain ⟨T', h', X', e', W, st'⟩ := stD X hx hZ eT Ar (j := j) (x := x) (by rw [hs]; exact own_idx hj hk) (g := mkF m pc (Array.mk ls) (.double x :: .int j :: .ref a :: st)) rfl rfl hd
  rw [e1] at X' W
  exact own_go st' (k T' h' X' e' W (A'.same W))
/-- iastore -/
theorem own_sI (X : Stand p l e R s m args below meth c T locs cells slots) (hx : p.tables.exec = Jvm.exec) (hZ : Z.Warmed39 s.vm) (eT : T.heap = h) {a : Addr} {vs : List Value} (A : own_A Z h a .int vs) {j : Int32} (kk : Nat) (hj : j.toInt = kk) (hk : kk < vs.length) {x : Int32} (hd : decode c.code pc = .ok (.iastore, 1))
    (k : ∀ T' h', Stand p l e R s m args below meth c T' (locs ++ [⟨a, kk⟩]) cells slots → T'.heap = h' → Wr h h' a kk (.int x) → own_A Z h' a .int (vs.set kk (.int x)) → own_Go p.tables e below Q (T'.setTop (mkF m (pc + 1) (Array.mk ls) st))) :
    own_Go p.tables e below Q (T.setTop (mkF m pc (Array.mk ls) (.int x :: .int j :: .ref a :: st))) := by
  have e1 : j.toNatClampNeg = kk := by rw [Int32.toNatClampNeg, hj]; rfl
  have A' := A
  obtain ⟨cl, Ar, hs⟩ := A.inb
  obtain ⟨T', h', X', e', W, st'⟩ := stI X hx hZ eT Ar (j := j) (x := x) (by rw [hs]; exact own_idx hj hk) (g := mkF m pc (Array.mk ls) (.int x :: .int j :: .ref a :: st)) rfl rfl hd
  rw [e1] at X' W
  exact own_go st' (k T' h' X' e' W (A'.same W))
/-- putfield -/
theorem own_putF (X : Stand p l e R s m args below meth c T locs cells slots) (hx : p.tables.exec = Jvm.exec) (hZ : Z.Warmed39 s.vm) {O n d C : String} {index kk : Nat} {ty : FieldType} (hown : s.vm.findClass own = some m.cls) (w : (Cond.fieldLink own index O n d).before a0 Z = true)
    (eT : T.heap = h) {a : Addr} {v old : Value} (F : Fld Z h a O n d old) (E : Exa Z h a C) (L : (Cond.lays C O n d).before a0 Z = true ∨ ((Cond.laysFinal C O n d).before a0 Z = true ∧ own = O ∧ meth.name = "<init>")) (wi : (Cond.instantiable C kk).before a0 Z = true)
    (hty : parseFieldDescriptor d = some ty) (hn : narrow ty v = v) (hf : fits ty v = true) (hd : decode c.code pc = .ok (.putfield index, 3))
    (k : ∀ T' h', Stand p l e R s m args below meth c T' (locs ++ [⟨a, Jvm.RoadKit.slotOf Z O n d⟩]) cells slots → T'.heap = h' → Wr h h' a (Jvm.RoadKit.slotOf Z O n d) v → Fld Z h' a O n d v → Exa Z h' a C → own_Go p.tables e below Q (T'.setTop (mkF m (pc + 3) (Array.mk ls) st))) :
    own_Go p.tables e below Q (T.setTop (mkF m pc (Array.mk ls) (v :: .ref a :: st))) := by
  obtain ⟨T', h', X', e', W, st'⟩ := putF X hx hZ hown (host := "") (Or.inl w) Via.refl eT F E L wi hty hn hf (g := mkF m pc (Array.mk ls) (v :: .ref a :: st)) rfl rfl hd
  exact own_go st' (k T' h' X' e' W (F.same W) (E.wr W))
/-- Object.<init> -/
theorem own_initO (X : Stand p l e R s m args below meth c T locs cells slots) (hx : p.tables.exec = Jvm.exec) (hZ : Z.Warmed39 s.vm) {idx : Nat} (hown : s.vm.findClass own = some m.cls) (w1 : (Cond.methodLink own idx Lib.objectInit).before a0 Z = true) (w2 : (Cond.instanceMethod Lib.objectInit).before a0 Z = true)
    (w3 : (Cond.code Lib.objectInit ⟨#[0xb1]⟩ 1 none).before a0 Z = true) (eT : T.heap = h) (hsize : ls.length = c.maxLocals) {a : Addr} (hd : decode c.code pc = .ok (.invokespecial idx, 3))
    (hf : 1 ≤ R.frames) (W : Nat) (hW : (st.map fun v => v.category).sum ≤ W) (hl : W + 12 ≤ R.locals)
    (k : ∀ T', Stand p l e R s m args below meth c T' locs cells slots → T'.heap = h → own_Go p.tables e below Q (T'.setTop (mkF m (pc + 3) (Array.mk ls) st))) :
    own_Go p.tables e below Q (T.setTop (mkF m pc (Array.mk ls) (.ref a :: st))) := by
  obtain ⟨T', X', e', st'⟩ := initO X hx hZ hown w1 w2 w3 eT (g := mkF m pc (Array.mk ls) (.ref a :: st)) rfl hsize rfl hd hf (W := W) (by show 2 * 0 + _ ≤ _; omega) hl
  exact own_go st' (k T' X' e')
/-- a static call, by the callee's contract -/
theorem own_callS (X : Stand p l e R s m args below meth c T locs cells slots) (hx : p.tables.exec = Jvm.exec) (hZ : Z.Warmed39 s.vm) (hown : s.vm.findClass own = some m.cls) {index : Nat} {y : MethodName} {bytes : ByteArray} {maxL : Nat} {ret : Option FieldType} {rm : Room}
    (w1 : (Cond.methodLink own index y).before a0 Z = true) (w2 : (Cond.static y).before a0 Z = true) (w3 : (Cond.initialized y.cls).before a0 Z = true) (w4 : (Cond.code y bytes maxL ret).before a0 Z = true) (hy : y.cls ≠ "java/lang/invoke/MethodHandle" ∧ y.cls ≠ "java/lang/invoke/VarHandle")
    (eT : T.heap = h) (argsL : List Value) {ps : List FieldType} {r : Option FieldType} (hpd : parseMethodDescriptor y.desc = some ⟨ps, r⟩) (hlen : argsL.length = ps.length) {q : Option Value → Heap → List Loc → Prop}
    (hM : MetFree l y (head1 [Cond.code y bytes maxL ret] rm) (fun a U => a = argsL.toArray ∧ Z.Warmed39 U.vm ∧ U.heap = h) (fun _ _ _ _ _ => True) (fun _ U o U' => own_Fin U rm.cells rm.slots q o U'))
    (hsize : ls.length = c.maxLocals) (W : Nat) {full : List Value} (hst : full = argsL.reverse ++ st) (hW : (st.map fun v => v.category).sum ≤ W) (hd : decode c.code pc = .ok (.invokestatic index, 3)) (hf : rm.frames + 1 ≤ R.frames) (hl : W + (maxL + 11) + rm.locals ≤ R.locals) (hcc : cells + rm.cells ≤ R.cells) (hss : slots + rm.slots ≤ R.slots)
    (k : ∀ T' v L, Stand p l e R s m args below meth c T' (locs ++ L) (cells + rm.cells) (slots + rm.slots) → q v T'.heap L → own_Go p.tables e below Q (T'.setTop (mkF m (pc + 3) (Array.mk ls) (v.toList ++ st)))) :
    own_Go p.tables e below Q (T.setTop (mkF m pc (Array.mk ls) full)) := by
  subst hst
  obtain ⟨v, vm1, ⟨T', L', k', n'⟩, -, X', ⟨Lc, hq, l1, y1, z1⟩, st'⟩ := Jvm.LawKit.callS X hx hown (mvT hZ w1) (mvT hZ w2) (mvT hZ w3) (mvT hZ w4) hy (backOf (W := W) (Q := q) hM hZ w4 w3 hf hl) (g := mkF m pc (Array.mk ls) (argsL.reverse ++ st)) rfl hsize (argsL := argsL) (rest := st) (lenOf hpd hlen) rfl (by show 2 * 0 + _ ≤ _; omega) hd (fun _ _ => ⟨rfl, eT, hcc, hss⟩)
  dsimp only [Pt.U, Pt.locs, Pt.cells, Pt.slots] at X' l1 y1 z1 st' hq
  subst l1 y1 z1
  exact own_go st' (k T' v Lc X' hq)
/-- a constructor, by its contract -/
theorem own_callI (X : Stand p l e R s m args below meth c T locs cells slots) (hx : p.tables.exec = Jvm.exec) (hZ : Z.Warmed39 s.vm) (hown : s.vm.findClass own = some m.cls) {index : Nat} {y : MethodName} (hy1 : y.name = "<init>") {bytes : ByteArray} {maxL : Nat} {rm : Room}
    (w1 : (Cond.methodLink own index y).before a0 Z = true) (w2 : (Cond.instanceMethod y).before a0 Z = true) (w3 : (Cond.initialized y.cls).before a0 Z = true) (w4 : (Cond.code y bytes maxL none).before a0 Z = true) (hy : y.cls ≠ "java/lang/invoke/MethodHandle" ∧ y.cls ≠ "java/lang/invoke/VarHandle")
    (eT : T.heap = h) (a : Addr) (argsL : List Value) {ps : List FieldType} {r : Option FieldType} (hpd : parseMethodDescriptor y.desc = some ⟨ps, r⟩) (hlen : argsL.length = ps.length) {q : Option Value → Heap → List Loc → Prop}
    (hM : MetFree l y (head1 [Cond.code y bytes maxL none] rm) (fun b U => b = (.ref a :: argsL).toArray ∧ Z.Warmed39 U.vm ∧ U.heap = h) (fun _ _ _ _ _ => True) (fun _ U o U' => own_Fin U rm.cells rm.slots q o U'))
    (hsize : ls.length = c.maxLocals) (W : Nat) {full : List Value} (hst : full = argsL.reverse ++ .ref a :: st) (hW : (st.map fun v => v.category).sum ≤ W) (hd : decode c.code pc = .ok (.invokespecial index, 3)) (hf : rm.frames + 1 ≤ R.frames) (hl : W + (maxL + 11) + rm.locals ≤ R.locals) (hcc : cells + rm.cells ≤ R.cells) (hss : slots + rm.slots ≤ R.slots)
    (k : ∀ T' v L, Stand p l e R s m args below meth c T' (locs ++ L) (cells + rm.cells) (slots + rm.slots) → q v T'.heap L → own_Go p.tables e below Q (T'.setTop (mkF m (pc + 3) (Array.mk ls) (v.toList ++ st)))) :
    own_Go p.tables e below Q (T.setTop (mkF m pc (Array.mk ls) full)) := by
  subst hst
  obtain ⟨v, vm1, ⟨T', L', k', n'⟩, -, X', ⟨Lc, hq, l1, y1, z1⟩, st'⟩ := X.specialBack hx hy1 hown (mvT hZ w1) (mvT hZ w2) (mvT hZ w4) hy (backOf (W := W) (Q := q) hM hZ w4 w3 hf hl) (g := mkF m pc (Array.mk ls) (argsL.reverse ++ .ref a :: st)) rfl hsize (Steps.refl _) (a := a) (argsL := argsL) (rest := st) (lenOf hpd hlen) rfl (by show 2 * 0 + _ ≤ _; omega) hd (fun _ _ => ⟨rfl, eT, hcc, hss⟩)
  dsimp only [Pt.U, Pt.locs, Pt.cells, Pt.slots] at X' l1 y1 z1 st' hq
  subst l1 y1 z1
  exact own_go (fun t k => st'.trans k) (k T' v Lc X' hq)
/-- an instance method, by its contract -/
theorem own_callV (X : Stand p l e R s m args below meth c T locs cells slots) (hx : p.tables.exec = Jvm.exec) (hZ : Z.Warmed39 s.vm) (hown : s.vm.findClass own = some m.cls) {index : Nat} {C : String} {y : MethodName} {bytes : ByteArray} {maxL : Nat} {ret : Option FieldType} {rm : Room}
    (w1 : (Cond.methodLink own index y).before a0 Z = true) (w2 : (Cond.declares y).before a0 Z = true) (w5 : (Cond.selects C y y).before a0 Z = true) (w6 : (Cond.instanceMethod y).before a0 Z = true) (w3 : (Cond.initialized y.cls).before a0 Z = true) (w4 : (Cond.code y bytes maxL ret).before a0 Z = true) (hy : y.cls ≠ "java/lang/invoke/MethodHandle" ∧ y.cls ≠ "java/lang/invoke/VarHandle")
    (eT : T.heap = h) {a : Addr} (E : Exa Z h a C) (argsL : List Value) {ps : List FieldType} {r : Option FieldType} (hpd : parseMethodDescriptor y.desc = some ⟨ps, r⟩) (hlen : argsL.length = ps.length) {q : Option Value → Heap → List Loc → Prop}
    (hM : MetFree l y (head1 [Cond.code y bytes maxL ret] rm) (fun b U => b = (.ref a :: argsL).toArray ∧ Z.Warmed39 U.vm ∧ U.heap = h) (fun _ _ _ _ _ => True) (fun _ U o U' => own_Fin U rm.cells rm.slots q o U'))
    (hsize : ls.length = c.maxLocals) (W : Nat) {full : List Value} (hst : full = argsL.reverse ++ .ref a :: st) (hW : (st.map fun v => v.category).sum ≤ W) (hd : decode c.code pc = .ok (.invokevirtual index, 3)) (hf : rm.frames + 1 ≤ R.frames) (hl : W + (maxL + 11) + rm.locals ≤ R.locals) (hcc : cells + rm.cells ≤ R.cells) (hss : slots + rm.slots ≤ R.slots)
    (k : ∀ T' v L, Stand p l e R s m args below meth c T' (locs ++ L) (cells + rm.cells) (slots + rm.slots) → q v T'.heap L → own_Go p.tables e below Q (T'.setTop (mkF m (pc + 3) (Array.mk ls) (v.toList ++ st)))) :
    own_Go p.tables e below Q (T.setTop (mkF m pc (Array.mk ls) full)) := by
  subst hst
  obtain ⟨cB, kB, i1, i2, i3⟩ := isOf (T := T) hZ eT E
  obtain ⟨v, vm1, ⟨T', L', k', n'⟩, -, X', ⟨Lc, hq, l1, y1, z1⟩, st'⟩ := X.virtualBack hx (y := y) (z := y) hown (mvT hZ w1) (mvT hZ w2) (notFace_of_selects (args := #[]) (mvT hZ w5)) (mvT hZ w5) (mvT hZ w6) hy (backOf (W := W) (Q := q) hM hZ w4 w3 hf hl) i1 i3 (g := mkF m pc (Array.mk ls) (argsL.reverse ++ .ref a :: st)) rfl hsize (Steps.refl _) (argsL := argsL) (rest := st) (lenOf hpd hlen) rfl (by show 2 * 0 + _ ≤ _; omega) hd (fun _ _ => ⟨rfl, eT, hcc, hss⟩)
  dsimp only [Pt.U, Pt.locs, Pt.cells, Pt.slots] at X' l1 y1 z1 st' hq
  subst l1 y1 z1
  exact own_go (fun t k => st'.trans k) (k T' v Lc X' hq)
end OwnHeap
/-- a body's contract, entered: the walk begins at pc 0 -/
theorem own_body {l : Launch} {x : MethodName} {bytes : ByteArray} {maxL : Nat} {ret : Option FieldType} {ws : List Jvm.Cond} {rm : Room} {C S : Nat} {Z : State} {as' : Array Value} {h0 : Heap} {q : Option Value → Heap → List Loc → Prop} (hx : plainFor x = true)
    {ls0 : List Slot} (hent : ∀ m : MethodId, entryFrame m as' maxL = mkF m 0 (Array.mk ls0) [])
    (body : ∀ (p : Program) (e : Env) (s : State) (m : MethodId) (below : List Frame) (meth : Method) (c : Code) (T : State), p.tables.exec = Jvm.exec → c.code = bytes → c.maxLocals = maxL → s.vm.findClass x.cls = some m.cls → meth.name = x.name → meth.locks = false → meth.sig.returnType = ret → Z.Warmed39 s.vm → Stand p l e rm s m as' below meth c T [] 0 0 → T.heap = h0 →
      own_Go p.tables e below (own_Fin s C S q) (T.setTop (mkF m 0 (Array.mk ls0) []))) :
    MetFree l x (head1 (Jvm.Cond.code x bytes maxL ret :: ws) rm) (fun a U => a = as' ∧ Z.Warmed39 U.vm ∧ U.heap = h0) (fun _ _ _ _ _ => True) (fun _ U o U' => own_Fin U C S q o U') := by
  refine MetFree.of_bodySF hx hisR ?_
  intro p e s m args below meth c s₁ Bd hml0 hP hK
  obtain ⟨rfl, hZ, hh⟩ := hP
  have e0 : s₁.heap = h0 := by rw [← hh, Bd.state]; rfl
  rw [hent m]
  exact body p e s m below meth c s₁ Bd.exec Bd.bytes hml0 (findClass_of_methodNamed Bd.named) (name_of_methodNamed Bd.named Bd.method).1 Bd.notSynchronized Bd.returns hZ (Stand.of_body Bd) e0
/-! OWN KIT 3: doubles by their value in units of 2^-1074; rounding is monotone; what is a whole number of 2^-g and small is exact -/
def own_z (a : UInt64) : Int := FP.Core.zval FP.Core.b64 (FP.Core.val64 a)
def own_num (a : UInt64) : Prop := FP.Core.val64 a ≠ .nan
theorem own_fin_num {a : UInt64} (h : FP.Core.DFin a) : own_num a := FP.Core.DFin.ne_nan h
theorem own_nn {a : UInt64} (h : own_num a) : Jvm.Free.Fl.NoNaN64 a := Jvm.Free.Fl.val64_no.mpr h
theorem own_cmp {a b : UInt64} (ha : own_num a) (hb : own_num b) : FP.dcmp a b = some (compare (own_z a) (own_z b)) := FP.Core.dcmp_zval ha hb
theorem own_lt {a b : UInt64} (ha : own_num a) (hb : own_num b) (h : own_z a < own_z b) : FP.dcmp a b = some .lt := FP.Core.dcmp_lt.mpr ⟨ha, hb, h⟩
theorem own_gt {a b : UInt64} (ha : own_num a) (hb : own_num b) (h : own_z b < own_z a) : FP.dcmp a b = some .gt := FP.Core.dcmp_gt.mpr ⟨ha, hb, h⟩
theorem own_eq {a b : UInt64} (ha : own_num a) (hb : own_num b) (h : own_z a = own_z b) : FP.dcmp a b = some .eq := FP.Core.dcmp_eq.mpr ⟨ha, hb, h⟩
theorem own_num_add {a b : UInt64} (ha : FP.Core.DFin a) (hb : FP.Core.DFin b) : own_num (FP.dadd a b) :=
  Jvm.Free.Fl.val64_no.mp (Jvm.Free.Fl.dadd_out (own_nn (own_fin_num ha)) (Jvm.Free.Fl.fin64_core.mpr hb))
theorem own_num_sub {a b : UInt64} (ha : FP.Core.DFin a) (hb : FP.Core.DFin b) : own_num (FP.dsub a b) :=
  Jvm.Free.Fl.val64_no.mp (Jvm.Free.Fl.dsub_out (own_nn (own_fin_num ha)) (Jvm.Free.Fl.fin64_core.mpr hb))
theorem own_num_mul {a b : UInt64} (ha : FP.Core.DFin a) (hb : FP.Core.DFin b) : own_num (FP.dmul a b) :=
  Jvm.Free.Fl.val64_no.mp (Jvm.Free.Fl.dmul_out (Jvm.Free.Fl.fin64_core.mpr ha) (Jvm.Free.Fl.fin64_core.mpr hb))
theorem own_num_div {a b : UInt64} (ha : own_num a) (hb : FP.Core.DFin b) (hz : own_z b ≠ 0) : own_num (FP.ddiv a b) := by
  refine Jvm.Free.Fl.val64_no.mp (Jvm.Free.Fl.ddiv_out (own_nn ha) (Jvm.Free.Fl.fin64_core.mpr hb) ((Jvm.Free.Fl.nz64_iff b).mpr fun q => hz ?_))
  exact (FP.Core.zval_eq_zero (own_fin_num hb)).mpr q
theorem own_add_le {a b v : UInt64} (ha : FP.Core.DFin a) (hb : FP.Core.DFin b) (hv : own_num v) (h : own_z a + own_z b ≤ own_z v) : own_z (FP.dadd a b) ≤ own_z v := by
  show FP.Core.zval FP.Core.b64 (FP.Core.val64 (FP.Core.dadd a b)) ≤ _
  rw [FP.Core.val64_dadd]
  exact FP.Core.sum_le FP.Core.good_b64 ha hb (FP.Core.val64_fits _) (FP.Core.val64_fits _) (FP.Core.val64_fits _) hv h
theorem own_add_ge {a b v : UInt64} (ha : FP.Core.DFin a) (hb : FP.Core.DFin b) (hv : own_num v) (h : own_z v ≤ own_z a + own_z b) : own_z v ≤ own_z (FP.dadd a b) := by
  show _ ≤ FP.Core.zval FP.Core.b64 (FP.Core.val64 (FP.Core.dadd a b))
  rw [FP.Core.val64_dadd]
  exact FP.Core.sum_ge FP.Core.good_b64 ha hb (FP.Core.val64_fits _) (FP.Core.val64_fits _) (FP.Core.val64_fits _) hv h
theorem own_neg_fin {b : UInt64} (hb : FP.Core.DFin b) : ∃ s c q, FP.Core.negate (FP.Core.val64 b) = .fin s c q := by
  obtain ⟨s, c, q, e⟩ := hb
  exact ⟨!s, c, q, by rw [e]; rfl⟩
theorem own_sub_le {a b v : UInt64} (ha : FP.Core.DFin a) (hb : FP.Core.DFin b) (hv : own_num v) (h : own_z a - own_z b ≤ own_z v) : own_z (FP.dsub a b) ≤ own_z v := by
  show FP.Core.zval FP.Core.b64 (FP.Core.val64 (FP.Core.dsub a b)) ≤ _
  rw [FP.Core.val64_dsub]
  exact FP.Core.sum_le FP.Core.good_b64 ha (own_neg_fin hb) (FP.Core.val64_fits _) (FP.Core.negate_fits (FP.Core.val64_fits _)) (FP.Core.val64_fits _) hv (by rw [FP.Core.zval_negate]; exact h)
theorem own_sub_ge {a b v : UInt64} (ha : FP.Core.DFin a) (hb : FP.Core.DFin b) (hv : own_num v) (h : own_z v ≤ own_z a - own_z b) : own_z v ≤ own_z (FP.dsub a b) := by
  show _ ≤ FP.Core.zval FP.Core.b64 (FP.Core.val64 (FP.Core.dsub a b))
  rw [FP.Core.val64_dsub]
  exact FP.Core.sum_ge FP.Core.good_b64 ha (own_neg_fin hb) (FP.Core.val64_fits _) (FP.Core.negate_fits (FP.Core.val64_fits _)) (FP.Core.val64_fits _) hv (by rw [FP.Core.zval_negate]; exact h)
theorem own_pow1 : 2 ^ (FP.Core.b64.qmin - 2 * FP.Core.b64.qmin).toNat = FP.Core.one64 := by
  rw [← FP.Core.pow_qmin64, FP.Core.qmin_b64]; rfl
theorem own_mul_le {a b v : UInt64} (ha : FP.Core.DFin a) (hb : FP.Core.DFin b) (hv : own_num v) (h : own_z a * own_z b ≤ own_z v * (FP.Core.one64 : Int)) : own_z (FP.dmul a b) ≤ own_z v := by
  obtain ⟨s, c, q, e1⟩ := ha
  obtain ⟨t, d, r, e2⟩ := hb
  have f1 : FP.Core.fits FP.Core.b64 (.fin s c q) := e1 ▸ FP.Core.val64_fits a
  have f2 : FP.Core.fits FP.Core.b64 (.fin t d r) := e2 ▸ FP.Core.val64_fits b
  obtain ⟨g1, g2, g3⟩ := FP.Core.product_units f1 f2
  show FP.Core.zval FP.Core.b64 (FP.Core.val64 (FP.Core.dmul a b)) ≤ FP.Core.zval FP.Core.b64 (FP.Core.val64 v)
  unfold own_z at h
  rw [FP.Core.val64_dmul, e1, e2, g1]
  rw [e1, e2] at h
  have hq := FP.Core.qmin_neg FP.Core.good_b64
  refine FP.Core.zval_round_le FP.Core.good_b64 (e0 := 2 * FP.Core.b64.qmin) (FP.Core.val64_fits v) hv (by omega) g2 ?_
  rw [g3, own_pow1, FP.Core.signed_xor]
  exact h
theorem own_mul_ge {a b v : UInt64} (ha : FP.Core.DFin a) (hb : FP.Core.DFin b) (hv : own_num v) (h : own_z v * (FP.Core.one64 : Int) ≤ own_z a * own_z b) : own_z v ≤ own_z (FP.dmul a b) := by
  obtain ⟨s, c, q, e1⟩ := ha
  obtain ⟨t, d, r, e2⟩ := hb
  have f1 : FP.Core.fits FP.Core.b64 (.fin s c q) := e1 ▸ FP.Core.val64_fits a
  have f2 : FP.Core.fits FP.Core.b64 (.fin t d r) := e2 ▸ FP.Core.val64_fits b
  obtain ⟨g1, g2, g3⟩ := FP.Core.product_units f1 f2
  show FP.Core.zval FP.Core.b64 (FP.Core.val64 v) ≤ FP.Core.zval FP.Core.b64 (FP.Core.val64 (FP.Core.dmul a b))
  unfold own_z at h
  rw [FP.Core.val64_dmul, e1, e2, g1]
  rw [e1, e2] at h
  have hq := FP.Core.qmin_neg FP.Core.good_b64
  refine FP.Core.zval_round_ge FP.Core.good_b64 (e0 := 2 * FP.Core.b64.qmin) (FP.Core.val64_fits v) hv (by omega) g2 ?_
  rw [g3, own_pow1, FP.Core.signed_xor]
  exact h
/-- the quotient's magnitude against a double's -/
theorem own_div_mag {a b v : UInt64} {s t : Bool} {c d : Nat} {q r : Int} (e1 : FP.Core.val64 a = .fin s c q) (e2 : FP.Core.val64 b = .fin t d r) (hd : 0 < d) (hv : own_num v) :
    FP.Core.val64 (FP.ddiv a b) = FP.Core.roundRatio FP.Core.b64 (s != t) c d (q - r) ∧
    (FP.Core.zmag FP.Core.b64 (FP.Core.val64 a) * FP.Core.one64 ≤ FP.Core.zmag FP.Core.b64 (FP.Core.val64 v) * FP.Core.zmag FP.Core.b64 (FP.Core.val64 b) → FP.Core.zmag FP.Core.b64 (FP.Core.val64 (FP.ddiv a b)) ≤ FP.Core.zmag FP.Core.b64 (FP.Core.val64 v)) ∧
    (FP.Core.zmag FP.Core.b64 (FP.Core.val64 v) * FP.Core.zmag FP.Core.b64 (FP.Core.val64 b) ≤ FP.Core.zmag FP.Core.b64 (FP.Core.val64 a) * FP.Core.one64 → FP.Core.zmag FP.Core.b64 (FP.Core.val64 v) ≤ FP.Core.zmag FP.Core.b64 (FP.Core.val64 (FP.ddiv a b))) := by
  have f1 : FP.Core.fits FP.Core.b64 (.fin s c q) := e1 ▸ FP.Core.val64_fits a
  have f2 : FP.Core.fits FP.Core.b64 (.fin t d r) := e2 ▸ FP.Core.val64_fits b
  have hq := FP.Core.qmin_b64
  have k1 := f1.2.1
  have k2 := f2.2.1
  have E : FP.Core.val64 (FP.ddiv a b) = FP.Core.roundRatio FP.Core.b64 (s != t) c d (q - r) := by
    show FP.Core.val64 (FP.Core.ddiv a b) = _
    rw [FP.Core.val64_ddiv, e1, e2]
    show (if d = 0 then _ else _) = _
    rw [if_neg (by omega)]
  have A1 : FP.Core.inUnits c (q - r) (FP.Core.b64.qmin - (r - FP.Core.b64.qmin)) = FP.Core.zmag FP.Core.b64 (FP.Core.val64 a) * FP.Core.one64 := by
    rw [e1]
    show c * 2 ^ _ = c * 2 ^ _ * 2 ^ 1074
    rw [Nat.mul_assoc, ← Nat.pow_add]
    congr 2
    omega
  have A2 : 2 ^ (FP.Core.b64.qmin - (FP.Core.b64.qmin - (r - FP.Core.b64.qmin))).toNat * d = FP.Core.zmag FP.Core.b64 (FP.Core.val64 b) := by
    rw [e2]
    show _ = d * 2 ^ _
    rw [Nat.mul_comm]
    congr 2
    omega
  refine ⟨E, fun h => ?_, fun h => ?_⟩
  · rw [E]
    refine FP.Core.zmag_roundRatio_le FP.Core.good_b64 (e0 := FP.Core.b64.qmin - (r - FP.Core.b64.qmin)) hd (FP.Core.val64_fits v) hv (by omega) (by omega) ?_
    rw [A1, Nat.mul_assoc, A2]; exact h
  · rw [E]
    refine FP.Core.zmag_roundRatio_ge FP.Core.good_b64 (e0 := FP.Core.b64.qmin - (r - FP.Core.b64.qmin)) hd (FP.Core.val64_fits v) (by omega) (by omega) ?_
    rw [A1, Nat.mul_assoc, A2]; exact h
theorem own_signed_cases (s : Bool) (m : Nat) : (s = false ∧ FP.Core.signed s m = (m : Int)) ∨ (s = true ∧ FP.Core.signed s m = -(m : Int)) := by
  cases s
  · exact Or.inl ⟨rfl, rfl⟩
  · exact Or.inr ⟨rfl, rfl⟩
theorem own_div_le {a b v : UInt64} (ha : FP.Core.DFin a) (hb : FP.Core.DFin b) (hv : own_num v) (hp : 0 < own_z b) (h : own_z a * (FP.Core.one64 : Int) ≤ own_z v * own_z b) : own_z (FP.ddiv a b) ≤ own_z v := by
  obtain ⟨s, c, q, e1⟩ := ha
  obtain ⟨t, d, r, e2⟩ := hb
  have hz : own_z b = FP.Core.signed t (FP.Core.zmag FP.Core.b64 (FP.Core.val64 b)) := by unfold own_z FP.Core.zval; rw [e2]; rfl
  have ht : t = false := by
    rcases own_signed_cases t (FP.Core.zmag FP.Core.b64 (FP.Core.val64 b)) with q | q
    · exact q.1
    · rw [hz, q.2] at hp; omega
  subst ht
  have hz' : own_z b = (FP.Core.zmag FP.Core.b64 (FP.Core.val64 b) : Int) := hz
  have hd : 0 < d := by
    rcases Nat.eq_zero_or_pos d with q0 | q0
    · subst q0
      rw [hz', e2] at hp
      have : FP.Core.zmag FP.Core.b64 (.fin false 0 r) = 0 := Nat.zero_mul _
      rw [this] at hp; omega
    · exact q0
  obtain ⟨E, L, G⟩ := own_div_mag (v := v) e1 e2 hd hv
  have hsr : FP.Core.sgn (FP.Core.val64 (FP.ddiv a b)) = s := by rw [E, FP.Core.sgn_roundRatio]; cases s <;> rfl
  have za : own_z a = FP.Core.signed s (FP.Core.zmag FP.Core.b64 (FP.Core.val64 a)) := by unfold own_z FP.Core.zval; rw [e1]; rfl
  have zr : own_z (FP.ddiv a b) = FP.Core.signed s (FP.Core.zmag FP.Core.b64 (FP.Core.val64 (FP.ddiv a b))) := by unfold own_z FP.Core.zval; rw [hsr]
  have zv : own_z v = FP.Core.signed (FP.Core.sgn (FP.Core.val64 v)) (FP.Core.zmag FP.Core.b64 (FP.Core.val64 v)) := rfl
  rw [za, hz'] at h
  rw [hz'] at hp
  rw [zr]
  generalize FP.Core.zmag FP.Core.b64 (FP.Core.val64 (FP.ddiv a b)) = R at *
  generalize FP.Core.zmag FP.Core.b64 (FP.Core.val64 a) = A at *
  generalize FP.Core.zmag FP.Core.b64 (FP.Core.val64 b) = B at *
  generalize FP.Core.zmag FP.Core.b64 (FP.Core.val64 v) = V at *
  have hU := FP.Core.one64_pos
  generalize FP.Core.one64 = U at *
  rcases own_signed_cases s A with ⟨rfl, h1⟩ | ⟨rfl, h1⟩
  · rw [h1] at h
    have hn : 0 ≤ own_z v := by
      rcases Int.lt_or_le (own_z v) 0 with q | q
      · have := Int.mul_neg_of_neg_of_pos q hp
        have := Int.mul_nonneg (Int.natCast_nonneg A) (Int.natCast_nonneg U)
        omega
      · exact q
    have hvV : own_z v = (V : Int) := by
      rcases own_signed_cases (FP.Core.sgn (FP.Core.val64 v)) V with q | q
      · rw [zv]; exact q.2
      · rw [zv, q.2] at hn; rw [zv, q.2]; omega
    rw [hvV] at h ⊢
    have := L (by exact_mod_cast h)
    show (R : Int) ≤ V
    omega
  · rw [h1] at h
    show -(R : Int) ≤ own_z v
    rcases Int.lt_or_le (own_z v) 0 with q | q
    · have hvV : own_z v = -(V : Int) := by
        rcases own_signed_cases (FP.Core.sgn (FP.Core.val64 v)) V with q' | q'
        · rw [zv, q'.2] at q; omega
        · rw [zv]; exact q'.2
      rw [hvV] at h ⊢
      rw [Int.neg_mul, Int.neg_mul] at h
      have := G (by exact_mod_cast (by omega : (V : Int) * B ≤ A * U))
      omega
    · omega
theorem own_div_ge {a b v : UInt64} (ha : FP.Core.DFin a) (hb : FP.Core.DFin b) (hv : own_num v) (hp : 0 < own_z b) (h : own_z v * own_z b ≤ own_z a * (FP.Core.one64 : Int)) : own_z v ≤ own_z (FP.ddiv a b) := by
  have nz : ∀ x : UInt64, own_z (FP.Core.dneg x) = -own_z x := fun x => by
    unfold own_z
    rw [FP.Core.val64_dneg, FP.Core.zval_negate]
  have nf : FP.Core.DFin (FP.Core.dneg a) := by
    obtain ⟨s, c, q, e⟩ := ha
    exact ⟨!s, c, q, by rw [FP.Core.val64_dneg, e]; rfl⟩
  have nn : own_num (FP.Core.dneg v) := by
    unfold own_num
    rw [FP.Core.val64_dneg]
    exact FP.Core.negate_ne_nan hv
  have q := own_div_le (a := FP.Core.dneg a) (v := FP.Core.dneg v) nf hb nn hp (by rw [nz, nz, Int.neg_mul, Int.neg_mul]; omega)
  have e : FP.ddiv (FP.Core.dneg a) b = FP.Core.dneg (FP.ddiv a b) := FP.Core.ddiv_dneg a b
  rw [e, nz, nz] at q
  omega
/-- a is the number N / 2^g -/
def own_D (g : Nat) (N : Int) (a : UInt64) : Prop := FP.Core.DFin a ∧ own_z a = N * ((2 ^ (1074 - g) : Nat) : Int)
theorem own_rep (g : Nat) (hg : g ≤ 1074) (N : Int) (hN : N.natAbs < 9007199254740992) : ∃ v, own_D g N v := by
  have hq := FP.Core.qmin_b64
  obtain ⟨c', q', e1, e2⟩ := FP.Core.round_exact FP.Core.good_b64 (decide (N < 0)) (c := N.natAbs) (q := -(g : Int)) (by rw [show (2 : Nat) ^ FP.Core.b64.p = 9007199254740992 from by decide]; exact hN) (by omega) (by rw [show FP.Core.b64.qmax = 971 from by decide]; omega)
  have e3 : FP.Core.val64 (FP.Core.of64 (FP.Core.round FP.Core.b64 (.fin (decide (N < 0)) N.natAbs (-(g : Int))))) = .fin (decide (N < 0)) c' q' := by
    rw [FP.Core.val64_of64 (FP.Core.round_fits FP.Core.good_b64 _), e1]
  refine ⟨_, ⟨_, _, _, e3⟩, ?_⟩
  unfold own_z
  rw [e3]
  show FP.Core.signed (decide (N < 0)) (FP.Core.inUnits c' q' FP.Core.b64.qmin) = _
  rw [e2]
  have e4 : FP.Core.inUnits N.natAbs (-(g : Int)) FP.Core.b64.qmin = N.natAbs * 2 ^ (1074 - g) := by
    show _ * 2 ^ _ = _
    rw [hq, show (-(g : Int) - -1074).toNat = 1074 - g by omega]
  rw [e4, FP.Core.signed_mul]
  congr 1
  rcases own_signed_cases (decide (N < 0)) N.natAbs with ⟨h1, h2⟩ | ⟨h1, h2⟩
  · rw [h2]
    have := of_decide_eq_false h1
    omega
  · rw [h2]
    have := of_decide_eq_true h1
    omega
theorem own_D.num {g : Nat} {N : Int} {a : UInt64} (h : own_D g N a) : own_num a := own_fin_num h.1
theorem own_u_pos (g : Nat) : (0 : Int) < ((2 ^ (1074 - g) : Nat) : Int) := by
  have := Nat.two_pow_pos (1074 - g)
  omega
theorem own_one (g : Nat) (hg : g ≤ 1074) : (FP.Core.one64 : Int) = ((2 ^ g : Nat) : Int) * ((2 ^ (1074 - g) : Nat) : Int) := by
  rw [← Int.natCast_mul, ← Nat.pow_add, show g + (1074 - g) = 1074 by omega]
  rfl
theorem own_fin_of {r c : UInt64} (hr : own_num r) (hc : FP.Core.DFin c) (h : own_z r = own_z c) : FP.Core.DFin r := by
  have h1 := FP.Core.DFin.zval_lt hc
  cases hv : FP.Core.val64 r with
  | nan => exact absurd hv hr
  | fin s c q => exact ⟨s, c, q, hv⟩
  | inf s =>
    exfalso
    unfold own_z FP.Core.zval at h
    rw [hv] at h
    have h2 := congrArg Int.natAbs h
    rw [FP.Core.natAbs_signed, FP.Core.natAbs_signed] at h2
    rw [← h2] at h1
    exact Nat.lt_irrefl _ h1
theorem own_D.of_le_ge {g : Nat} {N : Int} {r v : UInt64} (hr : own_num r) (hv : own_D g N v) (h1 : own_z r ≤ own_z v) (h2 : own_z v ≤ own_z r) : own_D g N r := by
  have e : own_z r = own_z v := by omega
  exact ⟨own_fin_of hr hv.1 e, e.trans hv.2⟩
theorem own_D.add {g : Nat} (hg : g ≤ 1074) {N M : Int} {a b : UInt64} (ha : own_D g N a) (hb : own_D g M b) (h : (N + M).natAbs < 9007199254740992) : own_D g (N + M) (FP.dadd a b) := by
  obtain ⟨v, hv⟩ := own_rep g hg _ h
  have e : own_z a + own_z b = own_z v := by rw [ha.2, hb.2, hv.2, Int.add_mul]
  exact own_D.of_le_ge (own_num_add ha.1 hb.1) hv (own_add_le ha.1 hb.1 hv.num (by omega)) (own_add_ge ha.1 hb.1 hv.num (by omega))
theorem own_D.sub {g : Nat} (hg : g ≤ 1074) {N M : Int} {a b : UInt64} (ha : own_D g N a) (hb : own_D g M b) (h : (N - M).natAbs < 9007199254740992) : own_D g (N - M) (FP.dsub a b) := by
  obtain ⟨v, hv⟩ := own_rep g hg _ h
  have e : own_z a - own_z b = own_z v := by rw [ha.2, hb.2, hv.2, Int.sub_mul]
  exact own_D.of_le_ge (own_num_sub ha.1 hb.1) hv (own_sub_le ha.1 hb.1 hv.num (by omega)) (own_sub_ge ha.1 hb.1 hv.num (by omega))
/-- the value of a product against K / 2^g -/
theorem own_mul_z {g : Nat} (hg : g ≤ 1074) {N M K : Int} {a b v : UInt64} (ha : own_D g N a) (hb : own_D g M b) (hv : own_D g K v) :
    (N * M ≤ K * ((2 ^ g : Nat) : Int) → own_z a * own_z b ≤ own_z v * (FP.Core.one64 : Int)) ∧ (K * ((2 ^ g : Nat) : Int) ≤ N * M → own_z v * (FP.Core.one64 : Int) ≤ own_z a * own_z b) := by
  rw [ha.2, hb.2, hv.2, own_one g hg]
  have hu := own_u_pos g
  generalize ((2 ^ (1074 - g) : Nat) : Int) = u at *
  generalize ((2 ^ g : Nat) : Int) = G at *
  have e1 : N * u * (M * u) = (N * M) * (u * u) := by rw [Int.mul_assoc, Int.mul_left_comm u M u, ← Int.mul_assoc N M]
  have e2 : K * u * (G * u) = (K * G) * (u * u) := by rw [Int.mul_assoc, Int.mul_left_comm u G u, ← Int.mul_assoc K G]
  rw [e1, e2]
  have hp : 0 ≤ u * u := Int.mul_nonneg (by omega) (by omega)
  exact ⟨fun h => Int.mul_le_mul_of_nonneg_right h hp, fun h => Int.mul_le_mul_of_nonneg_right h hp⟩
theorem own_D.mul {g : Nat} (hg : g ≤ 1074) {N M K : Int} {a b : UInt64} (ha : own_D g N a) (hb : own_D g M b) (e : N * M = K * ((2 ^ g : Nat) : Int)) (h : K.natAbs < 9007199254740992) : own_D g K (FP.dmul a b) := by
  obtain ⟨v, hv⟩ := own_rep g hg _ h
  have q := own_mul_z hg ha hb hv
  exact own_D.of_le_ge (own_num_mul ha.1 hb.1) hv (own_mul_le ha.1 hb.1 hv.num (q.1 (by omega))) (own_mul_ge ha.1 hb.1 hv.num (q.2 (by omega)))
theorem own_div_z {g : Nat} (hg : g ≤ 1074) {N M K : Int} {a b v : UInt64} (ha : own_D g N a) (hb : own_D g M b) (hv : own_D g K v) :
    (N * ((2 ^ g : Nat) : Int) ≤ K * M → own_z a * (FP.Core.one64 : Int) ≤ own_z v * own_z b) ∧ (K * M ≤ N * ((2 ^ g : Nat) : Int) → own_z v * own_z b ≤ own_z a * (FP.Core.one64 : Int)) := by
  rw [ha.2, hb.2, hv.2, own_one g hg]
  have hu := own_u_pos g
  generalize ((2 ^ (1074 - g) : Nat) : Int) = u at *
  generalize ((2 ^ g : Nat) : Int) = G at *
  have e1 : N * u * (G * u) = (N * G) * (u * u) := by rw [Int.mul_assoc, Int.mul_left_comm u G u, ← Int.mul_assoc N G]
  have e2 : K * u * (M * u) = (K * M) * (u * u) := by rw [Int.mul_assoc, Int.mul_left_comm u M u, ← Int.mul_assoc K M]
  rw [e1, e2]
  have hp : 0 ≤ u * u := Int.mul_nonneg (by omega) (by omega)
  exact ⟨fun h => Int.mul_le_mul_of_nonneg_right h hp, fun h => Int.mul_le_mul_of_nonneg_right h hp⟩
theorem own_D.pos {g : Nat} {M : Int} {b : UInt64} (hb : own_D g M b) (h : 0 < M) : 0 < own_z b := by
  rw [hb.2]
  exact Int.mul_pos h (own_u_pos g)
theorem own_D.ne {g : Nat} {M : Int} {b : UInt64} (hb : own_D g M b) (h : M ≠ 0) : own_z b ≠ 0 := by
  rw [hb.2]
  exact Int.mul_ne_zero h (by have := own_u_pos g; omega)
theorem own_D.div {g : Nat} (hg : g ≤ 1074) {N M K : Int} {a b : UInt64} (ha : own_D g N a) (hb : own_D g M b) (hM : 0 < M) (e : N * ((2 ^ g : Nat) : Int) = K * M) (h : K.natAbs < 9007199254740992) : own_D g K (FP.ddiv a b) := by
  obtain ⟨v, hv⟩ := own_rep g hg _ h
  have q := own_div_z hg ha hb hv
  exact own_D.of_le_ge (own_num_div ha.num hb.1 (hb.ne (by omega))) hv (own_div_le ha.1 hb.1 hv.num (hb.pos hM) (q.1 (by omega))) (own_div_ge ha.1 hb.1 hv.num (hb.pos hM) (q.2 (by omega)))
/-- bounds on a rounded quotient, by numbers K / 2^g -/
theorem own_div_hi {g : Nat} (hg : g ≤ 1074) {N M K : Int} {a b : UInt64} (ha : own_D g N a) (hb : own_D g M b) (hM : 0 < M) (h : N * ((2 ^ g : Nat) : Int) ≤ K * M) (hK : K.natAbs < 9007199254740992) : own_z (FP.ddiv a b) ≤ K * ((2 ^ (1074 - g) : Nat) : Int) := by
  obtain ⟨v, hv⟩ := own_rep g hg _ hK
  rw [← hv.2]
  exact own_div_le ha.1 hb.1 hv.num (hb.pos hM) ((own_div_z hg ha hb hv).1 h)
theorem own_div_lo {g : Nat} (hg : g ≤ 1074) {N M K : Int} {a b : UInt64} (ha : own_D g N a) (hb : own_D g M b) (hM : 0 < M) (h : K * M ≤ N * ((2 ^ g : Nat) : Int)) (hK : K.natAbs < 9007199254740992) : K * ((2 ^ (1074 - g) : Nat) : Int) ≤ own_z (FP.ddiv a b) := by
  obtain ⟨v, hv⟩ := own_rep g hg _ hK
  rw [← hv.2]
  exact own_div_ge ha.1 hb.1 hv.num (hb.pos hM) ((own_div_z hg ha hb hv).2 h)
/-- a number between two doubles' values is finite -/
theorem own_fin_btw {g : Nat} (hg : g ≤ 1074) {A B : Int} {r : UInt64} (hr : own_num r) (h1 : A * ((2 ^ (1074 - g) : Nat) : Int) ≤ own_z r) (h2 : own_z r ≤ B * ((2 ^ (1074 - g) : Nat) : Int)) (hA : A.natAbs < 9007199254740992) (hB : B.natAbs < 9007199254740992) : FP.Core.DFin r := by
  obtain ⟨va, ha⟩ := own_rep g hg _ hA
  obtain ⟨vb, hb⟩ := own_rep g hg _ hB
  rw [← ha.2] at h1
  rw [← hb.2] at h2
  cases hv : FP.Core.val64 r with
  | nan => exact absurd hv hr
  | fin s c q => exact ⟨s, c, q, hv⟩
  | inf s =>
    exfalso
    have la := FP.Core.DFin.zval_lt ha.1
    have lb := FP.Core.DFin.zval_lt hb.1
    have e : own_z r = FP.Core.signed s (FP.Core.b64.tails * 2 ^ (FP.Core.b64.exps - 2)) := by unfold own_z FP.Core.zval; rw [hv]; rfl
    have na : (own_z va).natAbs = FP.Core.zmag FP.Core.b64 (FP.Core.val64 va) := FP.Core.natAbs_signed _ _
    have nb : (own_z vb).natAbs = FP.Core.zmag FP.Core.b64 (FP.Core.val64 vb) := FP.Core.natAbs_signed _ _
    rw [← na] at la
    rw [← nb] at lb
    generalize FP.Core.b64.tails * 2 ^ (FP.Core.b64.exps - 2) = top at *
    rcases own_signed_cases s top with ⟨-, q⟩ | ⟨-, q⟩ <;> rw [q] at e <;> omega
theorem own_D.up {g : Nat} {N : Int} {a : UInt64} (h : own_D g N a) (j : Nat) (hj : g + j ≤ 1074) : own_D (g + j) (N * ((2 ^ j : Nat) : Int)) a := by
  refine ⟨h.1, ?_⟩
  rw [h.2, Int.mul_assoc, ← Int.natCast_mul, ← Nat.pow_add, show j + (1074 - (g + j)) = 1074 - g by omega]
theorem own_D.int {i : Int} {a : UInt64} (h : FP.Core.DInt i a) : own_D 0 i a := by
  refine ⟨?_, ?_⟩
  · have h' : FP.Core.Whole i (FP.Core.val64 a) := h
    cases hv : FP.Core.val64 a with
    | nan => rw [hv] at h'; exact h'.elim
    | inf s => rw [hv] at h'; exact h'.elim
    | fin s c q => exact ⟨s, c, q, hv⟩
  · exact FP.Core.DInt_zval h
theorem own_D.i2d (x : Int32) : own_D 0 x.toInt (FP.i2d x) := own_D.int (FP.Core.i2d_int x)
theorem own_D.l2d {x : Int64} (h : x.toInt.natAbs ≤ 9007199254740992) : own_D 0 x.toInt (FP.l2d x) := own_D.int (FP.Core.l2d_int h)
/-- an int at the granularity g -/
theorem own_D.i2dg (g : Nat) (hg : g ≤ 1074) (x : Int32) : own_D g (x.toInt * ((2 ^ g : Nat) : Int)) (FP.i2d x) := by
  have := (own_D.i2d x).up g (by omega)
  rw [Nat.zero_add] at this
  exact this
theorem own_D.l2dg (g : Nat) (hg : g ≤ 1074) {x : Int64} (h : x.toInt.natAbs ≤ 9007199254740992) : own_D g (x.toInt * ((2 ^ g : Nat) : Int)) (FP.l2d x) := by
  have := (own_D.l2d h).up g (by omega)
  rw [Nat.zero_add] at this
  exact this
theorem own_D.lt {g : Nat} {N M : Int} {a b : UInt64} (ha : own_D g N a) (hb : own_D g M b) (h : N < M) : FP.dcmp a b = some .lt := own_lt ha.num hb.num (by rw [ha.2, hb.2]; exact Int.mul_lt_mul_of_pos_right h (own_u_pos g))
theorem own_D.gt {g : Nat} {N M : Int} {a b : UInt64} (ha : own_D g N a) (hb : own_D g M b) (h : M < N) : FP.dcmp a b = some .gt := own_gt ha.num hb.num (by rw [ha.2, hb.2]; exact Int.mul_lt_mul_of_pos_right h (own_u_pos g))
theorem own_D.eq {g : Nat} {N M : Int} {a b : UInt64} (ha : own_D g N a) (hb : own_D g M b) (h : N = M) : FP.dcmp a b = some .eq := own_eq ha.num hb.num (by rw [ha.2, hb.2, h])
theorem own_z_neg (a : UInt64) : own_z (FP.dneg a) = -own_z a := by
  unfold own_z
  rw [FP.val64_dneg, FP.Core.zval_negate]
theorem own_D.neg {g : Nat} {N : Int} {a : UInt64} (h : own_D g N a) : own_D g (-N) (FP.dneg a) := by
  refine ⟨?_, by rw [own_z_neg, h.2, Int.neg_mul]⟩
  obtain ⟨s, c, q, e⟩ := h.1
  exact ⟨!s, c, q, by rw [FP.val64_dneg, e]; rfl⟩
/-- (k t + r) / t, rounded, against k + c / 2^g -/
theorem own_quot {g : Nat} (hg : g ≤ 1074) {k r : Int} {T : Int64} {t : Int32} (hT : T.toInt = k * t.toInt + r) (hb : T.toInt.natAbs ≤ 9007199254740992) (ht : 0 < t.toInt) :
    own_num (FP.ddiv (FP.l2d T) (FP.i2d t)) ∧
    (r = 0 → (k * ((2 ^ g : Nat) : Int)).natAbs < 9007199254740992 → own_D g (k * ((2 ^ g : Nat) : Int)) (FP.ddiv (FP.l2d T) (FP.i2d t))) ∧
    (∀ c : Int, c * t.toInt ≤ r * ((2 ^ g : Nat) : Int) → (k * ((2 ^ g : Nat) : Int) + c).natAbs < 9007199254740992 → (k * ((2 ^ g : Nat) : Int) + c) * ((2 ^ (1074 - g) : Nat) : Int) ≤ own_z (FP.ddiv (FP.l2d T) (FP.i2d t))) ∧
    (∀ c : Int, r * ((2 ^ g : Nat) : Int) ≤ c * t.toInt → (k * ((2 ^ g : Nat) : Int) + c).natAbs < 9007199254740992 → own_z (FP.ddiv (FP.l2d T) (FP.i2d t)) ≤ (k * ((2 ^ g : Nat) : Int) + c) * ((2 ^ (1074 - g) : Nat) : Int)) ∧
    (∀ c : Int, r * ((2 ^ g : Nat) : Int) = c * t.toInt → (k * ((2 ^ g : Nat) : Int) + c).natAbs < 9007199254740992 → own_D g (k * ((2 ^ g : Nat) : Int) + c) (FP.ddiv (FP.l2d T) (FP.i2d t))) := by
  have d1 := own_D.l2dg g hg hb
  have d2 := own_D.i2dg g hg t
  have hG : (0 : Int) < ((2 ^ g : Nat) : Int) := by have := Nat.two_pow_pos g; omega
  have hM : 0 < t.toInt * ((2 ^ g : Nat) : Int) := Int.mul_pos ht hG
  have key : ∀ c : Int, (k * ((2 ^ g : Nat) : Int) + c) * (t.toInt * ((2 ^ g : Nat) : Int)) = (k * t.toInt * ((2 ^ g : Nat) : Int) + c * t.toInt) * ((2 ^ g : Nat) : Int) := by
    intro c
    rw [← Int.mul_assoc, Int.add_mul, Int.mul_right_comm]
  have key2 : T.toInt * ((2 ^ g : Nat) : Int) * ((2 ^ g : Nat) : Int) = (k * t.toInt * ((2 ^ g : Nat) : Int) + r * ((2 ^ g : Nat) : Int)) * ((2 ^ g : Nat) : Int) := by
    rw [hT, Int.add_mul (k * t.toInt)]
  have hn : own_num (FP.ddiv (FP.l2d T) (FP.i2d t)) := own_num_div d1.num d2.1 (d2.ne (by omega))
  have ex : ∀ c : Int, r * ((2 ^ g : Nat) : Int) = c * t.toInt → (k * ((2 ^ g : Nat) : Int) + c).natAbs < 9007199254740992 → own_D g (k * ((2 ^ g : Nat) : Int) + c) (FP.ddiv (FP.l2d T) (FP.i2d t)) :=
    fun c h hc => d1.div hg d2 hM (by rw [key, key2, h]) hc
  refine ⟨hn, fun h0 hc => ?_, fun c h hc => ?_, fun c h hc => ?_, ex⟩
  · have := ex 0 (by rw [h0]; omega) (by rw [Int.add_zero]; exact hc)
    rwa [Int.add_zero] at this
  · refine own_div_lo hg d1 d2 hM ?_ hc
    rw [key, key2]
    exact Int.mul_le_mul_of_nonneg_right (by omega) (by omega)
  · refine own_div_hi hg d1 d2 hM ?_ hc
    rw [key, key2]
    exact Int.mul_le_mul_of_nonneg_right (by omega) (by omega)
theorem own_D.uniq {g : Nat} {N M : Int} {a b : UInt64} (ha : own_D g N a) (hb : own_D g M b) (e : N = M) (h : M ≠ 0) : a = b :=
  FP.Core.eq_bits (fun z => hb.ne h (FP.Core.DZero.zval z)) (ha.eq hb e)
/-! OWN KIT 4: ints and longs by their whole numbers -/
theorem own_and32 (x m : Int32) (h : 0 ≤ m.toInt) : 0 ≤ (x &&& m).toInt ∧ (x &&& m).toInt ≤ m.toInt := by
  have e : (x &&& m).toBitVec.toNat = x.toBitVec.toNat &&& m.toBitVec.toNat := by
    show (x.toBitVec &&& m.toBitVec).toNat = _
    rw [BitVec.toNat_and]
  have h1 : x.toBitVec.toNat &&& m.toBitVec.toNat ≤ m.toBitVec.toNat := Nat.and_le_right
  have h2 := m.toBitVec.isLt
  have h3 : 0 ≤ m.toBitVec.toInt := h
  show 0 ≤ (x &&& m).toBitVec.toInt ∧ (x &&& m).toBitVec.toInt ≤ m.toBitVec.toInt
  rw [BitVec.toInt_eq_toNat_cond] at h3 ⊢
  rw [BitVec.toInt_eq_toNat_cond, e]
  split at h3
  · rw [if_pos (by omega), if_pos (by omega)]; omega
  · omega
theorem own_and64 (x m : Int64) (h : 0 ≤ m.toInt) : 0 ≤ (x &&& m).toInt ∧ (x &&& m).toInt ≤ m.toInt := by
  have e : (x &&& m).toBitVec.toNat = x.toBitVec.toNat &&& m.toBitVec.toNat := by
    show (x.toBitVec &&& m.toBitVec).toNat = _
    rw [BitVec.toNat_and]
  have h1 : x.toBitVec.toNat &&& m.toBitVec.toNat ≤ m.toBitVec.toNat := Nat.and_le_right
  have h2 := m.toBitVec.isLt
  have h3 : 0 ≤ m.toBitVec.toInt := h
  show 0 ≤ (x &&& m).toBitVec.toInt ∧ (x &&& m).toBitVec.toInt ≤ m.toBitVec.toInt
  rw [BitVec.toInt_eq_toNat_cond] at h3 ⊢
  rw [BitVec.toInt_eq_toNat_cond, e]
  split at h3
  · rw [if_pos (by omega), if_pos (by omega)]; omega
  · omega
theorem own_rng32 (x : Int32) : -2147483648 ≤ x.toInt ∧ x.toInt < 2147483648 := ⟨Int32.le_toInt x, Int32.toInt_lt x⟩
theorem own_rng64 (x : Int64) : -9223372036854775808 ≤ x.toInt ∧ x.toInt < 9223372036854775808 := ⟨Int64.le_toInt x, Int64.toInt_lt x⟩
theorem own_i2l (x : Int32) : x.toInt64.toInt = x.toInt := Int32.toInt_toInt64 x
theorem own_add64 {a b : Int64} (h : -9223372036854775808 ≤ a.toInt + b.toInt) (h' : a.toInt + b.toInt < 9223372036854775808) : (a + b).toInt = a.toInt + b.toInt := FP.Core.int64_add h h'
theorem own_sub64 {a b : Int64} (h : -9223372036854775808 ≤ a.toInt - b.toInt) (h' : a.toInt - b.toInt < 9223372036854775808) : (a - b).toInt = a.toInt - b.toInt := FP.Core.int64_sub h h'
theorem own_mul64 {a b : Int64} (h : -9223372036854775808 ≤ a.toInt * b.toInt) (h' : a.toInt * b.toInt < 9223372036854775808) : (a * b).toInt = a.toInt * b.toInt := FP.Core.int64_mul h h'
theorem own_add32 {a b : Int32} (h : -2147483648 ≤ a.toInt + b.toInt) (h' : a.toInt + b.toInt < 2147483648) : (a + b).toInt = a.toInt + b.toInt := by
  rw [Int32.toInt_add, Int.bmod_eq_of_le (by omega) (by omega)]
theorem own_sub32 {a b : Int32} (h : -2147483648 ≤ a.toInt - b.toInt) (h' : a.toInt - b.toInt < 2147483648) : (a - b).toInt = a.toInt - b.toInt := by
  rw [Int32.toInt_sub, Int.bmod_eq_of_le (by omega) (by omega)]
theorem own_mul32 {a b : Int32} (h : -2147483648 ≤ a.toInt * b.toInt) (h' : a.toInt * b.toInt < 2147483648) : (a * b).toInt = a.toInt * b.toInt := by
  rw [Int32.toInt_mul, Int.bmod_eq_of_le (by omega) (by omega)]
theorem own_rem32 (a b : Int32) : (a % b).toInt = a.toInt.tmod b.toInt := Int32.toInt_mod a b
theorem own_rem_pos {a b : Int32} (ha : 0 ≤ a.toInt) (hb : 0 < b.toInt) : 0 ≤ (a % b).toInt ∧ (a % b).toInt < b.toInt := by
  rw [own_rem32, Int.tmod_eq_emod_of_nonneg ha]
  exact ⟨Int.emod_nonneg _ (by omega), Int.emod_lt_of_pos _ hb⟩
/-- what a comparison of doubles pushes -/
theorem own_cv_lt {a b : UInt64} (h : FP.dcmp a b = some .lt) (o : CmpOp) : (cmpValue (FP.dcmp a b) o).toInt = -1 := by rw [h]; rfl
theorem own_cv_eq {a b : UInt64} (h : FP.dcmp a b = some .eq) (o : CmpOp) : (cmpValue (FP.dcmp a b) o).toInt = 0 := by rw [h]; rfl
theorem own_cv_gt {a b : UInt64} (h : FP.dcmp a b = some .gt) (o : CmpOp) : (cmpValue (FP.dcmp a b) o).toInt = 1 := by rw [h]; rfl
theorem own_nI : own_num 9218868437227405312 := by unfold own_num; decide +kernel
theorem own_nM : own_num 18442240474082181120 := by unfold own_num; decide +kernel
theorem own_hh : FP.dmul 7598952565167317594 7598952565167317594 = 9218868437227405312 := by decide +kernel
theorem own_h1 : ¬ (cmpValue (FP.dcmp 7598952565167317594 0) .l).toInt < 0 := by decide +kernel
theorem own_h2 : (cmpValue (FP.dcmp 7598952565167317594 9218868437227405311) .g).toInt ≤ 0 := by decide +kernel
theorem own_zc : own_D 0 0 0 := ⟨(FP.Core.fin_bits _).mpr (by decide +kernel), by decide +kernel⟩
theorem own_cM : FP.Core.DFin 9218868437227405311 := (FP.Core.fin_bits _).mpr (by decide +kernel)
theorem own_cM2 : 67108864 * ((2 ^ (1074 - 0) : Nat) : Int) ≤ own_z 9218868437227405311 := by decide +kernel
theorem own_zI {x : UInt64} (h : FP.Core.DFin x) : own_z x < own_z 9218868437227405312 := (FP.Core.dcmp_lt.mp (FP.Core.fin_lt_inf h).1).2.2
theorem own_zN {x : UInt64} (h : FP.Core.DFin x) : own_z 18442240474082181120 < own_z x := (FP.Core.dcmp_gt.mp (FP.Core.fin_lt_inf h).2.1).2.2
/-- the radius and its square -/
theorem own_rad (r : Int64) (r0 : 0 ≤ r.toInt) (r1 : r.toInt ≤ 67108863) : own_D 0 r.toInt (FP.l2d r) ∧ own_D 0 (r.toInt * r.toInt) (FP.dmul (FP.l2d r) (FP.l2d r)) ∧ 0 ≤ r.toInt * r.toInt ∧ r.toInt * r.toInt ≤ 4503599627370496 ∧ (r * r).toInt = r.toInt * r.toInt := by
  have p0 : 0 ≤ r.toInt * r.toInt := Int.mul_nonneg r0 r0
  have p1 : r.toInt * r.toInt ≤ 67108863 * 67108863 := Int.mul_le_mul r1 r1 r0 (by omega)
  have d := own_D.l2d (x := r) (by omega)
  refine ⟨d, d.mul (by omega) d (by omega) (by omega), p0, by omega, own_mul64 (by omega) (by omega)⟩
theorem own_rad1 (r : UInt64) (n : Int) (h : own_D 0 n r) (n0 : 0 ≤ n) : ¬ (cmpValue (FP.dcmp r 0) .l).toInt < 0 := by
  rcases Int.lt_or_eq_of_le n0 with q | q
  · rw [own_cv_gt (h.gt own_zc q)]; omega
  · rw [own_cv_eq (h.eq own_zc q.symm)]; omega
theorem own_rad2 (r : UInt64) (n : Int) (h : own_D 0 n r) (n1 : n < 67108864) : (cmpValue (FP.dcmp r 9218868437227405311) .g).toInt ≤ 0 := by
  have q : own_z r < own_z 9218868437227405311 := by
    rw [h.2]
    exact Int.lt_of_lt_of_le (Int.mul_lt_mul_of_pos_right n1 (own_u_pos 0)) own_cM2
  rw [own_cv_lt (own_lt h.num (own_fin_num own_cM) q)]; omega
/-- a long's double against a whole number -/
theorem own_l2d_cmp (s : Int64) (B : Int) (l : UInt64) (hl : own_D 0 B l) (hB : B.natAbs < 9007199254740991) : own_num (FP.l2d s) ∧ (s.toInt ≤ B → own_z (FP.l2d s) ≤ own_z l) ∧ (B < s.toInt → own_z l < own_z (FP.l2d s)) ∧ (B ≤ s.toInt → own_z l ≤ own_z (FP.l2d s)) ∧ (s.toInt < B → own_z (FP.l2d s) < own_z l) := by
  have hu := own_u_pos 0
  have mono : ∀ x y : Int, x ≤ y → x * (FP.Core.one64 : Int) ≤ y * (FP.Core.one64 : Int) := fun x y h => Int.mul_le_mul_of_nonneg_right h (Int.natCast_nonneg _)
  have smono : ∀ x y : Int, x < y → x * ((2 ^ (1074 - 0) : Nat) : Int) < y * ((2 ^ (1074 - 0) : Nat) : Int) := fun x y h => Int.mul_lt_mul_of_pos_right h hu
  have e : ∀ N : Int, N * ((2 ^ (1074 - 0) : Nat) : Int) = N * (FP.Core.one64 : Int) := fun N => rfl
  have le : ∀ (N : Int) (v : UInt64), own_D 0 N v → s.toInt ≤ N → own_z (FP.l2d s) ≤ own_z v := fun N v hv h => FP.Core.l2d_zval_le hv.num (by show _ ≤ own_z v; rw [hv.2, e]; exact mono _ _ h)
  have ge : ∀ (N : Int) (v : UInt64), own_D 0 N v → N ≤ s.toInt → own_z v ≤ own_z (FP.l2d s) := fun N v hv h => FP.Core.l2d_zval_ge hv.num (by show own_z v ≤ _; rw [hv.2, e]; exact mono _ _ h)
  refine ⟨own_fin_num (FP.Core.l2d_fin s), le B l hl, fun h => ?_, ge B l hl, fun h => ?_⟩
  · obtain ⟨v, hv⟩ := own_rep 0 (by omega) (B + 1) (by omega)
    refine Int.lt_of_lt_of_le ?_ (ge _ v hv (by omega))
    rw [hl.2, hv.2]; exact smono _ _ (by omega)
  · obtain ⟨v, hv⟩ := own_rep 0 (by omega) (B - 1) (by omega)
    refine Int.lt_of_le_of_lt (le _ v hv (by omega)) ?_
    rw [hl.2, hv.2]; exact smono _ _ (by omega)
theorem own_cmpL (x y : Int64) : (Jvm.Free.XT.cmpL x y).toInt = if y.toInt < x.toInt then 1 else if x.toInt = y.toInt then 0 else -1 := by
  show (if y < x then (1 : Int32) else if x = y then 0 else -1).toInt = _
  by_cases h1 : y < x
  · rw [if_pos h1, if_pos (Int64.lt_iff_toInt_lt.mp h1)]; rfl
  · rw [if_neg h1, if_neg (fun q => h1 (Int64.lt_iff_toInt_lt.mpr q))]
    by_cases h2 : x = y
    · rw [if_pos h2, if_pos (by rw [h2])]; rfl
    · rw [if_neg h2, if_neg (fun q => h2 (Int64.toInt_inj.mp q))]; rfl
def tab0 : List (Nat × Instr) := [(0, .iload 4), (2, .iconst 3), (3, .iand), (4, .istore 5), (6, .iload 4), (8, .iconst 4), (9, .iand), (10, .ifCond .eq 7), (13, .iconst 1), (14, .goto 4), (17, .iconst 0), (18, .istore 6), (20, .iload 5), (22, .iconst 3), (23, .if_icmp .ne 39), (26, .new 7), (29, .dup), (30, .ldc2_w 9), (33, .invokespecial 11), (36, .astore 7), (38, .iload 6), (40, .ifCond .eq 9), (43, .ldc2_w 16), (46, .goto 5), (49, .lload_n 1), (50, .l2d), (51, .dstore 8), (53, .aload 7), (55, .iload_n 3), (56, .dload 8), (58, .invokevirtual 18), (61, .ireturn), (62, .iload_n 0), (63, .ldc 22), (65, .iand), (66, .i2l), (67, .lstore 7), (69, .lload 7), (71, .lload 7), (73, .lmul), (74, .lstore 9), (76, .new 7), (79, .dup), (80, .lload 7), (82, .l2d), (83, .invokespecial 11), (86, .astore 11), (88, .iload 5), (90, .iconst 1), (91, .if_icmp .ne 21), (94, .aload 11), (96, .iload_n 3), (97, .ldc2_w 16), (100, .invokevirtual 18), (103, .ifCond .ne 7), (106, .iconst 1), (107, .goto 4), (110, .iconst 0), (111, .ireturn), (112, .iload 5), (114, .iconst 2), (115, .if_icmp .ne 13), (118, .aload 11), (120, .iload_n 3), (121, .ldc2_w 23), (124, .invokevirtual 18), (127, .ireturn), (128, .iload 6), (130, .ifCond .eq 9), (133, .lload_n 1), (134, .l2d), (135, .dneg), (136, .goto 5), (139, .lload_n 1), (140, .l2d), (141, .dstore 12), (143, .iload 6), (145, .ifCond .eq 19), (148, .lload_n 1), (149, .lload 9), (151, .lneg), (152, .lcmp), (153, .ifCond .lt 7), (156, .iconst 1), (157, .goto 19), (160, .iconst 0), (161, .goto 15), (164, .lload_n 1), (165, .lload 9), (167, .lcmp), (168, .ifCond .gt 7), (171, .iconst 1), (172, .goto 4), (175, .iconst 0), (176, .istore 14), (178, .aload 11), (180, .iload_n 3), (181, .dload 12), (183, .invokevirtual 18), (186, .iload 14), (188, .if_icmp .ne 7), (191, .iconst 1), (192, .goto 4), (195, .iconst 0), (196, .ireturn)]
set_option maxRecDepth 65536 in
theorem dec0 : own_dec code tab0 := by
  show ∀ e ∈ tab0, decode code e.1 = .ok (e.2, own_len e.2)
  decide +kernel
theorem seq0 : own_seq tab0 = true := by decide +kernel
def kt0 : List (Nat × Value) := [(22, .int 67108863), (9, .double 7598952565167317594), (16, .double 9218868437227405312), (23, .double 18442240474082181120)]
def ft0 : List (Nat × String × String × String) := []
theorem pn0 : plainName "org/axisfold/search/WithinRadiusWouldKeepPinLaw" = true := by first | (simp [plainName, overriddenIn]; done) | decide +kernel
theorem pd0 : parseMethodDescriptor "(IJII)Z" = some ⟨[.int, .long, .int, .int], some .boolean⟩ := by decide +kernel
def tab1 : List (Nat × Instr) := [(0, .aload_n 0), (1, .invokespecial 3), (4, .aload_n 0), (5, .bipush 16), (7, .newarray .int), (9, .putfield 9), (12, .aload_n 0), (13, .bipush 16), (15, .newarray .double), (17, .putfield 15), (20, .dload_n 1), (21, .dconst 0), (22, .dcmp .l), (23, .ifCond .lt 11), (26, .dload_n 1), (27, .ldc2_w 21), (30, .dcmp .g), (31, .ifCond .le 17), (34, .new 23), (37, .dup), (38, .dload_n 1), (39, .invokedynamic 25), (44, .invokespecial 29), (47, .athrow), (48, .aload_n 0), (49, .dload_n 1), (50, .dload_n 1), (51, .dmul), (52, .putfield 32), (55, .return_)]
set_option maxRecDepth 65536 in
theorem dec1 : own_dec prog_44_method_1_code tab1 := by
  show ∀ e ∈ tab1, decode prog_44_method_1_code e.1 = .ok (e.2, own_len e.2)
  decide +kernel
theorem seq1 : own_seq tab1 = true := by decide +kernel
theorem d1_1 : decode prog_44_method_1_code 1 = .ok (.invokespecial 3, 3) := by decide +kernel
theorem d1_7 : decode prog_44_method_1_code 7 = .ok (.newarray .int, 2) := by decide +kernel
theorem d1_9 : decode prog_44_method_1_code 9 = .ok (.putfield 9, 3) := by decide +kernel
theorem d1_15 : decode prog_44_method_1_code 15 = .ok (.newarray .double, 2) := by decide +kernel
theorem d1_17 : decode prog_44_method_1_code 17 = .ok (.putfield 15, 3) := by decide +kernel
theorem d1_34 : decode prog_44_method_1_code 34 = .ok (.new 23, 3) := by decide +kernel
theorem d1_44 : decode prog_44_method_1_code 44 = .ok (.invokespecial 29, 3) := by decide +kernel
theorem d1_52 : decode prog_44_method_1_code 52 = .ok (.putfield 32, 3) := by decide +kernel
theorem d1_55 : decode prog_44_method_1_code 55 = .ok (.return_, 1) := by decide +kernel
def kt1 : List (Nat × Value) := [(21, .double 9218868437227405311)]
def ft1 : List (Nat × String × String × String) := [(9, "org/axisfold/search/WithinRadius", "indices", "[I"), (15, "org/axisfold/search/WithinRadius", "squaredDistances", "[D"), (32, "org/axisfold/search/WithinRadius", "limit", "D")]
theorem pn1 : plainName "org/axisfold/search/WithinRadius" = true := by first | (simp [plainName, overriddenIn]; done) | decide +kernel
theorem pd1 : parseMethodDescriptor "(D)V" = some ⟨[.double], none⟩ := by decide +kernel
def tab3 : List (Nat × Instr) := [(0, .dload_n 2), (1, .aload_n 0), (2, .getfield 32), (5, .dcmp .g), (6, .ifCond .gt 7), (9, .iconst 1), (10, .goto 4), (13, .iconst 0), (14, .ireturn)]
set_option maxRecDepth 65536 in
theorem dec3 : own_dec prog_44_method_3_code tab3 := by
  show ∀ e ∈ tab3, decode prog_44_method_3_code e.1 = .ok (e.2, own_len e.2)
  decide +kernel
theorem seq3 : own_seq tab3 = true := by decide +kernel
theorem d3_14 : decode prog_44_method_3_code 14 = .ok (.ireturn, 1) := by decide +kernel
def kt3 : List (Nat × Value) := [(21, .double 9218868437227405311)]
def ft3 : List (Nat × String × String × String) := [(9, "org/axisfold/search/WithinRadius", "indices", "[I"), (15, "org/axisfold/search/WithinRadius", "squaredDistances", "[D"), (32, "org/axisfold/search/WithinRadius", "limit", "D")]
theorem pn3 : plainName "org/axisfold/search/WithinRadius" = true := by first | (simp [plainName, overriddenIn]; done) | decide +kernel
theorem pd3 : parseMethodDescriptor "(ID)Z" = some ⟨[.int, .double], some .boolean⟩ := by decide +kernel
set_option maxRecDepth 65536 in
set_option maxHeartbeats 40000000 in
theorem rm1 (l : Launch) (Z : State) (a0 : Array Value) (hw : ∀ d ∈ tables_1, d.before a0 Z = true) (ws : List Jvm.Cond) (a : Addr) (r : UInt64) (h0 : Heap) (n0 : Nat) (Z0 : n0 ≤ h0.size) (E0 : Exa Z h0 a "org/axisfold/search/WithinRadius") (na : n0 ≤ a) (F0_indices : Fld Z h0 a "org/axisfold/search/WithinRadius" "indices" "[I" (.null)) (F0_squaredDistances : Fld Z h0 a "org/axisfold/search/WithinRadius" "squaredDistances" "[D" (.null)) (F0_limit : Fld Z h0 a "org/axisfold/search/WithinRadius" "limit" "D" (.double 0)) (c1 : ¬ (cmpValue (FP.dcmp r 0) .l).toInt < 0) (c2 : (cmpValue (FP.dcmp r 9218868437227405311) .g).toInt ≤ 0) (c3 : own_num (FP.dmul r r)) :
    MetFree l (⟨"org/axisfold/search/WithinRadius", "<init>", "(D)V"⟩ : MethodName) (head1 (Jvm.Cond.code (⟨"org/axisfold/search/WithinRadius", "<init>", "(D)V"⟩ : MethodName) prog_44_method_1_code 3 none :: ws) ({ frames := 1, cells := 2, slots := 32, locals := 16 } : Room)) (fun as_ U => as_ = #[.ref a, .double r] ∧ Z.Warmed39 U.vm ∧ U.heap = h0) (fun _ _ _ _ _ => True) (fun _ U o U' => own_Fin U ({ frames := 1, cells := 2, slots := 32, locals := 16 } : Room).cells ({ frames := 1, cells := 2, slots := 32, locals := 16 } : Room).slots (fun v h L => v = none ∧ Fr n0 L ∧ Keep h0 h [a] ∧ Exa Z h a "org/axisfold/search/WithinRadius" ∧ Fld Z h a "org/axisfold/search/WithinRadius" "limit" "D" (.double (FP.dmul r r))) o U') := by
  refine own_body (plainFor_of_name pn1) (ls0 := [.val (.ref a), .val (.double r), .second]) (fun m => by first | (simp [entryFrame, mkF, argsToLocals, Value.category, maxLocals]; done) | rfl) ?_
  intro p e s m below meth c T0 hx hby hml hown hnm hlk hret hZ X0 e0
  have hK : own_ks "org/axisfold/search/WithinRadius" a0 Z kt1 := ⟨hw _ (List.mem_of_getElem? (i := 16) rfl), trivial⟩
  have hF : own_fs "org/axisfold/search/WithinRadius" a0 Z ft1 := ⟨hw _ (List.mem_of_getElem? (i := 11) rfl), hw _ (List.mem_of_getElem? (i := 14) rfl), hw _ (List.mem_of_getElem? (i := 17) rfl), trivial⟩
  have N0 := Fr.nil n0
  have K0 := Keep.refl h0 [a]
  refine own_blk dec1 seq1 hby hx hZ hown hK hF 1 [] [] X0 e0 ?_
  show own_Aft X0 h0 _ 1 [.val (.ref a), .val (.double r), .second] [.ref a]
  refine fun T1 X1 eh1 => ?_
  refine own_initO X1 hx hZ hown (hw _ (List.mem_of_getElem? (i := 7) rfl)) (hw _ (List.mem_of_getElem? (i := 8) rfl)) (hw _ (List.mem_of_getElem? (i := 9) rfl)) eh1 (by rw [hml]; rfl) (hb hby d1_1) (by decide) 0 (Nat.le_of_eq rfl) (by decide) (fun T2 X2 eh2 => ?_)
  refine own_blk dec1 seq1 hby hx hZ hown hK hF 2 [] [.int (16 : Int32)] X2 eh2 ?_
  show ((Int8.ofInt 16).toInt32 = (16 : Int32)) ∧ own_Aft X2 h0 _ 7 [.val (.ref a), .val (.double r), .second] [.int (16 : Int32), .ref a]
  refine ⟨by decide +kernel, fun T3 X3 eh3 => ?_⟩
  refine own_newP X3 hx hZ (hw _ (List.mem_of_getElem? (i := 10) rfl)) eh3 16 rfl (cap := 16) (by decide) (by decide) (hb hby d1_7) (by decide) (by decide) (fun T4 hp4 b1 ga4 X4 eh4 Ex4 Ar4 => ?_)
  have ne_a_b1 : a ≠ b1 := fun q => absurd E0.lt (by rw [q, ga4]; exact Nat.lt_irrefl _)
  have nw_b1 : n0 ≤ b1 := by rw [ga4]; exact Z0
  have E0_4 := Exa.ext Ex4 E0
  have F0_indices_4 := Fld.ext Ex4 F0_indices
  have F0_squaredDistances_4 := Fld.ext Ex4 F0_squaredDistances
  have F0_limit_4 := Fld.ext Ex4 F0_limit
  have Z_4 : n0 ≤ hp4.size := Nat.le_trans Z0 Ex4.1
  have K_4 := Keep.ext K0 Ex4
  show own_Go p.tables e below _ (T4.setTop (mkF m 9 (Array.mk [.val (.ref a), .val (.double r), .second]) [.ref b1, .ref a]))
  refine own_putF X4 hx hZ hown (hw _ (List.mem_of_getElem? (i := 11) rfl)) eh4 F0_indices_4 E0_4 (Or.inl (hw _ (List.mem_of_getElem? (i := 12) rfl))) (hw _ (List.mem_of_getElem? (i := 2) rfl)) (ty := (.array .int)) (by decide) rfl rfl (hb hby d1_9) (fun T5 hp5 X5 eh5 Wr5 Fd5 Ea5 => ?_)
  have F0_squaredDistances_5 := Fld.other Wr5 F0_squaredDistances_4 (Or.inr (slot_ne (Or.inl (hw _ (List.mem_of_getElem? (i := 15) rfl))) (Or.inl (hw _ (List.mem_of_getElem? (i := 12) rfl))) (by decide) (t := (.array .double)) (t' := (.array .int)) (by decide) (by decide)))
  have F0_limit_5 := Fld.other Wr5 F0_limit_4 (Or.inr (slot_ne (Or.inr (hw _ (List.mem_of_getElem? (i := 18) rfl))) (Or.inl (hw _ (List.mem_of_getElem? (i := 12) rfl))) (by decide) (t := .double) (t' := (.array .int)) (by decide) (by decide)))
  have Nf5 := Fr.snoc X5 N0 na
  have Z_5 : n0 ≤ hp5.size := by rw [Wr.size Wr5]; exact Z_4
  have K_5 := Keep.wr K_4 Wr5 (Or.inl (List.mem_of_getElem? (i := 0) rfl))
  refine own_blk dec1 seq1 hby hx hZ hown hK hF 2 [] [.int (16 : Int32)] X5 eh5 ?_
  show ((Int8.ofInt 16).toInt32 = (16 : Int32)) ∧ own_Aft X5 hp5 _ 15 [.val (.ref a), .val (.double r), .second] [.int (16 : Int32), .ref a]
  refine ⟨by decide +kernel, fun T6 X6 eh6 => ?_⟩
  refine own_newP X6 hx hZ (hw _ (List.mem_of_getElem? (i := 13) rfl)) eh6 16 rfl (cap := 16) (by decide) (by decide) (hb hby d1_15) (by decide) (by decide) (fun T7 hp7 b2 ga7 X7 eh7 Ex7 Ar7 => ?_)
  have ne_a_b2 : a ≠ b2 := fun q => absurd Ea5.lt (by rw [q, ga7]; exact Nat.lt_irrefl _)
  have nw_b2 : n0 ≤ b2 := by rw [ga7]; exact Z_5
  have Ea5_7 := Exa.ext Ex7 Ea5
  have Fd5_7 := Fld.ext Ex7 Fd5
  have F0_squaredDistances_7 := Fld.ext Ex7 F0_squaredDistances_5
  have F0_limit_7 := Fld.ext Ex7 F0_limit_5
  have Z_7 : n0 ≤ hp7.size := Nat.le_trans Z_5 Ex7.1
  have K_7 := Keep.ext K_5 Ex7
  show own_Go p.tables e below _ (T7.setTop (mkF m 17 (Array.mk [.val (.ref a), .val (.double r), .second]) [.ref b2, .ref a]))
  refine own_putF X7 hx hZ hown (hw _ (List.mem_of_getElem? (i := 14) rfl)) eh7 F0_squaredDistances_7 Ea5_7 (Or.inl (hw _ (List.mem_of_getElem? (i := 15) rfl))) (hw _ (List.mem_of_getElem? (i := 2) rfl)) (ty := (.array .double)) (by decide) rfl rfl (hb hby d1_17) (fun T8 hp8 X8 eh8 Wr8 Fd8 Ea8 => ?_)
  have Fd5_8 := Fld.other Wr8 Fd5_7 (Or.inr (slot_ne (Or.inl (hw _ (List.mem_of_getElem? (i := 12) rfl))) (Or.inl (hw _ (List.mem_of_getElem? (i := 15) rfl))) (by decide) (t := (.array .int)) (t' := (.array .double)) (by decide) (by decide)))
  have F0_limit_8 := Fld.other Wr8 F0_limit_7 (Or.inr (slot_ne (Or.inr (hw _ (List.mem_of_getElem? (i := 18) rfl))) (Or.inl (hw _ (List.mem_of_getElem? (i := 15) rfl))) (by decide) (t := .double) (t' := (.array .double)) (by decide) (by decide)))
  have Nf8 := Fr.snoc X8 Nf5 na
  have Z_8 : n0 ≤ hp8.size := by rw [Wr.size Wr8]; exact Z_7
  have K_8 := Keep.wr K_7 Wr8 (Or.inl (List.mem_of_getElem? (i := 0) rfl))
  refine own_blk dec1 seq1 hby hx hZ hown hK hF 12 [false, true] [] X8 eh8 ?_
  show (¬ ((cmpValue (FP.dcmp r 0) .l).toInt < 0)) ∧ ((cmpValue (FP.dcmp r 9218868437227405311) .g).toInt ≤ 0) ∧ (Jvm.Free.Fl.NoNaN64 (FP.dmul r r)) ∧ own_Aft X8 hp8 _ 52 [.val (.ref a), .val (.double r), .second] [.double (FP.dmul r r), .ref a]
  refine ⟨c1, c2, own_nn c3, fun T9 X9 eh9 => ?_⟩
  refine own_putF X9 hx hZ hown (hw _ (List.mem_of_getElem? (i := 17) rfl)) eh9 F0_limit_8 Ea8 (Or.inr ⟨(hw _ (List.mem_of_getElem? (i := 18) rfl)), rfl, hnm⟩) (hw _ (List.mem_of_getElem? (i := 2) rfl)) (ty := .double) (by decide) rfl rfl (hb hby d1_52) (fun T10 hp10 X10 eh10 Wr10 Fd10 Ea10 => ?_)
  have Fd5_10 := Fld.other Wr10 Fd5_8 (Or.inr (slot_ne (Or.inl (hw _ (List.mem_of_getElem? (i := 12) rfl))) (Or.inr (hw _ (List.mem_of_getElem? (i := 18) rfl))) (by decide) (t := (.array .int)) (t' := .double) (by decide) (by decide)))
  have Fd8_10 := Fld.other Wr10 Fd8 (Or.inr (slot_ne (Or.inl (hw _ (List.mem_of_getElem? (i := 15) rfl))) (Or.inr (hw _ (List.mem_of_getElem? (i := 18) rfl))) (by decide) (t := (.array .double)) (t' := .double) (by decide) (by decide)))
  have Nf10 := Fr.snoc X10 Nf8 na
  have Z_10 : n0 ≤ hp10.size := by rw [Wr.size Wr10]; exact Z_8
  have K_10 := Keep.wr K_8 Wr10 (Or.inl (List.mem_of_getElem? (i := 0) rfl))
  exact own_retV X10 hx hlk eh10 hret (hb hby d1_55) (by decide) (by decide) (⟨rfl, Nf10, K_10, Ea10, Fd10⟩)
set_option maxRecDepth 65536 in
set_option maxHeartbeats 40000000 in
theorem rm3 (l : Launch) (Z : State) (a0 : Array Value) (hw : ∀ d ∈ tables_1, d.before a0 Z = true) (ws : List Jvm.Cond) (a : Addr) (ix : Int32) (d l1 : UInt64) (res : Int32) (h0 : Heap) (n0 : Nat) (Z0 : n0 ≤ h0.size) (F1 : Fld Z h0 a "org/axisfold/search/WithinRadius" "limit" "D" (.double l1)) (nd : own_num d) (nl : own_num l1) (hres : (own_z d ≤ own_z l1 ∧ res = 1) ∨ (own_z l1 < own_z d ∧ res = 0)) :
    MetFree l (⟨"org/axisfold/search/WithinRadius", "wouldKeep", "(ID)Z"⟩ : MethodName) (head1 (Jvm.Cond.code (⟨"org/axisfold/search/WithinRadius", "wouldKeep", "(ID)Z"⟩ : MethodName) prog_44_method_3_code 4 (some .boolean) :: ws) ({ frames := 0, cells := 0, slots := 0, locals := 0 } : Room)) (fun as_ U => as_ = #[.ref a, .int ix, .double d] ∧ Z.Warmed39 U.vm ∧ U.heap = h0) (fun _ _ _ _ _ => True) (fun _ U o U' => own_Fin U ({ frames := 0, cells := 0, slots := 0, locals := 0 } : Room).cells ({ frames := 0, cells := 0, slots := 0, locals := 0 } : Room).slots (fun v h L => v = some (.int res) ∧ Fr n0 L ∧ h = h0) o U') := by
  refine own_body (plainFor_of_name pn3) (ls0 := [.val (.ref a), .val (.int ix), .val (.double d), .second]) (fun m => by first | (simp [entryFrame, mkF, argsToLocals, Value.category, maxLocals]; done) | rfl) ?_
  intro p e s m below meth c T0 hx hby hml hown hnm hlk hret hZ X0 e0
  have hK : own_ks "org/axisfold/search/WithinRadius" a0 Z kt3 := ⟨hw _ (List.mem_of_getElem? (i := 16) rfl), trivial⟩
  have hF : own_fs "org/axisfold/search/WithinRadius" a0 Z ft3 := ⟨hw _ (List.mem_of_getElem? (i := 11) rfl), hw _ (List.mem_of_getElem? (i := 14) rfl), hw _ (List.mem_of_getElem? (i := 17) rfl), trivial⟩
  have N0 := Fr.nil n0
  rcases hres with ⟨h1, rfl⟩ | ⟨h1, rfl⟩
  · skip
    refine own_blk dec3 seq3 hby hx hZ hown hK hF 7 [false] [.double l1] X0 e0 ?_
    show (Fld Z h0 a "org/axisfold/search/WithinRadius" "limit" "D" (.double l1)) ∧ (¬ (0 < (cmpValue (FP.dcmp d l1) .g).toInt)) ∧ own_Aft X0 h0 _ 14 [.val (.ref a), .val (.int ix), .val (.double d), .second] [.int (1 : Int32)]
    refine ⟨F1, by rcases Int.lt_or_eq_of_le h1 with q | q <;> first | (rw [own_cv_lt (own_lt nd nl q)]; omega) | (rw [own_cv_eq (own_eq nd nl q)]; omega), fun T1 X1 eh1 => ?_⟩
    exact own_ret X1 hx hlk eh1 hret (by first | rfl | decide) (Or.inl ⟨rfl, by simp, _, rfl⟩) (hb hby d3_14) (by decide) (by decide) (⟨rfl, N0, rfl⟩)
  · skip
    refine own_blk dec3 seq3 hby hx hZ hown hK hF 6 [true] [.double l1] X0 e0 ?_
    show (Fld Z h0 a "org/axisfold/search/WithinRadius" "limit" "D" (.double l1)) ∧ (0 < (cmpValue (FP.dcmp d l1) .g).toInt) ∧ own_Aft X0 h0 _ 14 [.val (.ref a), .val (.int ix), .val (.double d), .second] [.int (0 : Int32)]
    refine ⟨F1, by rw [own_cv_gt (own_gt nd nl h1)]; omega, fun T2 X2 eh2 => ?_⟩
    exact own_ret X2 hx hlk eh2 hret (by first | rfl | decide) (Or.inl ⟨rfl, by simp, _, rfl⟩) (hb hby d3_14) (by decide) (by decide) (⟨rfl, N0, rfl⟩)
set_option maxRecDepth 65536 in
set_option maxHeartbeats 40000000 in
theorem rm0 (l : Launch) (Z : State) (a0 : Array Value) (hw : ∀ d ∈ tables_1, d.before a0 Z = true) (ws : List Jvm.Cond) (a1 : Int32) (s1 : Int64) (ix md : Int32) (h0 : Heap) (n0 : Nat) (Z0 : n0 ≤ h0.size)  :
    MetFree l x (head1 (Jvm.Cond.code x code maxLocals ret :: ws) room_1) (fun as_ U => as_ = #[.int a1, .long s1, .int ix, .int md] ∧ Z.Warmed39 U.vm ∧ U.heap = h0) (fun _ _ _ _ _ => True) (fun _ U o U' => own_Fin U 16 192 (fun v h L => v = some (.int 1) ∧ Fr n0 L) o U') := by
  refine own_body (plainFor_of_name pn0) (ls0 := [.val (.int a1), .val (.long s1), .second, .val (.int ix), .val (.int md), .unset, .unset, .unset, .unset, .unset, .unset, .unset, .unset, .unset, .unset]) (fun m => by first | (simp [entryFrame, mkF, argsToLocals, Value.category, maxLocals]; done) | rfl) ?_
  intro p e s m below meth c T0 hx hby hml hown hnm hlk hret hZ X0 e0
  have hK : own_ks "org/axisfold/search/WithinRadiusWouldKeepPinLaw" a0 Z kt0 := ⟨hw _ (List.mem_of_getElem? (i := 0) rfl), hw _ (List.mem_of_getElem? (i := 24) rfl), hw _ (List.mem_of_getElem? (i := 25) rfl), hw _ (List.mem_of_getElem? (i := 26) rfl), trivial⟩
  have hF : own_fs "org/axisfold/search/WithinRadiusWouldKeepPinLaw" a0 Z ft0 := trivial
  have N0 := Fr.nil n0
  have hm := own_and32 md 3 (by decide)
  have h3 : (3 : Int32).toInt = 3 := rfl
  obtain hm1 | hm1 | hm1 | hm1 : (md &&& (3 : Int32)).toInt = 3 ∨ (md &&& (3 : Int32)).toInt = 1 ∨ (md &&& (3 : Int32)).toInt = 2 ∨ (md &&& (3 : Int32)).toInt = 0 := by omega
  · skip
    by_cases hf : ¬ (md &&& (4 : Int32)).toInt = 0
    · skip
      refine own_blk dec0 seq0 hby hx hZ hown hK hF 11 [false] [] X0 e0 ?_
      show (¬ ((md &&& (4 : Int32)).toInt = 0)) ∧ own_Aft X0 h0 _ 20 [.val (.int a1), .val (.long s1), .second, .val (.int ix), .val (.int md), .val (.int (md &&& (3 : Int32))), .val (.int (1 : Int32)), .unset, .unset, .unset, .unset, .unset, .unset, .unset, .unset] []
      refine ⟨hf, fun T1 X1 eh1 => ?_⟩
      refine own_blk dec0 seq0 hby hx hZ hown hK hF 3 [false] [] X1 eh1 ?_
      show (¬ ((md &&& (3 : Int32)).toInt ≠ ((3 : Int32)).toInt)) ∧ own_Aft X1 h0 _ 26 [.val (.int a1), .val (.long s1), .second, .val (.int ix), .val (.int md), .val (.int (md &&& (3 : Int32))), .val (.int (1 : Int32)), .unset, .unset, .unset, .unset, .unset, .unset, .unset, .unset] []
      refine ⟨by rw [hm1]; decide, fun T2 X2 eh2 => ?_⟩
      refine own_new X2 hx hZ hown (hw _ (List.mem_of_getElem? (i := 1) rfl)) (hw _ (List.mem_of_getElem? (i := 2) rfl)) (hw _ (List.mem_of_getElem? (i := 3) rfl)) eh2 (hb hby at_26) (by decide) (by decide) (fun T3 hp3 ao ga3 X3 eh3 Ex3 Ea3 Dn3 => ?_)
      have nw_ao : n0 ≤ ao := by rw [ga3]; exact Z0
      have Z_3 : n0 ≤ hp3.size := Nat.le_trans Z0 Ex3.1
      have Fn3_indices : Fld Z hp3 ao "org/axisfold/search/WithinRadius" "indices" "[I" (.null) := Dn3 (Or.inl (hw _ (List.mem_of_getElem? (i := 12) rfl))) (ty := (.array .int)) (by decide)
      have Fn3_squaredDistances : Fld Z hp3 ao "org/axisfold/search/WithinRadius" "squaredDistances" "[D" (.null) := Dn3 (Or.inl (hw _ (List.mem_of_getElem? (i := 15) rfl))) (ty := (.array .double)) (by decide)
      have Fn3_limit : Fld Z hp3 ao "org/axisfold/search/WithinRadius" "limit" "D" (.double 0) := Dn3 (Or.inr (hw _ (List.mem_of_getElem? (i := 18) rfl))) (ty := .double) (by decide)
      show own_Go p.tables e below _ (T3.setTop (mkF m 29 (Array.mk [.val (.int a1), .val (.long s1), .second, .val (.int ix), .val (.int md), .val (.int (md &&& (3 : Int32))), .val (.int (1 : Int32)), .unset, .unset, .unset, .unset, .unset, .unset, .unset, .unset]) [.ref ao]))
      refine own_blk dec0 seq0 hby hx hZ hown hK hF 2 [] [] X3 eh3 ?_
      show own_Aft X3 hp3 _ 33 [.val (.int a1), .val (.long s1), .second, .val (.int ix), .val (.int md), .val (.int (md &&& (3 : Int32))), .val (.int (1 : Int32)), .unset, .unset, .unset, .unset, .unset, .unset, .unset, .unset] [.double 7598952565167317594, .ref ao, .ref ao]
      refine fun T4 X4 eh4 => ?_
      refine own_callI X4 hx hZ hown rfl (hw _ (List.mem_of_getElem? (i := 4) rfl)) (hw _ (List.mem_of_getElem? (i := 5) rfl)) (hw _ (List.mem_of_getElem? (i := 3) rfl)) (hw _ (List.mem_of_getElem? (i := 6) rfl)) (by decide) eh4 ao [.double 7598952565167317594] pd1 rfl (rm := ({ frames := 1, cells := 2, slots := 32, locals := 16 } : Room)) (rm1 l Z a0 hw [] ao 7598952565167317594 hp3 n0 Z_3 Ea3 nw_ao Fn3_indices Fn3_squaredDistances Fn3_limit own_h1 own_h2 (by rw [own_hh]; exact own_nI)) (by rw [hml]; rfl) 1 rfl (Nat.le_of_eq rfl) (hb hby at_33) (by decide) (by decide) (by decide) (by decide) (fun T5 rv5 Lc5 X5 qc5 => ?_)
      obtain ⟨rfl, M1, KK, EE, GL⟩ := qc5
      have Z_c : n0 ≤ T5.heap.size := Nat.le_trans Z_3 KK.1
      show own_Go p.tables e below _ (T5.setTop (mkF m 36 (Array.mk [.val (.int a1), .val (.long s1), .second, .val (.int ix), .val (.int md), .val (.int (md &&& (3 : Int32))), .val (.int (1 : Int32)), .unset, .unset, .unset, .unset, .unset, .unset, .unset, .unset]) [.ref ao]))
      rw [own_hh] at GL
      refine own_blk dec0 seq0 hby hx hZ hown hK hF 9 [false] [] X5 rfl ?_
      show (¬ (((1 : Int32)).toInt = 0)) ∧ own_Aft X5 T5.heap _ 58 [.val (.int a1), .val (.long s1), .second, .val (.int ix), .val (.int md), .val (.int (md &&& (3 : Int32))), .val (.int (1 : Int32)), .val (.ref ao), .val (.double 9218868437227405312), .second, .unset, .unset, .unset, .unset, .unset] [.double 9218868437227405312, .int ix, .ref ao]
      refine ⟨by decide, fun T6 X6 eh6 => ?_⟩
      refine own_callV X6 hx hZ hown (hw _ (List.mem_of_getElem? (i := 19) rfl)) (hw _ (List.mem_of_getElem? (i := 20) rfl)) (hw _ (List.mem_of_getElem? (i := 22) rfl)) (hw _ (List.mem_of_getElem? (i := 21) rfl)) (hw _ (List.mem_of_getElem? (i := 3) rfl)) (hw _ (List.mem_of_getElem? (i := 23) rfl)) (by decide) eh6 EE [.int ix, .double 9218868437227405312] pd3 rfl (rm := ({ frames := 0, cells := 0, slots := 0, locals := 0 } : Room)) (rm3 l Z a0 hw [] ao ix 9218868437227405312 9218868437227405312 1 T5.heap n0 Z_c GL own_nI own_nI (Or.inl ⟨Int.le_refl _, rfl⟩)) (by rw [hml]; rfl) 0 rfl (Nat.le_of_eq rfl) (hb hby at_58) (by decide) (by decide) (by decide) (by decide) (fun T7 rv7 Lc7 X7 qc7 => ?_)
      obtain ⟨rfl, M2, hh⟩ := qc7
      show own_Go p.tables e below _ (T7.setTop (mkF m 61 (Array.mk [.val (.int a1), .val (.long s1), .second, .val (.int ix), .val (.int md), .val (.int (md &&& (3 : Int32))), .val (.int (1 : Int32)), .val (.ref ao), .val (.double 9218868437227405312), .second, .unset, .unset, .unset, .unset, .unset]) [.int (1 : Int32)]))
      exact own_ret X7 hx hlk hh hret (by first | rfl | decide) (Or.inl ⟨rfl, by simp, _, rfl⟩) (hb hby at_61) (by decide) (by decide) (⟨rfl, Fr.app (Fr.app N0 M1) M2⟩)
    · skip
      have hf := Decidable.not_not.mp hf
      refine own_blk dec0 seq0 hby hx hZ hown hK hF 10 [true] [] X0 e0 ?_
      show ((md &&& (4 : Int32)).toInt = 0) ∧ own_Aft X0 h0 _ 20 [.val (.int a1), .val (.long s1), .second, .val (.int ix), .val (.int md), .val (.int (md &&& (3 : Int32))), .val (.int (0 : Int32)), .unset, .unset, .unset, .unset, .unset, .unset, .unset, .unset] []
      refine ⟨hf, fun T8 X8 eh8 => ?_⟩
      refine own_blk dec0 seq0 hby hx hZ hown hK hF 3 [false] [] X8 eh8 ?_
      show (¬ ((md &&& (3 : Int32)).toInt ≠ ((3 : Int32)).toInt)) ∧ own_Aft X8 h0 _ 26 [.val (.int a1), .val (.long s1), .second, .val (.int ix), .val (.int md), .val (.int (md &&& (3 : Int32))), .val (.int (0 : Int32)), .unset, .unset, .unset, .unset, .unset, .unset, .unset, .unset] []
      refine ⟨by rw [hm1]; decide, fun T9 X9 eh9 => ?_⟩
      refine own_new X9 hx hZ hown (hw _ (List.mem_of_getElem? (i := 1) rfl)) (hw _ (List.mem_of_getElem? (i := 2) rfl)) (hw _ (List.mem_of_getElem? (i := 3) rfl)) eh9 (hb hby at_26) (by decide) (by decide) (fun T10 hp10 ao ga10 X10 eh10 Ex10 Ea10 Dn10 => ?_)
      have nw_ao : n0 ≤ ao := by rw [ga10]; exact Z0
      have Z_10 : n0 ≤ hp10.size := Nat.le_trans Z0 Ex10.1
      have Fn10_indices : Fld Z hp10 ao "org/axisfold/search/WithinRadius" "indices" "[I" (.null) := Dn10 (Or.inl (hw _ (List.mem_of_getElem? (i := 12) rfl))) (ty := (.array .int)) (by decide)
      have Fn10_squaredDistances : Fld Z hp10 ao "org/axisfold/search/WithinRadius" "squaredDistances" "[D" (.null) := Dn10 (Or.inl (hw _ (List.mem_of_getElem? (i := 15) rfl))) (ty := (.array .double)) (by decide)
      have Fn10_limit : Fld Z hp10 ao "org/axisfold/search/WithinRadius" "limit" "D" (.double 0) := Dn10 (Or.inr (hw _ (List.mem_of_getElem? (i := 18) rfl))) (ty := .double) (by decide)
      show own_Go p.tables e below _ (T10.setTop (mkF m 29 (Array.mk [.val (.int a1), .val (.long s1), .second, .val (.int ix), .val (.int md), .val (.int (md &&& (3 : Int32))), .val (.int (0 : Int32)), .unset, .unset, .unset, .unset, .unset, .unset, .unset, .unset]) [.ref ao]))
      refine own_blk dec0 seq0 hby hx hZ hown hK hF 2 [] [] X10 eh10 ?_
      show own_Aft X10 hp10 _ 33 [.val (.int a1), .val (.long s1), .second, .val (.int ix), .val (.int md), .val (.int (md &&& (3 : Int32))), .val (.int (0 : Int32)), .unset, .unset, .unset, .unset, .unset, .unset, .unset, .unset] [.double 7598952565167317594, .ref ao, .ref ao]
      refine fun T11 X11 eh11 => ?_
      refine own_callI X11 hx hZ hown rfl (hw _ (List.mem_of_getElem? (i := 4) rfl)) (hw _ (List.mem_of_getElem? (i := 5) rfl)) (hw _ (List.mem_of_getElem? (i := 3) rfl)) (hw _ (List.mem_of_getElem? (i := 6) rfl)) (by decide) eh11 ao [.double 7598952565167317594] pd1 rfl (rm := ({ frames := 1, cells := 2, slots := 32, locals := 16 } : Room)) (rm1 l Z a0 hw [] ao 7598952565167317594 hp10 n0 Z_10 Ea10 nw_ao Fn10_indices Fn10_squaredDistances Fn10_limit own_h1 own_h2 (by rw [own_hh]; exact own_nI)) (by rw [hml]; rfl) 1 rfl (Nat.le_of_eq rfl) (hb hby at_33) (by decide) (by decide) (by decide) (by decide) (fun T12 rv12 Lc12 X12 qc12 => ?_)
      obtain ⟨rfl, M1, KK, EE, GL⟩ := qc12
      have Z_c : n0 ≤ T12.heap.size := Nat.le_trans Z_10 KK.1
      show own_Go p.tables e below _ (T12.setTop (mkF m 36 (Array.mk [.val (.int a1), .val (.long s1), .second, .val (.int ix), .val (.int md), .val (.int (md &&& (3 : Int32))), .val (.int (0 : Int32)), .unset, .unset, .unset, .unset, .unset, .unset, .unset, .unset]) [.ref ao]))
      rw [own_hh] at GL
      refine own_blk dec0 seq0 hby hx hZ hown hK hF 9 [true] [] X12 rfl ?_
      show (((0 : Int32)).toInt = 0) ∧ own_Aft X12 T12.heap _ 58 [.val (.int a1), .val (.long s1), .second, .val (.int ix), .val (.int md), .val (.int (md &&& (3 : Int32))), .val (.int (0 : Int32)), .val (.ref ao), .val (.double (FP.l2d s1)), .second, .unset, .unset, .unset, .unset, .unset] [.double (FP.l2d s1), .int ix, .ref ao]
      refine ⟨by decide, fun T13 X13 eh13 => ?_⟩
      refine own_callV X13 hx hZ hown (hw _ (List.mem_of_getElem? (i := 19) rfl)) (hw _ (List.mem_of_getElem? (i := 20) rfl)) (hw _ (List.mem_of_getElem? (i := 22) rfl)) (hw _ (List.mem_of_getElem? (i := 21) rfl)) (hw _ (List.mem_of_getElem? (i := 3) rfl)) (hw _ (List.mem_of_getElem? (i := 23) rfl)) (by decide) eh13 EE [.int ix, .double (FP.l2d s1)] pd3 rfl (rm := ({ frames := 0, cells := 0, slots := 0, locals := 0 } : Room)) (rm3 l Z a0 hw [] ao ix (FP.l2d s1) 9218868437227405312 1 T12.heap n0 Z_c GL (own_fin_num (FP.Core.l2d_fin s1)) own_nI (Or.inl ⟨Int.le_of_lt (own_zI (FP.Core.l2d_fin s1)), rfl⟩)) (by rw [hml]; rfl) 0 rfl (Nat.le_of_eq rfl) (hb hby at_58) (by decide) (by decide) (by decide) (by decide) (fun T14 rv14 Lc14 X14 qc14 => ?_)
      obtain ⟨rfl, M2, hh⟩ := qc14
      show own_Go p.tables e below _ (T14.setTop (mkF m 61 (Array.mk [.val (.int a1), .val (.long s1), .second, .val (.int ix), .val (.int md), .val (.int (md &&& (3 : Int32))), .val (.int (0 : Int32)), .val (.ref ao), .val (.double (FP.l2d s1)), .second, .unset, .unset, .unset, .unset, .unset]) [.int (1 : Int32)]))
      exact own_ret X14 hx hlk hh hret (by first | rfl | decide) (Or.inl ⟨rfl, by simp, _, rfl⟩) (hb hby at_61) (by decide) (by decide) (⟨rfl, Fr.app (Fr.app N0 M1) M2⟩)
  · skip
    by_cases hf : ¬ (md &&& (4 : Int32)).toInt = 0
    · skip
      refine own_blk dec0 seq0 hby hx hZ hown hK hF 11 [false] [] X0 e0 ?_
      show (¬ ((md &&& (4 : Int32)).toInt = 0)) ∧ own_Aft X0 h0 _ 20 [.val (.int a1), .val (.long s1), .second, .val (.int ix), .val (.int md), .val (.int (md &&& (3 : Int32))), .val (.int (1 : Int32)), .unset, .unset, .unset, .unset, .unset, .unset, .unset, .unset] []
      refine ⟨hf, fun T15 X15 eh15 => ?_⟩
      refine own_blk dec0 seq0 hby hx hZ hown hK hF 8 [true] [] X15 eh15 ?_
      show ((md &&& (3 : Int32)).toInt ≠ ((3 : Int32)).toInt) ∧ own_Aft X15 h0 _ 69 [.val (.int a1), .val (.long s1), .second, .val (.int ix), .val (.int md), .val (.int (md &&& (3 : Int32))), .val (.int (1 : Int32)), .val (.long ((a1 &&& (67108863 : Int32)).toInt64)), .second, .unset, .unset, .unset, .unset, .unset, .unset] []
      refine ⟨by rw [hm1]; decide, fun T16 X16 eh16 => ?_⟩
      have ra := own_and32 a1 67108863 (by decide)
      have rb : (67108863 : Int32).toInt = 67108863 := rfl
      have rc := own_i2l (a1 &&& (67108863 : Int32))
      generalize (a1 &&& (67108863 : Int32)).toInt64 = r at rc ⊢
      show own_Go p.tables e below _ (T16.setTop (mkF m 69 (Array.mk [.val (.int a1), .val (.long s1), .second, .val (.int ix), .val (.int md), .val (.int (md &&& (3 : Int32))), .val (.int (1 : Int32)), .val (.long r), .second, .unset, .unset, .unset, .unset, .unset, .unset]) []))
      obtain ⟨d1, d2, p0, p1, pm⟩ := own_rad r (by omega) (by omega)
      refine own_blk dec0 seq0 hby hx hZ hown hK hF 4 [] [] X16 eh16 ?_
      show own_Aft X16 h0 _ 76 [.val (.int a1), .val (.long s1), .second, .val (.int ix), .val (.int md), .val (.int (md &&& (3 : Int32))), .val (.int (1 : Int32)), .val (.long r), .second, .val (.long (r * r)), .second, .unset, .unset, .unset, .unset] []
      refine fun T17 X17 eh17 => ?_
      refine own_new X17 hx hZ hown (hw _ (List.mem_of_getElem? (i := 1) rfl)) (hw _ (List.mem_of_getElem? (i := 2) rfl)) (hw _ (List.mem_of_getElem? (i := 3) rfl)) eh17 (hb hby at_76) (by decide) (by decide) (fun T18 hp18 ao ga18 X18 eh18 Ex18 Ea18 Dn18 => ?_)
      have nw_ao : n0 ≤ ao := by rw [ga18]; exact Z0
      have Z_18 : n0 ≤ hp18.size := Nat.le_trans Z0 Ex18.1
      have Fn18_indices : Fld Z hp18 ao "org/axisfold/search/WithinRadius" "indices" "[I" (.null) := Dn18 (Or.inl (hw _ (List.mem_of_getElem? (i := 12) rfl))) (ty := (.array .int)) (by decide)
      have Fn18_squaredDistances : Fld Z hp18 ao "org/axisfold/search/WithinRadius" "squaredDistances" "[D" (.null) := Dn18 (Or.inl (hw _ (List.mem_of_getElem? (i := 15) rfl))) (ty := (.array .double)) (by decide)
      have Fn18_limit : Fld Z hp18 ao "org/axisfold/search/WithinRadius" "limit" "D" (.double 0) := Dn18 (Or.inr (hw _ (List.mem_of_getElem? (i := 18) rfl))) (ty := .double) (by decide)
      show own_Go p.tables e below _ (T18.setTop (mkF m 79 (Array.mk [.val (.int a1), .val (.long s1), .second, .val (.int ix), .val (.int md), .val (.int (md &&& (3 : Int32))), .val (.int (1 : Int32)), .val (.long r), .second, .val (.long (r * r)), .second, .unset, .unset, .unset, .unset]) [.ref ao]))
      refine own_blk dec0 seq0 hby hx hZ hown hK hF 3 [] [] X18 eh18 ?_
      show own_Aft X18 hp18 _ 83 [.val (.int a1), .val (.long s1), .second, .val (.int ix), .val (.int md), .val (.int (md &&& (3 : Int32))), .val (.int (1 : Int32)), .val (.long r), .second, .val (.long (r * r)), .second, .unset, .unset, .unset, .unset] [.double (FP.l2d r), .ref ao, .ref ao]
      refine fun T19 X19 eh19 => ?_
      refine own_callI X19 hx hZ hown rfl (hw _ (List.mem_of_getElem? (i := 4) rfl)) (hw _ (List.mem_of_getElem? (i := 5) rfl)) (hw _ (List.mem_of_getElem? (i := 3) rfl)) (hw _ (List.mem_of_getElem? (i := 6) rfl)) (by decide) eh19 ao [.double (FP.l2d r)] pd1 rfl (rm := ({ frames := 1, cells := 2, slots := 32, locals := 16 } : Room)) (rm1 l Z a0 hw [] ao (FP.l2d r) hp18 n0 Z_18 Ea18 nw_ao Fn18_indices Fn18_squaredDistances Fn18_limit (own_rad1 _ _ d1 (by omega)) (own_rad2 _ _ d1 (by omega)) d2.num) (by rw [hml]; rfl) 1 rfl (Nat.le_of_eq rfl) (hb hby at_83) (by decide) (by decide) (by decide) (by decide) (fun T20 rv20 Lc20 X20 qc20 => ?_)
      obtain ⟨rfl, M1, KK, EE, GL⟩ := qc20
      have Z_c : n0 ≤ T20.heap.size := Nat.le_trans Z_18 KK.1
      show own_Go p.tables e below _ (T20.setTop (mkF m 86 (Array.mk [.val (.int a1), .val (.long s1), .second, .val (.int ix), .val (.int md), .val (.int (md &&& (3 : Int32))), .val (.int (1 : Int32)), .val (.long r), .second, .val (.long (r * r)), .second, .unset, .unset, .unset, .unset]) [.ref ao]))
      generalize FP.dmul (FP.l2d r) (FP.l2d r) = lim at d2 GL
      refine own_blk dec0 seq0 hby hx hZ hown hK hF 7 [false] [] X20 rfl ?_
      show (¬ ((md &&& (3 : Int32)).toInt ≠ ((1 : Int32)).toInt)) ∧ own_Aft X20 T20.heap _ 100 [.val (.int a1), .val (.long s1), .second, .val (.int ix), .val (.int md), .val (.int (md &&& (3 : Int32))), .val (.int (1 : Int32)), .val (.long r), .second, .val (.long (r * r)), .second, .val (.ref ao), .unset, .unset, .unset] [.double 9218868437227405312, .int ix, .ref ao]
      refine ⟨by rw [hm1]; decide, fun T21 X21 eh21 => ?_⟩
      refine own_callV X21 hx hZ hown (hw _ (List.mem_of_getElem? (i := 19) rfl)) (hw _ (List.mem_of_getElem? (i := 20) rfl)) (hw _ (List.mem_of_getElem? (i := 22) rfl)) (hw _ (List.mem_of_getElem? (i := 21) rfl)) (hw _ (List.mem_of_getElem? (i := 3) rfl)) (hw _ (List.mem_of_getElem? (i := 23) rfl)) (by decide) eh21 EE [.int ix, .double 9218868437227405312] pd3 rfl (rm := ({ frames := 0, cells := 0, slots := 0, locals := 0 } : Room)) (rm3 l Z a0 hw [] ao ix 9218868437227405312 lim 0 T20.heap n0 Z_c GL own_nI d2.num (Or.inr ⟨own_zI d2.1, rfl⟩)) (by rw [hml]; rfl) 0 rfl (Nat.le_of_eq rfl) (hb hby at_100) (by decide) (by decide) (by decide) (by decide) (fun T22 rv22 Lc22 X22 qc22 => ?_)
      obtain ⟨rfl, M2, hh⟩ := qc22
      show own_Go p.tables e below _ (T22.setTop (mkF m 103 (Array.mk [.val (.int a1), .val (.long s1), .second, .val (.int ix), .val (.int md), .val (.int (md &&& (3 : Int32))), .val (.int (1 : Int32)), .val (.long r), .second, .val (.long (r * r)), .second, .val (.ref ao), .unset, .unset, .unset]) [.int (0 : Int32)]))
      refine own_blk dec0 seq0 hby hx hZ hown hK hF 3 [false] [] X22 hh ?_
      show (¬ (((0 : Int32)).toInt ≠ 0)) ∧ own_Aft X22 T20.heap _ 111 [.val (.int a1), .val (.long s1), .second, .val (.int ix), .val (.int md), .val (.int (md &&& (3 : Int32))), .val (.int (1 : Int32)), .val (.long r), .second, .val (.long (r * r)), .second, .val (.ref ao), .unset, .unset, .unset] [.int (1 : Int32)]
      refine ⟨by decide, fun T23 X23 eh23 => ?_⟩
      exact own_ret X23 hx hlk eh23 hret (by first | rfl | decide) (Or.inl ⟨rfl, by simp, _, rfl⟩) (hb hby at_111) (by decide) (by decide) (⟨rfl, Fr.app (Fr.app N0 M1) M2⟩)
    · skip
      have hf := Decidable.not_not.mp hf
      refine own_blk dec0 seq0 hby hx hZ hown hK hF 10 [true] [] X0 e0 ?_
      show ((md &&& (4 : Int32)).toInt = 0) ∧ own_Aft X0 h0 _ 20 [.val (.int a1), .val (.long s1), .second, .val (.int ix), .val (.int md), .val (.int (md &&& (3 : Int32))), .val (.int (0 : Int32)), .unset, .unset, .unset, .unset, .unset, .unset, .unset, .unset] []
      refine ⟨hf, fun T24 X24 eh24 => ?_⟩
      refine own_blk dec0 seq0 hby hx hZ hown hK hF 8 [true] [] X24 eh24 ?_
      show ((md &&& (3 : Int32)).toInt ≠ ((3 : Int32)).toInt) ∧ own_Aft X24 h0 _ 69 [.val (.int a1), .val (.long s1), .second, .val (.int ix), .val (.int md), .val (.int (md &&& (3 : Int32))), .val (.int (0 : Int32)), .val (.long ((a1 &&& (67108863 : Int32)).toInt64)), .second, .unset, .unset, .unset, .unset, .unset, .unset] []
      refine ⟨by rw [hm1]; decide, fun T25 X25 eh25 => ?_⟩
      have ra := own_and32 a1 67108863 (by decide)
      have rb : (67108863 : Int32).toInt = 67108863 := rfl
      have rc := own_i2l (a1 &&& (67108863 : Int32))
      generalize (a1 &&& (67108863 : Int32)).toInt64 = r at rc ⊢
      show own_Go p.tables e below _ (T25.setTop (mkF m 69 (Array.mk [.val (.int a1), .val (.long s1), .second, .val (.int ix), .val (.int md), .val (.int (md &&& (3 : Int32))), .val (.int (0 : Int32)), .val (.long r), .second, .unset, .unset, .unset, .unset, .unset, .unset]) []))
      obtain ⟨d1, d2, p0, p1, pm⟩ := own_rad r (by omega) (by omega)
      refine own_blk dec0 seq0 hby hx hZ hown hK hF 4 [] [] X25 eh25 ?_
      show own_Aft X25 h0 _ 76 [.val (.int a1), .val (.long s1), .second, .val (.int ix), .val (.int md), .val (.int (md &&& (3 : Int32))), .val (.int (0 : Int32)), .val (.long r), .second, .val (.long (r * r)), .second, .unset, .unset, .unset, .unset] []
      refine fun T26 X26 eh26 => ?_
      refine own_new X26 hx hZ hown (hw _ (List.mem_of_getElem? (i := 1) rfl)) (hw _ (List.mem_of_getElem? (i := 2) rfl)) (hw _ (List.mem_of_getElem? (i := 3) rfl)) eh26 (hb hby at_76) (by decide) (by decide) (fun T27 hp27 ao ga27 X27 eh27 Ex27 Ea27 Dn27 => ?_)
      have nw_ao : n0 ≤ ao := by rw [ga27]; exact Z0
      have Z_27 : n0 ≤ hp27.size := Nat.le_trans Z0 Ex27.1
      have Fn27_indices : Fld Z hp27 ao "org/axisfold/search/WithinRadius" "indices" "[I" (.null) := Dn27 (Or.inl (hw _ (List.mem_of_getElem? (i := 12) rfl))) (ty := (.array .int)) (by decide)
      have Fn27_squaredDistances : Fld Z hp27 ao "org/axisfold/search/WithinRadius" "squaredDistances" "[D" (.null) := Dn27 (Or.inl (hw _ (List.mem_of_getElem? (i := 15) rfl))) (ty := (.array .double)) (by decide)
      have Fn27_limit : Fld Z hp27 ao "org/axisfold/search/WithinRadius" "limit" "D" (.double 0) := Dn27 (Or.inr (hw _ (List.mem_of_getElem? (i := 18) rfl))) (ty := .double) (by decide)
      show own_Go p.tables e below _ (T27.setTop (mkF m 79 (Array.mk [.val (.int a1), .val (.long s1), .second, .val (.int ix), .val (.int md), .val (.int (md &&& (3 : Int32))), .val (.int (0 : Int32)), .val (.long r), .second, .val (.long (r * r)), .second, .unset, .unset, .unset, .unset]) [.ref ao]))
      refine own_blk dec0 seq0 hby hx hZ hown hK hF 3 [] [] X27 eh27 ?_
      show own_Aft X27 hp27 _ 83 [.val (.int a1), .val (.long s1), .second, .val (.int ix), .val (.int md), .val (.int (md &&& (3 : Int32))), .val (.int (0 : Int32)), .val (.long r), .second, .val (.long (r * r)), .second, .unset, .unset, .unset, .unset] [.double (FP.l2d r), .ref ao, .ref ao]
      refine fun T28 X28 eh28 => ?_
      refine own_callI X28 hx hZ hown rfl (hw _ (List.mem_of_getElem? (i := 4) rfl)) (hw _ (List.mem_of_getElem? (i := 5) rfl)) (hw _ (List.mem_of_getElem? (i := 3) rfl)) (hw _ (List.mem_of_getElem? (i := 6) rfl)) (by decide) eh28 ao [.double (FP.l2d r)] pd1 rfl (rm := ({ frames := 1, cells := 2, slots := 32, locals := 16 } : Room)) (rm1 l Z a0 hw [] ao (FP.l2d r) hp27 n0 Z_27 Ea27 nw_ao Fn27_indices Fn27_squaredDistances Fn27_limit (own_rad1 _ _ d1 (by omega)) (own_rad2 _ _ d1 (by omega)) d2.num) (by rw [hml]; rfl) 1 rfl (Nat.le_of_eq rfl) (hb hby at_83) (by decide) (by decide) (by decide) (by decide) (fun T29 rv29 Lc29 X29 qc29 => ?_)
      obtain ⟨rfl, M1, KK, EE, GL⟩ := qc29
      have Z_c : n0 ≤ T29.heap.size := Nat.le_trans Z_27 KK.1
      show own_Go p.tables e below _ (T29.setTop (mkF m 86 (Array.mk [.val (.int a1), .val (.long s1), .second, .val (.int ix), .val (.int md), .val (.int (md &&& (3 : Int32))), .val (.int (0 : Int32)), .val (.long r), .second, .val (.long (r * r)), .second, .unset, .unset, .unset, .unset]) [.ref ao]))
      generalize FP.dmul (FP.l2d r) (FP.l2d r) = lim at d2 GL
      refine own_blk dec0 seq0 hby hx hZ hown hK hF 7 [false] [] X29 rfl ?_
      show (¬ ((md &&& (3 : Int32)).toInt ≠ ((1 : Int32)).toInt)) ∧ own_Aft X29 T29.heap _ 100 [.val (.int a1), .val (.long s1), .second, .val (.int ix), .val (.int md), .val (.int (md &&& (3 : Int32))), .val (.int (0 : Int32)), .val (.long r), .second, .val (.long (r * r)), .second, .val (.ref ao), .unset, .unset, .unset] [.double 9218868437227405312, .int ix, .ref ao]
      refine ⟨by rw [hm1]; decide, fun T30 X30 eh30 => ?_⟩
      refine own_callV X30 hx hZ hown (hw _ (List.mem_of_getElem? (i := 19) rfl)) (hw _ (List.mem_of_getElem? (i := 20) rfl)) (hw _ (List.mem_of_getElem? (i := 22) rfl)) (hw _ (List.mem_of_getElem? (i := 21) rfl)) (hw _ (List.mem_of_getElem? (i := 3) rfl)) (hw _ (List.mem_of_getElem? (i := 23) rfl)) (by decide) eh30 EE [.int ix, .double 9218868437227405312] pd3 rfl (rm := ({ frames := 0, cells := 0, slots := 0, locals := 0 } : Room)) (rm3 l Z a0 hw [] ao ix 9218868437227405312 lim 0 T29.heap n0 Z_c GL own_nI d2.num (Or.inr ⟨own_zI d2.1, rfl⟩)) (by rw [hml]; rfl) 0 rfl (Nat.le_of_eq rfl) (hb hby at_100) (by decide) (by decide) (by decide) (by decide) (fun T31 rv31 Lc31 X31 qc31 => ?_)
      obtain ⟨rfl, M2, hh⟩ := qc31
      show own_Go p.tables e below _ (T31.setTop (mkF m 103 (Array.mk [.val (.int a1), .val (.long s1), .second, .val (.int ix), .val (.int md), .val (.int (md &&& (3 : Int32))), .val (.int (0 : Int32)), .val (.long r), .second, .val (.long (r * r)), .second, .val (.ref ao), .unset, .unset, .unset]) [.int (0 : Int32)]))
      refine own_blk dec0 seq0 hby hx hZ hown hK hF 3 [false] [] X31 hh ?_
      show (¬ (((0 : Int32)).toInt ≠ 0)) ∧ own_Aft X31 T29.heap _ 111 [.val (.int a1), .val (.long s1), .second, .val (.int ix), .val (.int md), .val (.int (md &&& (3 : Int32))), .val (.int (0 : Int32)), .val (.long r), .second, .val (.long (r * r)), .second, .val (.ref ao), .unset, .unset, .unset] [.int (1 : Int32)]
      refine ⟨by decide, fun T32 X32 eh32 => ?_⟩
      exact own_ret X32 hx hlk eh32 hret (by first | rfl | decide) (Or.inl ⟨rfl, by simp, _, rfl⟩) (hb hby at_111) (by decide) (by decide) (⟨rfl, Fr.app (Fr.app N0 M1) M2⟩)
  · skip
    by_cases hf : ¬ (md &&& (4 : Int32)).toInt = 0
    · skip
      refine own_blk dec0 seq0 hby hx hZ hown hK hF 11 [false] [] X0 e0 ?_
      show (¬ ((md &&& (4 : Int32)).toInt = 0)) ∧ own_Aft X0 h0 _ 20 [.val (.int a1), .val (.long s1), .second, .val (.int ix), .val (.int md), .val (.int (md &&& (3 : Int32))), .val (.int (1 : Int32)), .unset, .unset, .unset, .unset, .unset, .unset, .unset, .unset] []
      refine ⟨hf, fun T33 X33 eh33 => ?_⟩
      refine own_blk dec0 seq0 hby hx hZ hown hK hF 8 [true] [] X33 eh33 ?_
      show ((md &&& (3 : Int32)).toInt ≠ ((3 : Int32)).toInt) ∧ own_Aft X33 h0 _ 69 [.val (.int a1), .val (.long s1), .second, .val (.int ix), .val (.int md), .val (.int (md &&& (3 : Int32))), .val (.int (1 : Int32)), .val (.long ((a1 &&& (67108863 : Int32)).toInt64)), .second, .unset, .unset, .unset, .unset, .unset, .unset] []
      refine ⟨by rw [hm1]; decide, fun T34 X34 eh34 => ?_⟩
      have ra := own_and32 a1 67108863 (by decide)
      have rb : (67108863 : Int32).toInt = 67108863 := rfl
      have rc := own_i2l (a1 &&& (67108863 : Int32))
      generalize (a1 &&& (67108863 : Int32)).toInt64 = r at rc ⊢
      show own_Go p.tables e below _ (T34.setTop (mkF m 69 (Array.mk [.val (.int a1), .val (.long s1), .second, .val (.int ix), .val (.int md), .val (.int (md &&& (3 : Int32))), .val (.int (1 : Int32)), .val (.long r), .second, .unset, .unset, .unset, .unset, .unset, .unset]) []))
      obtain ⟨d1, d2, p0, p1, pm⟩ := own_rad r (by omega) (by omega)
      refine own_blk dec0 seq0 hby hx hZ hown hK hF 4 [] [] X34 eh34 ?_
      show own_Aft X34 h0 _ 76 [.val (.int a1), .val (.long s1), .second, .val (.int ix), .val (.int md), .val (.int (md &&& (3 : Int32))), .val (.int (1 : Int32)), .val (.long r), .second, .val (.long (r * r)), .second, .unset, .unset, .unset, .unset] []
      refine fun T35 X35 eh35 => ?_
      refine own_new X35 hx hZ hown (hw _ (List.mem_of_getElem? (i := 1) rfl)) (hw _ (List.mem_of_getElem? (i := 2) rfl)) (hw _ (List.mem_of_getElem? (i := 3) rfl)) eh35 (hb hby at_76) (by decide) (by decide) (fun T36 hp36 ao ga36 X36 eh36 Ex36 Ea36 Dn36 => ?_)
      have nw_ao : n0 ≤ ao := by rw [ga36]; exact Z0
      have Z_36 : n0 ≤ hp36.size := Nat.le_trans Z0 Ex36.1
      have Fn36_indices : Fld Z hp36 ao "org/axisfold/search/WithinRadius" "indices" "[I" (.null) := Dn36 (Or.inl (hw _ (List.mem_of_getElem? (i := 12) rfl))) (ty := (.array .int)) (by decide)
      have Fn36_squaredDistances : Fld Z hp36 ao "org/axisfold/search/WithinRadius" "squaredDistances" "[D" (.null) := Dn36 (Or.inl (hw _ (List.mem_of_getElem? (i := 15) rfl))) (ty := (.array .double)) (by decide)
      have Fn36_limit : Fld Z hp36 ao "org/axisfold/search/WithinRadius" "limit" "D" (.double 0) := Dn36 (Or.inr (hw _ (List.mem_of_getElem? (i := 18) rfl))) (ty := .double) (by decide)
      show own_Go p.tables e below _ (T36.setTop (mkF m 79 (Array.mk [.val (.int a1), .val (.long s1), .second, .val (.int ix), .val (.int md), .val (.int (md &&& (3 : Int32))), .val (.int (1 : Int32)), .val (.long r), .second, .val (.long (r * r)), .second, .unset, .unset, .unset, .unset]) [.ref ao]))
      refine own_blk dec0 seq0 hby hx hZ hown hK hF 3 [] [] X36 eh36 ?_
      show own_Aft X36 hp36 _ 83 [.val (.int a1), .val (.long s1), .second, .val (.int ix), .val (.int md), .val (.int (md &&& (3 : Int32))), .val (.int (1 : Int32)), .val (.long r), .second, .val (.long (r * r)), .second, .unset, .unset, .unset, .unset] [.double (FP.l2d r), .ref ao, .ref ao]
      refine fun T37 X37 eh37 => ?_
      refine own_callI X37 hx hZ hown rfl (hw _ (List.mem_of_getElem? (i := 4) rfl)) (hw _ (List.mem_of_getElem? (i := 5) rfl)) (hw _ (List.mem_of_getElem? (i := 3) rfl)) (hw _ (List.mem_of_getElem? (i := 6) rfl)) (by decide) eh37 ao [.double (FP.l2d r)] pd1 rfl (rm := ({ frames := 1, cells := 2, slots := 32, locals := 16 } : Room)) (rm1 l Z a0 hw [] ao (FP.l2d r) hp36 n0 Z_36 Ea36 nw_ao Fn36_indices Fn36_squaredDistances Fn36_limit (own_rad1 _ _ d1 (by omega)) (own_rad2 _ _ d1 (by omega)) d2.num) (by rw [hml]; rfl) 1 rfl (Nat.le_of_eq rfl) (hb hby at_83) (by decide) (by decide) (by decide) (by decide) (fun T38 rv38 Lc38 X38 qc38 => ?_)
      obtain ⟨rfl, M1, KK, EE, GL⟩ := qc38
      have Z_c : n0 ≤ T38.heap.size := Nat.le_trans Z_36 KK.1
      show own_Go p.tables e below _ (T38.setTop (mkF m 86 (Array.mk [.val (.int a1), .val (.long s1), .second, .val (.int ix), .val (.int md), .val (.int (md &&& (3 : Int32))), .val (.int (1 : Int32)), .val (.long r), .second, .val (.long (r * r)), .second, .unset, .unset, .unset, .unset]) [.ref ao]))
      generalize FP.dmul (FP.l2d r) (FP.l2d r) = lim at d2 GL
      refine own_blk dec0 seq0 hby hx hZ hown hK hF 10 [true, false] [] X38 rfl ?_
      show ((md &&& (3 : Int32)).toInt ≠ ((1 : Int32)).toInt) ∧ (¬ ((md &&& (3 : Int32)).toInt ≠ ((2 : Int32)).toInt)) ∧ own_Aft X38 T38.heap _ 124 [.val (.int a1), .val (.long s1), .second, .val (.int ix), .val (.int md), .val (.int (md &&& (3 : Int32))), .val (.int (1 : Int32)), .val (.long r), .second, .val (.long (r * r)), .second, .val (.ref ao), .unset, .unset, .unset] [.double 18442240474082181120, .int ix, .ref ao]
      refine ⟨by rw [hm1]; decide, by rw [hm1]; decide, fun T39 X39 eh39 => ?_⟩
      refine own_callV X39 hx hZ hown (hw _ (List.mem_of_getElem? (i := 19) rfl)) (hw _ (List.mem_of_getElem? (i := 20) rfl)) (hw _ (List.mem_of_getElem? (i := 22) rfl)) (hw _ (List.mem_of_getElem? (i := 21) rfl)) (hw _ (List.mem_of_getElem? (i := 3) rfl)) (hw _ (List.mem_of_getElem? (i := 23) rfl)) (by decide) eh39 EE [.int ix, .double 18442240474082181120] pd3 rfl (rm := ({ frames := 0, cells := 0, slots := 0, locals := 0 } : Room)) (rm3 l Z a0 hw [] ao ix 18442240474082181120 lim 1 T38.heap n0 Z_c GL own_nM d2.num (Or.inl ⟨Int.le_of_lt (own_zN d2.1), rfl⟩)) (by rw [hml]; rfl) 0 rfl (Nat.le_of_eq rfl) (hb hby at_124) (by decide) (by decide) (by decide) (by decide) (fun T40 rv40 Lc40 X40 qc40 => ?_)
      obtain ⟨rfl, M2, hh⟩ := qc40
      show own_Go p.tables e below _ (T40.setTop (mkF m 127 (Array.mk [.val (.int a1), .val (.long s1), .second, .val (.int ix), .val (.int md), .val (.int (md &&& (3 : Int32))), .val (.int (1 : Int32)), .val (.long r), .second, .val (.long (r * r)), .second, .val (.ref ao), .unset, .unset, .unset]) [.int (1 : Int32)]))
      exact own_ret X40 hx hlk hh hret (by first | rfl | decide) (Or.inl ⟨rfl, by simp, _, rfl⟩) (hb hby at_127) (by decide) (by decide) (⟨rfl, Fr.app (Fr.app N0 M1) M2⟩)
    · skip
      have hf := Decidable.not_not.mp hf
      refine own_blk dec0 seq0 hby hx hZ hown hK hF 10 [true] [] X0 e0 ?_
      show ((md &&& (4 : Int32)).toInt = 0) ∧ own_Aft X0 h0 _ 20 [.val (.int a1), .val (.long s1), .second, .val (.int ix), .val (.int md), .val (.int (md &&& (3 : Int32))), .val (.int (0 : Int32)), .unset, .unset, .unset, .unset, .unset, .unset, .unset, .unset] []
      refine ⟨hf, fun T41 X41 eh41 => ?_⟩
      refine own_blk dec0 seq0 hby hx hZ hown hK hF 8 [true] [] X41 eh41 ?_
      show ((md &&& (3 : Int32)).toInt ≠ ((3 : Int32)).toInt) ∧ own_Aft X41 h0 _ 69 [.val (.int a1), .val (.long s1), .second, .val (.int ix), .val (.int md), .val (.int (md &&& (3 : Int32))), .val (.int (0 : Int32)), .val (.long ((a1 &&& (67108863 : Int32)).toInt64)), .second, .unset, .unset, .unset, .unset, .unset, .unset] []
      refine ⟨by rw [hm1]; decide, fun T42 X42 eh42 => ?_⟩
      have ra := own_and32 a1 67108863 (by decide)
      have rb : (67108863 : Int32).toInt = 67108863 := rfl
      have rc := own_i2l (a1 &&& (67108863 : Int32))
      generalize (a1 &&& (67108863 : Int32)).toInt64 = r at rc ⊢
      show own_Go p.tables e below _ (T42.setTop (mkF m 69 (Array.mk [.val (.int a1), .val (.long s1), .second, .val (.int ix), .val (.int md), .val (.int (md &&& (3 : Int32))), .val (.int (0 : Int32)), .val (.long r), .second, .unset, .unset, .unset, .unset, .unset, .unset]) []))
      obtain ⟨d1, d2, p0, p1, pm⟩ := own_rad r (by omega) (by omega)
      refine own_blk dec0 seq0 hby hx hZ hown hK hF 4 [] [] X42 eh42 ?_
      show own_Aft X42 h0 _ 76 [.val (.int a1), .val (.long s1), .second, .val (.int ix), .val (.int md), .val (.int (md &&& (3 : Int32))), .val (.int (0 : Int32)), .val (.long r), .second, .val (.long (r * r)), .second, .unset, .unset, .unset, .unset] []
      refine fun T43 X43 eh43 => ?_
      refine own_new X43 hx hZ hown (hw _ (List.mem_of_getElem? (i := 1) rfl)) (hw _ (List.mem_of_getElem? (i := 2) rfl)) (hw _ (List.mem_of_getElem? (i := 3) rfl)) eh43 (hb hby at_76) (by decide) (by decide) (fun T44 hp44 ao ga44 X44 eh44 Ex44 Ea44 Dn44 => ?_)
      have nw_ao : n0 ≤ ao := by rw [ga44]; exact Z0
      have Z_44 : n0 ≤ hp44.size := Nat.le_trans Z0 Ex44.1
      have Fn44_indices : Fld Z hp44 ao "org/axisfold/search/WithinRadius" "indices" "[I" (.null) := Dn44 (Or.inl (hw _ (List.mem_of_getElem? (i := 12) rfl))) (ty := (.array .int)) (by decide)
      have Fn44_squaredDistances : Fld Z hp44 ao "org/axisfold/search/WithinRadius" "squaredDistances" "[D" (.null) := Dn44 (Or.inl (hw _ (List.mem_of_getElem? (i := 15) rfl))) (ty := (.array .double)) (by decide)
      have Fn44_limit : Fld Z hp44 ao "org/axisfold/search/WithinRadius" "limit" "D" (.double 0) := Dn44 (Or.inr (hw _ (List.mem_of_getElem? (i := 18) rfl))) (ty := .double) (by decide)
      show own_Go p.tables e below _ (T44.setTop (mkF m 79 (Array.mk [.val (.int a1), .val (.long s1), .second, .val (.int ix), .val (.int md), .val (.int (md &&& (3 : Int32))), .val (.int (0 : Int32)), .val (.long r), .second, .val (.long (r * r)), .second, .unset, .unset, .unset, .unset]) [.ref ao]))
      refine own_blk dec0 seq0 hby hx hZ hown hK hF 3 [] [] X44 eh44 ?_
      show own_Aft X44 hp44 _ 83 [.val (.int a1), .val (.long s1), .second, .val (.int ix), .val (.int md), .val (.int (md &&& (3 : Int32))), .val (.int (0 : Int32)), .val (.long r), .second, .val (.long (r * r)), .second, .unset, .unset, .unset, .unset] [.double (FP.l2d r), .ref ao, .ref ao]
      refine fun T45 X45 eh45 => ?_
      refine own_callI X45 hx hZ hown rfl (hw _ (List.mem_of_getElem? (i := 4) rfl)) (hw _ (List.mem_of_getElem? (i := 5) rfl)) (hw _ (List.mem_of_getElem? (i := 3) rfl)) (hw _ (List.mem_of_getElem? (i := 6) rfl)) (by decide) eh45 ao [.double (FP.l2d r)] pd1 rfl (rm := ({ frames := 1, cells := 2, slots := 32, locals := 16 } : Room)) (rm1 l Z a0 hw [] ao (FP.l2d r) hp44 n0 Z_44 Ea44 nw_ao Fn44_indices Fn44_squaredDistances Fn44_limit (own_rad1 _ _ d1 (by omega)) (own_rad2 _ _ d1 (by omega)) d2.num) (by rw [hml]; rfl) 1 rfl (Nat.le_of_eq rfl) (hb hby at_83) (by decide) (by decide) (by decide) (by decide) (fun T46 rv46 Lc46 X46 qc46 => ?_)
      obtain ⟨rfl, M1, KK, EE, GL⟩ := qc46
      have Z_c : n0 ≤ T46.heap.size := Nat.le_trans Z_44 KK.1
      show own_Go p.tables e below _ (T46.setTop (mkF m 86 (Array.mk [.val (.int a1), .val (.long s1), .second, .val (.int ix), .val (.int md), .val (.int (md &&& (3 : Int32))), .val (.int (0 : Int32)), .val (.long r), .second, .val (.long (r * r)), .second, .unset, .unset, .unset, .unset]) [.ref ao]))
      generalize FP.dmul (FP.l2d r) (FP.l2d r) = lim at d2 GL
      refine own_blk dec0 seq0 hby hx hZ hown hK hF 10 [true, false] [] X46 rfl ?_
      show ((md &&& (3 : Int32)).toInt ≠ ((1 : Int32)).toInt) ∧ (¬ ((md &&& (3 : Int32)).toInt ≠ ((2 : Int32)).toInt)) ∧ own_Aft X46 T46.heap _ 124 [.val (.int a1), .val (.long s1), .second, .val (.int ix), .val (.int md), .val (.int (md &&& (3 : Int32))), .val (.int (0 : Int32)), .val (.long r), .second, .val (.long (r * r)), .second, .val (.ref ao), .unset, .unset, .unset] [.double 18442240474082181120, .int ix, .ref ao]
      refine ⟨by rw [hm1]; decide, by rw [hm1]; decide, fun T47 X47 eh47 => ?_⟩
      refine own_callV X47 hx hZ hown (hw _ (List.mem_of_getElem? (i := 19) rfl)) (hw _ (List.mem_of_getElem? (i := 20) rfl)) (hw _ (List.mem_of_getElem? (i := 22) rfl)) (hw _ (List.mem_of_getElem? (i := 21) rfl)) (hw _ (List.mem_of_getElem? (i := 3) rfl)) (hw _ (List.mem_of_getElem? (i := 23) rfl)) (by decide) eh47 EE [.int ix, .double 18442240474082181120] pd3 rfl (rm := ({ frames := 0, cells := 0, slots := 0, locals := 0 } : Room)) (rm3 l Z a0 hw [] ao ix 18442240474082181120 lim 1 T46.heap n0 Z_c GL own_nM d2.num (Or.inl ⟨Int.le_of_lt (own_zN d2.1), rfl⟩)) (by rw [hml]; rfl) 0 rfl (Nat.le_of_eq rfl) (hb hby at_124) (by decide) (by decide) (by decide) (by decide) (fun T48 rv48 Lc48 X48 qc48 => ?_)
      obtain ⟨rfl, M2, hh⟩ := qc48
      show own_Go p.tables e below _ (T48.setTop (mkF m 127 (Array.mk [.val (.int a1), .val (.long s1), .second, .val (.int ix), .val (.int md), .val (.int (md &&& (3 : Int32))), .val (.int (0 : Int32)), .val (.long r), .second, .val (.long (r * r)), .second, .val (.ref ao), .unset, .unset, .unset]) [.int (1 : Int32)]))
      exact own_ret X48 hx hlk hh hret (by first | rfl | decide) (Or.inl ⟨rfl, by simp, _, rfl⟩) (hb hby at_127) (by decide) (by decide) (⟨rfl, Fr.app (Fr.app N0 M1) M2⟩)
  · skip
    by_cases hf : ¬ (md &&& (4 : Int32)).toInt = 0
    · skip
      refine own_blk dec0 seq0 hby hx hZ hown hK hF 11 [false] [] X0 e0 ?_
      show (¬ ((md &&& (4 : Int32)).toInt = 0)) ∧ own_Aft X0 h0 _ 20 [.val (.int a1), .val (.long s1), .second, .val (.int ix), .val (.int md), .val (.int (md &&& (3 : Int32))), .val (.int (1 : Int32)), .unset, .unset, .unset, .unset, .unset, .unset, .unset, .unset] []
      refine ⟨hf, fun T49 X49 eh49 => ?_⟩
      refine own_blk dec0 seq0 hby hx hZ hown hK hF 8 [true] [] X49 eh49 ?_
      show ((md &&& (3 : Int32)).toInt ≠ ((3 : Int32)).toInt) ∧ own_Aft X49 h0 _ 69 [.val (.int a1), .val (.long s1), .second, .val (.int ix), .val (.int md), .val (.int (md &&& (3 : Int32))), .val (.int (1 : Int32)), .val (.long ((a1 &&& (67108863 : Int32)).toInt64)), .second, .unset, .unset, .unset, .unset, .unset, .unset] []
      refine ⟨by rw [hm1]; decide, fun T50 X50 eh50 => ?_⟩
      have ra := own_and32 a1 67108863 (by decide)
      have rb : (67108863 : Int32).toInt = 67108863 := rfl
      have rc := own_i2l (a1 &&& (67108863 : Int32))
      generalize (a1 &&& (67108863 : Int32)).toInt64 = r at rc ⊢
      show own_Go p.tables e below _ (T50.setTop (mkF m 69 (Array.mk [.val (.int a1), .val (.long s1), .second, .val (.int ix), .val (.int md), .val (.int (md &&& (3 : Int32))), .val (.int (1 : Int32)), .val (.long r), .second, .unset, .unset, .unset, .unset, .unset, .unset]) []))
      obtain ⟨d1, d2, p0, p1, pm⟩ := own_rad r (by omega) (by omega)
      refine own_blk dec0 seq0 hby hx hZ hown hK hF 4 [] [] X50 eh50 ?_
      show own_Aft X50 h0 _ 76 [.val (.int a1), .val (.long s1), .second, .val (.int ix), .val (.int md), .val (.int (md &&& (3 : Int32))), .val (.int (1 : Int32)), .val (.long r), .second, .val (.long (r * r)), .second, .unset, .unset, .unset, .unset] []
      refine fun T51 X51 eh51 => ?_
      refine own_new X51 hx hZ hown (hw _ (List.mem_of_getElem? (i := 1) rfl)) (hw _ (List.mem_of_getElem? (i := 2) rfl)) (hw _ (List.mem_of_getElem? (i := 3) rfl)) eh51 (hb hby at_76) (by decide) (by decide) (fun T52 hp52 ao ga52 X52 eh52 Ex52 Ea52 Dn52 => ?_)
      have nw_ao : n0 ≤ ao := by rw [ga52]; exact Z0
      have Z_52 : n0 ≤ hp52.size := Nat.le_trans Z0 Ex52.1
      have Fn52_indices : Fld Z hp52 ao "org/axisfold/search/WithinRadius" "indices" "[I" (.null) := Dn52 (Or.inl (hw _ (List.mem_of_getElem? (i := 12) rfl))) (ty := (.array .int)) (by decide)
      have Fn52_squaredDistances : Fld Z hp52 ao "org/axisfold/search/WithinRadius" "squaredDistances" "[D" (.null) := Dn52 (Or.inl (hw _ (List.mem_of_getElem? (i := 15) rfl))) (ty := (.array .double)) (by decide)
      have Fn52_limit : Fld Z hp52 ao "org/axisfold/search/WithinRadius" "limit" "D" (.double 0) := Dn52 (Or.inr (hw _ (List.mem_of_getElem? (i := 18) rfl))) (ty := .double) (by decide)
      show own_Go p.tables e below _ (T52.setTop (mkF m 79 (Array.mk [.val (.int a1), .val (.long s1), .second, .val (.int ix), .val (.int md), .val (.int (md &&& (3 : Int32))), .val (.int (1 : Int32)), .val (.long r), .second, .val (.long (r * r)), .second, .unset, .unset, .unset, .unset]) [.ref ao]))
      refine own_blk dec0 seq0 hby hx hZ hown hK hF 3 [] [] X52 eh52 ?_
      show own_Aft X52 hp52 _ 83 [.val (.int a1), .val (.long s1), .second, .val (.int ix), .val (.int md), .val (.int (md &&& (3 : Int32))), .val (.int (1 : Int32)), .val (.long r), .second, .val (.long (r * r)), .second, .unset, .unset, .unset, .unset] [.double (FP.l2d r), .ref ao, .ref ao]
      refine fun T53 X53 eh53 => ?_
      refine own_callI X53 hx hZ hown rfl (hw _ (List.mem_of_getElem? (i := 4) rfl)) (hw _ (List.mem_of_getElem? (i := 5) rfl)) (hw _ (List.mem_of_getElem? (i := 3) rfl)) (hw _ (List.mem_of_getElem? (i := 6) rfl)) (by decide) eh53 ao [.double (FP.l2d r)] pd1 rfl (rm := ({ frames := 1, cells := 2, slots := 32, locals := 16 } : Room)) (rm1 l Z a0 hw [] ao (FP.l2d r) hp52 n0 Z_52 Ea52 nw_ao Fn52_indices Fn52_squaredDistances Fn52_limit (own_rad1 _ _ d1 (by omega)) (own_rad2 _ _ d1 (by omega)) d2.num) (by rw [hml]; rfl) 1 rfl (Nat.le_of_eq rfl) (hb hby at_83) (by decide) (by decide) (by decide) (by decide) (fun T54 rv54 Lc54 X54 qc54 => ?_)
      obtain ⟨rfl, M1, KK, EE, GL⟩ := qc54
      have Z_c : n0 ≤ T54.heap.size := Nat.le_trans Z_52 KK.1
      show own_Go p.tables e below _ (T54.setTop (mkF m 86 (Array.mk [.val (.int a1), .val (.long s1), .second, .val (.int ix), .val (.int md), .val (.int (md &&& (3 : Int32))), .val (.int (1 : Int32)), .val (.long r), .second, .val (.long (r * r)), .second, .unset, .unset, .unset, .unset]) [.ref ao]))
      generalize FP.dmul (FP.l2d r) (FP.l2d r) = lim at d2 GL
      refine own_blk dec0 seq0 hby hx hZ hown hK hF 12 [true, true, false] [] X54 rfl ?_
      show ((md &&& (3 : Int32)).toInt ≠ ((1 : Int32)).toInt) ∧ ((md &&& (3 : Int32)).toInt ≠ ((2 : Int32)).toInt) ∧ (¬ (((1 : Int32)).toInt = 0)) ∧ own_Aft X54 T54.heap _ 136 [.val (.int a1), .val (.long s1), .second, .val (.int ix), .val (.int md), .val (.int (md &&& (3 : Int32))), .val (.int (1 : Int32)), .val (.long r), .second, .val (.long (r * r)), .second, .val (.ref ao), .unset, .unset, .unset] [.double (FP.dneg (FP.l2d s1))]
      refine ⟨by rw [hm1]; decide, by rw [hm1]; decide, by decide, fun T55 X55 eh55 => ?_⟩
      refine own_blk dec0 seq0 hby hx hZ hown hK hF 2 [] [] X55 eh55 ?_
      show own_Aft X55 T54.heap _ 143 [.val (.int a1), .val (.long s1), .second, .val (.int ix), .val (.int md), .val (.int (md &&& (3 : Int32))), .val (.int (1 : Int32)), .val (.long r), .second, .val (.long (r * r)), .second, .val (.ref ao), .val (.double (FP.dneg (FP.l2d s1))), .second, .unset] []
      refine fun T56 X56 eh56 => ?_
      have cl := own_cmpL
      have en : (-(r * r)).toInt = -(r.toInt * r.toInt) := by rw [FP.Core.int64_neg (by omega), pm]
      obtain ⟨sn, s2, s3, s4, s5⟩ := own_l2d_cmp s1 (-(r.toInt * r.toInt)) (FP.dneg lim) d2.neg (by omega)
      have zn := own_z_neg
      have nd : own_num (FP.dneg (FP.l2d s1)) := by unfold own_num; rw [FP.val64_dneg]; exact FP.Core.negate_ne_nan sn
      by_cases hs : -(r.toInt * r.toInt) ≤ s1.toInt
      · skip
        refine own_blk dec0 seq0 hby hx hZ hown hK hF 12 [false, false] [] X56 eh56 ?_
        show (¬ (((1 : Int32)).toInt = 0)) ∧ (¬ ((Jvm.Free.XT.cmpL s1 (-(r * r))).toInt < 0)) ∧ own_Aft X56 T54.heap _ 181 [.val (.int a1), .val (.long s1), .second, .val (.int ix), .val (.int md), .val (.int (md &&& (3 : Int32))), .val (.int (1 : Int32)), .val (.long r), .second, .val (.long (r * r)), .second, .val (.ref ao), .val (.double (FP.dneg (FP.l2d s1))), .second, .val (.int (1 : Int32))] [.int ix, .ref ao]
        refine ⟨by decide, by rw [cl, en]; split <;> first | omega | (split <;> omega), fun T57 X57 eh57 => ?_⟩
        refine own_blk dec0 seq0 hby hx hZ hown hK hF 1 [] [] X57 eh57 ?_
        show own_Aft X57 T54.heap _ 183 [.val (.int a1), .val (.long s1), .second, .val (.int ix), .val (.int md), .val (.int (md &&& (3 : Int32))), .val (.int (1 : Int32)), .val (.long r), .second, .val (.long (r * r)), .second, .val (.ref ao), .val (.double (FP.dneg (FP.l2d s1))), .second, .val (.int (1 : Int32))] [.double (FP.dneg (FP.l2d s1)), .int ix, .ref ao]
        refine fun T58 X58 eh58 => ?_
        refine own_callV X58 hx hZ hown (hw _ (List.mem_of_getElem? (i := 19) rfl)) (hw _ (List.mem_of_getElem? (i := 20) rfl)) (hw _ (List.mem_of_getElem? (i := 22) rfl)) (hw _ (List.mem_of_getElem? (i := 21) rfl)) (hw _ (List.mem_of_getElem? (i := 3) rfl)) (hw _ (List.mem_of_getElem? (i := 23) rfl)) (by decide) eh58 EE [.int ix, .double (FP.dneg (FP.l2d s1))] pd3 rfl (rm := ({ frames := 0, cells := 0, slots := 0, locals := 0 } : Room)) (rm3 l Z a0 hw [] ao ix (FP.dneg (FP.l2d s1)) lim 1 T54.heap n0 Z_c GL nd d2.num (Or.inl ⟨by have := s4 hs; rw [zn] at this ⊢; omega, rfl⟩)) (by rw [hml]; rfl) 0 rfl (Nat.le_of_eq rfl) (hb hby at_183) (by decide) (by decide) (by decide) (by decide) (fun T59 rv59 Lc59 X59 qc59 => ?_)
        obtain ⟨rfl, M2, hh⟩ := qc59
        show own_Go p.tables e below _ (T59.setTop (mkF m 186 (Array.mk [.val (.int a1), .val (.long s1), .second, .val (.int ix), .val (.int md), .val (.int (md &&& (3 : Int32))), .val (.int (1 : Int32)), .val (.long r), .second, .val (.long (r * r)), .second, .val (.ref ao), .val (.double (FP.dneg (FP.l2d s1))), .second, .val (.int (1 : Int32))]) [.int (1 : Int32)]))
        refine own_blk dec0 seq0 hby hx hZ hown hK hF 4 [false] [] X59 hh ?_
        show (¬ (((1 : Int32)).toInt ≠ ((1 : Int32)).toInt)) ∧ own_Aft X59 T54.heap _ 196 [.val (.int a1), .val (.long s1), .second, .val (.int ix), .val (.int md), .val (.int (md &&& (3 : Int32))), .val (.int (1 : Int32)), .val (.long r), .second, .val (.long (r * r)), .second, .val (.ref ao), .val (.double (FP.dneg (FP.l2d s1))), .second, .val (.int (1 : Int32))] [.int (1 : Int32)]
        refine ⟨by decide, fun T60 X60 eh60 => ?_⟩
        exact own_ret X60 hx hlk eh60 hret (by first | rfl | decide) (Or.inl ⟨rfl, by simp, _, rfl⟩) (hb hby at_196) (by decide) (by decide) (⟨rfl, Fr.app (Fr.app N0 M1) M2⟩)
      · skip
        refine own_blk dec0 seq0 hby hx hZ hown hK hF 12 [false, true] [] X56 eh56 ?_
        show (¬ (((1 : Int32)).toInt = 0)) ∧ ((Jvm.Free.XT.cmpL s1 (-(r * r))).toInt < 0) ∧ own_Aft X56 T54.heap _ 181 [.val (.int a1), .val (.long s1), .second, .val (.int ix), .val (.int md), .val (.int (md &&& (3 : Int32))), .val (.int (1 : Int32)), .val (.long r), .second, .val (.long (r * r)), .second, .val (.ref ao), .val (.double (FP.dneg (FP.l2d s1))), .second, .val (.int (0 : Int32))] [.int ix, .ref ao]
        refine ⟨by decide, by rw [cl, en]; split <;> first | omega | (split <;> omega), fun T61 X61 eh61 => ?_⟩
        refine own_blk dec0 seq0 hby hx hZ hown hK hF 1 [] [] X61 eh61 ?_
        show own_Aft X61 T54.heap _ 183 [.val (.int a1), .val (.long s1), .second, .val (.int ix), .val (.int md), .val (.int (md &&& (3 : Int32))), .val (.int (1 : Int32)), .val (.long r), .second, .val (.long (r * r)), .second, .val (.ref ao), .val (.double (FP.dneg (FP.l2d s1))), .second, .val (.int (0 : Int32))] [.double (FP.dneg (FP.l2d s1)), .int ix, .ref ao]
        refine fun T62 X62 eh62 => ?_
        refine own_callV X62 hx hZ hown (hw _ (List.mem_of_getElem? (i := 19) rfl)) (hw _ (List.mem_of_getElem? (i := 20) rfl)) (hw _ (List.mem_of_getElem? (i := 22) rfl)) (hw _ (List.mem_of_getElem? (i := 21) rfl)) (hw _ (List.mem_of_getElem? (i := 3) rfl)) (hw _ (List.mem_of_getElem? (i := 23) rfl)) (by decide) eh62 EE [.int ix, .double (FP.dneg (FP.l2d s1))] pd3 rfl (rm := ({ frames := 0, cells := 0, slots := 0, locals := 0 } : Room)) (rm3 l Z a0 hw [] ao ix (FP.dneg (FP.l2d s1)) lim 0 T54.heap n0 Z_c GL nd d2.num (Or.inr ⟨by have := s5 (by omega); rw [zn] at this ⊢; omega, rfl⟩)) (by rw [hml]; rfl) 0 rfl (Nat.le_of_eq rfl) (hb hby at_183) (by decide) (by decide) (by decide) (by decide) (fun T63 rv63 Lc63 X63 qc63 => ?_)
        obtain ⟨rfl, M2, hh⟩ := qc63
        show own_Go p.tables e below _ (T63.setTop (mkF m 186 (Array.mk [.val (.int a1), .val (.long s1), .second, .val (.int ix), .val (.int md), .val (.int (md &&& (3 : Int32))), .val (.int (1 : Int32)), .val (.long r), .second, .val (.long (r * r)), .second, .val (.ref ao), .val (.double (FP.dneg (FP.l2d s1))), .second, .val (.int (0 : Int32))]) [.int (0 : Int32)]))
        refine own_blk dec0 seq0 hby hx hZ hown hK hF 4 [false] [] X63 hh ?_
        show (¬ (((0 : Int32)).toInt ≠ ((0 : Int32)).toInt)) ∧ own_Aft X63 T54.heap _ 196 [.val (.int a1), .val (.long s1), .second, .val (.int ix), .val (.int md), .val (.int (md &&& (3 : Int32))), .val (.int (1 : Int32)), .val (.long r), .second, .val (.long (r * r)), .second, .val (.ref ao), .val (.double (FP.dneg (FP.l2d s1))), .second, .val (.int (0 : Int32))] [.int (1 : Int32)]
        refine ⟨by decide, fun T64 X64 eh64 => ?_⟩
        exact own_ret X64 hx hlk eh64 hret (by first | rfl | decide) (Or.inl ⟨rfl, by simp, _, rfl⟩) (hb hby at_196) (by decide) (by decide) (⟨rfl, Fr.app (Fr.app N0 M1) M2⟩)
    · skip
      have hf := Decidable.not_not.mp hf
      refine own_blk dec0 seq0 hby hx hZ hown hK hF 10 [true] [] X0 e0 ?_
      show ((md &&& (4 : Int32)).toInt = 0) ∧ own_Aft X0 h0 _ 20 [.val (.int a1), .val (.long s1), .second, .val (.int ix), .val (.int md), .val (.int (md &&& (3 : Int32))), .val (.int (0 : Int32)), .unset, .unset, .unset, .unset, .unset, .unset, .unset, .unset] []
      refine ⟨hf, fun T65 X65 eh65 => ?_⟩
      refine own_blk dec0 seq0 hby hx hZ hown hK hF 8 [true] [] X65 eh65 ?_
      show ((md &&& (3 : Int32)).toInt ≠ ((3 : Int32)).toInt) ∧ own_Aft X65 h0 _ 69 [.val (.int a1), .val (.long s1), .second, .val (.int ix), .val (.int md), .val (.int (md &&& (3 : Int32))), .val (.int (0 : Int32)), .val (.long ((a1 &&& (67108863 : Int32)).toInt64)), .second, .unset, .unset, .unset, .unset, .unset, .unset] []
      refine ⟨by rw [hm1]; decide, fun T66 X66 eh66 => ?_⟩
      have ra := own_and32 a1 67108863 (by decide)
      have rb : (67108863 : Int32).toInt = 67108863 := rfl
      have rc := own_i2l (a1 &&& (67108863 : Int32))
      generalize (a1 &&& (67108863 : Int32)).toInt64 = r at rc ⊢
      show own_Go p.tables e below _ (T66.setTop (mkF m 69 (Array.mk [.val (.int a1), .val (.long s1), .second, .val (.int ix), .val (.int md), .val (.int (md &&& (3 : Int32))), .val (.int (0 : Int32)), .val (.long r), .second, .unset, .unset, .unset, .unset, .unset, .unset]) []))
      obtain ⟨d1, d2, p0, p1, pm⟩ := own_rad r (by omega) (by omega)
      refine own_blk dec0 seq0 hby hx hZ hown hK hF 4 [] [] X66 eh66 ?_
      show own_Aft X66 h0 _ 76 [.val (.int a1), .val (.long s1), .second, .val (.int ix), .val (.int md), .val (.int (md &&& (3 : Int32))), .val (.int (0 : Int32)), .val (.long r), .second, .val (.long (r * r)), .second, .unset, .unset, .unset, .unset] []
      refine fun T67 X67 eh67 => ?_
      refine own_new X67 hx hZ hown (hw _ (List.mem_of_getElem? (i := 1) rfl)) (hw _ (List.mem_of_getElem? (i := 2) rfl)) (hw _ (List.mem_of_getElem? (i := 3) rfl)) eh67 (hb hby at_76) (by decide) (by decide) (fun T68 hp68 ao ga68 X68 eh68 Ex68 Ea68 Dn68 => ?_)
      have nw_ao : n0 ≤ ao := by rw [ga68]; exact Z0
      have Z_68 : n0 ≤ hp68.size := Nat.le_trans Z0 Ex68.1
      have Fn68_indices : Fld Z hp68 ao "org/axisfold/search/WithinRadius" "indices" "[I" (.null) := Dn68 (Or.inl (hw _ (List.mem_of_getElem? (i := 12) rfl))) (ty := (.array .int)) (by decide)
      have Fn68_squaredDistances : Fld Z hp68 ao "org/axisfold/search/WithinRadius" "squaredDistances" "[D" (.null) := Dn68 (Or.inl (hw _ (List.mem_of_getElem? (i := 15) rfl))) (ty := (.array .double)) (by decide)
      have Fn68_limit : Fld Z hp68 ao "org/axisfold/search/WithinRadius" "limit" "D" (.double 0) := Dn68 (Or.inr (hw _ (List.mem_of_getElem? (i := 18) rfl))) (ty := .double) (by decide)
      show own_Go p.tables e below _ (T68.setTop (mkF m 79 (Array.mk [.val (.int a1), .val (.long s1), .second, .val (.int ix), .val (.int md), .val (.int (md &&& (3 : Int32))), .val (.int (0 : Int32)), .val (.long r), .second, .val (.long (r * r)), .second, .unset, .unset, .unset, .unset]) [.ref ao]))
      refine own_blk dec0 seq0 hby hx hZ hown hK hF 3 [] [] X68 eh68 ?_
      show own_Aft X68 hp68 _ 83 [.val (.int a1), .val (.long s1), .second, .val (.int ix), .val (.int md), .val (.int (md &&& (3 : Int32))), .val (.int (0 : Int32)), .val (.long r), .second, .val (.long (r * r)), .second, .unset, .unset, .unset, .unset] [.double (FP.l2d r), .ref ao, .ref ao]
      refine fun T69 X69 eh69 => ?_
      refine own_callI X69 hx hZ hown rfl (hw _ (List.mem_of_getElem? (i := 4) rfl)) (hw _ (List.mem_of_getElem? (i := 5) rfl)) (hw _ (List.mem_of_getElem? (i := 3) rfl)) (hw _ (List.mem_of_getElem? (i := 6) rfl)) (by decide) eh69 ao [.double (FP.l2d r)] pd1 rfl (rm := ({ frames := 1, cells := 2, slots := 32, locals := 16 } : Room)) (rm1 l Z a0 hw [] ao (FP.l2d r) hp68 n0 Z_68 Ea68 nw_ao Fn68_indices Fn68_squaredDistances Fn68_limit (own_rad1 _ _ d1 (by omega)) (own_rad2 _ _ d1 (by omega)) d2.num) (by rw [hml]; rfl) 1 rfl (Nat.le_of_eq rfl) (hb hby at_83) (by decide) (by decide) (by decide) (by decide) (fun T70 rv70 Lc70 X70 qc70 => ?_)
      obtain ⟨rfl, M1, KK, EE, GL⟩ := qc70
      have Z_c : n0 ≤ T70.heap.size := Nat.le_trans Z_68 KK.1
      show own_Go p.tables e below _ (T70.setTop (mkF m 86 (Array.mk [.val (.int a1), .val (.long s1), .second, .val (.int ix), .val (.int md), .val (.int (md &&& (3 : Int32))), .val (.int (0 : Int32)), .val (.long r), .second, .val (.long (r * r)), .second, .unset, .unset, .unset, .unset]) [.ref ao]))
      generalize FP.dmul (FP.l2d r) (FP.l2d r) = lim at d2 GL
      refine own_blk dec0 seq0 hby hx hZ hown hK hF 12 [true, true, true] [] X70 rfl ?_
      show ((md &&& (3 : Int32)).toInt ≠ ((1 : Int32)).toInt) ∧ ((md &&& (3 : Int32)).toInt ≠ ((2 : Int32)).toInt) ∧ (((0 : Int32)).toInt = 0) ∧ own_Aft X70 T70.heap _ 143 [.val (.int a1), .val (.long s1), .second, .val (.int ix), .val (.int md), .val (.int (md &&& (3 : Int32))), .val (.int (0 : Int32)), .val (.long r), .second, .val (.long (r * r)), .second, .val (.ref ao), .val (.double (FP.l2d s1)), .second, .unset] []
      refine ⟨by rw [hm1]; decide, by rw [hm1]; decide, by decide, fun T71 X71 eh71 => ?_⟩
      have cl := own_cmpL
      obtain ⟨sn, s2, s3, s4, s5⟩ := own_l2d_cmp s1 (r.toInt * r.toInt) lim d2 (by omega)
      by_cases hs : s1.toInt ≤ r.toInt * r.toInt
      · skip
        refine own_blk dec0 seq0 hby hx hZ hown hK hF 12 [true, false] [] X71 eh71 ?_
        show (((0 : Int32)).toInt = 0) ∧ (¬ (0 < (Jvm.Free.XT.cmpL s1 (r * r)).toInt)) ∧ own_Aft X71 T70.heap _ 183 [.val (.int a1), .val (.long s1), .second, .val (.int ix), .val (.int md), .val (.int (md &&& (3 : Int32))), .val (.int (0 : Int32)), .val (.long r), .second, .val (.long (r * r)), .second, .val (.ref ao), .val (.double (FP.l2d s1)), .second, .val (.int (1 : Int32))] [.double (FP.l2d s1), .int ix, .ref ao]
        refine ⟨by decide, by rw [cl, pm]; split <;> first | omega | (split <;> omega), fun T72 X72 eh72 => ?_⟩
        refine own_callV X72 hx hZ hown (hw _ (List.mem_of_getElem? (i := 19) rfl)) (hw _ (List.mem_of_getElem? (i := 20) rfl)) (hw _ (List.mem_of_getElem? (i := 22) rfl)) (hw _ (List.mem_of_getElem? (i := 21) rfl)) (hw _ (List.mem_of_getElem? (i := 3) rfl)) (hw _ (List.mem_of_getElem? (i := 23) rfl)) (by decide) eh72 EE [.int ix, .double (FP.l2d s1)] pd3 rfl (rm := ({ frames := 0, cells := 0, slots := 0, locals := 0 } : Room)) (rm3 l Z a0 hw [] ao ix (FP.l2d s1) lim 1 T70.heap n0 Z_c GL sn d2.num (Or.inl ⟨s2 hs, rfl⟩)) (by rw [hml]; rfl) 0 rfl (Nat.le_of_eq rfl) (hb hby at_183) (by decide) (by decide) (by decide) (by decide) (fun T73 rv73 Lc73 X73 qc73 => ?_)
        obtain ⟨rfl, M2, hh⟩ := qc73
        show own_Go p.tables e below _ (T73.setTop (mkF m 186 (Array.mk [.val (.int a1), .val (.long s1), .second, .val (.int ix), .val (.int md), .val (.int (md &&& (3 : Int32))), .val (.int (0 : Int32)), .val (.long r), .second, .val (.long (r * r)), .second, .val (.ref ao), .val (.double (FP.l2d s1)), .second, .val (.int (1 : Int32))]) [.int (1 : Int32)]))
        refine own_blk dec0 seq0 hby hx hZ hown hK hF 4 [false] [] X73 hh ?_
        show (¬ (((1 : Int32)).toInt ≠ ((1 : Int32)).toInt)) ∧ own_Aft X73 T70.heap _ 196 [.val (.int a1), .val (.long s1), .second, .val (.int ix), .val (.int md), .val (.int (md &&& (3 : Int32))), .val (.int (0 : Int32)), .val (.long r), .second, .val (.long (r * r)), .second, .val (.ref ao), .val (.double (FP.l2d s1)), .second, .val (.int (1 : Int32))] [.int (1 : Int32)]
        refine ⟨by decide, fun T74 X74 eh74 => ?_⟩
        exact own_ret X74 hx hlk eh74 hret (by first | rfl | decide) (Or.inl ⟨rfl, by simp, _, rfl⟩) (hb hby at_196) (by decide) (by decide) (⟨rfl, Fr.app (Fr.app N0 M1) M2⟩)
      · skip
        refine own_blk dec0 seq0 hby hx hZ hown hK hF 11 [true, true] [] X71 eh71 ?_
        show (((0 : Int32)).toInt = 0) ∧ (0 < (Jvm.Free.XT.cmpL s1 (r * r)).toInt) ∧ own_Aft X71 T70.heap _ 183 [.val (.int a1), .val (.long s1), .second, .val (.int ix), .val (.int md), .val (.int (md &&& (3 : Int32))), .val (.int (0 : Int32)), .val (.long r), .second, .val (.long (r * r)), .second, .val (.ref ao), .val (.double (FP.l2d s1)), .second, .val (.int (0 : Int32))] [.double (FP.l2d s1), .int ix, .ref ao]
        refine ⟨by decide, by rw [cl, pm]; split <;> first | omega | (split <;> omega), fun T75 X75 eh75 => ?_⟩
        refine own_callV X75 hx hZ hown (hw _ (List.mem_of_getElem? (i := 19) rfl)) (hw _ (List.mem_of_getElem? (i := 20) rfl)) (hw _ (List.mem_of_getElem? (i := 22) rfl)) (hw _ (List.mem_of_getElem? (i := 21) rfl)) (hw _ (List.mem_of_getElem? (i := 3) rfl)) (hw _ (List.mem_of_getElem? (i := 23) rfl)) (by decide) eh75 EE [.int ix, .double (FP.l2d s1)] pd3 rfl (rm := ({ frames := 0, cells := 0, slots := 0, locals := 0 } : Room)) (rm3 l Z a0 hw [] ao ix (FP.l2d s1) lim 0 T70.heap n0 Z_c GL sn d2.num (Or.inr ⟨s3 (by omega), rfl⟩)) (by rw [hml]; rfl) 0 rfl (Nat.le_of_eq rfl) (hb hby at_183) (by decide) (by decide) (by decide) (by decide) (fun T76 rv76 Lc76 X76 qc76 => ?_)
        obtain ⟨rfl, M2, hh⟩ := qc76
        show own_Go p.tables e below _ (T76.setTop (mkF m 186 (Array.mk [.val (.int a1), .val (.long s1), .second, .val (.int ix), .val (.int md), .val (.int (md &&& (3 : Int32))), .val (.int (0 : Int32)), .val (.long r), .second, .val (.long (r * r)), .second, .val (.ref ao), .val (.double (FP.l2d s1)), .second, .val (.int (0 : Int32))]) [.int (0 : Int32)]))
        refine own_blk dec0 seq0 hby hx hZ hown hK hF 4 [false] [] X76 hh ?_
        show (¬ (((0 : Int32)).toInt ≠ ((0 : Int32)).toInt)) ∧ own_Aft X76 T70.heap _ 196 [.val (.int a1), .val (.long s1), .second, .val (.int ix), .val (.int md), .val (.int (md &&& (3 : Int32))), .val (.int (0 : Int32)), .val (.long r), .second, .val (.long (r * r)), .second, .val (.ref ao), .val (.double (FP.l2d s1)), .second, .val (.int (0 : Int32))] [.int (1 : Int32)]
        refine ⟨by decide, fun T77 X77 eh77 => ?_⟩
        exact own_ret X77 hx hlk eh77 hret (by first | rfl | decide) (Or.inl ⟨rfl, by simp, _, rfl⟩) (hb hby at_196) (by decide) (by decide) (⟨rfl, Fr.app (Fr.app N0 M1) M2⟩)
set_option maxRecDepth 65536 in
set_option maxHeartbeats 40000000 in
theorem comes_1 {Post : Tables → Env → Array Value → State → Outcome → State → Prop} (hpost : ∀ tb e args s v u, (limb_1_1.after args s (.returned v) u = true ∧ limb_1_2.after args s (.returned v) u = true ∧ True) → FrameEnd s (.returned v) u (Jvm.fieldLocs frame_1_writes args s ++ Jvm.arrayLocs frame_1_arrays args s ++ Jvm.staticLocs frame_1_statics s) 16 192 → Post tb e args s (.returned v) u) :
    ArmFor flags0 classFile x code maxLocals ret World_1 tables_1 room_1 Calls_1 rest_1 Pre_1 Post := by
  intro l hfl _ _ p e ha hc hk s m args below hf hA hF happ hP
  obtain ⟨hcalls, hrest, hpre⟩ := hP
  obtain ⟨-, -, -, hnamed, -, -, -, hat⟩ := (Spec.applies_iff hf).mp happ
  obtain ⟨hg, hn⟩ := and_e (Cond.before_iff.mp (show (Jvm.Cond.and given_1 narrow_1).before args s = true from hpre))
  obtain ⟨h1, g0⟩ := and_e hg
  obtain ⟨t0, g1⟩ := and_e g0
  obtain ⟨t1, g2⟩ := and_e g1
  obtain ⟨t2, g3⟩ := and_e g2
  obtain ⟨w0, w1, w2, w3, rfl⟩ : ∃ w0 w1 w2 w3 : Value, args = #[w0, w1, w2, w3] := by
    have hs : args.size = 4 := by simpa [Cond.value, given_1] using h1
    obtain ⟨L⟩ := args
    match L, hs with
    | [w0, w1, w2, w3], _ => exact ⟨w0, w1, w2, w3, rfl⟩
  have hw := fun d (hd : d ∈ tables_1) => atoms_spec (ws := Jvm.Cond.code x code maxLocals ret :: tables_1) hat d (List.mem_cons_of_mem _ hd)
  obtain ⟨i0, e0⟩ := is_v t0
  obtain rfl : w0 = (.int i0) := Option.some.inj e0
  obtain ⟨i1, e1⟩ := isL_v t1
  obtain rfl : w1 = (.long i1) := Option.some.inj e1
  obtain ⟨i2, e2⟩ := is_v t2
  obtain rfl : w2 = (.int i2) := Option.some.inj e2
  obtain ⟨i3, e3⟩ := is_v g3
  obtain rfl : w3 = (.int i3) := Option.some.inj e3
  obtain ⟨n, o, h1, h2, h3, hfin⟩ := rm0 l s _ hw tables_1 i0 i1 i2 i3 s.heap s.heap.size (Nat.le_refl _)  p e ha hc hk s m _ below hf ((Spec.applies_iff_loose hf).mp happ).1 ⟨rfl, State.Warmed39.refl s, rfl⟩ trivial
  obtain ⟨_, L, rfl, ⟨rfl, N⟩, hq⟩ := hfin
  refine ⟨n, _, h1, h2, h3, hpost _ _ _ _ _ _ ⟨Cond.after_iff.mpr rfl, Cond.after_iff.mpr (eq_i res_at (Term.int_eval (1)) rfl), trivial⟩ ⟨hq.1, hq.2.1, (hq.2.2.sift fun y hy => Or.inr (N y hy)).mono (by decide) (by decide)⟩⟩
theorem main_1_1 : Claimed_1_1 := comes_1 fun _ _ _ _ _ _ h hF => ⟨h.1, hF⟩
theorem main_1_2 : Claimed_1_2 := comes_1 fun _ _ _ _ _ _ h hF => ⟨h.2.1, hF⟩
end Jvm.Pilot.@@N@@
namespace Jvm.Pilot.@@N@@
open Jvm Jvm.ClassFile Sem Op Lib Jvm.Free Jvm.Stand Jvm.Pilot.@@N@@.Jvm.D
/-! MADE BY PROGRAM (witnessworld.py) out of the Statement's table words and the real class files: 12 classes; the members and pool entries that the words name. The judged class is class 1, her method 1. -/
namespace start1
open Jvm.ClassFile
def u (s : String) : CpInfo := .utf8 (stringToUtf16 s)
/-- a pool by its gaps: so many unusable entries, then the entry; so many at the end -/
def gap : Nat → List CpInfo → List CpInfo
  | 0, r => r
  | n + 1, r => .unusable :: gap n r
def poolList (es : List (Nat × CpInfo)) (last : Nat) : List CpInfo := es.foldr (fun e r => gap e.1 (e.2 :: r)) (gap last [])
def pool (es : List (Nat × CpInfo)) (last : Nat) : Array CpInfo := ⟨poolList es last⟩
def fileOf (pool : Array CpInfo) (this : Nat) (attrs : Array Attribute := #[]) (ms : Array MethodInfo := #[]) (fl : Nat := 33) (sup : Nat := 0) (ifs : Array Nat := #[]) (fds : Array FieldInfo := #[]) : ClassFile where
  minorVersion := 0
  majorVersion := 65
  constantPool := pool
  accessFlags := fl
  thisClass := this
  superClass := sup
  interfaces := ifs
  fields := fds
  methods := ms
  attributes := attrs
def plain (name : String) (sup : Option ClassId) : Class where
  name := name
  kind := .ordinary
  loader := none
  accessFlags := 33
  super := sup
  interfaces := #[]
  cf := none
  fields := #[]
  methods := #[]
  instanceTypes := #[]
  staticTypes := #[]
  resolved := #[]
  callSites := []
  init := .initialized
  statics := none
  mirror := none

def pool0 : Array CpInfo := pool [(5, u "<init>"), (0, u "()V"), (1, .class_ 10), (1, u "java/lang/Object")] 113

def k0c0 : Code := { maxStack := 0, maxLocals := 1, code := object_method_1_code, exceptionTable := #[], attributes := #[] }
def k0m0 : Method := { name := "<init>", desc := "()V", sig := { parameters := [], returnType := none }, accessFlags := 1, code := some k0c0 }
/-- java/lang/Object -/
def k0 : Class := { plain "java/lang/Object" none with
  accessFlags := 33
  interfaces := #[]
  cf := some (fileOf pool0 8 #[] #[{ accessFlags := 1, nameIndex := 5, descriptorIndex := 6, attributes := #[] }] 33 0 #[] #[])
  fields := #[]
  methods := #[k0m0]
  instanceTypes := #[]
  staticTypes := #[]
  resolved := Array.replicate 124 none
  statics := none }

def pool1 : Array CpInfo := pool [(2, .class_ 4), (1, u "java/lang/Object"), (0, u "<init>"), (0, u "()V"), (0, .class_ 8), (0, u "org/axisfold/search/WithinRadius"), (0, .double 7598952565167317594), (1, .methodref 7 12), (0, .nameAndType 5 13), (0, u "(D)V"), (2, .double 9218868437227405312), (1, .methodref 7 19), (0, .nameAndType 20 21), (0, u "wouldKeep"), (0, u "(ID)Z"), (0, .integer 67108863), (0, .double 18442240474082181120), (1, .class_ 26), (0, u "org/axisfold/search/WithinRadiusWouldKeepPinLaw"), (2, u "law"), (0, u "(IJII)Z")] 3

def k1m0 : Method := { name := "<init>", desc := "()V", sig := { parameters := [], returnType := none }, accessFlags := 2, code := none }
def k1c1 : Code := { maxStack := 4, maxLocals := 15, code := code, exceptionTable := #[], attributes := #[] }
def k1m1 : Method := { name := "law", desc := "(IJII)Z", sig := { parameters := [.int, .long, .int, .int], returnType := some .boolean }, accessFlags := 9, code := some k1c1 }
/-- org/axisfold/search/WithinRadiusWouldKeepPinLaw -/
def k1 : Class := { plain "org/axisfold/search/WithinRadiusWouldKeepPinLaw" (some 0) with
  accessFlags := 49
  interfaces := #[]
  cf := some (fileOf pool1 25 #[] #[{ accessFlags := 2, nameIndex := 5, descriptorIndex := 6, attributes := #[] }, { accessFlags := 9, nameIndex := 29, descriptorIndex := 30, attributes := #[] }] 49 2 #[] #[])
  fields := #[]
  methods := #[k1m0, k1m1]
  instanceTypes := #[]
  staticTypes := #[]
  resolved := Array.replicate 34 none
  statics := none }

def pool2 : Array CpInfo := pool [(2, .class_ 4), (1, u "org/axisfold/search/Collector"), (2, .class_ 8), (0, u "java/lang/Object")] 11

/-- org/axisfold/search/Collector -/
def k2 : Class := { plain "org/axisfold/search/Collector" (some 0) with
  accessFlags := 1537
  interfaces := #[]
  cf := some (fileOf pool2 2 #[] #[] 1537 7 #[] #[])
  fields := #[]
  methods := #[]
  instanceTypes := #[]
  staticTypes := #[]
  resolved := Array.replicate 20 none
  statics := none }

def pool3 : Array CpInfo := pool [(3, .methodref 4 5), (0, .class_ 6), (0, .nameAndType 7 8), (0, u "java/lang/Object"), (0, u "<init>"), (0, u "()V"), (0, .fieldref 10 11), (0, .class_ 12), (0, .nameAndType 13 14), (0, u "org/axisfold/search/WithinRadius"), (0, u "indices"), (0, u "[I"), (0, .fieldref 10 16), (0, .nameAndType 17 18), (0, u "squaredDistances"), (0, u "[D"), (2, .double 9218868437227405311), (10, .fieldref 10 33), (0, .nameAndType 34 35), (0, u "limit"), (0, u "D"), (2, u "size"), (0, u "I"), (39, .class_ 80), (0, u "org/axisfold/search/Collector"), (0, u "MAX_ARRAY_LENGTH"), (1, u "(D)V"), (4, u "wouldKeep"), (0, u "(ID)Z")] 21

def k3c0 : Code := { maxStack := 5, maxLocals := 3, code := prog_44_method_1_code, exceptionTable := #[], attributes := #[] }
def k3m0 : Method := { name := "<init>", desc := "(D)V", sig := { parameters := [.double], returnType := none }, accessFlags := 1, code := some k3c0 }
def k3c1 : Code := { maxStack := 4, maxLocals := 4, code := prog_44_method_3_code, exceptionTable := #[], attributes := #[] }
def k3m1 : Method := { name := "wouldKeep", desc := "(ID)Z", sig := { parameters := [.int, .double], returnType := some .boolean }, accessFlags := 1, code := some k3c1 }
/-- org/axisfold/search/WithinRadius -/
def k3 : Class := { plain "org/axisfold/search/WithinRadius" (some 0) with
  accessFlags := 49
  interfaces := #[2]
  cf := some (fileOf pool3 10 #[] #[{ accessFlags := 1, nameIndex := 7, descriptorIndex := 83, attributes := #[] }, { accessFlags := 1, nameIndex := 88, descriptorIndex := 89, attributes := #[] }] 49 4 #[79] #[{ accessFlags := 26, nameIndex := 81, descriptorIndex := 39, attributes := #[] }, { accessFlags := 18, nameIndex := 34, descriptorIndex := 35, attributes := #[] }, { accessFlags := 2, nameIndex := 13, descriptorIndex := 14, attributes := #[] }, { accessFlags := 2, nameIndex := 17, descriptorIndex := 18, attributes := #[] }, { accessFlags := 2, nameIndex := 38, descriptorIndex := 39, attributes := #[] }])
  fields := #[{ name := "MAX_ARRAY_LENGTH", type := .int, accessFlags := 26, slot := 0, constantValue := 0 }, { name := "limit", type := .double, accessFlags := 18, slot := 0, constantValue := 0 }, { name := "indices", type := (.array .int), accessFlags := 2, slot := 1, constantValue := 0 }, { name := "squaredDistances", type := (.array .double), accessFlags := 2, slot := 2, constantValue := 0 }, { name := "size", type := .int, accessFlags := 2, slot := 3, constantValue := 0 }]
  methods := #[k3m0, k3m1]
  instanceTypes := #[.double, (.array .int), (.array .double), .int]
  staticTypes := #[.int]
  resolved := Array.replicate 111 none
  statics := none }

def pool4 : Array CpInfo := pool [(1, u "java/lang/Cloneable"), (0, .class_ 1), (0, u "java/lang/Object"), (0, .class_ 3)] 3

/-- java/lang/Cloneable -/
def k4 : Class := { plain "java/lang/Cloneable" (some 0) with
  accessFlags := 1537
  interfaces := #[]
  cf := some (fileOf pool4 2 #[] #[] 1537 4 #[] #[])
  fields := #[]
  methods := #[]
  instanceTypes := #[]
  staticTypes := #[]
  resolved := Array.replicate 8 none
  statics := none }

def pool5 : Array CpInfo := pool [(1, u "java/io/Serializable"), (0, .class_ 1), (0, u "java/lang/Object"), (0, .class_ 3)] 3

/-- java/io/Serializable -/
def k5 : Class := { plain "java/io/Serializable" (some 0) with
  accessFlags := 1537
  interfaces := #[]
  cf := some (fileOf pool5 2 #[] #[] 1537 4 #[] #[])
  fields := #[]
  methods := #[]
  instanceTypes := #[]
  staticTypes := #[]
  resolved := Array.replicate 8 none
  statics := none }

/-- the primitive byte -/
def k6 : Class := { plain "byte" none with kind := .primitive 'B', accessFlags := 0x411 }
/-- [B -/
def k7 : Class := { plain "[B" (some 0) with kind := .array 6 .byte, interfaces := #[4, 5], accessFlags := 1041 }

/-- the primitive double -/
def k8 : Class := { plain "double" none with kind := .primitive 'D', accessFlags := 0x411 }
/-- [D -/
def k9 : Class := { plain "[D" (some 0) with kind := .array 8 .double, interfaces := #[4, 5], accessFlags := 1041 }

/-- the primitive int -/
def k10 : Class := { plain "int" none with kind := .primitive 'I', accessFlags := 0x411 }
/-- [I -/
def k11 : Class := { plain "[I" (some 0) with kind := .array 10 .int, interfaces := #[4, 5], accessFlags := 1041 }

def heap : Heap := #[]
def classes : Array Class := #[k0, k1, k2, k3, k4, k5, k6, k7, k8, k9, k10, k11]
def interned : List (Array UInt16 × Addr) := []
def slotsUsed : Nat := 0
def theMethod : MethodId := ⟨1, 1⟩
def args0 : Array Value := #[.int 5, .long 6, .int 7, .int 8]
def aboutOver (below : List Frame) : State where
  vm := { classes := classes, interned := interned.toArray }
  heap := heap
  slotsUsed := slotsUsed
  threads := #[{ frames := .invoking theMethod args0 :: below }]
def below0 : List Frame := [.native { method := ⟨0, 0⟩, args := #[] }]
def about1 : State := aboutOver below0
def p0 : Program := .bare "" "" ""
def e0 : Env := launch0.env 0 0 0
theorem w_frames : about1.frames = Frame.invoking theMethod args0 :: below0 := rfl
set_option maxRecDepth 65536 in
theorem w_args : argsFit about1.vm theMethod args0 = true := by decide +kernel
set_option maxRecDepth 65536 in
theorem w_heap : heapFits about1 = true := by decide +kernel
set_option maxRecDepth 65536 in
theorem w_runnable : about1.curStatus? = some .runnable := by decide +kernel
set_option maxRecDepth 65536 in
theorem w_alone : about1.alone = true := by decide +kernel
set_option maxRecDepth 65536 in
theorem w_named : about1.methodNamed? x = some theMethod := by decide +kernel
set_option maxRecDepth 65536 in
theorem w_hears : about1.hears theMethod below0 = true := by decide +kernel
set_option maxRecDepth 65536 in
theorem w_ripe : about1.ripe theMethod args0 below0 = true := by decide +kernel
theorem w_running : about1.status = .running := rfl
set_option maxRecDepth 65536 in
theorem w_room : about1.hasRoom e0.platform room_1 = true :=
  launch0.hasRoom_least _ room_1 (by decide +kernel) (by decide +kernel) (by decide +kernel) (by decide +kernel) (by decide +kernel) (by decide +kernel)
theorem allAtoms_all (ts : List Jvm.Cond) (a : Array Jvm.Value) (st : Jvm.State) : (allAtoms ts).before a st = ts.all (fun c => c.before a st) := by
  induction ts with
  | nil => rfl
  | cons c t ih =>
    show (Jvm.Cond.and c (allAtoms t)).before a st = _
    rw [Jvm.Cond.before_and, ih, List.all_cons]
def words1 : List Jvm.Cond := Jvm.Cond.code x code maxLocals ret :: tables_1
/-- a 'code' word, met by the world's own term for the bytes: nothing is compared byte by byte -/
theorem code_word {y : MethodName} {bytes : ByteArray} {mx : Nat} {rt : Option FieldType} {a : Array Value} {s : State} {m : MethodId} {meth : Method} {c : Code} (h1 : s.methodNamed? y = some m) (h2 : s.vm.method? m = some meth) (h3 : meth.code = some c) (h4 : c.code = bytes)
    (h5 : (c.maxLocals == mx && c.exceptionTable.isEmpty && decide (c.maxStack ≤ mostOperands) && decide (meth.sig.returnType = rt) && !meth.locks && decide (parseMethodDescriptor y.desc = some meth.sig)) = true) : (Jvm.Cond.code y bytes mx rt).before a s = true := by
  simp only [Bool.and_eq_true, beq_iff_eq, Bool.not_eq_true', decide_eq_true_eq] at h5
  obtain ⟨⟨⟨⟨⟨g1, g2⟩, g3⟩, g4⟩, g5⟩, g6⟩ := h5
  simp [Cond.before, Cond.holds, Cond.value, h1, h2, h3, h4, g1, g2, g3, g4, g5, g6]
def isCode : Jvm.Cond → Bool
  | .code _ _ _ _ => true
  | _ => false
theorem all_split {L : List Jvm.Cond} {P : Jvm.Cond → Bool} (h1 : L.all (fun c => isCode c || P c) = true) (h2 : ∀ c ∈ L.filter isCode, P c = true) : L.all P = true := by
  refine List.all_eq_true.mpr fun c hc => ?_
  have h := List.all_eq_true.mp h1 c hc
  rcases Bool.eq_false_or_eq_true (isCode c) with hi | hi
  · exact h2 c (List.mem_filter.mpr ⟨hc, hi⟩)
  · simpa [hi] using h
set_option maxRecDepth 65536 in
theorem w_c0 : (Jvm.Cond.code x code maxLocals ret).before args0 about1 = true := code_word (m := ⟨1, 1⟩) (meth := k1m1) (c := k1c1) (by decide +kernel) rfl rfl rfl (by decide +kernel)
set_option maxRecDepth 65536 in
theorem w_c1 : (Jvm.Cond.code ({ cls := "org/axisfold/search/WithinRadius", name := "<init>", desc := "(D)V" } : Jvm.MethodName) prog_44_method_1_code (3 : Nat) (Option.none : Option Jvm.ClassFile.FieldType)).before args0 about1 = true := code_word (m := ⟨3, 0⟩) (meth := k3m0) (c := k3c0) (by decide +kernel) rfl rfl rfl (by decide +kernel)
set_option maxRecDepth 65536 in
theorem w_c2 : (Jvm.Cond.code ({ cls := "java/lang/Object", name := "<init>", desc := "()V" } : Jvm.MethodName) object_method_1_code (1 : Nat) (Option.none : Option Jvm.ClassFile.FieldType)).before args0 about1 = true := code_word (m := ⟨0, 0⟩) (meth := k0m0) (c := k0c0) (by decide +kernel) rfl rfl rfl (by decide +kernel)
set_option maxRecDepth 65536 in
theorem w_c3 : (Jvm.Cond.code ({ cls := "org/axisfold/search/WithinRadius", name := "wouldKeep", desc := "(ID)Z" } : Jvm.MethodName) prog_44_method_3_code (4 : Nat) (Option.some Jvm.ClassFile.FieldType.boolean)).before args0 about1 = true := code_word (m := ⟨3, 1⟩) (meth := k3m1) (c := k3c1) (by decide +kernel) rfl rfl rfl (by decide +kernel)
def codes1 : List Jvm.Cond := [Jvm.Cond.code x code maxLocals ret, Jvm.Cond.code ({ cls := "org/axisfold/search/WithinRadius", name := "<init>", desc := "(D)V" } : Jvm.MethodName) prog_44_method_1_code (3 : Nat) (Option.none : Option Jvm.ClassFile.FieldType), Jvm.Cond.code ({ cls := "java/lang/Object", name := "<init>", desc := "()V" } : Jvm.MethodName) object_method_1_code (1 : Nat) (Option.none : Option Jvm.ClassFile.FieldType), Jvm.Cond.code ({ cls := "org/axisfold/search/WithinRadius", name := "wouldKeep", desc := "(ID)Z" } : Jvm.MethodName) prog_44_method_3_code (4 : Nat) (Option.some Jvm.ClassFile.FieldType.boolean)]
set_option maxRecDepth 65536 in
theorem codes_eq : words1.filter isCode = codes1 := rfl
theorem w_codes : ∀ c ∈ words1.filter isCode, c.before args0 about1 = true := by
  rw [codes_eq]
  intro c hc
  simp only [codes1, List.mem_cons, List.not_mem_nil, or_false] at hc
  rcases hc with rfl | rfl | rfl | rfl
  · exact w_c0
  · exact w_c1
  · exact w_c2
  · exact w_c3
set_option maxRecDepth 65536 in
theorem w_t1 : (words1.take 24).all (fun c => isCode c || c.before args0 about1) = true := by decide +kernel
set_option maxRecDepth 65536 in
theorem w_t2 : (words1.drop 24).all (fun c => isCode c || c.before args0 about1) = true := by decide +kernel
theorem w_tables : (allAtoms (Jvm.Cond.code x code maxLocals ret :: tables_1)).before args0 about1 = true := by
  rw [allAtoms_all]
  show words1.all (fun c => c.before args0 about1) = true
  refine all_split ?_ w_codes
  rw [← List.take_append_drop 24 words1, List.all_append, w_t1, w_t2]
  rfl
set_option maxRecDepth 65536 in
theorem w_case : (Jvm.Cond.and given_1 narrow_1).before args0 about1 = true := by decide +kernel
theorem w_applies : (headSpec (Jvm.Cond.code x code maxLocals ret :: tables_1) room_1).applies x e0.platform about1 = true :=
  (Spec.applies_iff w_frames).mpr ⟨w_running, w_runnable, w_alone, w_named, w_hears, w_ripe, w_room, w_tables⟩
theorem atStart : AtStart classFile x code maxLocals ret World_1 tables_1 room_1 Calls_1 rest_1 Pre_1 launch0 p0 e0 about1 theMethod args0 below0 :=
  ⟨lists_1, trivial, launch0.admits_env _ _ _, launch0.least_env, fairChoices_fair.cas, fairChoices_fair.clock, w_frames, w_args, w_heap, w_applies, trivial, trivial, w_case⟩
end start1
theorem witness_1 : WitnessClaimed_1 := ⟨start1.p0, start1.e0, start1.about1, start1.theMethod, start1.args0, start1.below0, start1.atStart⟩
end Jvm.Pilot.@@N@@
