import JvmDerived
import JvmDerived.Pilot.@@N@@Statement
import JvmDerived.Pilot.@@N@@Code
set_option linter.unusedVariables false
set_option linter.unusedSimpArgs false
namespace Jvm.Pilot.@@N@@
open Jvm Jvm.ClassFile Sem Op Lib Jvm.Free Jvm.Stand Jvm.LawKit Jvm.RoadKit Bundle Jvm.Pilot.@@N@@.Jvm.D
/-! OWN KIT 1: a goal 'the run goes on to a good end', and a block of plain instructions taken in one step (own_blk) -/
def own_Go (tb : Tables) (e : Env) (below : List Frame) (Q : Outcome → State → Prop) (S : State) : Prop :=
  ∃ s₂ o, Steps tb e below S s₂ ∧ s₂.status = .running ∧ Ended s₂ below o ∧ Q o s₂
theorem own_go {tb : Tables} {e : Env} {below : List Frame} {Q : Outcome → State → Prop} {S S' : State} (h : ∀ t, Steps tb e below S' t → Steps tb e below S t) (k : own_Go tb e below Q S') : own_Go tb e below Q S := by
  obtain ⟨s2, o, a, b, c, d⟩ := k
  exact ⟨s2, o, h _ a, b, c, d⟩
/-- what a contract asks of the end -/
def own_Fin (s : State) (C S : Nat) (q : Option Value → Heap → List Loc → Prop) (o : Outcome) (U : State) : Prop :=
  ∃ v L, o = .returned v ∧ q v U.heap L ∧ FrameEnd s o U L C S
/-! local variables as lists -/
def own_nth : List Slot → Nat → Option Slot
  | [], _ => none
  | a :: _, 0 => some a
  | _ :: r, n + 1 => own_nth r n
def own_put : List Slot → Nat → Slot → List Slot
  | [], _, _ => []
  | _ :: r, 0, x => x :: r
  | a :: r, n + 1, x => a :: own_put r n x
theorem own_nth_eq : ∀ (ls : List Slot) (k : Nat), (Array.mk ls)[k]? = own_nth ls k := by
  intro ls k
  show (Array.mk ls)[k]? = _
  rw [List.getElem?_toArray]
  induction ls generalizing k with
  | nil => rfl
  | cons a r ih => cases k with
    | zero => rfl
    | succ n => exact ih n
theorem own_put_eq : ∀ (ls : List Slot) (k : Nat) (x : Slot), (Array.mk ls).setIfInBounds k x = Array.mk (own_put ls k x) := by
  intro ls k x
  have h : ls.set k x = own_put ls k x := by
    induction ls generalizing k with
    | nil => rfl
    | cons a r ih => cases k with
      | zero => rfl
      | succ n => show a :: r.set n x = a :: own_put r n x; rw [ih]
  rw [← h]
  exact List.setIfInBounds_toArray _ _ _
theorem own_nth_lt {ls : List Slot} {k : Nat} {x : Slot} (h : own_nth ls k = some x) : k < (Array.mk ls).size := by
  rw [← own_nth_eq] at h
  exact (Array.getElem?_eq_some_iff.mp h).1
theorem own_size (ls : List Slot) (k : Nat) (x : Slot) : (Array.mk (own_put ls k x)).size = (Array.mk ls).size := by
  rw [← own_put_eq]; exact Array.size_setIfInBounds
theorem own_setAt {ls : List Slot} {k : Nat} (x : Slot) (h : k < (Array.mk ls).size) : setAt (Array.mk ls) k x = some (Array.mk (own_put ls k x)) := by
  rw [← own_put_eq]
  exact if_pos h
def own_self (ls : List Slot) (k : Nat) (v : Value) : Option (List Slot) :=
  match v.category with
  | 2 => match own_nth ls (k + 1) with
    | none => none
    | some .unset => some (own_put (own_put ls k (.val v)) (k + 1) .second)
    | some .second => some (own_put (own_put ls k (.val v)) (k + 1) .second)
    | some (.val w) => match w.category with
      | 2 => match own_nth ls (k + 2) with
        | none => none
        | some _ => some (own_put (own_put (own_put ls k (.val v)) (k + 2) .unset) (k + 1) .second)
      | _ => some (own_put (own_put ls k (.val v)) (k + 1) .second)
  | _ => some (own_put ls k (.val v))
def own_sto (ls : List Slot) (k : Nat) (v : Value) : Option (List Slot) :=
  match own_nth ls k with
  | none => none
  | some .unset => own_self ls k v
  | some .second => own_self (own_put ls (k - 1) .unset) k v
  | some (.val w) => match w.category with
    | 2 => match own_nth ls (k + 1) with
      | none => none
      | some _ => own_self (own_put ls (k + 1) .unset) k v
    | _ => own_self ls k v
theorem own_storeSelf (l : Array Slot) (i : Nat) (v : Value) : storeSelf l i v = (setAt l i (.val v)).bind fun l => if v.category = 2 then l[i + 1]?.bind fun o => (match o with
    | .val old => if old.category = 2 then (setAt l (i + 2) .unset).bind fun l2 => setAt l2 (i + 1) .second else setAt l (i + 1) .second
    | _ => setAt l (i + 1) .second) else some l := rfl
theorem own_storeLocals (l : Array Slot) (i : Nat) (v : Value) : storeLocals l i v = l[i]?.bind fun o => (match o with
    | .second => (setAt l (i - 1) .unset).bind fun l2 => storeSelf l2 i v
    | .val old => if old.category = 2 then (setAt l (i + 1) .unset).bind fun l2 => storeSelf l2 i v else storeSelf l i v
    | .unset => storeSelf l i v) := rfl
theorem own_nth_ne {ls : List Slot} {k j : Nat} {x : Slot} (h : j ≠ k) : own_nth (own_put ls k x) j = own_nth ls j := by
  rw [← own_nth_eq, ← own_nth_eq, ← own_put_eq]
  exact Array.getElem?_setIfInBounds_ne (Ne.symm h)
theorem own_self_ok {ls ls' : List Slot} {k : Nat} {v : Value} (hk : k < (Array.mk ls).size) (h : own_self ls k v = some ls') : storeSelf (Array.mk ls) k v = some (Array.mk ls') := by
  rw [own_storeSelf, own_setAt _ hk]
  show (if v.category = 2 then _ else _) = _
  unfold own_self at h
  split at h
  · rename_i hc
    rw [if_pos hc, own_nth_eq, own_nth_ne (by omega)]
    split at h
    · cases h
    · rename_i hn
      cases h
      rw [hn]
      exact own_setAt _ (by rw [own_size]; exact own_nth_lt hn)
    · rename_i hn
      cases h
      rw [hn]
      exact own_setAt _ (by rw [own_size]; exact own_nth_lt hn)
    · rename_i w hn
      rw [hn]
      show (if w.category = 2 then _ else _) = _
      split at h
      · rename_i hw
        rw [if_pos hw]
        split at h
        · cases h
        · rename_i y hy
          cases h
          rw [own_setAt _ (by rw [own_size]; exact own_nth_lt hy)]
          exact own_setAt _ (by rw [own_size, own_size]; exact own_nth_lt hn)
      · rename_i hw
        cases h
        rw [if_neg (fun q => hw q)]
        exact own_setAt _ (by rw [own_size]; exact own_nth_lt hn)
  · rename_i hc
    cases h
    rw [if_neg (fun q => hc q)]
theorem own_sto_ok {ls ls' : List Slot} {k : Nat} {v : Value} (h : own_sto ls k v = some ls') : storeLocals (Array.mk ls) k v = some (Array.mk ls') := by
  rw [own_storeLocals, own_nth_eq]
  unfold own_sto at h
  split at h
  · cases h
  · rename_i hn
    rw [hn]
    exact own_self_ok (own_nth_lt hn) h
  · rename_i hn
    rw [hn]
    have := own_nth_lt hn
    show ((setAt _ (k - 1) .unset).bind _) = _
    rw [own_setAt _ (by omega)]
    exact own_self_ok (by rw [own_size]; exact this) h
  · rename_i w hn
    rw [hn]
    have := own_nth_lt hn
    show (if w.category = 2 then _ else _) = _
    split at h
    · rename_i hw
      rw [if_pos hw]
      split at h
      · cases h
      · rename_i y hy
        rw [own_setAt _ (own_nth_lt hy)]
        exact own_self_ok (by rw [own_size]; exact this) h
    · rename_i hw
      rw [if_neg (fun q => hw q)]
      exact own_self_ok this h
/-! the conditions of a branch, said of whole numbers -/
def own_c0 : ClassFile.Cond → Int32 → Prop
  | .eq, a => a.toInt = 0
  | .ne, a => a.toInt ≠ 0
  | .lt, a => a.toInt < 0
  | .ge, a => 0 ≤ a.toInt
  | .gt, a => 0 < a.toInt
  | .le, a => a.toInt ≤ 0
def own_ic : ClassFile.Cond → Int32 → Int32 → Prop
  | .eq, a, b => a.toInt = b.toInt
  | .ne, a, b => a.toInt ≠ b.toInt
  | .lt, a, b => a.toInt < b.toInt
  | .ge, a, b => b.toInt ≤ a.toInt
  | .gt, a, b => b.toInt < a.toInt
  | .le, a, b => a.toInt ≤ b.toInt
theorem own_ic_ok (cd : ClassFile.Cond) (a b : Int32) : if_icmp.holds cd a b = true ↔ own_ic cd a b := by
  cases cd
  · show ((a == b) = true) ↔ a.toInt = b.toInt
    rw [beq_iff_eq, Int32.toInt_inj]
  · show ((a != b) = true) ↔ a.toInt ≠ b.toInt
    rw [bne_iff_ne, ne_eq, ne_eq, Int32.toInt_inj]
  · show (decide (a < b) = true) ↔ a.toInt < b.toInt
    rw [decide_eq_true_eq, Int32.lt_iff_toInt_lt]
  · show (decide (a ≥ b) = true) ↔ b.toInt ≤ a.toInt
    rw [decide_eq_true_eq, ge_iff_le, Int32.le_iff_toInt_le]
  · show (decide (a > b) = true) ↔ b.toInt < a.toInt
    rw [decide_eq_true_eq, gt_iff_lt, Int32.lt_iff_toInt_lt]
  · show (decide (a ≤ b) = true) ↔ a.toInt ≤ b.toInt
    rw [decide_eq_true_eq, Int32.le_iff_toInt_le]
theorem own_c0_ok (cd : ClassFile.Cond) (a : Int32) : ifCond.holds cd a = true ↔ own_c0 cd a := by
  have h : ifCond.holds cd a = if_icmp.holds cd a 0 := by cases cd <;> rfl
  rw [h, own_ic_ok]
  cases cd <;> exact Iff.rfl
/-! what is read of an array -/
def own_at (Z : State) (h : Heap) (a : Addr) (ty : FieldType) (j : Int32) (v : Value) : Prop := ∃ cl, Arr Z h a cl ty ∧ ¬ (j < 0 ∨ cl.slots.size ≤ j.toNatClampNeg) ∧ cl.slots[j.toNatClampNeg]? = some v
def own_ln (Z : State) (h : Heap) (a : Addr) (N : Int32) : Prop := ∃ cl ty, Arr Z h a cl ty ∧ cl.slots.size.toInt32 = N
/-! one plain instruction: what it asks (obligations) and where it goes on. ds: the branches' decisions; vs: the values that are read of the heap -/
def own_len : Instr → Nat
  | .iload _ => 2 | .lload _ => 2 | .fload _ => 2 | .dload _ => 2 | .aload _ => 2
  | .istore _ => 2 | .lstore _ => 2 | .fstore _ => 2 | .dstore _ => 2 | .astore _ => 2
  | .bipush _ => 2 | .ldc _ => 2 | .newarray _ => 2
  | .sipush _ => 3 | .ldc_w _ => 3 | .ldc2_w _ => 3 | .iinc _ _ => 3 | .goto _ => 3 | .ifCond _ _ => 3 | .if_icmp _ _ => 3 | .if_acmp _ _ => 3 | .ifnull _ => 3 | .ifnonnull _ => 3
  | .getfield _ => 3 | .putfield _ => 3 | .getstatic _ => 3 | .putstatic _ => 3 | .invokevirtual _ => 3 | .invokespecial _ => 3 | .invokestatic _ => 3 | .new _ => 3 | .anewarray _ => 3 | .checkcast _ => 3 | .instanceof _ => 3
  | .invokeinterface _ _ => 5 | .invokedynamic _ => 5
  | _ => 1
def own_tgt (pc : Nat) : Int → Option Nat
  | .ofNat n => some (pc + n)
  | .negSucc n => bif Nat.ble (n + 1) pc then some (pc - (n + 1)) else none
theorem own_tgt_ok {pc t : Nat} {o : Int} (h : own_tgt pc o = some t) : 0 ≤ (pc : Int) + o ∧ ((pc : Int) + o).toNat = t := by
  cases o with
  | ofNat n =>
    have h1 : pc + n = t := Option.some.inj h
    rw [Int.ofNat_eq_natCast]
    omega
  | negSucc n =>
    have h1 : (bif Nat.ble (n + 1) pc then some (pc - (n + 1)) else none) = some t := h
    cases hb : Nat.ble (n + 1) pc with
    | false => rw [hb] at h1; cases h1
    | true =>
      rw [hb] at h1
      have h2 : pc - (n + 1) = t := Option.some.inj h1
      have h3 := Nat.le_of_ble_eq_true hb
      rw [Int.negSucc_eq]
      omega
def own_key : List (Nat × Value) → Nat → Option Value
  | [], _ => none
  | (q, v) :: r, k => bif Nat.beq q k then some v else own_key r k
def own_fld : List (Nat × String × String × String) → Nat → Option (String × String × String)
  | [], _ => none
  | (q, v) :: r, k => bif Nat.beq q k then some v else own_fld r k
def own_ldI (ls : List Slot) (j : Nat) (k : Value → Prop) : Prop := match own_nth ls j with | some (.val (.int v)) => k (.int v) | _ => False
def own_ldL (ls : List Slot) (j : Nat) (k : Value → Prop) : Prop := match own_nth ls j with | some (.val (.long v)) => k (.long v) | _ => False
def own_ldD (ls : List Slot) (j : Nat) (k : Value → Prop) : Prop := match own_nth ls j with | some (.val (.double v)) => k (.double v) | _ => False
def own_ldA (ls : List Slot) (j : Nat) (k : Value → Prop) : Prop := match own_nth ls j with | some (.val (.ref a)) => k (.ref a) | some (.val .null) => k .null | _ => False
def own_stI (ls : List Slot) (st : List Value) (j : Nat) (k : List Slot → List Value → Prop) : Prop := match st with | .int x :: r => (match own_sto ls j (.int x) with | some l => k l r | none => False) | _ => False
def own_stL (ls : List Slot) (st : List Value) (j : Nat) (k : List Slot → List Value → Prop) : Prop := match st with | .long x :: r => (match own_sto ls j (.long x) with | some l => k l r | none => False) | _ => False
def own_stD (ls : List Slot) (st : List Value) (j : Nat) (k : List Slot → List Value → Prop) : Prop := match st with | .double x :: r => (match own_sto ls j (.double x) with | some l => k l r | none => False) | _ => False
def own_stA (ls : List Slot) (st : List Value) (j : Nat) (k : List Slot → List Value → Prop) : Prop := match st with | .ref x :: r => (match own_sto ls j (.ref x) with | some l => k l r | none => False) | .null :: r => (match own_sto ls j .null with | some l => k l r | none => False) | _ => False
def own_i1 (st : List Value) (f : Int32 → Value) (k : List Value → Prop) : Prop := match st with | .int x :: r => k (f x :: r) | _ => False
def own_l1 (st : List Value) (f : Int64 → Value) (k : List Value → Prop) : Prop := match st with | .long x :: r => k (f x :: r) | _ => False
def own_i2 (st : List Value) (g : Int32 → Int32 → Prop) (f : Int32 → Int32 → Value) (k : List Value → Prop) : Prop := match st with | .int y :: .int x :: r => g x y ∧ k (f x y :: r) | _ => False
def own_p2 (st : List Value) (f : Int32 → Int32 → Value) (k : List Value → Prop) : Prop := match st with | .int y :: .int x :: r => k (f x y :: r) | _ => False
def own_q2 (st : List Value) (f : Int64 → Int64 → Value) (k : List Value → Prop) : Prop := match st with | .long y :: .long x :: r => k (f x y :: r) | _ => False
def own_l2 (st : List Value) (g : Int64 → Int64 → Prop) (f : Int64 → Int64 → Value) (k : List Value → Prop) : Prop := match st with | .long y :: .long x :: r => g x y ∧ k (f x y :: r) | _ => False
def own_li (st : List Value) (f : Int64 → Int32 → Value) (k : List Value → Prop) : Prop := match st with | .int y :: .long x :: r => k (f x y :: r) | _ => False
def own_d2 (st : List Value) (f : UInt64 → UInt64 → UInt64) (k : List Value → Prop) : Prop := match st with | .double y :: .double x :: r => Jvm.Free.Fl.NoNaN64 (f x y) ∧ k (.double (f x y) :: r) | _ => False
def own_ca (st : List Value) (k : List Value → Prop) : Prop := match st with | x :: r => (match x.category with | 1 => k (x :: r) | _ => False) | _ => False
def own_al (Z : State) (h : Heap) (ty : FieldType) (st : List Value) (vs : List Value) (k : List Value → List Value → Prop) : Prop :=
  match st with | .int j :: .ref a :: r => (match vs with | v :: vs' => own_at Z h a ty j v ∧ k vs' (v :: r) | [] => False) | _ => False
def own_br (ds : List Bool) (C : Prop) (kt kn : List Bool → Prop) : Prop :=
  match ds with | true :: d => C ∧ kt d | false :: d => (¬ C) ∧ kn d | [] => False
def own_jp (pc : Nat) (o : Int) (k : Nat → Prop) : Prop := match own_tgt pc o with | some t => k t | none => False
def own_st (Kt : List (Nat × Value)) (Ft : List (Nat × String × String × String)) (Z : State) (h : Heap) (i : Instr) (pc : Nat) (ds : List Bool) (vs : List Value) (ls : List Slot) (st : List Value)
    (kf : List Bool → List Value → List Slot → List Value → Prop) (kj : Nat → List Bool → List Value → List Slot → List Value → Prop) : Prop :=
  match i with
  | .iload j => own_ldI ls j fun v => kf ds vs ls (v :: st)
  | .iload_n j => own_ldI ls j.val fun v => kf ds vs ls (v :: st)
  | .lload j => own_ldL ls j fun v => kf ds vs ls (v :: st)
  | .lload_n j => own_ldL ls j.val fun v => kf ds vs ls (v :: st)
  | .dload j => own_ldD ls j fun v => kf ds vs ls (v :: st)
  | .dload_n j => own_ldD ls j.val fun v => kf ds vs ls (v :: st)
  | .aload j => own_ldA ls j fun v => kf ds vs ls (v :: st)
  | .aload_n j => own_ldA ls j.val fun v => kf ds vs ls (v :: st)
  | .istore j => own_stI ls st j fun l r => kf ds vs l r
  | .istore_n j => own_stI ls st j.val fun l r => kf ds vs l r
  | .lstore j => own_stL ls st j fun l r => kf ds vs l r
  | .lstore_n j => own_stL ls st j.val fun l r => kf ds vs l r
  | .dstore j => own_stD ls st j fun l r => kf ds vs l r
  | .dstore_n j => own_stD ls st j.val fun l r => kf ds vs l r
  | .astore j => own_stA ls st j fun l r => kf ds vs l r
  | .astore_n j => own_stA ls st j.val fun l r => kf ds vs l r
  | .iconst n => kf ds vs ls (.int (Int32.ofInt n) :: st)
  | .bipush n => (match vs with | .int v :: vs' => (Int8.ofInt n).toInt32 = v ∧ kf ds vs' ls (.int v :: st) | _ => False)
  | .sipush n => (match vs with | .int v :: vs' => (Int16.ofInt n).toInt32 = v ∧ kf ds vs' ls (.int v :: st) | _ => False)
  | .lconst n => kf ds vs ls (.long (Int64.ofNat n) :: st)
  | .dconst n => kf ds vs ls (.double (match n.val with | 0 => 0 | _ => 4607182418800017408) :: st)
  | .aconst_null => kf ds vs ls (.null :: st)
  | .ldc n => (match own_key Kt n with | some (.int v) => kf ds vs ls (.int v :: st) | _ => False)
  | .ldc2_w n => (match own_key Kt n with | some (.long v) => kf ds vs ls (.long v :: st) | some (.double v) => kf ds vs ls (.double v :: st) | _ => False)
  | .iadd => own_p2 st (fun x y => .int (x + y)) fun r => kf ds vs ls r
  | .isub => own_p2 st (fun x y => .int (x - y)) fun r => kf ds vs ls r
  | .imul => own_p2 st (fun x y => .int (x * y)) fun r => kf ds vs ls r
  | .idiv => own_i2 st (fun _ y => y ≠ 0) (fun x y => .int (x / y)) fun r => kf ds vs ls r
  | .irem => own_i2 st (fun _ y => y ≠ 0) (fun x y => .int (x % y)) fun r => kf ds vs ls r
  | .iand => own_p2 st (fun x y => .int (x &&& y)) fun r => kf ds vs ls r
  | .ior => own_p2 st (fun x y => .int (x ||| y)) fun r => kf ds vs ls r
  | .ixor => own_p2 st (fun x y => .int (x ^^^ y)) fun r => kf ds vs ls r
  | .ishl => own_p2 st (fun x y => .int (x <<< (y &&& 31))) fun r => kf ds vs ls r
  | .ishr => own_p2 st (fun x y => .int (x >>> (y &&& 31))) fun r => kf ds vs ls r
  | .iushr => own_p2 st (fun x y => .int (Jvm.Free.XT.ushr x y)) fun r => kf ds vs ls r
  | .ineg => own_i1 st (fun x => .int (-x)) fun r => kf ds vs ls r
  | .i2l => own_i1 st (fun x => .long x.toInt64) fun r => kf ds vs ls r
  | .i2b => own_i1 st (fun x => .int x.toInt8.toInt32) fun r => kf ds vs ls r
  | .i2s => own_i1 st (fun x => .int x.toInt16.toInt32) fun r => kf ds vs ls r
  | .i2c => own_i1 st (fun x => .int x.toUInt32.toUInt16.toUInt32.toInt32) fun r => kf ds vs ls r
  | .i2d => own_i1 st (fun x => .double (FP.i2d x)) fun r => kf ds vs ls r
  | .l2i => own_l1 st (fun x => .int x.toInt32) fun r => kf ds vs ls r
  | .l2d => own_l1 st (fun x => .double (FP.l2d x)) fun r => kf ds vs ls r
  | .ladd => own_q2 st (fun x y => .long (x + y)) fun r => kf ds vs ls r
  | .lsub => own_q2 st (fun x y => .long (x - y)) fun r => kf ds vs ls r
  | .lmul => own_q2 st (fun x y => .long (x * y)) fun r => kf ds vs ls r
  | .ldiv => own_l2 st (fun _ y => y ≠ 0) (fun x y => .long (x / y)) fun r => kf ds vs ls r
  | .land => own_q2 st (fun x y => .long (x &&& y)) fun r => kf ds vs ls r
  | .lneg => own_l1 st (fun x => .long (-x)) fun r => kf ds vs ls r
  | .lshr => own_li st (fun x y => .long (x >>> (y.toInt64 &&& 63))) fun r => kf ds vs ls r
  | .lushr => own_li st (fun x y => .long (Jvm.Free.XT.ushrL x y)) fun r => kf ds vs ls r
  | .lcmp => own_q2 st (fun x y => .int (Jvm.Free.XT.cmpL x y)) fun r => kf ds vs ls r
  | .dadd => own_d2 st FP.dadd fun r => kf ds vs ls r
  | .dsub => own_d2 st FP.dsub fun r => kf ds vs ls r
  | .dmul => own_d2 st FP.dmul fun r => kf ds vs ls r
  | .ddiv => own_d2 st FP.ddiv fun r => kf ds vs ls r
  | .dneg => (match st with | .double x :: r => kf ds vs ls (.double (FP.dneg x) :: r) | _ => False)
  | .dcmp o => (match st with | .double y :: .double x :: r => kf ds vs ls (.int (cmpValue (FP.dcmp x y) o) :: r) | _ => False)
  | .iinc j n => (match own_nth ls j with | some (.val (.int x)) => (match own_sto ls j (.int (x + Int32.ofInt n)) with | some l => kf ds vs l st | none => False) | _ => False)
  | .dup => own_ca st fun st => (match st with | x :: r => kf ds vs ls (x :: x :: r) | _ => False)
  | .pop => own_ca st fun st => (match st with | _ :: r => kf ds vs ls r | _ => False)
  | .dup2 => own_ca st fun st => (match st with | x :: r => own_ca r fun r => (match r with | y :: q => kf ds vs ls (x :: y :: x :: y :: q) | _ => False) | _ => False)
  | .goto o => own_jp pc o fun t => kj t ds vs ls st
  | .ifCond cd o => (match st with | .int x :: r => own_br ds (own_c0 cd x) (fun d => own_jp pc o fun t => kj t d vs ls r) (fun d => kf d vs ls r) | _ => False)
  | .if_icmp cd o => (match st with | .int y :: .int x :: r => own_br ds (own_ic cd x y) (fun d => own_jp pc o fun t => kj t d vs ls r) (fun d => kf d vs ls r) | _ => False)
  | .ifnull o => (match st with | .null :: r => own_jp pc o fun t => kj t ds vs ls r | .ref _ :: r => kf ds vs ls r | _ => False)
  | .ifnonnull o => (match st with | .ref _ :: r => own_jp pc o fun t => kj t ds vs ls r | .null :: r => kf ds vs ls r | _ => False)
  | .arraylength => (match st with | .ref a :: r => (match vs with | .int N :: vs' => own_ln Z h a N ∧ kf ds vs' ls (.int N :: r) | _ => False) | _ => False)
  | .iaload => own_al Z h .int st vs fun vs' r => kf ds vs' ls r
  | .daload => own_al Z h .double st vs fun vs' r => kf ds vs' ls r
  | .laload => own_al Z h .long st vs fun vs' r => kf ds vs' ls r
  | .getfield n => (match st with | .ref a :: r => (match vs with | v :: vs' => (match own_fld Ft n with | some (C, f, d) => Fld Z h a C f d v ∧ kf ds vs' ls (v :: r) | none => False) | [] => False) | _ => False)
  | _ => False
theorem own_ldI_e {ls : List Slot} {j : Nat} {k : Value → Prop} (H : own_ldI ls j k) : ∃ v, own_nth ls j = some (.val (.int v)) ∧ k (.int v) := by
  unfold own_ldI at H
  split at H
  · exact ⟨_, by assumption, H⟩
  · exact H.elim
theorem own_ldL_e {ls : List Slot} {j : Nat} {k : Value → Prop} (H : own_ldL ls j k) : ∃ v, own_nth ls j = some (.val (.long v)) ∧ k (.long v) := by
  unfold own_ldL at H
  split at H
  · exact ⟨_, by assumption, H⟩
  · exact H.elim
theorem own_ldD_e {ls : List Slot} {j : Nat} {k : Value → Prop} (H : own_ldD ls j k) : ∃ v, own_nth ls j = some (.val (.double v)) ∧ k (.double v) := by
  unfold own_ldD at H
  split at H
  · exact ⟨_, by assumption, H⟩
  · exact H.elim
theorem own_ldA_e {ls : List Slot} {j : Nat} {k : Value → Prop} (H : own_ldA ls j k) : ∃ v, own_nth ls j = some (.val v) ∧ v.isRef = true ∧ k v := by
  unfold own_ldA at H
  split at H
  · exact ⟨_, by assumption, rfl, H⟩
  · exact ⟨_, by assumption, rfl, H⟩
  · exact H.elim
theorem own_stI_e {ls : List Slot} {st : List Value} {j : Nat} {k : List Slot → List Value → Prop} (H : own_stI ls st j k) : ∃ x r l, st = .int x :: r ∧ storeLocals (Array.mk ls) j (.int x) = some (Array.mk l) ∧ k l r := by
  unfold own_stI at H
  split at H
  · split at H
    · exact ⟨_, _, _, rfl, own_sto_ok (by assumption), H⟩
    · exact H.elim
  · exact H.elim
theorem own_stL_e {ls : List Slot} {st : List Value} {j : Nat} {k : List Slot → List Value → Prop} (H : own_stL ls st j k) : ∃ x r l, st = .long x :: r ∧ storeLocals (Array.mk ls) j (.long x) = some (Array.mk l) ∧ k l r := by
  unfold own_stL at H
  split at H
  · split at H
    · exact ⟨_, _, _, rfl, own_sto_ok (by assumption), H⟩
    · exact H.elim
  · exact H.elim
theorem own_stD_e {ls : List Slot} {st : List Value} {j : Nat} {k : List Slot → List Value → Prop} (H : own_stD ls st j k) : ∃ x r l, st = .double x :: r ∧ storeLocals (Array.mk ls) j (.double x) = some (Array.mk l) ∧ k l r := by
  unfold own_stD at H
  split at H
  · split at H
    · exact ⟨_, _, _, rfl, own_sto_ok (by assumption), H⟩
    · exact H.elim
  · exact H.elim
theorem own_stA_e {ls : List Slot} {st : List Value} {j : Nat} {k : List Slot → List Value → Prop} (H : own_stA ls st j k) : ∃ x r l, st = x :: r ∧ x.isRef = true ∧ storeLocals (Array.mk ls) j x = some (Array.mk l) ∧ k l r := by
  unfold own_stA at H
  split at H
  · split at H
    · exact ⟨_, _, _, rfl, rfl, own_sto_ok (by assumption), H⟩
    · exact H.elim
  · split at H
    · exact ⟨_, _, _, rfl, rfl, own_sto_ok (by assumption), H⟩
    · exact H.elim
  · exact H.elim
theorem own_i1_e {st : List Value} {f : Int32 → Value} {k : List Value → Prop} (H : own_i1 st f k) : ∃ x r, st = .int x :: r ∧ k (f x :: r) := by
  unfold own_i1 at H
  split at H
  · exact ⟨_, _, rfl, H⟩
  · exact H.elim
theorem own_l1_e {st : List Value} {f : Int64 → Value} {k : List Value → Prop} (H : own_l1 st f k) : ∃ x r, st = .long x :: r ∧ k (f x :: r) := by
  unfold own_l1 at H
  split at H
  · exact ⟨_, _, rfl, H⟩
  · exact H.elim
theorem own_i2_e {st : List Value} {g : Int32 → Int32 → Prop} {f : Int32 → Int32 → Value} {k : List Value → Prop} (H : own_i2 st g f k) : ∃ x y r, st = .int y :: .int x :: r ∧ g x y ∧ k (f x y :: r) := by
  unfold own_i2 at H
  split at H
  · exact ⟨_, _, _, rfl, H⟩
  · exact H.elim
theorem own_p2_e {st : List Value} {f : Int32 → Int32 → Value} {k : List Value → Prop} (H : own_p2 st f k) : ∃ x y r, st = .int y :: .int x :: r ∧ k (f x y :: r) := by
  unfold own_p2 at H
  split at H
  · exact ⟨_, _, _, rfl, H⟩
  · exact H.elim
theorem own_l2_e {st : List Value} {g : Int64 → Int64 → Prop} {f : Int64 → Int64 → Value} {k : List Value → Prop} (H : own_l2 st g f k) : ∃ x y r, st = .long y :: .long x :: r ∧ g x y ∧ k (f x y :: r) := by
  unfold own_l2 at H
  split at H
  · exact ⟨_, _, _, rfl, H⟩
  · exact H.elim
theorem own_q2_e {st : List Value} {f : Int64 → Int64 → Value} {k : List Value → Prop} (H : own_q2 st f k) : ∃ x y r, st = .long y :: .long x :: r ∧ k (f x y :: r) := by
  unfold own_q2 at H
  split at H
  · exact ⟨_, _, _, rfl, H⟩
  · exact H.elim
theorem own_li_e {st : List Value} {f : Int64 → Int32 → Value} {k : List Value → Prop} (H : own_li st f k) : ∃ x y r, st = .int y :: .long x :: r ∧ k (f x y :: r) := by
  unfold own_li at H
  split at H
  · exact ⟨_, _, _, rfl, H⟩
  · exact H.elim
theorem own_d2_e {st : List Value} {f : UInt64 → UInt64 → UInt64} {k : List Value → Prop} (H : own_d2 st f k) : ∃ x y r, st = .double y :: .double x :: r ∧ Jvm.Free.Fl.NoNaN64 (f x y) ∧ k (.double (f x y) :: r) := by
  unfold own_d2 at H
  split at H
  · exact ⟨_, _, _, rfl, H⟩
  · exact H.elim
theorem own_ca_e {st : List Value} {k : List Value → Prop} (H : own_ca st k) : ∃ x r, st = x :: r ∧ x.category = 1 ∧ k (x :: r) := by
  unfold own_ca at H
  split at H
  · split at H
    · exact ⟨_, _, rfl, by assumption, H⟩
    · exact H.elim
  · exact H.elim
theorem own_al_e {Z : State} {h : Heap} {ty : FieldType} {st vs : List Value} {k : List Value → List Value → Prop} (H : own_al Z h ty st vs k) : ∃ j a r v vs', st = .int j :: .ref a :: r ∧ vs = v :: vs' ∧ own_at Z h a ty j v ∧ k vs' (v :: r) := by
  unfold own_al at H
  split at H
  · split at H
    · exact ⟨_, _, _, _, _, rfl, rfl, H⟩
    · exact H.elim
  · exact H.elim
theorem own_br_e {ds : List Bool} {C : Prop} {kt kn : List Bool → Prop} (H : own_br ds C kt kn) : (C ∧ ∃ d, kt d) ∨ ((¬ C) ∧ ∃ d, kn d) := by
  unfold own_br at H
  split at H
  · exact Or.inl ⟨H.1, _, H.2⟩
  · exact Or.inr ⟨H.1, _, H.2⟩
  · exact H.elim
theorem own_jp_e {pc : Nat} {o : Int} {k : Nat → Prop} (H : own_jp pc o k) : ∃ t, 0 ≤ (pc : Int) + o ∧ ((pc : Int) + o).toNat = t ∧ k t := by
  unfold own_jp at H
  split at H
  · rename_i t ht
    exact ⟨t, (own_tgt_ok ht).1, (own_tgt_ok ht).2, H⟩
  · exact H.elim
def own_kw (own : String) (a0 : Array Value) (Z : State) : Nat × Value → Prop
  | (n, .int v) => (Jvm.Cond.constant own n v).before a0 Z = true
  | (n, .long v) => (Jvm.Cond.constantLong own n v).before a0 Z = true
  | (n, .double v) => (Jvm.Cond.constantDouble own n v).before a0 Z = true
  | _ => False
def own_ks (own : String) (a0 : Array Value) (Z : State) : List (Nat × Value) → Prop
  | [] => True
  | x :: r => own_kw own a0 Z x ∧ own_ks own a0 Z r
def own_fs (own : String) (a0 : Array Value) (Z : State) : List (Nat × String × String × String) → Prop
  | [] => True
  | (n, C, f, d) :: r => (Jvm.Cond.fieldLink own n C f d).before a0 Z = true ∧ own_fs own a0 Z r
theorem own_key_e {own : String} {a0 : Array Value} {Z : State} {n : Nat} {v : Value} : ∀ {Kt : List (Nat × Value)}, own_ks own a0 Z Kt → own_key Kt n = some v → own_kw own a0 Z (n, v)
  | [], _, h => by cases h
  | (q, w) :: r, hk, h => by
    have h' : (bif Nat.beq q n then some w else own_key r n) = some v := h
    cases hb : Nat.beq q n with
    | true =>
      rw [hb] at h'
      have e1 : w = v := Option.some.inj h'
      have e2 := Nat.eq_of_beq_eq_true hb
      subst e1 e2
      exact hk.1
    | false =>
      rw [hb] at h'
      exact own_key_e hk.2 h'
theorem own_fld_e {own : String} {a0 : Array Value} {Z : State} {n : Nat} {C f d : String} : ∀ {Ft : List (Nat × String × String × String)}, own_fs own a0 Z Ft → own_fld Ft n = some (C, f, d) → (Jvm.Cond.fieldLink own n C f d).before a0 Z = true
  | [], _, h => by cases h
  | (q, C', f', d') :: r, hk, h => by
    have h' : (bif Nat.beq q n then some (C', f', d') else own_fld r n) = some (C, f, d) := h
    cases hb : Nat.beq q n with
    | true =>
      rw [hb] at h'
      have e1 : (C', f', d') = (C, f, d) := Option.some.inj h'
      have e2 := Nat.eq_of_beq_eq_true hb
      cases e1
      subst e2
      exact hk.1
    | false =>
      rw [hb] at h'
      exact own_fld_e hk.2 h'
section OwnRun
variable {p : Program} {l : Launch} {e : Env} {R : Room} {s : State} {m : MethodId} {args : Array Value} {below : List Frame} {meth : Method} {c : Code} {T : State} {locs : List Loc} {cells slots : Nat} {Z : State} {a0 : Array Value} {h : Heap} {Q : Outcome → State → Prop} {own : String}
/-- the run goes on well from pc with these locals and this stack, at whatever state of the same heap -/
def own_Aft (X : Stand p l e R s m args below meth c T locs cells slots) (h : Heap) (Q : Outcome → State → Prop) (pc : Nat) (ls : List Slot) (st : List Value) : Prop :=
  ∀ T', Stand p l e R s m args below meth c T' locs cells slots → T'.heap = h → own_Go p.tables e below Q (T'.setTop (mkF m pc (Array.mk ls) st))
set_option maxHeartbeats 4000000 in
theorem own_st_ok (X : Stand p l e R s m args below meth c T locs cells slots) (hx : p.tables.exec = Jvm.exec) (hZ : Z.Warmed39 s.vm) (hown : s.vm.findClass own = some m.cls) (eT : T.heap = h) {Kt : List (Nat × Value)} {Ft : List (Nat × String × String × String)} (hK : own_ks own a0 Z Kt) (hF : own_fs own a0 Z Ft)
    {i : Instr} {pc : Nat} (hd : decode c.code pc = .ok (i, own_len i)) {ds : List Bool} {vs : List Value} {ls : List Slot} {st : List Value} {kf : List Bool → List Value → List Slot → List Value → Prop} {kj : Nat → List Bool → List Value → List Slot → List Value → Prop}
    (H : own_st Kt Ft Z h i pc ds vs ls st kf kj) (Hf : ∀ ds vs ls st, kf ds vs ls st → own_Aft X h Q (pc + own_len i) ls st) (Hj : ∀ t ds vs ls st, kj t ds vs ls st → own_Aft X h Q t ls st) :
    own_Go p.tables e below Q (T.setTop (mkF m pc (Array.mk ls) st)) := by
  cases i with
  | iload j =>
    have H : (own_ldI ls j fun v => kf ds vs ls (v :: st)) := H
    obtain ⟨v, hn, hk⟩ := own_ldI_e H
    exact own_go (fun t k => XS.iload X.here hx rfl hd ((own_nth_eq _ _).trans hn) k) (Hf _ _ _ _ hk T X eT)
  | iload_n j =>
    have H : (own_ldI ls j.val fun v => kf ds vs ls (v :: st)) := H
    obtain ⟨v, hn, hk⟩ := own_ldI_e H
    exact own_go (fun t k => XS.iloadN X.here hx rfl hd ((own_nth_eq _ _).trans hn) k) (Hf _ _ _ _ hk T X eT)
  | lload j =>
    have H : (own_ldL ls j fun v => kf ds vs ls (v :: st)) := H
    obtain ⟨v, hn, hk⟩ := own_ldL_e H
    exact own_go (fun t k => XT.lload X.here hx rfl hd ((own_nth_eq _ _).trans hn) k) (Hf _ _ _ _ hk T X eT)
  | lload_n j =>
    have H : (own_ldL ls j.val fun v => kf ds vs ls (v :: st)) := H
    obtain ⟨v, hn, hk⟩ := own_ldL_e H
    exact own_go (fun t k => XT.lloadN X.here hx rfl hd ((own_nth_eq _ _).trans hn) k) (Hf _ _ _ _ hk T X eT)
  | dload j =>
    have H : (own_ldD ls j fun v => kf ds vs ls (v :: st)) := H
    obtain ⟨v, hn, hk⟩ := own_ldD_e H
    exact own_go (fun t k => XS.dload X.here hx rfl hd ((own_nth_eq _ _).trans hn) k) (Hf _ _ _ _ hk T X eT)
  | dload_n j =>
    have H : (own_ldD ls j.val fun v => kf ds vs ls (v :: st)) := H
    obtain ⟨v, hn, hk⟩ := own_ldD_e H
    exact own_go (fun t k => XS.dloadN X.here hx rfl hd ((own_nth_eq _ _).trans hn) k) (Hf _ _ _ _ hk T X eT)
  | aload j =>
    have H : (own_ldA ls j fun v => kf ds vs ls (v :: st)) := H
    obtain ⟨v, hn, hv, hk⟩ := own_ldA_e H
    exact own_go (fun t k => XS.aload X.here hx rfl hd ((own_nth_eq _ _).trans hn) hv k) (Hf _ _ _ _ hk T X eT)
  | aload_n j =>
    have H : (own_ldA ls j.val fun v => kf ds vs ls (v :: st)) := H
    obtain ⟨v, hn, hv, hk⟩ := own_ldA_e H
    exact own_go (fun t k => XS.aloadN X.here hx rfl hd ((own_nth_eq _ _).trans hn) hv k) (Hf _ _ _ _ hk T X eT)
  | istore j =>
    have H : (own_stI ls st j fun l r => kf ds vs l r) := H
    obtain ⟨x, r, l', rfl, hl, hk⟩ := own_stI_e H
    exact own_go (fun t k => XS.istore X.here hx rfl hd rfl hl k) (Hf _ _ _ _ hk T X eT)
  | istore_n j =>
    have H : (own_stI ls st j.val fun l r => kf ds vs l r) := H
    obtain ⟨x, r, l', rfl, hl, hk⟩ := own_stI_e H
    exact own_go (fun t k => XS.istoreN X.here hx rfl hd rfl hl k) (Hf _ _ _ _ hk T X eT)
  | lstore j =>
    have H : (own_stL ls st j fun l r => kf ds vs l r) := H
    obtain ⟨x, r, l', rfl, hl, hk⟩ := own_stL_e H
    exact own_go (fun t k => XT.lstore X.here hx rfl hd rfl hl k) (Hf _ _ _ _ hk T X eT)
  | lstore_n j =>
    have H : (own_stL ls st j.val fun l r => kf ds vs l r) := H
    obtain ⟨x, r, l', rfl, hl, hk⟩ := own_stL_e H
    exact own_go (fun t k => XT.lstoreN X.here hx rfl hd rfl hl k) (Hf _ _ _ _ hk T X eT)
  | dstore j =>
    have H : (own_stD ls st j fun l r => kf ds vs l r) := H
    obtain ⟨x, r, l', rfl, hl, hk⟩ := own_stD_e H
    exact own_go (fun t k => XS.dstore X.here hx rfl hd rfl hl k) (Hf _ _ _ _ hk T X eT)
  | dstore_n j =>
    have H : (own_stD ls st j.val fun l r => kf ds vs l r) := H
    obtain ⟨x, r, l', rfl, hl, hk⟩ := own_stD_e H
    exact own_go (fun t k => XS.dstoreN X.here hx rfl hd rfl hl k) (Hf _ _ _ _ hk T X eT)
  | astore j =>
    have H : (own_stA ls st j fun l r => kf ds vs l r) := H
    obtain ⟨x, r, l', rfl, hv, hl, hk⟩ := own_stA_e H
    exact own_go (fun t k => XS.astore X.here hx rfl hd rfl hv hl k) (Hf _ _ _ _ hk T X eT)
  | astore_n j =>
    have H : (own_stA ls st j.val fun l r => kf ds vs l r) := H
    obtain ⟨x, r, l', rfl, hv, hl, hk⟩ := own_stA_e H
    exact own_go (fun t k => XS.astoreN X.here hx rfl hd rfl hv hl k) (Hf _ _ _ _ hk T X eT)
  | iconst n => exact own_go (fun t k => XS.iconst X.here hx rfl hd k) (Hf _ _ _ _ H T X eT)
  | bipush n =>
    have H' : (match (generalizing := false) vs with | .int v :: vs' => (Int8.ofInt n).toInt32 = v ∧ kf ds vs' ls (.int v :: st) | _ => False) := H
    split at H'
    · obtain ⟨hv, hk⟩ := H'
      subst hv
      exact own_go (fun t k => XS.bipush X.here hx rfl hd k) (Hf _ _ _ _ hk T X eT)
    · exact H'.elim
  | sipush n =>
    have H' : (match (generalizing := false) vs with | .int v :: vs' => (Int16.ofInt n).toInt32 = v ∧ kf ds vs' ls (.int v :: st) | _ => False) := H
    split at H'
    · obtain ⟨hv, hk⟩ := H'
      subst hv
      exact own_go (fun t k => XS.sipush X.here hx rfl hd k) (Hf _ _ _ _ hk T X eT)
    · exact H'.elim
  | lconst n => exact own_go (fun t k => XT.lconst X.here hx rfl hd k) (Hf _ _ _ _ H T X eT)
  | dconst n =>
    match n, hd, H, Hf with
    | ⟨0, _⟩, hd, H, Hf => exact own_go (fun t k => XS.dconst0 X.here hx rfl hd rfl k) (Hf _ _ _ _ H T X eT)
    | ⟨1, _⟩, hd, H, Hf => exact own_go (fun t k => XS.dconst1 X.here hx rfl hd rfl k) (Hf _ _ _ _ H T X eT)
  | aconst_null => exact own_go (fun t k => XS.aconstNull X.here hx rfl hd k) (Hf _ _ _ _ H T X eT)
  | ldc n =>
    have H' : (match (generalizing := false) own_key Kt n with | some (.int v) => kf ds vs ls (.int v :: st) | _ => False) := H
    split at H'
    · rename_i v hv
      exact own_go (X.ldcInt hx hown (mv hZ (own_key_e hK hv)) (g := mkF m pc (Array.mk ls) st) rfl hd) (Hf _ _ _ _ H' T X eT)
    · exact H'.elim
  | ldc2_w n =>
    have H' : (match (generalizing := false) own_key Kt n with | some (.long v) => kf ds vs ls (.long v :: st) | some (.double v) => kf ds vs ls (.double v :: st) | _ => False) := H
    split at H'
    · rename_i v hv
      exact own_go (X.ldc2Long hx hown (mv hZ (own_key_e hK hv)) (g := mkF m pc (Array.mk ls) st) rfl hd) (Hf _ _ _ _ H' T X eT)
    · rename_i v hv
      exact own_go (X.ldc2DoubleC hx hown (mv hZ (own_key_e hK hv)) (g := mkF m pc (Array.mk ls) st) rfl hd) (Hf _ _ _ _ H' T X eT)
    · exact H'.elim
  | iadd =>
    have H : (own_p2 st (fun x y => .int (x + y)) fun r => kf ds vs ls r) := H
    obtain ⟨x, y, r, rfl, hk⟩ := own_p2_e H
    exact own_go (fun t k => XS.iadd X.here hx rfl hd rfl k) (Hf _ _ _ _ hk T X eT)
  | isub =>
    have H : (own_p2 st (fun x y => .int (x - y)) fun r => kf ds vs ls r) := H
    obtain ⟨x, y, r, rfl, hk⟩ := own_p2_e H
    exact own_go (fun t k => XS.isub X.here hx rfl hd rfl k) (Hf _ _ _ _ hk T X eT)
  | imul =>
    have H : (own_p2 st (fun x y => .int (x * y)) fun r => kf ds vs ls r) := H
    obtain ⟨x, y, r, rfl, hk⟩ := own_p2_e H
    exact own_go (fun t k => XS.imul X.here hx rfl hd rfl k) (Hf _ _ _ _ hk T X eT)
  | idiv =>
    have H : (own_i2 st (fun _ y => y ≠ 0) (fun x y => .int (x / y)) fun r => kf ds vs ls r) := H
    obtain ⟨x, y, r, rfl, hg, hk⟩ := own_i2_e H
    exact own_go (fun t k => XS.idiv X.here hx rfl hd rfl hg k) (Hf _ _ _ _ hk T X eT)
  | irem =>
    have H : (own_i2 st (fun _ y => y ≠ 0) (fun x y => .int (x % y)) fun r => kf ds vs ls r) := H
    obtain ⟨x, y, r, rfl, hg, hk⟩ := own_i2_e H
    exact own_go (fun t k => iremM X hx (g := mkF m pc (Array.mk ls) _) rfl hd rfl hg k) (Hf _ _ _ _ hk T X eT)
  | iand =>
    have H : (own_p2 st (fun x y => .int (x &&& y)) fun r => kf ds vs ls r) := H
    obtain ⟨x, y, r, rfl, hk⟩ := own_p2_e H
    exact own_go (fun t k => XS.iand X.here hx rfl hd rfl k) (Hf _ _ _ _ hk T X eT)
  | ior =>
    have H : (own_p2 st (fun x y => .int (x ||| y)) fun r => kf ds vs ls r) := H
    obtain ⟨x, y, r, rfl, hk⟩ := own_p2_e H
    exact own_go (fun t k => XT.ior X.here hx rfl hd rfl k) (Hf _ _ _ _ hk T X eT)
  | ixor =>
    have H : (own_p2 st (fun x y => .int (x ^^^ y)) fun r => kf ds vs ls r) := H
    obtain ⟨x, y, r, rfl, hk⟩ := own_p2_e H
    exact own_go (fun t k => XT.ixor X.here hx rfl hd rfl k) (Hf _ _ _ _ hk T X eT)
  | ishl =>
    have H : (own_p2 st (fun x y => .int (x <<< (y &&& 31))) fun r => kf ds vs ls r) := H
    obtain ⟨x, y, r, rfl, hk⟩ := own_p2_e H
    exact own_go (fun t k => XT.ishl X.here hx rfl hd rfl k) (Hf _ _ _ _ hk T X eT)
  | ishr =>
    have H : (own_p2 st (fun x y => .int (x >>> (y &&& 31))) fun r => kf ds vs ls r) := H
    obtain ⟨x, y, r, rfl, hk⟩ := own_p2_e H
    exact own_go (fun t k => XT.ishr X.here hx rfl hd rfl k) (Hf _ _ _ _ hk T X eT)
  | iushr =>
    have H : (own_p2 st (fun x y => .int (Jvm.Free.XT.ushr x y)) fun r => kf ds vs ls r) := H
    obtain ⟨x, y, r, rfl, hk⟩ := own_p2_e H
    exact own_go (fun t k => XT.iushr X.here hx rfl hd rfl k) (Hf _ _ _ _ hk T X eT)
  | ineg =>
    have H : (own_i1 st (fun x => .int (-x)) fun r => kf ds vs ls r) := H
    obtain ⟨x, r, rfl, hk⟩ := own_i1_e H
    exact own_go (fun t k => XS.ineg X.here hx rfl hd rfl k) (Hf _ _ _ _ hk T X eT)
  | i2l =>
    have H : (own_i1 st (fun x => .long x.toInt64) fun r => kf ds vs ls r) := H
    obtain ⟨x, r, rfl, hk⟩ := own_i1_e H
    exact own_go (fun t k => XT.i2l X.here hx rfl hd rfl k) (Hf _ _ _ _ hk T X eT)
  | i2b =>
    have H : (own_i1 st (fun x => .int x.toInt8.toInt32) fun r => kf ds vs ls r) := H
    obtain ⟨x, r, rfl, hk⟩ := own_i1_e H
    exact own_go (fun t k => XT.i2b X.here hx rfl hd rfl k) (Hf _ _ _ _ hk T X eT)
  | i2s =>
    have H : (own_i1 st (fun x => .int x.toInt16.toInt32) fun r => kf ds vs ls r) := H
    obtain ⟨x, r, rfl, hk⟩ := own_i1_e H
    exact own_go (fun t k => XT.i2s X.here hx rfl hd rfl k) (Hf _ _ _ _ hk T X eT)
  | i2c =>
    have H : (own_i1 st (fun x => .int x.toUInt32.toUInt16.toUInt32.toInt32) fun r => kf ds vs ls r) := H
    obtain ⟨x, r, rfl, hk⟩ := own_i1_e H
    exact own_go (fun t k => XT.i2c X.here hx rfl hd rfl k) (Hf _ _ _ _ hk T X eT)
  | i2d =>
    have H : (own_i1 st (fun x => .double (FP.i2d x)) fun r => kf ds vs ls r) := H
    obtain ⟨x, r, rfl, hk⟩ := own_i1_e H
    exact own_go (fun t k => XS.i2dS X.here hx rfl hd rfl rfl k) (Hf _ _ _ _ hk T X eT)
  | l2i =>
    have H : (own_l1 st (fun x => .int x.toInt32) fun r => kf ds vs ls r) := H
    obtain ⟨x, r, rfl, hk⟩ := own_l1_e H
    exact own_go (fun t k => XT.l2i X.here hx rfl hd rfl k) (Hf _ _ _ _ hk T X eT)
  | l2d =>
    have H : (own_l1 st (fun x => .double (FP.l2d x)) fun r => kf ds vs ls r) := H
    obtain ⟨x, r, rfl, hk⟩ := own_l1_e H
    exact own_go (fun t k => XS.l2dS X.here hx rfl hd rfl rfl k) (Hf _ _ _ _ hk T X eT)
  | ladd =>
    have H : (own_q2 st (fun x y => .long (x + y)) fun r => kf ds vs ls r) := H
    obtain ⟨x, y, r, rfl, hk⟩ := own_q2_e H
    exact own_go (fun t k => XT.ladd X.here hx rfl hd rfl k) (Hf _ _ _ _ hk T X eT)
  | lsub =>
    have H : (own_q2 st (fun x y => .long (x - y)) fun r => kf ds vs ls r) := H
    obtain ⟨x, y, r, rfl, hk⟩ := own_q2_e H
    exact own_go (fun t k => XT.lsub X.here hx rfl hd rfl k) (Hf _ _ _ _ hk T X eT)
  | lmul =>
    have H : (own_q2 st (fun x y => .long (x * y)) fun r => kf ds vs ls r) := H
    obtain ⟨x, y, r, rfl, hk⟩ := own_q2_e H
    exact own_go (fun t k => XT.lmul X.here hx rfl hd rfl k) (Hf _ _ _ _ hk T X eT)
  | ldiv =>
    have H : (own_l2 st (fun _ y => y ≠ 0) (fun x y => .long (x / y)) fun r => kf ds vs ls r) := H
    obtain ⟨x, y, r, rfl, hg, hk⟩ := own_l2_e H
    exact own_go (fun t k => XT.ldiv X.here hx rfl hd rfl hg k) (Hf _ _ _ _ hk T X eT)
  | land =>
    have H : (own_q2 st (fun x y => .long (x &&& y)) fun r => kf ds vs ls r) := H
    obtain ⟨x, y, r, rfl, hk⟩ := own_q2_e H
    exact own_go (fun t k => XT.land X.here hx rfl hd rfl k) (Hf _ _ _ _ hk T X eT)
  | lneg =>
    have H : (own_l1 st (fun x => .long (-x)) fun r => kf ds vs ls r) := H
    obtain ⟨x, r, rfl, hk⟩ := own_l1_e H
    exact own_go (fun t k => XT.lneg X.here hx rfl hd rfl k) (Hf _ _ _ _ hk T X eT)
  | lshr =>
    have H : (own_li st (fun x y => .long (x >>> (y.toInt64 &&& 63))) fun r => kf ds vs ls r) := H
    obtain ⟨x, y, r, rfl, hk⟩ := own_li_e H
    exact own_go (fun t k => XT.lshr X.here hx rfl hd rfl k) (Hf _ _ _ _ hk T X eT)
  | lushr =>
    have H : (own_li st (fun x y => .long (Jvm.Free.XT.ushrL x y)) fun r => kf ds vs ls r) := H
    obtain ⟨x, y, r, rfl, hk⟩ := own_li_e H
    exact own_go (fun t k => XT.lushr X.here hx rfl hd rfl k) (Hf _ _ _ _ hk T X eT)
  | lcmp =>
    have H : (own_q2 st (fun x y => .int (Jvm.Free.XT.cmpL x y)) fun r => kf ds vs ls r) := H
    obtain ⟨x, y, r, rfl, hk⟩ := own_q2_e H
    exact own_go (fun t k => XT.lcmp X.here hx rfl hd rfl k) (Hf _ _ _ _ hk T X eT)
  | dadd =>
    have H : (own_d2 st FP.dadd fun r => kf ds vs ls r) := H
    obtain ⟨x, y, r, rfl, hg, hk⟩ := own_d2_e H
    exact own_go (fun t k => XS.daddS X.here hx rfl hd rfl hg rfl k) (Hf _ _ _ _ hk T X eT)
  | dsub =>
    have H : (own_d2 st FP.dsub fun r => kf ds vs ls r) := H
    obtain ⟨x, y, r, rfl, hg, hk⟩ := own_d2_e H
    exact own_go (fun t k => XS.dsubS X.here hx rfl hd rfl hg rfl k) (Hf _ _ _ _ hk T X eT)
  | dmul =>
    have H : (own_d2 st FP.dmul fun r => kf ds vs ls r) := H
    obtain ⟨x, y, r, rfl, hg, hk⟩ := own_d2_e H
    exact own_go (fun t k => XS.dmulS X.here hx rfl hd rfl hg rfl k) (Hf _ _ _ _ hk T X eT)
  | ddiv =>
    have H : (own_d2 st FP.ddiv fun r => kf ds vs ls r) := H
    obtain ⟨x, y, r, rfl, hg, hk⟩ := own_d2_e H
    exact own_go (fun t k => XS.ddivS X.here hx rfl hd rfl hg rfl k) (Hf _ _ _ _ hk T X eT)
  | dneg =>
    have H' : (match (generalizing := false) st with | .double x :: r => kf ds vs ls (.double (FP.dneg x) :: r) | _ => False) := H
    split at H'
    · exact own_go (fun t k => XS.dnegS X.here hx rfl hd rfl rfl k) (Hf _ _ _ _ H' T X eT)
    · exact H'.elim
  | dcmp o =>
    have H' : (match (generalizing := false) st with | .double y :: .double x :: r => kf ds vs ls (.int (cmpValue (FP.dcmp x y) o) :: r) | _ => False) := H
    split at H'
    · exact own_go (fun t k => XS.dcmpS X.here hx rfl hd rfl rfl k) (Hf _ _ _ _ H' T X eT)
    · exact H'.elim
  | iinc j n =>
    have H' : (match (generalizing := false) own_nth ls j with | some (.val (.int x)) => (match (generalizing := false) own_sto ls j (.int (x + Int32.ofInt n)) with | some l => kf ds vs l st | none => False) | _ => False) := H
    split at H'
    · rename_i x hn
      split at H'
      · rename_i l' hl
        exact own_go (fun t k => XS.iinc X.here hx rfl hd ((own_nth_eq _ _).trans hn) (own_sto_ok hl) k) (Hf _ _ _ _ H' T X eT)
      · exact H'.elim
    · exact H'.elim
  | dup =>
    have H : (own_ca st fun st => (match st with | x :: r => kf ds vs ls (x :: x :: r) | _ => False)) := H
    obtain ⟨x, r, rfl, hc, hk⟩ := own_ca_e H
    exact own_go (fun t k => XS.dup X.here hx rfl hd rfl hc k) (Hf _ _ _ _ hk T X eT)
  | pop =>
    have H : (own_ca st fun st => (match st with | _ :: r => kf ds vs ls r | _ => False)) := H
    obtain ⟨x, r, rfl, hc, hk⟩ := own_ca_e H
    exact own_go (fun t k => XT.pop X.here hx rfl hd rfl hc k) (Hf _ _ _ _ hk T X eT)
  | dup2 =>
    have H : (own_ca st fun st => (match st with | x :: r => own_ca r fun r => (match r with | y :: q => kf ds vs ls (x :: y :: x :: y :: q) | _ => False) | _ => False)) := H
    obtain ⟨x, r, rfl, hc, hk⟩ := own_ca_e H
    obtain ⟨y, q, rfl, hc', hk'⟩ := own_ca_e hk
    exact own_go (fun t k => XT.dup2 X.here hx rfl hd rfl hc hc' k) (Hf _ _ _ _ hk' T X eT)
  | goto o =>
    have H : (own_jp pc o fun t => kj t ds vs ls st) := H
    obtain ⟨t', h1, h2, hk⟩ := own_jp_e H
    exact own_go (fun t k => XS.goto X.here hx rfl rfl hd h1 h2 k) (Hj _ _ _ _ _ hk T X eT)
  | ifCond cd o =>
    have H' : (match (generalizing := false) st with | .int x :: r => own_br ds (own_c0 cd x) (fun d => own_jp pc o fun t => kj t d vs ls r) (fun d => kf d vs ls r) | _ => False) := H
    split at H'
    · rename_i x r
      rcases own_br_e H' with ⟨hC, d, hk⟩ | ⟨hC, d, hk⟩
      · obtain ⟨t', h1, h2, hk⟩ := own_jp_e hk
        exact own_go (fun t k => XS.ifYes X.here hx rfl rfl hd rfl ((own_c0_ok _ _).mpr hC) h1 h2 k) (Hj _ _ _ _ _ hk T X eT)
      · have hc : ifCond.holds cd x = false := by
          cases hb : ifCond.holds cd x with
          | false => rfl
          | true => exact absurd ((own_c0_ok _ _).mp hb) hC
        exact own_go (fun t k => XS.ifNo X.here hx rfl hd rfl hc k) (Hf _ _ _ _ hk T X eT)
    · exact H'.elim
  | if_icmp cd o =>
    have H' : (match (generalizing := false) st with | .int y :: .int x :: r => own_br ds (own_ic cd x y) (fun d => own_jp pc o fun t => kj t d vs ls r) (fun d => kf d vs ls r) | _ => False) := H
    split at H'
    · rename_i y x r
      rcases own_br_e H' with ⟨hC, d, hk⟩ | ⟨hC, d, hk⟩
      · obtain ⟨t', h1, h2, hk⟩ := own_jp_e hk
        exact own_go (fun t k => XS.icmpYes X.here hx rfl rfl hd rfl ((own_ic_ok _ _ _).mpr hC) h1 h2 k) (Hj _ _ _ _ _ hk T X eT)
      · have hc : if_icmp.holds cd x y = false := by
          cases hb : if_icmp.holds cd x y with
          | false => rfl
          | true => exact absurd ((own_ic_ok _ _ _).mp hb) hC
        exact own_go (fun t k => XS.icmpNo X.here hx rfl hd rfl hc k) (Hf _ _ _ _ hk T X eT)
    · exact H'.elim
  | ifnull o =>
    have H' : (match (generalizing := false) st with | .null :: r => own_jp pc o fun t => kj t ds vs ls r | .ref _ :: r => kf ds vs ls r | _ => False) := H
    split at H'
    · obtain ⟨t', h1, h2, hk⟩ := own_jp_e H'
      exact own_go (fun t k => XS.ifnullYes X.here hx rfl rfl hd rfl h1 h2 k) (Hj _ _ _ _ _ hk T X eT)
    · exact own_go (fun t k => XS.ifnullNo X.here hx rfl hd rfl k) (Hf _ _ _ _ H' T X eT)
    · exact H'.elim
  | ifnonnull o =>
    have H' : (match (generalizing := false) st with | .ref _ :: r => own_jp pc o fun t => kj t ds vs ls r | .null :: r => kf ds vs ls r | _ => False) := H
    split at H'
    · obtain ⟨t', h1, h2, hk⟩ := own_jp_e H'
      exact own_go (fun t k => XT.ifnonnullYes X.here hx rfl rfl hd rfl h1 h2 k) (Hj _ _ _ _ _ hk T X eT)
    · exact own_go (fun t k => XT.ifnonnullNo X.here hx rfl hd rfl k) (Hf _ _ _ _ H' T X eT)
    · exact H'.elim
  | arraylength =>
    have H' : (match (generalizing := false) st with | .ref a :: r => (match (generalizing := false) vs with | .int N :: vs' => own_ln Z h a N ∧ kf ds vs' ls (.int N :: r) | _ => False) | _ => False) := H
    split at H'
    · split at H'
      · rename_i a r N vs'
        obtain ⟨⟨cl, ty, A, hN⟩, hk⟩ := H'
        subst hN
        exact own_go (X.arraylength hx (by rw [eT]; exact A.1) (State.isArrayOf_alike hZ.alike A.2.1) (g := mkF m pc (Array.mk ls) _) rfl rfl hd) (Hf _ _ _ _ hk T X eT)
      · exact H'.elim
    · exact H'.elim
  | iaload =>
    have H : (own_al Z h .int st vs fun vs' r => kf ds vs' ls r) := H
    obtain ⟨j, a, r, v, vs', rfl, rfl, ⟨cl, A, hin, hv⟩, hk⟩ := own_al_e H
    exact own_go (X.iaload hx (by rw [eT]; exact A.1) (State.isArrayOf_alike hZ.alike A.2.1) A.2.2 hin hv (g := mkF m pc (Array.mk ls) _) rfl rfl hd) (Hf _ _ _ _ hk T X eT)
  | daload =>
    have H : (own_al Z h .double st vs fun vs' r => kf ds vs' ls r) := H
    obtain ⟨j, a, r, v, vs', rfl, rfl, ⟨cl, A, hin, hv⟩, hk⟩ := own_al_e H
    exact own_go (X.daload hx (by rw [eT]; exact A.1) (State.isArrayOf_alike hZ.alike A.2.1) A.2.2 hin hv (g := mkF m pc (Array.mk ls) _) rfl rfl hd) (Hf _ _ _ _ hk T X eT)
  | laload =>
    have H : (own_al Z h .long st vs fun vs' r => kf ds vs' ls r) := H
    obtain ⟨j, a, r, v, vs', rfl, rfl, ⟨cl, A, hin, hv⟩, hk⟩ := own_al_e H
    exact own_go (X.laload hx (by rw [eT]; exact A.1) (State.isArrayOf_alike hZ.alike A.2.1) A.2.2 hin hv (g := mkF m pc (Array.mk ls) _) rfl rfl hd) (Hf _ _ _ _ hk T X eT)
  | getfield n =>
    have H' : (match (generalizing := false) st with | .ref a :: r => (match (generalizing := false) vs with | v :: vs' => (match (generalizing := false) own_fld Ft n with | some (C, f, d) => Fld Z h a C f d v ∧ kf ds vs' ls (v :: r) | none => False) | [] => False) | _ => False) := H
    split at H'
    · split at H'
      · split at H'
        · rename_i a r v vs' o C f d hf
          obtain ⟨T', X', e', st'⟩ := getF X hx hZ hown (host := "") (Or.inl (own_fld_e hF hf)) Via.refl eT H'.1 (g := mkF m pc (Array.mk ls) _) rfl rfl hd
          exact own_go st' (Hf _ _ _ _ H'.2 T' X' e')
        · exact H'.elim
      · exact H'.elim
    · exact H'.elim
  | _ => exact H.elim
def own_from : List (Nat × Instr) → Nat → List (Nat × Instr)
  | [], _ => []
  | (q, i) :: r, pc => bif Nat.beq q pc then (q, i) :: r else own_from r pc
def own_dec (code : ByteArray) (tab : List (Nat × Instr)) : Prop := ∀ e ∈ tab, decode code e.1 = .ok (e.2, own_len e.2)
def own_seq : List (Nat × Instr) → Bool
  | (q, i) :: (q', i') :: r => Nat.beq q' (q + own_len i) && own_seq ((q', i') :: r)
  | _ => true
theorem own_from_sub : ∀ {full : List (Nat × Instr)} {t : Nat}, (∀ e ∈ own_from full t, e ∈ full) ∧ (own_seq full = true → own_seq (own_from full t) = true) ∧ (∀ q i r, own_from full t = (q, i) :: r → q = t)
  | [], t => ⟨fun e h => h, fun h => h, fun q i r h => by cases h⟩
  | (q, i) :: r, t => by
    have ih := own_from_sub (full := r) (t := t)
    cases hb : Nat.beq q t with
    | true =>
      have e : own_from ((q, i) :: r) t = (q, i) :: r := by show (bif Nat.beq q t then _ else _) = _; rw [hb]; rfl
      rw [e]
      refine ⟨fun e h => h, fun h => h, fun q' i' r' h => ?_⟩
      cases h
      exact Nat.eq_of_beq_eq_true hb
    | false =>
      have e : own_from ((q, i) :: r) t = own_from r t := by show (bif Nat.beq q t then _ else _) = _; rw [hb]; rfl
      rw [e]
      refine ⟨fun e h => List.mem_cons_of_mem _ (ih.1 e h), fun h => ih.2.1 ?_, ih.2.2⟩
      cases r with
      | nil => rfl
      | cons a r' =>
        obtain ⟨q', i'⟩ := a
        have h' : (Nat.beq q' (q + own_len i) && own_seq ((q', i') :: r')) = true := h
        exact (Bool.and_eq_true_iff.mp h').2
/-! a block: n plain instructions from the table's row at hand on -/
def own_wp (Kt : List (Nat × Value)) (Ft : List (Nat × String × String × String)) (Z : State) (h : Heap) (full : List (Nat × Instr)) (P : Nat → List Slot → List Value → Prop) : Nat → List (Nat × Instr) → List Bool → List Value → List Slot → List Value → Prop
  | _, [], _, _, _, _ => False
  | 0, (q, _) :: _, _, _, ls, st => P q ls st
  | n + 1, (q, i) :: r, ds, vs, ls, st => own_st Kt Ft Z h i q ds vs ls st (fun ds vs ls st => own_wp Kt Ft Z h full P n r ds vs ls st) (fun t ds vs ls st => own_wp Kt Ft Z h full P n (own_from full t) ds vs ls st)
theorem own_wp_ok {code : ByteArray} {full : List (Nat × Instr)} (hdec : own_dec code full) (hseq : own_seq full = true) (hby : c.code = code) (hx : p.tables.exec = Jvm.exec) (hZ : Z.Warmed39 s.vm) (hown : s.vm.findClass own = some m.cls) {Kt : List (Nat × Value)} {Ft : List (Nat × String × String × String)} (hK : own_ks own a0 Z Kt) (hF : own_fs own a0 Z Ft) (X : Stand p l e R s m args below meth c T locs cells slots) :
    ∀ (n : Nat) (tab : List (Nat × Instr)) (ds : List Bool) (vs : List Value) (ls : List Slot) (st : List Value), (∀ e ∈ tab, e ∈ full) → own_seq tab = true → own_wp Kt Ft Z h full (own_Aft X h Q) n tab ds vs ls st →
      ∃ q i r, tab = (q, i) :: r ∧ own_Aft X h Q q ls st
  | _, [], _, _, _, _, _, _, H => by cases ‹Nat› <;> exact H.elim
  | 0, (q, i) :: r, ds, vs, ls, st, _, _, H => ⟨q, i, r, rfl, H⟩
  | n + 1, (q, i) :: r, ds, vs, ls, st, hsub, hs, H => by
    refine ⟨q, i, r, rfl, fun T' X' e' => ?_⟩
    have hd : decode c.code q = .ok (i, own_len i) := by rw [hby]; exact hdec (q, i) (hsub (q, i) (List.mem_cons_self ..))
    have H1 : own_st Kt Ft Z h i q ds vs ls st (fun ds vs ls st => own_wp Kt Ft Z h full (own_Aft X h Q) n r ds vs ls st) (fun t ds vs ls st => own_wp Kt Ft Z h full (own_Aft X h Q) n (own_from full t) ds vs ls st) := H
    clear H
    refine own_st_ok X' hx hZ hown e' hK hF hd H1 (fun ds vs ls st hk => ?_) (fun t ds vs ls st hk => ?_)
    · cases r with
      | nil =>
        obtain ⟨q', i', r', e1, -⟩ := own_wp_ok hdec hseq hby hx hZ hown hK hF X n [] ds vs ls st (fun e he => absurd he (List.not_mem_nil)) rfl hk
        cases e1
      | cons a r' =>
        obtain ⟨q1, i1⟩ := a
        have h' : (Nat.beq q1 (q + own_len i) && own_seq ((q1, i1) :: r')) = true := hs
        obtain ⟨g1, g2⟩ := Bool.and_eq_true_iff.mp h'
        obtain ⟨q', i', r'', e1, e2⟩ := own_wp_ok hdec hseq hby hx hZ hown hK hF X n ((q1, i1) :: r') ds vs ls st (fun e he => hsub e (List.mem_cons_of_mem _ he)) g2 hk
        cases e1
        rw [← Nat.eq_of_beq_eq_true g1]
        exact e2
    · obtain ⟨q', i', r'', e1, e2⟩ := own_wp_ok hdec hseq hby hx hZ hown hK hF X n (own_from full t) ds vs ls st (own_from_sub.1) (own_from_sub.2.1 hseq) hk
      rw [← own_from_sub.2.2 _ _ _ e1]
      exact e2
/-- **A BLOCK**: n plain instructions from pc on, in one step -/
theorem own_blk {code : ByteArray} {full : List (Nat × Instr)} (hdec : own_dec code full) (hseq : own_seq full = true) (hby : c.code = code) (hx : p.tables.exec = Jvm.exec) (hZ : Z.Warmed39 s.vm) (hown : s.vm.findClass own = some m.cls) {Kt : List (Nat × Value)} {Ft : List (Nat × String × String × String)} (hK : own_ks own a0 Z Kt) (hF : own_fs own a0 Z Ft)
    (n : Nat) (ds : List Bool) (vs : List Value) (X : Stand p l e R s m args below meth c T locs cells slots) (eT : T.heap = h) {pc : Nat} {ls : List Slot} {st : List Value} (H : own_wp Kt Ft Z h full (own_Aft X h Q) n (own_from full pc) ds vs ls st) : own_Go p.tables e below Q (T.setTop (mkF m pc (Array.mk ls) st)) := by
  obtain ⟨q, i, r, e1, e2⟩ := own_wp_ok hdec hseq hby hx hZ hown hK hF X n (own_from full pc) ds vs ls st (own_from_sub.1) (own_from_sub.2.1 hseq) H
  rw [← own_from_sub.2.2 _ _ _ e1]
  exact e2 T X eT
/-- **A RETURN** of a value -/
theorem own_ret (X : Stand p l e R s m args below meth c T locs cells slots) (hx : p.tables.exec = Jvm.exec) (hlocks : meth.locks = false) (eT : T.heap = h) {C S : Nat} {q : Option Value → Heap → List Loc → Prop} {pc : Nat} {ls : List Slot} {w : Value} {rest : List Value} {t : FieldType} {i : Instr} (hret : meth.sig.returnType = some t) (hn : narrow t w = w)
    (hi : (i = .ireturn ∧ (t = .int ∨ t = .boolean ∨ t = .byte ∨ t = .char ∨ t = .short) ∧ ∃ z, w = .int z) ∨ (i = .lreturn ∧ t = .long ∧ ∃ z, w = .long z) ∨ (i = .dreturn ∧ t = .double ∧ ∃ z, w = .double z) ∨ (i = .freturn ∧ t = .float ∧ ∃ z, w = .float z) ∨ (i = .areturn ∧ t.isReference = true ∧ w.isRef = true))
    (hd : decode c.code pc = .ok (i, 1)) (hC : cells ≤ C) (hS : slots ≤ S) (hq : q (some w) h locs) : own_Go p.tables e below (own_Fin s C S q) (T.setTop (mkF m pc (Array.mk ls) (w :: rest))) := by
  obtain ⟨fs, hr, hrun, hended, hW, hsame⟩ := X.leave (v := some w) (fun h => by rw [hret] at h; cases h) hlocks
  refine ⟨_, _, retOut X hx hret hn hi hd hr, hrun, hended, some w, locs, rfl, ?_, ⟨_, rfl⟩, hW, hsame.mono hC hS⟩
  show q (some w) T.heap locs
  rw [eT]; exact hq
/-- **A RETURN** of nothing -/
theorem own_retV (X : Stand p l e R s m args below meth c T locs cells slots) (hx : p.tables.exec = Jvm.exec) (hlocks : meth.locks = false) (eT : T.heap = h) {C S : Nat} {q : Option Value → Heap → List Loc → Prop} {pc : Nat} {ls : List Slot} (hret : meth.sig.returnType = none)
    (hd : decode c.code pc = .ok (.return_, 1)) (hC : cells ≤ C) (hS : slots ≤ S) (hq : q none h locs) : own_Go p.tables e below (own_Fin s C S q) (T.setTop (mkF m pc (Array.mk ls) [])) := by
  obtain ⟨fs, hr, hrun, hended, hW, hsame⟩ := X.leave (v := none) (fun _ => rfl) hlocks
  refine ⟨_, _, X.returnOut hx hret hd hr, hrun, hended, none, locs, rfl, ?_, ⟨_, rfl⟩, hW, hsame.mono hC hS⟩
  show q none T.heap locs
  rw [eT]; exact hq
end OwnRun
/-! OWN KIT 2: steps that change the heap, and calls, as steps of own_Go -/
section OwnHeap
variable {p : Program} {l : Launch} {e : Env} {R : Room} {s : State} {m : MethodId} {args : Array Value} {below : List Frame} {meth : Method} {c : Code} {T : State} {locs : List Loc} {cells slots : Nat} {Z : State} {a0 : Array Value} {h h' : Heap} {Q : Outcome → State → Prop} {own : String} {pc : Nat} {ls : List Slot} {st : List Value}
/-- an array with just these values -/
def own_A (Z : State) (h : Heap) (a : Addr) (ty : FieldType) (vs : List Value) : Prop := ∃ cl : Cell, Arr Z h a cl ty ∧ cl.slots.toList = vs
theorem own_A.ext {a : Addr} {ty : FieldType} {vs : List Value} (A : own_A Z h a ty vs) (E : Ext h h') : own_A Z h' a ty vs := by
  obtain ⟨cl, A, q⟩ := A
  exact ⟨cl, A.ext E, q⟩
theorem own_A.keep {a : Addr} {ty : FieldType} {vs : List Value} {ws : List Addr} (A : own_A Z h a ty vs) (K : Keep h h' ws) (q : a ∉ ws) : own_A Z h' a ty vs := by
  obtain ⟨cl, A, r⟩ := A
  exact ⟨cl, ⟨K.2.1 a cl A.1 q, A.2⟩, r⟩
theorem own_A.other {a b : Addr} {ty : FieldType} {vs : List Value} {sl : Nat} {v : Value} (A : own_A Z h b ty vs) (W : Wr h h' a sl v) (hne : b ≠ a) : own_A Z h' b ty vs := by
  obtain ⟨cl, A, r⟩ := A
  exact ⟨cl, A.other W hne, r⟩
theorem own_A.same {a : Addr} {ty : FieldType} {vs : List Value} {sl : Nat} {v : Value} (A : own_A Z h a ty vs) (W : Wr h h' a sl v) : own_A Z h' a ty (vs.set sl v) := by
  obtain ⟨cl, A, r⟩ := A
  refine ⟨_, A.same W, ?_⟩
  subst r
  exact Array.toList_setIfInBounds
theorem own_A.lt {a : Addr} {ty : FieldType} {vs : List Value} (A : own_A Z h a ty vs) : a < h.size := by
  obtain ⟨cl, A, -⟩ := A
  exact A.lt
theorem own_A.at {a : Addr} {ty : FieldType} {vs : List Value} {v : Value} (A : own_A Z h a ty vs) (j : Int32) (k : Nat) (h0 : j.toInt = k) (hv : vs[k]? = some v) : own_at Z h a ty j v := by
  obtain ⟨cl, A, r⟩ := A
  have e1 : j.toNatClampNeg = k := by rw [Int32.toNatClampNeg, h0]; rfl
  have e2 : cl.slots[k]? = some v := by rw [← Array.getElem?_toList, r]; exact hv
  refine ⟨cl, A, ?_, by rw [e1]; exact e2⟩
  rintro (q | q)
  · rw [Int32.lt_iff_toInt_lt, h0] at q
    have : (0 : Int32).toInt = 0 := rfl
    omega
  · rw [e1] at q
    exact absurd (Array.getElem?_eq_some_iff.mp e2).1 (by omega)
theorem own_A.ln {a : Addr} {ty : FieldType} {vs : List Value} (A : own_A Z h a ty vs) (N : Int32) (hN : vs.length.toInt32 = N) : own_ln Z h a N := by
  obtain ⟨cl, A, r⟩ := A
  refine ⟨cl, ty, A, ?_⟩
  rw [← hN, ← r, Array.length_toList]
theorem own_A.inb {a : Addr} {ty : FieldType} {vs : List Value} (A : own_A Z h a ty vs) : ∃ cl : Cell, Arr Z h a cl ty ∧ cl.slots.size = vs.length := by
  obtain ⟨cl, A, r⟩ := A
  exact ⟨cl, A, by rw [← r, Array.length_toList]⟩
theorem own_idx {j : Int32} {k n : Nat} (h0 : j.toInt = k) (hk : k < n) : ¬ (j < 0 ∨ n ≤ j.toNatClampNeg) := by
  have e1 : j.toNatClampNeg = k := by rw [Int32.toNatClampNeg, h0]; rfl
  rintro (q | q)
  · rw [Int32.lt_iff_toInt_lt, h0] at q
    have : (0 : Int32).toInt = 0 := rfl
    omega
  · omega
/-- new C -/
theorem own_new (X : Stand p l e R s m args below meth c T locs cells slots) (hx : p.tables.exec = Jvm.exec) (hZ : Z.Warmed39 s.vm) {C : String} {index n : Nat} (hown : s.vm.findClass own = some m.cls) (w : (Cond.classLink own index C).before a0 Z = true) (wi : (Cond.instantiable C n).before a0 Z = true) (wz : (Cond.initialized C).before a0 Z = true) (eT : T.heap = h)
    (hd : decode c.code pc = .ok (.new index, 3)) (hc : cells + 1 ≤ R.cells) (hl : slots + n ≤ R.slots)
    (k : ∀ T' h' a, a = h.size → Stand p l e R s m args below meth c T' locs (cells + 1) (slots + n) → T'.heap = h' → Ext h h' → Exa Z h' a C → (∀ {O nm d : String} {ty : FieldType}, Laid Z a0 C O nm d → parseFieldDescriptor d = some ty → Fld Z h' a O nm d (defaultValue ty)) →
      own_Go p.tables e below Q (T'.setTop (mkF m (pc + 3) (Array.mk ls) (.ref a :: st)))) : own_Go p.tables e below Q (T.setTop (mkF m pc (Array.mk ls) st)) := by
  obtain ⟨T', h', X', e', E, A, D, -, st'⟩ := newO X hx hZ hown w wi wz eT (g := mkF m pc (Array.mk ls) st) rfl hd hc hl
  exact own_go st' (k T' h' _ rfl X' e' E A D)
/-- newarray of a plain kind, of a length that is known -/
theorem own_newP (X : Stand p l e R s m args below meth c T locs cells slots) (hx : p.tables.exec = Jvm.exec) (hZ : Z.Warmed39 s.vm) {aty : ArrayType} (w : (Cond.arrayClass (newarray.typeOf aty)).before a0 Z = true) (eT : T.heap = h)
    {n : Int32} (N : Nat) (hN : n.toInt = N) {cap : Nat} (hcap : N ≤ cap) (hb : cap * 8 ≤ 536870912) (hd : decode c.code pc = .ok (.newarray aty, 2)) (hc : cells + 1 ≤ R.cells) (hl : slots + cap ≤ R.slots)
    (k : ∀ T' h' a, a = h.size → Stand p l e R s m args below meth c T' locs (cells + 1) (slots + cap) → T'.heap = h' → Ext h h' → own_A Z h' a (newarray.typeOf aty) (List.replicate N (defaultValue (newarray.typeOf aty))) →
      own_Go p.tables e below Q (T'.setTop (mkF m (pc + 2) (Array.mk ls) (.ref a :: st)))) : own_Go p.tables e below Q (T.setTop (mkF m pc (Array.mk ls) (.int n :: st))) := by
  have e1 : n.toNatClampNeg = N := by rw [Int32.toNatClampNeg, hN]; rfl
  have hn : ¬ n < 0 := by
    rw [Int32.lt_iff_toInt_lt, hN]
    have : (0 : Int32).toInt = 0 := rfl
    omega
  obtain ⟨T', h', cA, X', e', E, A, st'⟩ := newP X hx hZ w eT (g := mkF m pc (Array.mk ls) (.int n :: st)) rfl hd rfl hn (cap := cap) (by rw [e1]; exact hcap) hb hc hl
  refine own_go st' (k T' h' _ rfl X' e' E ⟨_, A, ?_⟩)
  show (Array.replicate n.toNatClampNeg _).toList = _
  rw [e1]; exact Array.toList_replicate
/-- dastore -/
theorem own_sD (X : Stand p l e R s m args below meth c T locs cells slots) (hx : p.tables.exec = Jvm.exec) (hZ : Z.Warmed39 s.vm) (eT : T.heap = h) {a : Addr} {vs : List Value} (A : own_A Z h a .double vs) {j : Int32} (kk : Nat) (hj : j.toInt = kk) (hk : kk < vs.length) {x : UInt64} (hd : decode c.code pc = .ok (.dastore, 1))
    (k : ∀ T' h', Stand p l e R s m args below meth c T' (locs ++ [⟨a, kk⟩]) cells slots → T'.heap = h' → Wr h h' a kk (.double x) → own_A Z h' a .double (vs.set kk (.double x)) → own_Go p.tables e below Q (T'.setTop (mkF m (pc + 1) (Array.mk ls) st))) :
    own_Go p.tables e below Q (T.setTop (mkF m pc (Array.mk ls) (.double x :: .int j :: .ref a :: st))) := by
  have e1 : j.toNatClampNeg = kk := by rw [Int32.toNatClampNeg, hj]; rfl
  have A' := A
  obtain ⟨cl, Ar, hs⟩ := A.inb
  obtain ⟨T', h', X', e', W, st'⟩ := stD X hx hZ eT Ar (j := j) (x := x) (by rw [hs]; exact own_idx hj hk) (g := mkF m pc (Array.mk ls) (.double x :: .int j :: .ref a :: st)) rfl rfl hd
  rw [e1] at X' W
  exact own_go st' (k T' h' X' e' W (A'.same W))
/-- iastore -/
theorem own_sI (X : Stand p l e R s m args below meth c T locs cells slots) (hx : p.tables.exec = Jvm.exec) (hZ : Z.Warmed39 s.vm) (eT : T.heap = h) {a : Addr} {vs : List Value} (A : own_A Z h a .int vs) {j : Int32} (kk : Nat) (hj : j.toInt = kk) (hk : kk < vs.length) {x : Int32} (hd : decode c.code pc = .ok (.iastore, 1))
    (k : ∀ T' h', Stand p l e R s m args below meth c T' (locs ++ [⟨a, kk⟩]) cells slots → T'.heap = h' → Wr h h' a kk (.int x) → own_A Z h' a .int (vs.set kk (.int x)) → own_Go p.tables e below Q (T'.setTop (mkF m (pc + 1) (Array.mk ls) st))) :
    own_Go p.tables e below Q (T.setTop (mkF m pc (Array.mk ls) (.int x :: .int j :: .ref a :: st))) := by
  have e1 : j.toNatClampNeg = kk := by rw [Int32.toNatClampNeg, hj]; rfl
  have A' := A
  obtain ⟨cl, Ar, hs⟩ := A.inb
  obtain ⟨T', h', X', e', W, st'⟩ := stI X hx hZ eT Ar (j := j) (x := x) (by rw [hs]; exact own_idx hj hk) (g := mkF m pc (Array.mk ls) (.int x :: .int j :: .ref a :: st)) rfl rfl hd
  rw [e1] at X' W
  exact own_go st' (k T' h' X' e' W (A'.same W))
/-- putfield -/
theorem own_putF (X : Stand p l e R s m args below meth c T locs cells slots) (hx : p.tables.exec = Jvm.exec) (hZ : Z.Warmed39 s.vm) {O n d C : String} {index kk : Nat} {ty : FieldType} (hown : s.vm.findClass own = some m.cls) (w : (Cond.fieldLink own index O n d).before a0 Z = true)
    (eT : T.heap = h) {a : Addr} {v old : Value} (F : Fld Z h a O n d old) (E : Exa Z h a C) (L : (Cond.lays C O n d).before a0 Z = true ∨ ((Cond.laysFinal C O n d).before a0 Z = true ∧ own = O ∧ meth.name = "<init>")) (wi : (Cond.instantiable C kk).before a0 Z = true)
    (hty : parseFieldDescriptor d = some ty) (hn : narrow ty v = v) (hf : fits ty v = true) (hd : decode c.code pc = .ok (.putfield index, 3))
    (k : ∀ T' h', Stand p l e R s m args below meth c T' (locs ++ [⟨a, Jvm.RoadKit.slotOf Z O n d⟩]) cells slots → T'.heap = h' → Wr h h' a (Jvm.RoadKit.slotOf Z O n d) v → Fld Z h' a O n d v → Exa Z h' a C → own_Go p.tables e below Q (T'.setTop (mkF m (pc + 3) (Array.mk ls) st))) :
    own_Go p.tables e below Q (T.setTop (mkF m pc (Array.mk ls) (v :: .ref a :: st))) := by
  obtain ⟨T', h', X', e', W, st'⟩ := putF X hx hZ hown (host := "") (Or.inl w) Via.refl eT F E L wi hty hn hf (g := mkF m pc (Array.mk ls) (v :: .ref a :: st)) rfl rfl hd
  exact own_go st' (k T' h' X' e' W (F.same W) (E.wr W))
/-- Object.<init> -/
theorem own_initO (X : Stand p l e R s m args below meth c T locs cells slots) (hx : p.tables.exec = Jvm.exec) (hZ : Z.Warmed39 s.vm) {idx : Nat} (hown : s.vm.findClass own = some m.cls) (w1 : (Cond.methodLink own idx Lib.objectInit).before a0 Z = true) (w2 : (Cond.instanceMethod Lib.objectInit).before a0 Z = true)
    (w3 : (Cond.code Lib.objectInit ⟨#[0xb1]⟩ 1 none).before a0 Z = true) (eT : T.heap = h) (hsize : ls.length = c.maxLocals) {a : Addr} (hd : decode c.code pc = .ok (.invokespecial idx, 3))
    (hf : 1 ≤ R.frames) (W : Nat) (hW : (st.map fun v => v.category).sum ≤ W) (hl : W + 12 ≤ R.locals)
    (k : ∀ T', Stand p l e R s m args below meth c T' locs cells slots → T'.heap = h → own_Go p.tables e below Q (T'.setTop (mkF m (pc + 3) (Array.mk ls) st))) :
    own_Go p.tables e below Q (T.setTop (mkF m pc (Array.mk ls) (.ref a :: st))) := by
  obtain ⟨T', X', e', st'⟩ := initO X hx hZ hown w1 w2 w3 eT (g := mkF m pc (Array.mk ls) (.ref a :: st)) rfl hsize rfl hd hf (W := W) (by show 2 * 0 + _ ≤ _; omega) hl
  exact own_go st' (k T' X' e')
/-- a static call, by the callee's contract -/
theorem own_callS (X : Stand p l e R s m args below meth c T locs cells slots) (hx : p.tables.exec = Jvm.exec) (hZ : Z.Warmed39 s.vm) (hown : s.vm.findClass own = some m.cls) {index : Nat} {y : MethodName} {bytes : ByteArray} {maxL : Nat} {ret : Option FieldType} {rm : Room}
    (w1 : (Cond.methodLink own index y).before a0 Z = true) (w2 : (Cond.static y).before a0 Z = true) (w3 : (Cond.initialized y.cls).before a0 Z = true) (w4 : (Cond.code y bytes maxL ret).before a0 Z = true) (hy : y.cls ≠ "java/lang/invoke/MethodHandle" ∧ y.cls ≠ "java/lang/invoke/VarHandle")
    (eT : T.heap = h) (argsL : List Value) {ps : List FieldType} {r : Option FieldType} (hpd : parseMethodDescriptor y.desc = some ⟨ps, r⟩) (hlen : argsL.length = ps.length) {q : Option Value → Heap → List Loc → Prop}
    (hM : MetFree l y (head1 [Cond.code y bytes maxL ret] rm) (fun a U => a = argsL.toArray ∧ Z.Warmed39 U.vm ∧ U.heap = h) (fun _ _ _ _ _ => True) (fun _ U o U' => own_Fin U rm.cells rm.slots q o U'))
    (hsize : ls.length = c.maxLocals) (W : Nat) {full : List Value} (hst : full = argsL.reverse ++ st) (hW : (st.map fun v => v.category).sum ≤ W) (hd : decode c.code pc = .ok (.invokestatic index, 3)) (hf : rm.frames + 1 ≤ R.frames) (hl : W + (maxL + 11) + rm.locals ≤ R.locals) (hcc : cells + rm.cells ≤ R.cells) (hss : slots + rm.slots ≤ R.slots)
    (k : ∀ T' v L, Stand p l e R s m args below meth c T' (locs ++ L) (cells + rm.cells) (slots + rm.slots) → q v T'.heap L → own_Go p.tables e below Q (T'.setTop (mkF m (pc + 3) (Array.mk ls) (v.toList ++ st)))) :
    own_Go p.tables e below Q (T.setTop (mkF m pc (Array.mk ls) full)) := by
  subst hst
  obtain ⟨v, vm1, ⟨T', L', k', n'⟩, -, X', ⟨Lc, hq, l1, y1, z1⟩, st'⟩ := Jvm.LawKit.callS X hx hown (mvT hZ w1) (mvT hZ w2) (mvT hZ w3) (mvT hZ w4) hy (backOf (W := W) (Q := q) hM hZ w4 w3 hf hl) (g := mkF m pc (Array.mk ls) (argsL.reverse ++ st)) rfl hsize (argsL := argsL) (rest := st) (lenOf hpd hlen) rfl (by show 2 * 0 + _ ≤ _; omega) hd (fun _ _ => ⟨rfl, eT, hcc, hss⟩)
  dsimp only [Pt.U, Pt.locs, Pt.cells, Pt.slots] at X' l1 y1 z1 st' hq
  subst l1 y1 z1
  exact own_go st' (k T' v Lc X' hq)
/-- a constructor, by its contract -/
theorem own_callI (X : Stand p l e R s m args below meth c T locs cells slots) (hx : p.tables.exec = Jvm.exec) (hZ : Z.Warmed39 s.vm) (hown : s.vm.findClass own = some m.cls) {index : Nat} {y : MethodName} (hy1 : y.name = "<init>") {bytes : ByteArray} {maxL : Nat} {rm : Room}
    (w1 : (Cond.methodLink own index y).before a0 Z = true) (w2 : (Cond.instanceMethod y).before a0 Z = true) (w3 : (Cond.initialized y.cls).before a0 Z = true) (w4 : (Cond.code y bytes maxL none).before a0 Z = true) (hy : y.cls ≠ "java/lang/invoke/MethodHandle" ∧ y.cls ≠ "java/lang/invoke/VarHandle")
    (eT : T.heap = h) (a : Addr) (argsL : List Value) {ps : List FieldType} {r : Option FieldType} (hpd : parseMethodDescriptor y.desc = some ⟨ps, r⟩) (hlen : argsL.length = ps.length) {q : Option Value → Heap → List Loc → Prop}
    (hM : MetFree l y (head1 [Cond.code y bytes maxL none] rm) (fun b U => b = (.ref a :: argsL).toArray ∧ Z.Warmed39 U.vm ∧ U.heap = h) (fun _ _ _ _ _ => True) (fun _ U o U' => own_Fin U rm.cells rm.slots q o U'))
    (hsize : ls.length = c.maxLocals) (W : Nat) {full : List Value} (hst : full = argsL.reverse ++ .ref a :: st) (hW : (st.map fun v => v.category).sum ≤ W) (hd : decode c.code pc = .ok (.invokespecial index, 3)) (hf : rm.frames + 1 ≤ R.frames) (hl : W + (maxL + 11) + rm.locals ≤ R.locals) (hcc : cells + rm.cells ≤ R.cells) (hss : slots + rm.slots ≤ R.slots)
    (k : ∀ T' v L, Stand p l e R s m args below meth c T' (locs ++ L) (cells + rm.cells) (slots + rm.slots) → q v T'.heap L → own_Go p.tables e below Q (T'.setTop (mkF m (pc + 3) (Array.mk ls) (v.toList ++ st)))) :
    own_Go p.tables e below Q (T.setTop (mkF m pc (Array.mk ls) full)) := by
  subst hst
  obtain ⟨v, vm1, ⟨T', L', k', n'⟩, -, X', ⟨Lc, hq, l1, y1, z1⟩, st'⟩ := X.specialBack hx hy1 hown (mvT hZ w1) (mvT hZ w2) (mvT hZ w4) hy (backOf (W := W) (Q := q) hM hZ w4 w3 hf hl) (g := mkF m pc (Array.mk ls) (argsL.reverse ++ .ref a :: st)) rfl hsize (Steps.refl _) (a := a) (argsL := argsL) (rest := st) (lenOf hpd hlen) rfl (by show 2 * 0 + _ ≤ _; omega) hd (fun _ _ => ⟨rfl, eT, hcc, hss⟩)
  dsimp only [Pt.U, Pt.locs, Pt.cells, Pt.slots] at X' l1 y1 z1 st' hq
  subst l1 y1 z1
  exact own_go (fun t k => st'.trans k) (k T' v Lc X' hq)
/-- an instance method, by its contract -/
theorem own_callV (X : Stand p l e R s m args below meth c T locs cells slots) (hx : p.tables.exec = Jvm.exec) (hZ : Z.Warmed39 s.vm) (hown : s.vm.findClass own = some m.cls) {index : Nat} {C : String} {y : MethodName} {bytes : ByteArray} {maxL : Nat} {ret : Option FieldType} {rm : Room}
    (w1 : (Cond.methodLink own index y).before a0 Z = true) (w2 : (Cond.declares y).before a0 Z = true) (w5 : (Cond.selects C y y).before a0 Z = true) (w6 : (Cond.instanceMethod y).before a0 Z = true) (w3 : (Cond.initialized y.cls).before a0 Z = true) (w4 : (Cond.code y bytes maxL ret).before a0 Z = true) (hy : y.cls ≠ "java/lang/invoke/MethodHandle" ∧ y.cls ≠ "java/lang/invoke/VarHandle")
    (eT : T.heap = h) {a : Addr} (E : Exa Z h a C) (argsL : List Value) {ps : List FieldType} {r : Option FieldType} (hpd : parseMethodDescriptor y.desc = some ⟨ps, r⟩) (hlen : argsL.length = ps.length) {q : Option Value → Heap → List Loc → Prop}
    (hM : MetFree l y (head1 [Cond.code y bytes maxL ret] rm) (fun b U => b = (.ref a :: argsL).toArray ∧ Z.Warmed39 U.vm ∧ U.heap = h) (fun _ _ _ _ _ => True) (fun _ U o U' => own_Fin U rm.cells rm.slots q o U'))
    (hsize : ls.length = c.maxLocals) (W : Nat) {full : List Value} (hst : full = argsL.reverse ++ .ref a :: st) (hW : (st.map fun v => v.category).sum ≤ W) (hd : decode c.code pc = .ok (.invokevirtual index, 3)) (hf : rm.frames + 1 ≤ R.frames) (hl : W + (maxL + 11) + rm.locals ≤ R.locals) (hcc : cells + rm.cells ≤ R.cells) (hss : slots + rm.slots ≤ R.slots)
    (k : ∀ T' v L, Stand p l e R s m args below meth c T' (locs ++ L) (cells + rm.cells) (slots + rm.slots) → q v T'.heap L → own_Go p.tables e below Q (T'.setTop (mkF m (pc + 3) (Array.mk ls) (v.toList ++ st)))) :
    own_Go p.tables e below Q (T.setTop (mkF m pc (Array.mk ls) full)) := by
  subst hst
  obtain ⟨cB, kB, i1, i2, i3⟩ := isOf (T := T) hZ eT E
  obtain ⟨v, vm1, ⟨T', L', k', n'⟩, -, X', ⟨Lc, hq, l1, y1, z1⟩, st'⟩ := X.virtualBack hx (y := y) (z := y) hown (mvT hZ w1) (mvT hZ w2) (notFace_of_selects (args := #[]) (mvT hZ w5)) (mvT hZ w5) (mvT hZ w6) hy (backOf (W := W) (Q := q) hM hZ w4 w3 hf hl) i1 i3 (g := mkF m pc (Array.mk ls) (argsL.reverse ++ .ref a :: st)) rfl hsize (Steps.refl _) (argsL := argsL) (rest := st) (lenOf hpd hlen) rfl (by show 2 * 0 + _ ≤ _; omega) hd (fun _ _ => ⟨rfl, eT, hcc, hss⟩)
  dsimp only [Pt.U, Pt.locs, Pt.cells, Pt.slots] at X' l1 y1 z1 st' hq
  subst l1 y1 z1
  exact own_go (fun t k => st'.trans k) (k T' v Lc X' hq)
end OwnHeap
/-- a body's contract, entered: the walk begins at pc 0 -/
theorem own_body {l : Launch} {x : MethodName} {bytes : ByteArray} {maxL : Nat} {ret : Option FieldType} {ws : List Jvm.Cond} {rm : Room} {C S : Nat} {Z : State} {as' : Array Value} {h0 : Heap} {q : Option Value → Heap → List Loc → Prop} (hx : plainFor x = true)
    {ls0 : List Slot} (hent : ∀ m : MethodId, entryFrame m as' maxL = mkF m 0 (Array.mk ls0) [])
    (body : ∀ (p : Program) (e : Env) (s : State) (m : MethodId) (below : List Frame) (meth : Method) (c : Code) (T : State), p.tables.exec = Jvm.exec → c.code = bytes → c.maxLocals = maxL → s.vm.findClass x.cls = some m.cls → meth.name = x.name → meth.locks = false → meth.sig.returnType = ret → Z.Warmed39 s.vm → Stand p l e rm s m as' below meth c T [] 0 0 → T.heap = h0 →
      own_Go p.tables e below (own_Fin s C S q) (T.setTop (mkF m 0 (Array.mk ls0) []))) :
    MetFree l x (head1 (Jvm.Cond.code x bytes maxL ret :: ws) rm) (fun a U => a = as' ∧ Z.Warmed39 U.vm ∧ U.heap = h0) (fun _ _ _ _ _ => True) (fun _ U o U' => own_Fin U C S q o U') := by
  refine MetFree.of_bodySF hx hisR ?_
  intro p e s m args below meth c s₁ Bd hml0 hP hK
  obtain ⟨rfl, hZ, hh⟩ := hP
  have e0 : s₁.heap = h0 := by rw [← hh, Bd.state]; rfl
  rw [hent m]
  exact body p e s m below meth c s₁ Bd.exec Bd.bytes hml0 (findClass_of_methodNamed Bd.named) (name_of_methodNamed Bd.named Bd.method).1 Bd.notSynchronized Bd.returns hZ (Stand.of_body Bd) e0
/-! OWN KIT 3: doubles by their value in units of 2^-1074; rounding is monotone; what is a whole number of 2^-g and small is exact -/
def own_z (a : UInt64) : Int := FP.Core.zval FP.Core.b64 (FP.Core.val64 a)
def own_num (a : UInt64) : Prop := FP.Core.val64 a ≠ .nan
theorem own_fin_num {a : UInt64} (h : FP.Core.DFin a) : own_num a := FP.Core.DFin.ne_nan h
theorem own_nn {a : UInt64} (h : own_num a) : Jvm.Free.Fl.NoNaN64 a := Jvm.Free.Fl.val64_no.mpr h
theorem own_cmp {a b : UInt64} (ha : own_num a) (hb : own_num b) : FP.dcmp a b = some (compare (own_z a) (own_z b)) := FP.Core.dcmp_zval ha hb
theorem own_lt {a b : UInt64} (ha : own_num a) (hb : own_num b) (h : own_z a < own_z b) : FP.dcmp a b = some .lt := FP.Core.dcmp_lt.mpr ⟨ha, hb, h⟩
theorem own_gt {a b : UInt64} (ha : own_num a) (hb : own_num b) (h : own_z b < own_z a) : FP.dcmp a b = some .gt := FP.Core.dcmp_gt.mpr ⟨ha, hb, h⟩
theorem own_eq {a b : UInt64} (ha : own_num a) (hb : own_num b) (h : own_z a = own_z b) : FP.dcmp a b = some .eq := FP.Core.dcmp_eq.mpr ⟨ha, hb, h⟩
theorem own_num_add {a b : UInt64} (ha : FP.Core.DFin a) (hb : FP.Core.DFin b) : own_num (FP.dadd a b) :=
  Jvm.Free.Fl.val64_no.mp (Jvm.Free.Fl.dadd_out (own_nn (own_fin_num ha)) (Jvm.Free.Fl.fin64_core.mpr hb))
theorem own_num_sub {a b : UInt64} (ha : FP.Core.DFin a) (hb : FP.Core.DFin b) : own_num (FP.dsub a b) :=
  Jvm.Free.Fl.val64_no.mp (Jvm.Free.Fl.dsub_out (own_nn (own_fin_num ha)) (Jvm.Free.Fl.fin64_core.mpr hb))
theorem own_num_mul {a b : UInt64} (ha : FP.Core.DFin a) (hb : FP.Core.DFin b) : own_num (FP.dmul a b) :=
  Jvm.Free.Fl.val64_no.mp (Jvm.Free.Fl.dmul_out (Jvm.Free.Fl.fin64_core.mpr ha) (Jvm.Free.Fl.fin64_core.mpr hb))
theorem own_num_div {a b : UInt64} (ha : own_num a) (hb : FP.Core.DFin b) (hz : own_z b ≠ 0) : own_num (FP.ddiv a b) := by
  refine Jvm.Free.Fl.val64_no.mp (Jvm.Free.Fl.ddiv_out (own_nn ha) (Jvm.Free.Fl.fin64_core.mpr hb) ((Jvm.Free.Fl.nz64_iff b).mpr fun q => hz ?_))
  exact (FP.Core.zval_eq_zero (own_fin_num hb)).mpr q
theorem own_add_le {a b v : UInt64} (ha : FP.Core.DFin a) (hb : FP.Core.DFin b) (hv : own_num v) (h : own_z a + own_z b ≤ own_z v) : own_z (FP.dadd a b) ≤ own_z v := by
  show FP.Core.zval FP.Core.b64 (FP.Core.val64 (FP.Core.dadd a b)) ≤ _
  rw [FP.Core.val64_dadd]
  exact FP.Core.sum_le FP.Core.good_b64 ha hb (FP.Core.val64_fits _) (FP.Core.val64_fits _) (FP.Core.val64_fits _) hv h
theorem own_add_ge {a b v : UInt64} (ha : FP.Core.DFin a) (hb : FP.Core.DFin b) (hv : own_num v) (h : own_z v ≤ own_z a + own_z b) : own_z v ≤ own_z (FP.dadd a b) := by
  show _ ≤ FP.Core.zval FP.Core.b64 (FP.Core.val64 (FP.Core.dadd a b))
  rw [FP.Core.val64_dadd]
  exact FP.Core.sum_ge FP.Core.good_b64 ha hb (FP.Core.val64_fits _) (FP.Core.val64_fits _) (FP.Core.val64_fits _) hv h
theorem own_neg_fin {b : UInt64} (hb : FP.Core.DFin b) : ∃ s c q, FP.Core.negate (FP.Core.val64 b) = .fin s c q := by
  obtain ⟨s, c, q, e⟩ := hb
  exact ⟨!s, c, q, by rw [e]; rfl⟩
theorem own_sub_le {a b v : UInt64} (ha : FP.Core.DFin a) (hb : FP.Core.DFin b) (hv : own_num v) (h : own_z a - own_z b ≤ own_z v) : own_z (FP.dsub a b) ≤ own_z v := by
  show FP.Core.zval FP.Core.b64 (FP.Core.val64 (FP.Core.dsub a b)) ≤ _
  rw [FP.Core.val64_dsub]
  exact FP.Core.sum_le FP.Core.good_b64 ha (own_neg_fin hb) (FP.Core.val64_fits _) (FP.Core.negate_fits (FP.Core.val64_fits _)) (FP.Core.val64_fits _) hv (by rw [FP.Core.zval_negate]; exact h)
theorem own_sub_ge {a b v : UInt64} (ha : FP.Core.DFin a) (hb : FP.Core.DFin b) (hv : own_num v) (h : own_z v ≤ own_z a - own_z b) : own_z v ≤ own_z (FP.dsub a b) := by
  show _ ≤ FP.Core.zval FP.Core.b64 (FP.Core.val64 (FP.Core.dsub a b))
  rw [FP.Core.val64_dsub]
  exact FP.Core.sum_ge FP.Core.good_b64 ha (own_neg_fin hb) (FP.Core.val64_fits _) (FP.Core.negate_fits (FP.Core.val64_fits _)) (FP.Core.val64_fits _) hv (by rw [FP.Core.zval_negate]; exact h)
theorem own_pow1 : 2 ^ (FP.Core.b64.qmin - 2 * FP.Core.b64.qmin).toNat = FP.Core.one64 := by
  rw [← FP.Core.pow_qmin64, FP.Core.qmin_b64]; rfl
theorem own_mul_le {a b v : UInt64} (ha : FP.Core.DFin a) (hb : FP.Core.DFin b) (hv : own_num v) (h : own_z a * own_z b ≤ own_z v * (FP.Core.one64 : Int)) : own_z (FP.dmul a b) ≤ own_z v := by
  obtain ⟨s, c, q, e1⟩ := ha
  obtain ⟨t, d, r, e2⟩ := hb
  have f1 : FP.Core.fits FP.Core.b64 (.fin s c q) := e1 ▸ FP.Core.val64_fits a
  have f2 : FP.Core.fits FP.Core.b64 (.fin t d r) := e2 ▸ FP.Core.val64_fits b
  obtain ⟨g1, g2, g3⟩ := FP.Core.product_units f1 f2
  show FP.Core.zval FP.Core.b64 (FP.Core.val64 (FP.Core.dmul a b)) ≤ FP.Core.zval FP.Core.b64 (FP.Core.val64 v)
  unfold own_z at h
  rw [FP.Core.val64_dmul, e1, e2, g1]
  rw [e1, e2] at h
  have hq := FP.Core.qmin_neg FP.Core.good_b64
  refine FP.Core.zval_round_le FP.Core.good_b64 (e0 := 2 * FP.Core.b64.qmin) (FP.Core.val64_fits v) hv (by omega) g2 ?_
  rw [g3, own_pow1, FP.Core.signed_xor]
  exact h
theorem own_mul_ge {a b v : UInt64} (ha : FP.Core.DFin a) (hb : FP.Core.DFin b) (hv : own_num v) (h : own_z v * (FP.Core.one64 : Int) ≤ own_z a * own_z b) : own_z v ≤ own_z (FP.dmul a b) := by
  obtain ⟨s, c, q, e1⟩ := ha
  obtain ⟨t, d, r, e2⟩ := hb
  have f1 : FP.Core.fits FP.Core.b64 (.fin s c q) := e1 ▸ FP.Core.val64_fits a
  have f2 : FP.Core.fits FP.Core.b64 (.fin t d r) := e2 ▸ FP.Core.val64_fits b
  obtain ⟨g1, g2, g3⟩ := FP.Core.product_units f1 f2
  show FP.Core.zval FP.Core.b64 (FP.Core.val64 v) ≤ FP.Core.zval FP.Core.b64 (FP.Core.val64 (FP.Core.dmul a b))
  unfold own_z at h
  rw [FP.Core.val64_dmul, e1, e2, g1]
  rw [e1, e2] at h
  have hq := FP.Core.qmin_neg FP.Core.good_b64
  refine FP.Core.zval_round_ge FP.Core.good_b64 (e0 := 2 * FP.Core.b64.qmin) (FP.Core.val64_fits v) hv (by omega) g2 ?_
  rw [g3, own_pow1, FP.Core.signed_xor]
  exact h
/-- the quotient's magnitude against a double's -/
theorem own_div_mag {a b v : UInt64} {s t : Bool} {c d : Nat} {q r : Int} (e1 : FP.Core.val64 a = .fin s c q) (e2 : FP.Core.val64 b = .fin t d r) (hd : 0 < d) (hv : own_num v) :
    FP.Core.val64 (FP.ddiv a b) = FP.Core.roundRatio FP.Core.b64 (s != t) c d (q - r) ∧
    (FP.Core.zmag FP.Core.b64 (FP.Core.val64 a) * FP.Core.one64 ≤ FP.Core.zmag FP.Core.b64 (FP.Core.val64 v) * FP.Core.zmag FP.Core.b64 (FP.Core.val64 b) → FP.Core.zmag FP.Core.b64 (FP.Core.val64 (FP.ddiv a b)) ≤ FP.Core.zmag FP.Core.b64 (FP.Core.val64 v)) ∧
    (FP.Core.zmag FP.Core.b64 (FP.Core.val64 v) * FP.Core.zmag FP.Core.b64 (FP.Core.val64 b) ≤ FP.Core.zmag FP.Core.b64 (FP.Core.val64 a) * FP.Core.one64 → FP.Core.zmag FP.Core.b64 (FP.Core.val64 v) ≤ FP.Core.zmag FP.Core.b64 (FP.Core.val64 (FP.ddiv a b))) := by
  have f1 : FP.Core.fits FP.Core.b64 (.fin s c q) := e1 ▸ FP.Core.val64_fits a
  have f2 : FP.Core.fits FP.Core.b64 (.fin t d r) := e2 ▸ FP.Core.val64_fits b
  have hq := FP.Core.qmin_b64
  have k1 := f1.2.1
  have k2 := f2.2.1
  have E : FP.Core.val64 (FP.ddiv a b) = FP.Core.roundRatio FP.Core.b64 (s != t) c d (q - r) := by
    show FP.Core.val64 (FP.Core.ddiv a b) = _
    rw [FP.Core.val64_ddiv, e1, e2]
    show (if d = 0 then _ else _) = _
    rw [if_neg (by omega)]
  have A1 : FP.Core.inUnits c (q - r) (FP.Core.b64.qmin - (r - FP.Core.b64.qmin)) = FP.Core.zmag FP.Core.b64 (FP.Core.val64 a) * FP.Core.one64 := by
    rw [e1]
    show c * 2 ^ _ = c * 2 ^ _ * 2 ^ 1074
    rw [Nat.mul_assoc, ← Nat.pow_add]
    congr 2
    omega
  have A2 : 2 ^ (FP.Core.b64.qmin - (FP.Core.b64.qmin - (r - FP.Core.b64.qmin))).toNat * d = FP.Core.zmag FP.Core.b64 (FP.Core.val64 b) := by
    rw [e2]
    show _ = d * 2 ^ _
    rw [Nat.mul_comm]
    congr 2
    omega
  refine ⟨E, fun h => ?_, fun h => ?_⟩
  · rw [E]
    refine FP.Core.zmag_roundRatio_le FP.Core.good_b64 (e0 := FP.Core.b64.qmin - (r - FP.Core.b64.qmin)) hd (FP.Core.val64_fits v) hv (by omega) (by omega) ?_
    rw [A1, Nat.mul_assoc, A2]; exact h
  · rw [E]
    refine FP.Core.zmag_roundRatio_ge FP.Core.good_b64 (e0 := FP.Core.b64.qmin - (r - FP.Core.b64.qmin)) hd (FP.Core.val64_fits v) (by omega) (by omega) ?_
    rw [A1, Nat.mul_assoc, A2]; exact h
theorem own_signed_cases (s : Bool) (m : Nat) : (s = false ∧ FP.Core.signed s m = (m : Int)) ∨ (s = true ∧ FP.Core.signed s m = -(m : Int)) := by
  cases s
  · exact Or.inl ⟨rfl, rfl⟩
  · exact Or.inr ⟨rfl, rfl⟩
theorem own_div_le {a b v : UInt64} (ha : FP.Core.DFin a) (hb : FP.Core.DFin b) (hv : own_num v) (hp : 0 < own_z b) (h : own_z a * (FP.Core.one64 : Int) ≤ own_z v * own_z b) : own_z (FP.ddiv a b) ≤ own_z v := by
  obtain ⟨s, c, q, e1⟩ := ha
  obtain ⟨t, d, r, e2⟩ := hb
  have hz : own_z b = FP.Core.signed t (FP.Core.zmag FP.Core.b64 (FP.Core.val64 b)) := by unfold own_z FP.Core.zval; rw [e2]; rfl
  have ht : t = false := by
    rcases own_signed_cases t (FP.Core.zmag FP.Core.b64 (FP.Core.val64 b)) with q | q
    · exact q.1
    · rw [hz, q.2] at hp; omega
  subst ht
  have hz' : own_z b = (FP.Core.zmag FP.Core.b64 (FP.Core.val64 b) : Int) := hz
  have hd : 0 < d := by
    rcases Nat.eq_zero_or_pos d with q0 | q0
    · subst q0
      rw [hz', e2] at hp
      have : FP.Core.zmag FP.Core.b64 (.fin false 0 r) = 0 := Nat.zero_mul _
      rw [this] at hp; omega
    · exact q0
  obtain ⟨E, L, G⟩ := own_div_mag (v := v) e1 e2 hd hv
  have hsr : FP.Core.sgn (FP.Core.val64 (FP.ddiv a b)) = s := by rw [E, FP.Core.sgn_roundRatio]; cases s <;> rfl
  have za : own_z a = FP.Core.signed s (FP.Core.zmag FP.Core.b64 (FP.Core.val64 a)) := by unfold own_z FP.Core.zval; rw [e1]; rfl
  have zr : own_z (FP.ddiv a b) = FP.Core.signed s (FP.Core.zmag FP.Core.b64 (FP.Core.val64 (FP.ddiv a b))) := by unfold own_z FP.Core.zval; rw [hsr]
  have zv : own_z v = FP.Core.signed (FP.Core.sgn (FP.Core.val64 v)) (FP.Core.zmag FP.Core.b64 (FP.Core.val64 v)) := rfl
  rw [za, hz'] at h
  rw [hz'] at hp
  rw [zr]
  generalize FP.Core.zmag FP.Core.b64 (FP.Core.val64 (FP.ddiv a b)) = R at *
  generalize FP.Core.zmag FP.Core.b64 (FP.Core.val64 a) = A at *
  generalize FP.Core.zmag FP.Core.b64 (FP.Core.val64 b) = B at *
  generalize FP.Core.zmag FP.Core.b64 (FP.Core.val64 v) = V at *
  have hU := FP.Core.one64_pos
  generalize FP.Core.one64 = U at *
  rcases own_signed_cases s A with ⟨rfl, h1⟩ | ⟨rfl, h1⟩
  · rw [h1] at h
    have hn : 0 ≤ own_z v := by
      rcases Int.lt_or_le (own_z v) 0 with q | q
      · have := Int.mul_neg_of_neg_of_pos q hp
        have := Int.mul_nonneg (Int.natCast_nonneg A) (Int.natCast_nonneg U)
        omega
      · exact q
    have hvV : own_z v = (V : Int) := by
      rcases own_signed_cases (FP.Core.sgn (FP.Core.val64 v)) V with q | q
      · rw [zv]; exact q.2
      · rw [zv, q.2] at hn; rw [zv, q.2]; omega
    rw [hvV] at h ⊢
    have := L (by exact_mod_cast h)
    show (R : Int) ≤ V
    omega
  · rw [h1] at h
    show -(R : Int) ≤ own_z v
    rcases Int.lt_or_le (own_z v) 0 with q | q
    · have hvV : own_z v = -(V : Int) := by
        rcases own_signed_cases (FP.Core.sgn (FP.Core.val64 v)) V with q' | q'
        · rw [zv, q'.2] at q; omega
        · rw [zv]; exact q'.2
      rw [hvV] at h ⊢
      rw [Int.neg_mul, Int.neg_mul] at h
      have := G (by exact_mod_cast (by omega : (V : Int) * B ≤ A * U))
      omega
    · omega
theorem own_div_ge {a b v : UInt64} (ha : FP.Core.DFin a) (hb : FP.Core.DFin b) (hv : own_num v) (hp : 0 < own_z b) (h : own_z v * own_z b ≤ own_z a * (FP.Core.one64 : Int)) : own_z v ≤ own_z (FP.ddiv a b) := by
  have nz : ∀ x : UInt64, own_z (FP.Core.dneg x) = -own_z x := fun x => by
    unfold own_z
    rw [FP.Core.val64_dneg, FP.Core.zval_negate]
  have nf : FP.Core.DFin (FP.Core.dneg a) := by
    obtain ⟨s, c, q, e⟩ := ha
    exact ⟨!s, c, q, by rw [FP.Core.val64_dneg, e]; rfl⟩
  have nn : own_num (FP.Core.dneg v) := by
    unfold own_num
    rw [FP.Core.val64_dneg]
    exact FP.Core.negate_ne_nan hv
  have q := own_div_le (a := FP.Core.dneg a) (v := FP.Core.dneg v) nf hb nn hp (by rw [nz, nz, Int.neg_mul, Int.neg_mul]; omega)
  have e : FP.ddiv (FP.Core.dneg a) b = FP.Core.dneg (FP.ddiv a b) := FP.Core.ddiv_dneg a b
  rw [e, nz, nz] at q
  omega
/-- a is the number N / 2^g -/
def own_D (g : Nat) (N : Int) (a : UInt64) : Prop := FP.Core.DFin a ∧ own_z a = N * ((2 ^ (1074 - g) : Nat) : Int)
theorem own_rep (g : Nat) (hg : g ≤ 1074) (N : Int) (hN : N.natAbs < 9007199254740992) : ∃ v, own_D g N v := by
  have hq := FP.Core.qmin_b64
  obtain ⟨c', q', e1, e2⟩ := FP.Core.round_exact FP.Core.good_b64 (decide (N < 0)) (c := N.natAbs) (q := -(g : Int)) (by rw [show (2 : Nat) ^ FP.Core.b64.p = 9007199254740992 from by decide]; exact hN) (by omega) (by rw [show FP.Core.b64.qmax = 971 from by decide]; omega)
  have e3 : FP.Core.val64 (FP.Core.of64 (FP.Core.round FP.Core.b64 (.fin (decide (N < 0)) N.natAbs (-(g : Int))))) = .fin (decide (N < 0)) c' q' := by
    rw [FP.Core.val64_of64 (FP.Core.round_fits FP.Core.good_b64 _), e1]
  refine ⟨_, ⟨_, _, _, e3⟩, ?_⟩
  unfold own_z
  rw [e3]
  show FP.Core.signed (decide (N < 0)) (FP.Core.inUnits c' q' FP.Core.b64.qmin) = _
  rw [e2]
  have e4 : FP.Core.inUnits N.natAbs (-(g : Int)) FP.Core.b64.qmin = N.natAbs * 2 ^ (1074 - g) := by
    show _ * 2 ^ _ = _
    rw [hq, show (-(g : Int) - -1074).toNat = 1074 - g by omega]
  rw [e4, FP.Core.signed_mul]
  congr 1
  rcases own_signed_cases (decide (N < 0)) N.natAbs with ⟨h1, h2⟩ | ⟨h1, h2⟩
  · rw [h2]
    have := of_decide_eq_false h1
    omega
  · rw [h2]
    have := of_decide_eq_true h1
    omega
theorem own_D.num {g : Nat} {N : Int} {a : UInt64} (h : own_D g N a) : own_num a := own_fin_num h.1
theorem own_u_pos (g : Nat) : (0 : Int) < ((2 ^ (1074 - g) : Nat) : Int) := by
  have := Nat.two_pow_pos (1074 - g)
  omega
theorem own_one (g : Nat) (hg : g ≤ 1074) : (FP.Core.one64 : Int) = ((2 ^ g : Nat) : Int) * ((2 ^ (1074 - g) : Nat) : Int) := by
  rw [← Int.natCast_mul, ← Nat.pow_add, show g + (1074 - g) = 1074 by omega]
  rfl
theorem own_fin_of {r c : UInt64} (hr : own_num r) (hc : FP.Core.DFin c) (h : own_z r = own_z c) : FP.Core.DFin r := by
  have h1 := FP.Core.DFin.zval_lt hc
  cases hv : FP.Core.val64 r with
  | nan => exact absurd hv hr
  | fin s c q => exact ⟨s, c, q, hv⟩
  | inf s =>
    exfalso
    unfold own_z FP.Core.zval at h
    rw [hv] at h
    have h2 := congrArg Int.natAbs h
    rw [FP.Core.natAbs_signed, FP.Core.natAbs_signed] at h2
    rw [← h2] at h1
    exact Nat.lt_irrefl _ h1
theorem own_D.of_le_ge {g : Nat} {N : Int} {r v : UInt64} (hr : own_num r) (hv : own_D g N v) (h1 : own_z r ≤ own_z v) (h2 : own_z v ≤ own_z r) : own_D g N r := by
  have e : own_z r = own_z v := by omega
  exact ⟨own_fin_of hr hv.1 e, e.trans hv.2⟩
theorem own_D.add {g : Nat} (hg : g ≤ 1074) {N M : Int} {a b : UInt64} (ha : own_D g N a) (hb : own_D g M b) (h : (N + M).natAbs < 9007199254740992) : own_D g (N + M) (FP.dadd a b) := by
  obtain ⟨v, hv⟩ := own_rep g hg _ h
  have e : own_z a + own_z b = own_z v := by rw [ha.2, hb.2, hv.2, Int.add_mul]
  exact own_D.of_le_ge (own_num_add ha.1 hb.1) hv (own_add_le ha.1 hb.1 hv.num (by omega)) (own_add_ge ha.1 hb.1 hv.num (by omega))
theorem own_D.sub {g : Nat} (hg : g ≤ 1074) {N M : Int} {a b : UInt64} (ha : own_D g N a) (hb : own_D g M b) (h : (N - M).natAbs < 9007199254740992) : own_D g (N - M) (FP.dsub a b) := by
  obtain ⟨v, hv⟩ := own_rep g hg _ h
  have e : own_z a - own_z b = own_z v := by rw [ha.2, hb.2, hv.2, Int.sub_mul]
  exact own_D.of_le_ge (own_num_sub ha.1 hb.1) hv (own_sub_le ha.1 hb.1 hv.num (by omega)) (own_sub_ge ha.1 hb.1 hv.num (by omega))
/-- the value of a product against K / 2^g -/
theorem own_mul_z {g : Nat} (hg : g ≤ 1074) {N M K : Int} {a b v : UInt64} (ha : own_D g N a) (hb : own_D g M b) (hv : own_D g K v) :
    (N * M ≤ K * ((2 ^ g : Nat) : Int) → own_z a * own_z b ≤ own_z v * (FP.Core.one64 : Int)) ∧ (K * ((2 ^ g : Nat) : Int) ≤ N * M → own_z v * (FP.Core.one64 : Int) ≤ own_z a * own_z b) := by
  rw [ha.2, hb.2, hv.2, own_one g hg]
  have hu := own_u_pos g
  generalize ((2 ^ (1074 - g) : Nat) : Int) = u at *
  generalize ((2 ^ g : Nat) : Int) = G at *
  have e1 : N * u * (M * u) = (N * M) * (u * u) := by rw [Int.mul_assoc, Int.mul_left_comm u M u, ← Int.mul_assoc N M]
  have e2 : K * u * (G * u) = (K * G) * (u * u) := by rw [Int.mul_assoc, Int.mul_left_comm u G u, ← Int.mul_assoc K G]
  rw [e1, e2]
  have hp : 0 ≤ u * u := Int.mul_nonneg (by omega) (by omega)
  exact ⟨fun h => Int.mul_le_mul_of_nonneg_right h hp, fun h => Int.mul_le_mul_of_nonneg_right h hp⟩
theorem own_D.mul {g : Nat} (hg : g ≤ 1074) {N M K : Int} {a b : UInt64} (ha : own_D g N a) (hb : own_D g M b) (e : N * M = K * ((2 ^ g : Nat) : Int)) (h : K.natAbs < 9007199254740992) : own_D g K (FP.dmul a b) := by
  obtain ⟨v, hv⟩ := own_rep g hg _ h
  have q := own_mul_z hg ha hb hv
  exact own_D.of_le_ge (own_num_mul ha.1 hb.1) hv (own_mul_le ha.1 hb.1 hv.num (q.1 (by omega))) (own_mul_ge ha.1 hb.1 hv.num (q.2 (by omega)))
theorem own_div_z {g : Nat} (hg : g ≤ 1074) {N M K : Int} {a b v : UInt64} (ha : own_D g N a) (hb : own_D g M b) (hv : own_D g K v) :
    (N * ((2 ^ g : Nat) : Int) ≤ K * M → own_z a * (FP.Core.one64 : Int) ≤ own_z v * own_z b) ∧ (K * M ≤ N * ((2 ^ g : Nat) : Int) → own_z v * own_z b ≤ own_z a * (FP.Core.one64 : Int)) := by
  rw [ha.2, hb.2, hv.2, own_one g hg]
  have hu := own_u_pos g
  generalize ((2 ^ (1074 - g) : Nat) : Int) = u at *
  generalize ((2 ^ g : Nat) : Int) = G at *
  have e1 : N * u * (G * u) = (N * G) * (u * u) := by rw [Int.mul_assoc, Int.mul_left_comm u G u, ← Int.mul_assoc N G]
  have e2 : K * u * (M * u) = (K * M) * (u * u) := by rw [Int.mul_assoc, Int.mul_left_comm u M u, ← Int.mul_assoc K M]
  rw [e1, e2]
  have hp : 0 ≤ u * u := Int.mul_nonneg (by omega) (by omega)
  exact ⟨fun h => Int.mul_le_mul_of_nonneg_right h hp, fun h => Int.mul_le_mul_of_nonneg_right h hp⟩
theorem own_D.pos {g : Nat} {M : Int} {b : UInt64} (hb : own_D g M b) (h : 0 < M) : 0 < own_z b := by
  rw [hb.2]
  exact Int.mul_pos h (own_u_pos g)
theorem own_D.ne {g : Nat} {M : Int} {b : UInt64} (hb : own_D g M b) (h : M ≠ 0) : own_z b ≠ 0 := by
  rw [hb.2]
  exact Int.mul_ne_zero h (by have := own_u_pos g; omega)
theorem own_D.div {g : Nat} (hg : g ≤ 1074) {N M K : Int} {a b : UInt64} (ha : own_D g N a) (hb : own_D g M b) (hM : 0 < M) (e : N * ((2 ^ g : Nat) : Int) = K * M) (h : K.natAbs < 9007199254740992) : own_D g K (FP.ddiv a b) := by
  obtain ⟨v, hv⟩ := own_rep g hg _ h
  have q := own_div_z hg ha hb hv
  exact own_D.of_le_ge (own_num_div ha.num hb.1 (hb.ne (by omega))) hv (own_div_le ha.1 hb.1 hv.num (hb.pos hM) (q.1 (by omega))) (own_div_ge ha.1 hb.1 hv.num (hb.pos hM) (q.2 (by omega)))
/-- bounds on a rounded quotient, by numbers K / 2^g -/
theorem own_div_hi {g : Nat} (hg : g ≤ 1074) {N M K : Int} {a b : UInt64} (ha : own_D g N a) (hb : own_D g M b) (hM : 0 < M) (h : N * ((2 ^ g : Nat) : Int) ≤ K * M) (hK : K.natAbs < 9007199254740992) : own_z (FP.ddiv a b) ≤ K * ((2 ^ (1074 - g) : Nat) : Int) := by
  obtain ⟨v, hv⟩ := own_rep g hg _ hK
  rw [← hv.2]
  exact own_div_le ha.1 hb.1 hv.num (hb.pos hM) ((own_div_z hg ha hb hv).1 h)
theorem own_div_lo {g : Nat} (hg : g ≤ 1074) {N M K : Int} {a b : UInt64} (ha : own_D g N a) (hb : own_D g M b) (hM : 0 < M) (h : K * M ≤ N * ((2 ^ g : Nat) : Int)) (hK : K.natAbs < 9007199254740992) : K * ((2 ^ (1074 - g) : Nat) : Int) ≤ own_z (FP.ddiv a b) := by
  obtain ⟨v, hv⟩ := own_rep g hg _ hK
  rw [← hv.2]
  exact own_div_ge ha.1 hb.1 hv.num (hb.pos hM) ((own_div_z hg ha hb hv).2 h)
/-- a number between two doubles' values is finite -/
theorem own_fin_btw {g : Nat} (hg : g ≤ 1074) {A B : Int} {r : UInt64} (hr : own_num r) (h1 : A * ((2 ^ (1074 - g) : Nat) : Int) ≤ own_z r) (h2 : own_z r ≤ B * ((2 ^ (1074 - g) : Nat) : Int)) (hA : A.natAbs < 9007199254740992) (hB : B.natAbs < 9007199254740992) : FP.Core.DFin r := by
  obtain ⟨va, ha⟩ := own_rep g hg _ hA
  obtain ⟨vb, hb⟩ := own_rep g hg _ hB
  rw [← ha.2] at h1
  rw [← hb.2] at h2
  cases hv : FP.Core.val64 r with
  | nan => exact absurd hv hr
  | fin s c q => exact ⟨s, c, q, hv⟩
  | inf s =>
    exfalso
    have la := FP.Core.DFin.zval_lt ha.1
    have lb := FP.Core.DFin.zval_lt hb.1
    have e : own_z r = FP.Core.signed s (FP.Core.b64.tails * 2 ^ (FP.Core.b64.exps - 2)) := by unfold own_z FP.Core.zval; rw [hv]; rfl
    have na : (own_z va).natAbs = FP.Core.zmag FP.Core.b64 (FP.Core.val64 va) := FP.Core.natAbs_signed _ _
    have nb : (own_z vb).natAbs = FP.Core.zmag FP.Core.b64 (FP.Core.val64 vb) := FP.Core.natAbs_signed _ _
    rw [← na] at la
    rw [← nb] at lb
    generalize FP.Core.b64.tails * 2 ^ (FP.Core.b64.exps - 2) = top at *
    rcases own_signed_cases s top with ⟨-, q⟩ | ⟨-, q⟩ <;> rw [q] at e <;> omega
theorem own_D.up {g : Nat} {N : Int} {a : UInt64} (h : own_D g N a) (j : Nat) (hj : g + j ≤ 1074) : own_D (g + j) (N * ((2 ^ j : Nat) : Int)) a := by
  refine ⟨h.1, ?_⟩
  rw [h.2, Int.mul_assoc, ← Int.natCast_mul, ← Nat.pow_add, show j + (1074 - (g + j)) = 1074 - g by omega]
theorem own_D.int {i : Int} {a : UInt64} (h : FP.Core.DInt i a) : own_D 0 i a := by
  refine ⟨?_, ?_⟩
  · have h' : FP.Core.Whole i (FP.Core.val64 a) := h
    cases hv : FP.Core.val64 a with
    | nan => rw [hv] at h'; exact h'.elim
    | inf s => rw [hv] at h'; exact h'.elim
    | fin s c q => exact ⟨s, c, q, hv⟩
  · exact FP.Core.DInt_zval h
theorem own_D.i2d (x : Int32) : own_D 0 x.toInt (FP.i2d x) := own_D.int (FP.Core.i2d_int x)
theorem own_D.l2d {x : Int64} (h : x.toInt.natAbs ≤ 9007199254740992) : own_D 0 x.toInt (FP.l2d x) := own_D.int (FP.Core.l2d_int h)
/-- an int at the granularity g -/
theorem own_D.i2dg (g : Nat) (hg : g ≤ 1074) (x : Int32) : own_D g (x.toInt * ((2 ^ g : Nat) : Int)) (FP.i2d x) := by
  have := (own_D.i2d x).up g (by omega)
  rw [Nat.zero_add] at this
  exact this
theorem own_D.l2dg (g : Nat) (hg : g ≤ 1074) {x : Int64} (h : x.toInt.natAbs ≤ 9007199254740992) : own_D g (x.toInt * ((2 ^ g : Nat) : Int)) (FP.l2d x) := by
  have := (own_D.l2d h).up g (by omega)
  rw [Nat.zero_add] at this
  exact this
theorem own_D.lt {g : Nat} {N M : Int} {a b : UInt64} (ha : own_D g N a) (hb : own_D g M b) (h : N < M) : FP.dcmp a b = some .lt := own_lt ha.num hb.num (by rw [ha.2, hb.2]; exact Int.mul_lt_mul_of_pos_right h (own_u_pos g))
theorem own_D.gt {g : Nat} {N M : Int} {a b : UInt64} (ha : own_D g N a) (hb : own_D g M b) (h : M < N) : FP.dcmp a b = some .gt := own_gt ha.num hb.num (by rw [ha.2, hb.2]; exact Int.mul_lt_mul_of_pos_right h (own_u_pos g))
theorem own_D.eq {g : Nat} {N M : Int} {a b : UInt64} (ha : own_D g N a) (hb : own_D g M b) (h : N = M) : FP.dcmp a b = some .eq := own_eq ha.num hb.num (by rw [ha.2, hb.2, h])
theorem own_z_neg (a : UInt64) : own_z (FP.dneg a) = -own_z a := by
  unfold own_z
  rw [FP.val64_dneg, FP.Core.zval_negate]
theorem own_D.neg {g : Nat} {N : Int} {a : UInt64} (h : own_D g N a) : own_D g (-N) (FP.dneg a) := by
  refine ⟨?_, by rw [own_z_neg, h.2, Int.neg_mul]⟩
  obtain ⟨s, c, q, e⟩ := h.1
  exact ⟨!s, c, q, by rw [FP.val64_dneg, e]; rfl⟩
/-- (k t + r) / t, rounded, against k + c / 2^g -/
theorem own_quot {g : Nat} (hg : g ≤ 1074) {k r : Int} {T : Int64} {t : Int32} (hT : T.toInt = k * t.toInt + r) (hb : T.toInt.natAbs ≤ 9007199254740992) (ht : 0 < t.toInt) :
    own_num (FP.ddiv (FP.l2d T) (FP.i2d t)) ∧
    (r = 0 → (k * ((2 ^ g : Nat) : Int)).natAbs < 9007199254740992 → own_D g (k * ((2 ^ g : Nat) : Int)) (FP.ddiv (FP.l2d T) (FP.i2d t))) ∧
    (∀ c : Int, c * t.toInt ≤ r * ((2 ^ g : Nat) : Int) → (k * ((2 ^ g : Nat) : Int) + c).natAbs < 9007199254740992 → (k * ((2 ^ g : Nat) : Int) + c) * ((2 ^ (1074 - g) : Nat) : Int) ≤ own_z (FP.ddiv (FP.l2d T) (FP.i2d t))) ∧
    (∀ c : Int, r * ((2 ^ g : Nat) : Int) ≤ c * t.toInt → (k * ((2 ^ g : Nat) : Int) + c).natAbs < 9007199254740992 → own_z (FP.ddiv (FP.l2d T) (FP.i2d t)) ≤ (k * ((2 ^ g : Nat) : Int) + c) * ((2 ^ (1074 - g) : Nat) : Int)) ∧
    (∀ c : Int, r * ((2 ^ g : Nat) : Int) = c * t.toInt → (k * ((2 ^ g : Nat) : Int) + c).natAbs < 9007199254740992 → own_D g (k * ((2 ^ g : Nat) : Int) + c) (FP.ddiv (FP.l2d T) (FP.i2d t))) := by
  have d1 := own_D.l2dg g hg hb
  have d2 := own_D.i2dg g hg t
  have hG : (0 : Int) < ((2 ^ g : Nat) : Int) := by have := Nat.two_pow_pos g; omega
  have hM : 0 < t.toInt * ((2 ^ g : Nat) : Int) := Int.mul_pos ht hG
  have key : ∀ c : Int, (k * ((2 ^ g : Nat) : Int) + c) * (t.toInt * ((2 ^ g : Nat) : Int)) = (k * t.toInt * ((2 ^ g : Nat) : Int) + c * t.toInt) * ((2 ^ g : Nat) : Int) := by
    intro c
    rw [← Int.mul_assoc, Int.add_mul, Int.mul_right_comm]
  have key2 : T.toInt * ((2 ^ g : Nat) : Int) * ((2 ^ g : Nat) : Int) = (k * t.toInt * ((2 ^ g : Nat) : Int) + r * ((2 ^ g : Nat) : Int)) * ((2 ^ g : Nat) : Int) := by
    rw [hT, Int.add_mul (k * t.toInt)]
  have hn : own_num (FP.ddiv (FP.l2d T) (FP.i2d t)) := own_num_div d1.num d2.1 (d2.ne (by omega))
  have ex : ∀ c : Int, r * ((2 ^ g : Nat) : Int) = c * t.toInt → (k * ((2 ^ g : Nat) : Int) + c).natAbs < 9007199254740992 → own_D g (k * ((2 ^ g : Nat) : Int) + c) (FP.ddiv (FP.l2d T) (FP.i2d t)) :=
    fun c h hc => d1.div hg d2 hM (by rw [key, key2, h]) hc
  refine ⟨hn, fun h0 hc => ?_, fun c h hc => ?_, fun c h hc => ?_, ex⟩
  · have := ex 0 (by rw [h0]; omega) (by rw [Int.add_zero]; exact hc)
    rwa [Int.add_zero] at this
  · refine own_div_lo hg d1 d2 hM ?_ hc
    rw [key, key2]
    exact Int.mul_le_mul_of_nonneg_right (by omega) (by omega)
  · refine own_div_hi hg d1 d2 hM ?_ hc
    rw [key, key2]
    exact Int.mul_le_mul_of_nonneg_right (by omega) (by omega)
theorem own_D.uniq {g : Nat} {N M : Int} {a b : UInt64} (ha : own_D g N a) (hb : own_D g M b) (e : N = M) (h : M ≠ 0) : a = b :=
  FP.Core.eq_bits (fun z => hb.ne h (FP.Core.DZero.zval z)) (ha.eq hb e)
/-! OWN KIT 4: ints and longs by their whole numbers -/
theorem own_and32 (x m : Int32) (h : 0 ≤ m.toInt) : 0 ≤ (x &&& m).toInt ∧ (x &&& m).toInt ≤ m.toInt := by
  have e : (x &&& m).toBitVec.toNat = x.toBitVec.toNat &&& m.toBitVec.toNat := by
    show (x.toBitVec &&& m.toBitVec).toNat = _
    rw [BitVec.toNat_and]
  have h1 : x.toBitVec.toNat &&& m.toBitVec.toNat ≤ m.toBitVec.toNat := Nat.and_le_right
  have h2 := m.toBitVec.isLt
  have h3 : 0 ≤ m.toBitVec.toInt := h
  show 0 ≤ (x &&& m).toBitVec.toInt ∧ (x &&& m).toBitVec.toInt ≤ m.toBitVec.toInt
  rw [BitVec.toInt_eq_toNat_cond] at h3 ⊢
  rw [BitVec.toInt_eq_toNat_cond, e]
  split at h3
  · rw [if_pos (by omega), if_pos (by omega)]; omega
  · omega
theorem own_and64 (x m : Int64) (h : 0 ≤ m.toInt) : 0 ≤ (x &&& m).toInt ∧ (x &&& m).toInt ≤ m.toInt := by
  have e : (x &&& m).toBitVec.toNat = x.toBitVec.toNat &&& m.toBitVec.toNat := by
    show (x.toBitVec &&& m.toBitVec).toNat = _
    rw [BitVec.toNat_and]
  have h1 : x.toBitVec.toNat &&& m.toBitVec.toNat ≤ m.toBitVec.toNat := Nat.and_le_right
  have h2 := m.toBitVec.isLt
  have h3 : 0 ≤ m.toBitVec.toInt := h
  show 0 ≤ (x &&& m).toBitVec.toInt ∧ (x &&& m).toBitVec.toInt ≤ m.toBitVec.toInt
  rw [BitVec.toInt_eq_toNat_cond] at h3 ⊢
  rw [BitVec.toInt_eq_toNat_cond, e]
  split at h3
  · rw [if_pos (by omega), if_pos (by omega)]; omega
  · omega
theorem own_rng32 (x : Int32) : -2147483648 ≤ x.toInt ∧ x.toInt < 2147483648 := ⟨Int32.le_toInt x, Int32.toInt_lt x⟩
theorem own_rng64 (x : Int64) : -9223372036854775808 ≤ x.toInt ∧ x.toInt < 9223372036854775808 := ⟨Int64.le_toInt x, Int64.toInt_lt x⟩
theorem own_i2l (x : Int32) : x.toInt64.toInt = x.toInt := Int32.toInt_toInt64 x
theorem own_add64 {a b : Int64} (h : -9223372036854775808 ≤ a.toInt + b.toInt) (h' : a.toInt + b.toInt < 9223372036854775808) : (a + b).toInt = a.toInt + b.toInt := FP.Core.int64_add h h'
theorem own_sub64 {a b : Int64} (h : -9223372036854775808 ≤ a.toInt - b.toInt) (h' : a.toInt - b.toInt < 9223372036854775808) : (a - b).toInt = a.toInt - b.toInt := FP.Core.int64_sub h h'
theorem own_mul64 {a b : Int64} (h : -9223372036854775808 ≤ a.toInt * b.toInt) (h' : a.toInt * b.toInt < 9223372036854775808) : (a * b).toInt = a.toInt * b.toInt := FP.Core.int64_mul h h'
theorem own_add32 {a b : Int32} (h : -2147483648 ≤ a.toInt + b.toInt) (h' : a.toInt + b.toInt < 2147483648) : (a + b).toInt = a.toInt + b.toInt := by
  rw [Int32.toInt_add, Int.bmod_eq_of_le (by omega) (by omega)]
theorem own_sub32 {a b : Int32} (h : -2147483648 ≤ a.toInt - b.toInt) (h' : a.toInt - b.toInt < 2147483648) : (a - b).toInt = a.toInt - b.toInt := by
  rw [Int32.toInt_sub, Int.bmod_eq_of_le (by omega) (by omega)]
theorem own_mul32 {a b : Int32} (h : -2147483648 ≤ a.toInt * b.toInt) (h' : a.toInt * b.toInt < 2147483648) : (a * b).toInt = a.toInt * b.toInt := by
  rw [Int32.toInt_mul, Int.bmod_eq_of_le (by omega) (by omega)]
theorem own_rem32 (a b : Int32) : (a % b).toInt = a.toInt.tmod b.toInt := Int32.toInt_mod a b
theorem own_rem_pos {a b : Int32} (ha : 0 ≤ a.toInt) (hb : 0 < b.toInt) : 0 ≤ (a % b).toInt ∧ (a % b).toInt < b.toInt := by
  rw [own_rem32, Int.tmod_eq_emod_of_nonneg ha]
  exact ⟨Int.emod_nonneg _ (by omega), Int.emod_lt_of_pos _ hb⟩
/-- what a comparison of doubles pushes -/
theorem own_cv_lt {a b : UInt64} (h : FP.dcmp a b = some .lt) (o : CmpOp) : (cmpValue (FP.dcmp a b) o).toInt = -1 := by rw [h]; rfl
theorem own_cv_eq {a b : UInt64} (h : FP.dcmp a b = some .eq) (o : CmpOp) : (cmpValue (FP.dcmp a b) o).toInt = 0 := by rw [h]; rfl
theorem own_cv_gt {a b : UInt64} (h : FP.dcmp a b = some .gt) (o : CmpOp) : (cmpValue (FP.dcmp a b) o).toInt = 1 := by rw [h]; rfl
theorem own_z6 : own_D 6 0 0 := ⟨(FP.Core.fin_bits _).mpr (by decide +kernel), by decide +kernel⟩
theorem own_z00 : own_D 0 0 0 := ⟨(FP.Core.fin_bits _).mpr (by decide +kernel), by decide +kernel⟩
theorem own_m1 : own_D 0 (-1) 13830554455654793216 := ⟨(FP.Core.fin_bits _).mpr (by decide +kernel), by decide +kernel⟩
theorem own_2 : own_D 0 2 4611686018427387904 := ⟨(FP.Core.fin_bits _).mpr (by decide +kernel), by decide +kernel⟩
theorem own_4 : own_D 0 4 4616189618054758400 := ⟨(FP.Core.fin_bits _).mpr (by decide +kernel), by decide +kernel⟩
theorem own_pb {a b : Int} (h1 : -20000 ≤ a) (h2 : a ≤ 20000) (h3 : -20000 ≤ b) (h4 : b ≤ 20000) : -400000000 ≤ a * b ∧ a * b ≤ 400000000 := by
  have k : (a * b).natAbs ≤ 20000 * 20000 := by
    rw [Int.natAbs_mul]
    exact Nat.mul_le_mul (by omega) (by omega)
  omega
theorem own_pw {A B m n : Nat} (h : A * 2 ^ m = B * 2 ^ n) : A * 2 ^ (m - n) = B * 2 ^ (n - m) := by
  rcases Nat.le_total m n with q | q
  · have e : n = (n - m) + m := by omega
    rw [e, Nat.pow_add, ← Nat.mul_assoc] at h
    have := Nat.eq_of_mul_eq_mul_right (Nat.two_pow_pos m) h
    rw [show m - n = 0 by omega]; simpa using this
  · have e : m = (m - n) + n := by omega
    rw [e, Nat.pow_add, ← Nat.mul_assoc] at h
    have := Nat.eq_of_mul_eq_mul_right (Nat.two_pow_pos n) h
    rw [show n - m = 0 by omega]; simpa using this
/-- a positive number's datum -/
theorem own_posd {a : UInt64} (ha : FP.Core.DFin a) (hp : 0 < own_z a) : ∃ c q, FP.Core.val64 a = .fin false c q ∧ 0 < c ∧ FP.Core.b64.qmin ≤ q ∧ own_z a = ((c * 2 ^ (q - FP.Core.b64.qmin).toNat : Nat) : Int) := by
  obtain ⟨s, c, q, e⟩ := ha
  have f1 : FP.Core.fits FP.Core.b64 (.fin s c q) := e ▸ FP.Core.val64_fits a
  have hz : own_z a = FP.Core.signed s (c * 2 ^ (q - FP.Core.b64.qmin).toNat) := by unfold own_z FP.Core.zval; rw [e]; rfl
  rcases own_signed_cases s (c * 2 ^ (q - FP.Core.b64.qmin).toNat) with ⟨rfl, h⟩ | ⟨rfl, h⟩
  · refine ⟨c, q, e, ?_, f1.2.1, hz.trans h⟩
    rcases Nat.eq_zero_or_pos c with q0 | q0
    · subst q0; rw [hz, h, Nat.zero_mul] at hp; omega
    · exact q0
  · rw [hz, h] at hp; omega
/-- equal ratios of positive numbers have the same quotient, bit for bit -/
theorem own_div_same {a b a' b' : UInt64} (ha : FP.Core.DFin a) (hb : FP.Core.DFin b) (ha' : FP.Core.DFin a') (hb' : FP.Core.DFin b') (pa : 0 < own_z a) (pb : 0 < own_z b) (pa' : 0 < own_z a') (pb' : 0 < own_z b') (h : own_z a * own_z b' = own_z a' * own_z b) : FP.ddiv a b = FP.ddiv a' b' := by
  obtain ⟨c1, q1, e1, k1, m1, z1⟩ := own_posd ha pa
  obtain ⟨c2, q2, e2, k2, m2, z2⟩ := own_posd hb pb
  obtain ⟨c3, q3, e3, k3, m3, z3⟩ := own_posd ha' pa'
  obtain ⟨c4, q4, e4, k4, m4, z4⟩ := own_posd hb' pb'
  have E1 := (own_div_mag (v := a) e1 e2 k2 (own_fin_num ha)).1
  have E2 := (own_div_mag (v := a) e3 e4 k4 (own_fin_num ha)).1
  rw [z1, z2, z3, z4] at h
  have h' : c1 * 2 ^ (q1 - FP.Core.b64.qmin).toNat * (c4 * 2 ^ (q4 - FP.Core.b64.qmin).toNat) = c3 * 2 ^ (q3 - FP.Core.b64.qmin).toNat * (c2 * 2 ^ (q2 - FP.Core.b64.qmin).toNat) := by exact_mod_cast h
  have h2 : c1 * c4 * 2 ^ ((q1 - FP.Core.b64.qmin).toNat + (q4 - FP.Core.b64.qmin).toNat) = c3 * c2 * 2 ^ ((q3 - FP.Core.b64.qmin).toNat + (q2 - FP.Core.b64.qmin).toNat) := by
    rw [Nat.pow_add, Nat.pow_add, Nat.mul_mul_mul_comm, h', Nat.mul_mul_mul_comm]
  have h3 := own_pw h2
  have hr := FP.Core.roundRatio_congr (f := FP.Core.b64) (s := false) (e := q1 - q2) (e' := q3 - q4) k2 k4 (A := c1) (A' := c3) (by
    rw [show (q1 - q2 - (q3 - q4)).toNat = (q1 - FP.Core.b64.qmin).toNat + (q4 - FP.Core.b64.qmin).toNat - ((q3 - FP.Core.b64.qmin).toNat + (q2 - FP.Core.b64.qmin).toNat) by omega, show (q3 - q4 - (q1 - q2)).toNat = (q3 - FP.Core.b64.qmin).toNat + (q2 - FP.Core.b64.qmin).toNat - ((q1 - FP.Core.b64.qmin).toNat + (q4 - FP.Core.b64.qmin).toNat) by omega]
    exact h3)
  have E : FP.Core.val64 (FP.ddiv a b) = FP.Core.val64 (FP.ddiv a' b') := by rw [E1, E2]; exact hr
  exact FP.Core.val64_inj (own_num_div (own_fin_num ha) hb (by omega)) E
/-- the quotient of the covariances is that of the ints -/
theorem own_qsame {N P : Int} {a b : UInt64} {n p : Int32} (ha : own_D 6 N a) (hb : own_D 6 P b) (hn : n.toInt = N) (hp : p.toInt = P) (h1 : 0 < N) (h2 : 0 < P) : FP.ddiv a b = FP.ddiv (FP.i2d n) (FP.i2d p) := by
  have d1 := own_D.i2d n
  have d2 := own_D.i2d p
  refine own_div_same ha.1 hb.1 d1.1 d2.1 (ha.pos h1) (hb.pos h2) (d1.pos (by omega)) (d2.pos (by omega)) ?_
  rw [ha.2, hb.2, d1.2, d2.2, hn, hp]
  generalize ((2 ^ (1074 - 6) : Nat) : Int) = u
  generalize ((2 ^ (1074 - 0) : Nat) : Int) = v
  rw [Int.mul_assoc N u, Int.mul_left_comm u P v, Int.mul_assoc N v, Int.mul_left_comm v P u, Int.mul_comm u v]
/-- bounds on a quotient of ints -/
theorem own_qb {n p : Int32} (h1 : 0 < n.toInt) (h2 : 0 < p.toInt) : FP.Core.DFin (FP.ddiv (FP.i2d n) (FP.i2d p)) ∧ 0 < own_z (FP.ddiv (FP.i2d n) (FP.i2d p)) ∧ own_z (FP.ddiv (FP.i2d n) (FP.i2d p)) ≤ 2147483648 * ((2 ^ (1074 - 0) : Nat) : Int) := by
  have d1 := own_D.i2d n
  have d2 := own_D.i2d p
  have rn := own_rng32 n
  have rp := own_rng32 p
  have hn : own_num (FP.ddiv (FP.i2d n) (FP.i2d p)) := own_num_div d1.num d2.1 (d2.ne (by omega))
  have hi : own_z (FP.ddiv (FP.i2d n) (FP.i2d p)) ≤ 2147483648 * ((2 ^ (1074 - 0) : Nat) : Int) := own_div_hi (g := 0) (by omega) d1 d2 h2 (by omega) (by omega)
  have e1 := (own_D.i2dg 40 (by omega) n)
  have e2 := (own_D.i2dg 40 (by omega) p)
  have lo : 1 * ((2 ^ (1074 - 40) : Nat) : Int) ≤ own_z (FP.ddiv (FP.i2d n) (FP.i2d p)) := own_div_lo (g := 40) (by omega) e1 e2 (by omega) (by omega) (by omega)
  have hu := own_u_pos 40
  have lo0 : 0 * ((2 ^ (1074 - 0) : Nat) : Int) ≤ own_z (FP.ddiv (FP.i2d n) (FP.i2d p)) := by omega
  exact ⟨own_fin_btw (by omega) hn lo0 hi (by omega) (by omega), by omega, hi⟩
def own_tau (q : UInt64) : UInt64 := FP.dadd 13830554455654793216 (FP.dmul 4611686018427387904 q)
/-- tau is finite -/
theorem own_tau_b {q : UInt64} (hq : FP.Core.DFin q) (h1 : 0 ≤ own_z q) (h2 : own_z q ≤ 4294967296 * ((2 ^ (1074 - 0) : Nat) : Int)) : own_num (FP.dmul 4611686018427387904 q) ∧ FP.Core.DFin (own_tau q) := by
  have n1 := own_num_mul own_2.1 hq
  obtain ⟨v, hv⟩ := own_rep 0 (by omega) 8589934592 (by omega)
  have o := own_one 0 (by omega)
  have p1 : own_z (FP.dmul 4611686018427387904 q) ≤ own_z v := own_mul_le own_2.1 hq hv.num (by
    rw [own_2.2, hv.2, o]
    generalize ((2 ^ (1074 - 0) : Nat) : Int) = u at *
    have hu : 0 ≤ u := by omega
    have := Int.mul_le_mul_of_nonneg_left h2 hu
    have e : 2 * u * own_z q = 2 * (u * own_z q) := Int.mul_assoc _ _ _
    have e2 : 8589934592 * u * (((2 ^ 0 : Nat) : Int) * u) = 2 * (u * (4294967296 * u)) := by
      rw [show ((2 ^ 0 : Nat) : Int) = 1 from rfl, Int.one_mul, Int.mul_assoc, ← Int.mul_left_comm 4294967296 u u]; omega
    rw [e, e2]; omega)
  have p0 : own_z 0 ≤ own_z (FP.dmul 4611686018427387904 q) := own_mul_ge own_2.1 hq own_z00.num (by
    rw [own_z00.2, own_2.2, Int.zero_mul, Int.zero_mul]
    exact Int.mul_nonneg (by have := own_u_pos 0; omega) h1)
  have f1 : FP.Core.DFin (FP.dmul 4611686018427387904 q) := own_fin_btw (g := 0) (A := 0) (B := 8589934592) (by omega) n1 (by rw [← own_z00.2]; exact p0) (by rw [← hv.2]; exact p1) (by omega) (by omega)
  have n2 : own_num (own_tau q) := own_num_add own_m1.1 f1
  have z0 := own_z00.2
  have hu := own_u_pos 0
  refine ⟨n1, own_fin_btw (g := 0) (A := -1) (B := 8589934592) (by omega) n2 ?_ ?_ (by omega) (by omega)⟩
  · rw [← own_m1.2]
    exact own_add_ge own_m1.1 f1 own_m1.num (by omega)
  · rw [← hv.2]
    exact own_add_le own_m1.1 f1 hv.num (by have := own_m1.2; omega)
theorem own_add0 {q : UInt64} (hq : own_num q) (hp : 0 < own_z q) : FP.dadd 0 q = q := by
  have e : FP.dadd 0 q = FP.Core.dadd q FP.Core.dconst0 := FP.Core.dadd_comm _ _
  rw [e]
  refine FP.Core.dadd_zero hq (fun h => ?_)
  rw [h] at hp
  exact absurd hp (by decide +kernel)
theorem own_i4 : FP.i2d (4 : Int32) = 4616189618054758400 := by decide +kernel
theorem own_i2d2 : FP.i2d (2 : Int32) = 4611686018427387904 := by decide +kernel
theorem own_4g : own_D 6 256 (FP.i2d (4 : Int32)) := own_D.i2dg 6 (by omega) 4
theorem own_2g : own_D 6 128 (FP.i2d (2 : Int32)) := own_D.i2dg 6 (by omega) 2
theorem own_s11 (x : Int32) : -1024 ≤ ((x <<< ((21 : Int32) &&& 31)) >>> ((21 : Int32) &&& 31)).toInt ∧ ((x <<< ((21 : Int32) &&& 31)) >>> ((21 : Int32) &&& 31)).toInt ≤ 1023 := by
  have e : ((x <<< ((21 : Int32) &&& 31)) >>> ((21 : Int32) &&& 31)).toInt = (x <<< ((21 : Int32) &&& 31)).toInt >>> 21 := by
    generalize x <<< ((21 : Int32) &&& 31) = y
    show (BitVec.sshiftRight' y.toBitVec _).toInt = _
    rw [BitVec.sshiftRight_eq', BitVec.toInt_sshiftRight]
    rfl
  have h := own_rng32 (x <<< ((21 : Int32) &&& 31))
  rw [e, Int.shiftRight_eq_div_pow]
  generalize (x <<< ((21 : Int32) &&& 31)).toInt = y at *
  have : ((2 ^ 21 : Nat) : Int) = 2097152 := rfl
  rw [this]
  omega
theorem own_infp : FP.dcmp 9218868437227405312 0 = some .gt := by decide +kernel
theorem own_inf2 : FP.dmul 9218868437227405312 4611686018427387904 = 9218868437227405312 := by decide +kernel
theorem own_infn : own_num 9218868437227405312 := by unfold own_num; decide +kernel
theorem own_tau0 : own_tau 0 = 13830554455654793216 := by decide +kernel
theorem own_P0 {a b d f : Int} (h : ¬ (a = b ∧ b = d ∧ d = f)) : 0 < (4 * a - (a + b + d + f)) * (4 * a - (a + b + d + f)) + (4 * b - (a + b + d + f)) * (4 * b - (a + b + d + f)) + (4 * d - (a + b + d + f)) * (4 * d - (a + b + d + f)) + (4 * f - (a + b + d + f)) * (4 * f - (a + b + d + f)) := by
  have sq : ∀ x : Int, 0 ≤ x * x := fun x => by rcases Int.le_total 0 x with q | q; exact Int.mul_nonneg q q; exact Int.mul_nonneg_of_nonpos_of_nonpos q q
  have sz : ∀ x : Int, x * x = 0 → x = 0 := fun x q => by rcases Int.mul_eq_zero.mp q with q | q <;> exact q
  have a1 := sq (4 * a - (a + b + d + f)); have a2 := sq (4 * b - (a + b + d + f)); have a3 := sq (4 * d - (a + b + d + f)); have a4 := sq (4 * f - (a + b + d + f))
  rcases Int.lt_or_eq_of_le (show 0 ≤ (4 * a - (a + b + d + f)) * (4 * a - (a + b + d + f)) + (4 * b - (a + b + d + f)) * (4 * b - (a + b + d + f)) + (4 * d - (a + b + d + f)) * (4 * d - (a + b + d + f)) + (4 * f - (a + b + d + f)) * (4 * f - (a + b + d + f)) by omega) with q | q
  · exact q
  · exfalso
    have z1 := sz _ (show (4 * a - (a + b + d + f)) * (4 * a - (a + b + d + f)) = 0 by omega)
    have z2 := sz _ (show (4 * b - (a + b + d + f)) * (4 * b - (a + b + d + f)) = 0 by omega)
    have z3 := sz _ (show (4 * d - (a + b + d + f)) * (4 * d - (a + b + d + f)) = 0 by omega)
    have z4 := sz _ (show (4 * f - (a + b + d + f)) * (4 * f - (a + b + d + f)) = 0 by omega)
    exact h ⟨by omega, by omega, by omega⟩
def tab0 : List (Nat × Instr) := [(0, .iload_n 0), (1, .bipush 21), (3, .ishl), (4, .bipush 21), (6, .ishr), (7, .istore 5), (9, .iload_n 1), (10, .bipush 21), (12, .ishl), (13, .bipush 21), (15, .ishr), (16, .istore 6), (18, .iload_n 2), (19, .bipush 21), (21, .ishl), (22, .bipush 21), (24, .ishr), (25, .istore 7), (27, .iload_n 3), (28, .bipush 21), (30, .ishl), (31, .bipush 21), (33, .ishr), (34, .istore 8), (36, .iload 4), (38, .bipush 7), (40, .iand), (41, .istore 9), (43, .iload 9), (45, .ifCond .ne 20), (48, .iconst 0), (49, .newarray .double), (51, .invokestatic 9), (54, .dconst 0), (55, .dcmp .l), (56, .ifCond .ne 7), (59, .iconst 1), (60, .goto 4), (63, .iconst 0), (64, .ireturn), (65, .iload 9), (67, .iconst 1), (68, .if_icmp .ne 45), (71, .iconst 1), (72, .newarray .double), (74, .dup), (75, .iconst 0), (76, .iload 5), (78, .i2d), (79, .dastore), (80, .astore 10), (82, .aload 10), (84, .invokestatic 9), (87, .dstore 11), (89, .dload 11), (91, .dconst 0), (92, .dcmp .l), (93, .ifCond .ne 18), (96, .aload 10), (98, .iconst 0), (99, .daload), (100, .iload 5), (102, .i2d), (103, .dcmp .l), (104, .ifCond .ne 7), (107, .iconst 1), (108, .goto 4), (111, .iconst 0), (112, .ireturn), (113, .iload 9), (115, .iconst 2), (116, .if_icmp .ne 100), (119, .iconst 2), (120, .newarray .double), (122, .dup), (123, .iconst 0), (124, .iload 5), (126, .i2d), (127, .dastore), (128, .dup), (129, .iconst 1), (130, .iload 6), (132, .i2d), (133, .dastore), (134, .astore 10), (136, .aload 10), (138, .invokestatic 9), (141, .dstore 11), (143, .aload 10), (145, .iconst 0), (146, .daload), (147, .iload 5), (149, .i2d), (150, .dcmp .l), (151, .ifCond .ne 18), (154, .aload 10), (156, .iconst 1), (157, .daload), (158, .iload 6), (160, .i2d), (161, .dcmp .l), (162, .ifCond .ne 7), (165, .iconst 1), (166, .goto 4), (169, .iconst 0), (170, .istore 13), (172, .iload 5), (174, .iload 6), (176, .if_icmp .ne 21), (179, .dload 11), (181, .dconst 0), (182, .dcmp .l), (183, .ifCond .ne 12), (186, .iload 13), (188, .ifCond .eq 7), (191, .iconst 1), (192, .goto 4), (195, .iconst 0), (196, .ireturn), (197, .dload 11), (199, .invokestatic 15), (202, .ifCond .eq 12), (205, .iload 13), (207, .ifCond .eq 7), (210, .iconst 1), (211, .goto 4), (214, .iconst 0), (215, .ireturn), (216, .iconst 4), (217, .newarray .double), (219, .dup), (220, .iconst 0), (221, .iload 5), (223, .i2d), (224, .dastore), (225, .dup), (226, .iconst 1), (227, .iload 6), (229, .i2d), (230, .dastore), (231, .dup), (232, .iconst 2), (233, .iload 7), (235, .i2d), (236, .dastore), (237, .dup), (238, .iconst 3), (239, .iload 8), (241, .i2d), (242, .dastore), (243, .astore 10), (245, .aload 10), (247, .invokestatic 9), (250, .dstore 11), (252, .aload 10), (254, .iconst 0), (255, .daload), (256, .iload 5), (258, .i2d), (259, .dcmp .l), (260, .ifCond .ne 40), (263, .aload 10), (265, .iconst 1), (266, .daload), (267, .iload 6), (269, .i2d), (270, .dcmp .l), (271, .ifCond .ne 29), (274, .aload 10), (276, .iconst 2), (277, .daload), (278, .iload 7), (280, .i2d), (281, .dcmp .l), (282, .ifCond .ne 18), (285, .aload 10), (287, .iconst 3), (288, .daload), (289, .iload 8), (291, .i2d), (292, .dcmp .l), (293, .ifCond .ne 7), (296, .iconst 1), (297, .goto 4), (300, .iconst 0), (301, .istore 13), (303, .iload 5), (305, .iload 6), (307, .if_icmp .ne 35), (310, .iload 6), (312, .iload 7), (314, .if_icmp .ne 28), (317, .iload 7), (319, .iload 8), (321, .if_icmp .ne 21), (324, .dload 11), (326, .dconst 0), (327, .dcmp .l), (328, .ifCond .ne 12), (331, .iload 13), (333, .ifCond .eq 7), (336, .iconst 1), (337, .goto 4), (340, .iconst 0), (341, .ireturn), (342, .iload 5), (344, .iload 6), (346, .iadd), (347, .iload 7), (349, .iadd), (350, .iload 8), (352, .iadd), (353, .istore 14), (355, .iconst 4), (356, .iload 5), (358, .imul), (359, .iload 14), (361, .isub), (362, .istore 15), (364, .iconst 4), (365, .iload 6), (367, .imul), (368, .iload 14), (370, .isub), (371, .istore 16), (373, .iconst 4), (374, .iload 7), (376, .imul), (377, .iload 14), (379, .isub), (380, .istore 17), (382, .iconst 4), (383, .iload 8), (385, .imul), (386, .iload 14), (388, .isub), (389, .istore 18), (391, .iload 15), (393, .iload 15), (395, .imul), (396, .iload 16), (398, .iload 16), (400, .imul), (401, .iadd), (402, .iload 17), (404, .iload 17), (406, .imul), (407, .iadd), (408, .iload 18), (410, .iload 18), (412, .imul), (413, .iadd), (414, .istore 19), (416, .iload 15), (418, .iload 16), (420, .imul), (421, .iload 16), (423, .iload 17), (425, .imul), (426, .iadd), (427, .iload 17), (429, .iload 18), (431, .imul), (432, .iadd), (433, .istore 20), (435, .iload 15), (437, .iload 17), (439, .imul), (440, .iload 16), (442, .iload 18), (444, .imul), (445, .iadd), (446, .istore 21), (448, .iload 15), (450, .iload 18), (452, .imul), (453, .istore 22), (455, .iload 19), (457, .iload 20), (459, .iadd), (460, .istore 23), (462, .iload 23), (464, .ifCond .gt 22), (467, .dload 11), (469, .invokestatic 15), (472, .ifCond .eq 12), (475, .iload 13), (477, .ifCond .eq 7), (480, .iconst 1), (481, .goto 4), (484, .iconst 0), (485, .ireturn), (486, .iload 23), (488, .i2d), (489, .iload 19), (491, .i2d), (492, .ddiv), (493, .dstore 24), (495, .iload 21), (497, .iload 22), (499, .iadd), (500, .istore 26), (502, .iload 26), (504, .ifCond .le 15), (507, .dload 24), (509, .iload 26), (511, .i2d), (512, .iload 19), (514, .i2d), (515, .ddiv), (516, .dadd), (517, .dstore 24), (519, .ldc2_w 21), (522, .ldc2_w 7), (525, .dload 24), (527, .dmul), (528, .dadd), (529, .dstore 27), (531, .dload 27), (533, .dconst 0), (534, .dcmp .l), (535, .ifCond .le 26), (538, .dload 11), (540, .ldc2_w 23), (543, .dload 27), (545, .ddiv), (546, .dcmp .l), (547, .ifCond .ne 12), (550, .iload 13), (552, .ifCond .eq 7), (555, .iconst 1), (556, .goto 4), (559, .iconst 0), (560, .ireturn), (561, .dload 11), (563, .invokestatic 15), (566, .ifCond .eq 12), (569, .iload 13), (571, .ifCond .eq 7), (574, .iconst 1), (575, .goto 4), (578, .iconst 0), (579, .ireturn)]
set_option maxRecDepth 65536 in
theorem dec0 : own_dec code tab0 := by
  show ∀ e ∈ tab0, decode code e.1 = .ok (e.2, own_len e.2)
  decide +kernel
theorem seq0 : own_seq tab0 = true := by decide +kernel
def kt0 : List (Nat × Value) := [(21, .double 13830554455654793216), (7, .double 4611686018427387904), (23, .double 4616189618054758400)]
def ft0 : List (Nat × String × String × String) := []
theorem pn0 : plainName "com/example/veritree/veritree/calibration/EffectiveSampleSizeOfPinLaw" = true := by first | (simp [plainName, overriddenIn]; done) | decide +kernel
theorem pd0 : parseMethodDescriptor "(IIIII)Z" = some ⟨[.int, .int, .int, .int, .int], some .boolean⟩ := by decide +kernel
def tab1 : List (Nat × Instr) := [(0, .aload_n 0), (1, .invokestatic 7), (4, .ifCond .eq 5), (7, .dconst 0), (8, .dreturn), (9, .dconst 0), (10, .dstore_n 1), (11, .aload_n 0), (12, .astore_n 3), (13, .aload_n 3), (14, .arraylength), (15, .istore 4), (17, .iconst 0), (18, .istore 5), (20, .iload 5), (22, .iload 4), (24, .if_icmp .ge 20), (27, .aload_n 3), (28, .iload 5), (30, .daload), (31, .dstore 6), (33, .dload_n 1), (34, .dload 6), (36, .dadd), (37, .dstore_n 1), (38, .iinc 5 1), (41, .goto (-21)), (44, .dload_n 1), (45, .aload_n 0), (46, .arraylength), (47, .i2d), (48, .ddiv), (49, .dstore_n 3), (50, .aload_n 0), (51, .arraylength), (52, .newarray .double), (54, .astore 5), (56, .iconst 0), (57, .istore 6), (59, .iload 6), (61, .aload_n 0), (62, .arraylength), (63, .if_icmp .ge 20), (66, .aload 5), (68, .iload 6), (70, .aload_n 0), (71, .iload 6), (73, .daload), (74, .dload_n 3), (75, .dsub), (76, .dastore), (77, .iinc 6 1), (80, .goto (-21)), (83, .aload 5), (85, .iconst 0), (86, .invokestatic 13), (89, .dstore 6), (91, .dconst 0), (92, .dstore 8), (94, .iconst 0), (95, .istore 10), (97, .iload 10), (99, .iconst 1), (100, .iadd), (101, .aload 5), (103, .arraylength), (104, .if_icmp .ge 48), (107, .aload 5), (109, .iload 10), (111, .invokestatic 13), (114, .aload 5), (116, .iload 10), (118, .iconst 1), (119, .iadd), (120, .invokestatic 13), (123, .dadd), (124, .dload 6), (126, .ddiv), (127, .dstore 11), (129, .dload 11), (131, .dconst 0), (132, .dcmp .g), (133, .ifCond .gt 6), (136, .goto 16), (139, .dload 8), (141, .dload 11), (143, .dadd), (144, .dstore 8), (146, .iinc 10 2), (149, .goto (-52)), (152, .ldc2_w 17), (155, .ldc2_w 19), (158, .dload 8), (160, .dmul), (161, .dadd), (162, .dstore 10), (164, .dload 10), (166, .dconst 0), (167, .dcmp .l), (168, .ifCond .le 12), (171, .aload_n 0), (172, .arraylength), (173, .i2d), (174, .dload 10), (176, .ddiv), (177, .goto 6), (180, .ldc2_w 23), (183, .dreturn)]
set_option maxRecDepth 65536 in
theorem dec1 : own_dec prog_1_method_2_code tab1 := by
  show ∀ e ∈ tab1, decode prog_1_method_2_code e.1 = .ok (e.2, own_len e.2)
  decide +kernel
theorem seq1 : own_seq tab1 = true := by decide +kernel
theorem d1_1 : decode prog_1_method_2_code 1 = .ok (.invokestatic 7, 3) := by decide +kernel
theorem d1_8 : decode prog_1_method_2_code 8 = .ok (.dreturn, 1) := by decide +kernel
theorem d1_52 : decode prog_1_method_2_code 52 = .ok (.newarray .double, 2) := by decide +kernel
theorem d1_76 : decode prog_1_method_2_code 76 = .ok (.dastore, 1) := by decide +kernel
theorem d1_86 : decode prog_1_method_2_code 86 = .ok (.invokestatic 13, 3) := by decide +kernel
theorem d1_111 : decode prog_1_method_2_code 111 = .ok (.invokestatic 13, 3) := by decide +kernel
theorem d1_120 : decode prog_1_method_2_code 120 = .ok (.invokestatic 13, 3) := by decide +kernel
theorem d1_183 : decode prog_1_method_2_code 183 = .ok (.dreturn, 1) := by decide +kernel
def kt1 : List (Nat × Value) := [(17, .double 13830554455654793216), (19, .double 4611686018427387904), (23, .double 9218868437227405312)]
def ft1 : List (Nat × String × String × String) := []
theorem pn1 : plainName "com/example/veritree/veritree/calibration/EffectiveSampleSize" = true := by first | (simp [plainName, overriddenIn]; done) | decide +kernel
theorem pd1 : parseMethodDescriptor "([D)D" = some ⟨[(.array .double)], some .double⟩ := by decide +kernel
def tab2 : List (Nat × Instr) := [(0, .aload_n 0), (1, .astore_n 1), (2, .aload_n 1), (3, .arraylength), (4, .istore_n 2), (5, .iconst 0), (6, .istore_n 3), (7, .iload_n 3), (8, .iload_n 2), (9, .if_icmp .ge 25), (12, .aload_n 1), (13, .iload_n 3), (14, .daload), (15, .dstore 4), (17, .dload 4), (19, .aload_n 0), (20, .iconst 0), (21, .daload), (22, .dcmp .l), (23, .ifCond .eq 5), (26, .iconst 0), (27, .ireturn), (28, .iinc 3 1), (31, .goto (-24)), (34, .iconst 1), (35, .ireturn)]
set_option maxRecDepth 65536 in
theorem dec2 : own_dec prog_1_method_3_code tab2 := by
  show ∀ e ∈ tab2, decode prog_1_method_3_code e.1 = .ok (e.2, own_len e.2)
  decide +kernel
theorem seq2 : own_seq tab2 = true := by decide +kernel
theorem d2_27 : decode prog_1_method_3_code 27 = .ok (.ireturn, 1) := by decide +kernel
theorem d2_35 : decode prog_1_method_3_code 35 = .ok (.ireturn, 1) := by decide +kernel
def kt2 : List (Nat × Value) := [(17, .double 13830554455654793216), (19, .double 4611686018427387904), (23, .double 9218868437227405312)]
def ft2 : List (Nat × String × String × String) := []
theorem pn2 : plainName "com/example/veritree/veritree/calibration/EffectiveSampleSize" = true := by first | (simp [plainName, overriddenIn]; done) | decide +kernel
theorem pd2 : parseMethodDescriptor "([D)Z" = some ⟨[(.array .double)], some .boolean⟩ := by decide +kernel
def tab3 : List (Nat × Instr) := [(0, .dconst 0), (1, .dstore_n 2), (2, .iconst 0), (3, .istore 4), (5, .iload 4), (7, .iload_n 1), (8, .iadd), (9, .aload_n 0), (10, .arraylength), (11, .if_icmp .ge 23), (14, .dload_n 2), (15, .aload_n 0), (16, .iload 4), (18, .daload), (19, .aload_n 0), (20, .iload 4), (22, .iload_n 1), (23, .iadd), (24, .daload), (25, .dmul), (26, .dadd), (27, .dstore_n 2), (28, .iinc 4 1), (31, .goto (-26)), (34, .dload_n 2), (35, .aload_n 0), (36, .arraylength), (37, .i2d), (38, .ddiv), (39, .dreturn)]
set_option maxRecDepth 65536 in
theorem dec3 : own_dec prog_1_method_4_code tab3 := by
  show ∀ e ∈ tab3, decode prog_1_method_4_code e.1 = .ok (e.2, own_len e.2)
  decide +kernel
theorem seq3 : own_seq tab3 = true := by decide +kernel
theorem d3_39 : decode prog_1_method_4_code 39 = .ok (.dreturn, 1) := by decide +kernel
def kt3 : List (Nat × Value) := [(17, .double 13830554455654793216), (19, .double 4611686018427387904), (23, .double 9218868437227405312)]
def ft3 : List (Nat × String × String × String) := []
theorem pn3 : plainName "com/example/veritree/veritree/calibration/EffectiveSampleSize" = true := by first | (simp [plainName, overriddenIn]; done) | decide +kernel
theorem pd3 : parseMethodDescriptor "([DI)D" = some ⟨[(.array .double), .int], some .double⟩ := by decide +kernel
def tab4 : List (Nat × Instr) := [(0, .dload_n 0), (1, .dconst 0), (2, .dcmp .l), (3, .ifCond .le 17), (6, .dload_n 0), (7, .ldc2_w 7), (10, .dmul), (11, .dload_n 0), (12, .dcmp .l), (13, .ifCond .ne 7), (16, .iconst 1), (17, .goto 4), (20, .iconst 0), (21, .ireturn)]
set_option maxRecDepth 65536 in
theorem dec4 : own_dec method_2_code tab4 := by
  show ∀ e ∈ tab4, decode method_2_code e.1 = .ok (e.2, own_len e.2)
  decide +kernel
theorem seq4 : own_seq tab4 = true := by decide +kernel
theorem d4_21 : decode method_2_code 21 = .ok (.ireturn, 1) := by decide +kernel
def kt4 : List (Nat × Value) := [(21, .double 13830554455654793216), (7, .double 4611686018427387904), (23, .double 4616189618054758400)]
def ft4 : List (Nat × String × String × String) := []
theorem pn4 : plainName "com/example/veritree/veritree/calibration/EffectiveSampleSizeOfPinLaw" = true := by first | (simp [plainName, overriddenIn]; done) | decide +kernel
theorem pd4 : parseMethodDescriptor "(D)Z" = some ⟨[.double], some .boolean⟩ := by decide +kernel
set_option maxRecDepth 65536 in
set_option maxHeartbeats 40000000 in
theorem rm4 (l : Launch) (Z : State) (a0 : Array Value) (hw : ∀ d ∈ tables_1, d.before a0 Z = true) (ws : List Jvm.Cond)  (h0 : Heap) (n0 : Nat) (Z0 : n0 ≤ h0.size)  :
    MetFree l (⟨"com/example/veritree/veritree/calibration/EffectiveSampleSizeOfPinLaw", "isPosInf", "(D)Z"⟩ : MethodName) (head1 (Jvm.Cond.code (⟨"com/example/veritree/veritree/calibration/EffectiveSampleSizeOfPinLaw", "isPosInf", "(D)Z"⟩ : MethodName) method_2_code 2 (some .boolean) :: ws) ({ frames := 0, cells := 0, slots := 0, locals := 0 } : Room)) (fun as_ U => as_ = #[.double 9218868437227405312] ∧ Z.Warmed39 U.vm ∧ U.heap = h0) (fun _ _ _ _ _ => True) (fun _ U o U' => own_Fin U ({ frames := 0, cells := 0, slots := 0, locals := 0 } : Room).cells ({ frames := 0, cells := 0, slots := 0, locals := 0 } : Room).slots (fun v h L => v = some (.int 1) ∧ Fr n0 L ∧ h = h0) o U') := by
  refine own_body (plainFor_of_name pn4) (ls0 := [.val (.double 9218868437227405312), .second]) (fun m => by first | (simp [entryFrame, mkF, argsToLocals, Value.category, maxLocals]; done) | rfl) ?_
  intro p e s m below meth c T0 hx hby hml hown hnm hlk hret hZ X0 e0
  have hK : own_ks "com/example/veritree/veritree/calibration/EffectiveSampleSizeOfPinLaw" a0 Z kt4 := ⟨hw _ (List.mem_of_getElem? (i := 13) rfl), hw _ (List.mem_of_getElem? (i := 14) rfl), hw _ (List.mem_of_getElem? (i := 15) rfl), trivial⟩
  have hF : own_fs "com/example/veritree/veritree/calibration/EffectiveSampleSizeOfPinLaw" a0 Z ft4 := trivial
  have N0 := Fr.nil n0
  refine own_blk dec4 seq4 hby hx hZ hown hK hF 12 [false, false] [] X0 e0 ?_
  show (¬ ((cmpValue (FP.dcmp 9218868437227405312 0) .l).toInt ≤ 0)) ∧ (Jvm.Free.Fl.NoNaN64 (FP.dmul 9218868437227405312 4611686018427387904)) ∧ (¬ ((cmpValue (FP.dcmp (FP.dmul 9218868437227405312 4611686018427387904) 9218868437227405312) .l).toInt ≠ 0)) ∧ own_Aft X0 h0 _ 21 [.val (.double 9218868437227405312), .second] [.int (1 : Int32)]
  refine ⟨by rw [own_cv_gt own_infp]; omega, by rw [own_inf2]; exact own_nn own_infn, by rw [own_inf2, own_cv_eq (FP.Core.dcmp_self own_infn)]; omega, fun T1 X1 eh1 => ?_⟩
  exact own_ret X1 hx hlk eh1 hret (by first | rfl | decide) (Or.inl ⟨rfl, by simp, _, rfl⟩) (hb hby d4_21) (by decide) (by decide) (⟨rfl, N0, rfl⟩)
set_option maxRecDepth 65536 in
set_option maxHeartbeats 40000000 in
theorem rm2_0 (l : Launch) (Z : State) (a0 : Array Value) (hw : ∀ d ∈ tables_1, d.before a0 Z = true) (ws : List Jvm.Cond) (a : Addr) (res : Int32) (h0 : Heap) (n0 : Nat) (Z0 : n0 ≤ h0.size) (A0 : own_A Z h0 a .double []) (hres : (res = 1)) :
    MetFree l (⟨"com/example/veritree/veritree/calibration/EffectiveSampleSize", "allEqual", "([D)Z"⟩ : MethodName) (head1 (Jvm.Cond.code (⟨"com/example/veritree/veritree/calibration/EffectiveSampleSize", "allEqual", "([D)Z"⟩ : MethodName) prog_1_method_3_code 6 (some .boolean) :: ws) ({ frames := 0, cells := 0, slots := 0, locals := 0 } : Room)) (fun as_ U => as_ = #[.ref a] ∧ Z.Warmed39 U.vm ∧ U.heap = h0) (fun _ _ _ _ _ => True) (fun _ U o U' => own_Fin U ({ frames := 0, cells := 0, slots := 0, locals := 0 } : Room).cells ({ frames := 0, cells := 0, slots := 0, locals := 0 } : Room).slots (fun v h L => v = some (.int res) ∧ Fr n0 L ∧ h = h0) o U') := by
  refine own_body (plainFor_of_name pn2) (ls0 := [.val (.ref a), .unset, .unset, .unset, .unset, .unset]) (fun m => by first | (simp [entryFrame, mkF, argsToLocals, Value.category, maxLocals]; done) | rfl) ?_
  intro p e s m below meth c T0 hx hby hml hown hnm hlk hret hZ X0 e0
  have hK : own_ks "com/example/veritree/veritree/calibration/EffectiveSampleSize" a0 Z kt2 := ⟨hw _ (List.mem_of_getElem? (i := 11) rfl), hw _ (List.mem_of_getElem? (i := 12) rfl), hw _ (List.mem_of_getElem? (i := 16) rfl), trivial⟩
  have hF : own_fs "com/example/veritree/veritree/calibration/EffectiveSampleSize" a0 Z ft2 := trivial
  have N0 := Fr.nil n0
  obtain rfl := hres
  refine own_blk dec2 seq2 hby hx hZ hown hK hF 11 [true] [.int (0 : Int32)] X0 e0 ?_
  show (own_ln Z h0 a (0 : Int32)) ∧ (((0 : Int32)).toInt ≤ ((0 : Int32)).toInt) ∧ own_Aft X0 h0 _ 35 [.val (.ref a), .val (.ref a), .val (.int (0 : Int32)), .val (.int (0 : Int32)), .unset, .unset] [.int (1 : Int32)]
  refine ⟨A0.ln (0 : Int32) rfl, by decide, fun T1 X1 eh1 => ?_⟩
  exact own_ret X1 hx hlk eh1 hret (by first | rfl | decide) (Or.inl ⟨rfl, by simp, _, rfl⟩) (hb hby d2_35) (by decide) (by decide) (⟨rfl, N0, rfl⟩)
set_option maxRecDepth 65536 in
set_option maxHeartbeats 40000000 in
theorem rm2_1 (l : Launch) (Z : State) (a0 : Array Value) (hw : ∀ d ∈ tables_1, d.before a0 Z = true) (ws : List Jvm.Cond) (a : Addr) (x0 : UInt64) (Y0 : Int) (res : Int32) (h0 : Heap) (n0 : Nat) (Z0 : n0 ≤ h0.size) (A0 : own_A Z h0 a .double [.double x0]) (D0 : own_D 6 (64 * Y0) x0) (hres : (res = 1)) :
    MetFree l (⟨"com/example/veritree/veritree/calibration/EffectiveSampleSize", "allEqual", "([D)Z"⟩ : MethodName) (head1 (Jvm.Cond.code (⟨"com/example/veritree/veritree/calibration/EffectiveSampleSize", "allEqual", "([D)Z"⟩ : MethodName) prog_1_method_3_code 6 (some .boolean) :: ws) ({ frames := 0, cells := 0, slots := 0, locals := 0 } : Room)) (fun as_ U => as_ = #[.ref a] ∧ Z.Warmed39 U.vm ∧ U.heap = h0) (fun _ _ _ _ _ => True) (fun _ U o U' => own_Fin U ({ frames := 0, cells := 0, slots := 0, locals := 0 } : Room).cells ({ frames := 0, cells := 0, slots := 0, locals := 0 } : Room).slots (fun v h L => v = some (.int res) ∧ Fr n0 L ∧ h = h0) o U') := by
  refine own_body (plainFor_of_name pn2) (ls0 := [.val (.ref a), .unset, .unset, .unset, .unset, .unset]) (fun m => by first | (simp [entryFrame, mkF, argsToLocals, Value.category, maxLocals]; done) | rfl) ?_
  intro p e s m below meth c T0 hx hby hml hown hnm hlk hret hZ X0 e0
  have hK : own_ks "com/example/veritree/veritree/calibration/EffectiveSampleSize" a0 Z kt2 := ⟨hw _ (List.mem_of_getElem? (i := 11) rfl), hw _ (List.mem_of_getElem? (i := 12) rfl), hw _ (List.mem_of_getElem? (i := 16) rfl), trivial⟩
  have hF : own_fs "com/example/veritree/veritree/calibration/EffectiveSampleSize" a0 Z ft2 := trivial
  have N0 := Fr.nil n0
  obtain rfl := hres
  refine own_blk dec2 seq2 hby hx hZ hown hK hF 12 [false] [.int (1 : Int32)] X0 e0 ?_
  show (own_ln Z h0 a (1 : Int32)) ∧ (¬ (((1 : Int32)).toInt ≤ ((0 : Int32)).toInt)) ∧ own_Aft X0 h0 _ 14 [.val (.ref a), .val (.ref a), .val (.int (1 : Int32)), .val (.int (0 : Int32)), .unset, .unset] [.int (0 : Int32), .ref a]
  refine ⟨A0.ln (1 : Int32) rfl, by decide, fun T1 X1 eh1 => ?_⟩
  refine own_blk dec2 seq2 hby hx hZ hown hK hF 12 [true] [.double x0, .double x0] X1 eh1 ?_
  show (own_at Z h0 a .double (0 : Int32) (.double x0)) ∧ (own_at Z h0 a .double (0 : Int32) (.double x0)) ∧ ((cmpValue (FP.dcmp x0 x0) .l).toInt = 0) ∧ own_Aft X1 h0 _ 9 [.val (.ref a), .val (.ref a), .val (.int (1 : Int32)), .val (.int (1 : Int32)), .val (.double x0), .second] [.int (1 : Int32), .int (1 : Int32)]
  refine ⟨A0.at (0 : Int32) 0 rfl rfl, A0.at (0 : Int32) 0 rfl rfl, by rw [own_cv_eq (D0.eq D0 (by omega))], fun T2 X2 eh2 => ?_⟩
  refine own_blk dec2 seq2 hby hx hZ hown hK hF 2 [true] [] X2 eh2 ?_
  show (((1 : Int32)).toInt ≤ ((1 : Int32)).toInt) ∧ own_Aft X2 h0 _ 35 [.val (.ref a), .val (.ref a), .val (.int (1 : Int32)), .val (.int (1 : Int32)), .val (.double x0), .second] [.int (1 : Int32)]
  refine ⟨by decide, fun T3 X3 eh3 => ?_⟩
  exact own_ret X3 hx hlk eh3 hret (by first | rfl | decide) (Or.inl ⟨rfl, by simp, _, rfl⟩) (hb hby d2_35) (by decide) (by decide) (⟨rfl, N0, rfl⟩)
set_option maxRecDepth 65536 in
set_option maxHeartbeats 40000000 in
theorem rm2_2 (l : Launch) (Z : State) (a0 : Array Value) (hw : ∀ d ∈ tables_1, d.before a0 Z = true) (ws : List Jvm.Cond) (a : Addr) (x0 x1 : UInt64) (Y0 Y1 : Int) (res : Int32) (h0 : Heap) (n0 : Nat) (Z0 : n0 ≤ h0.size) (A0 : own_A Z h0 a .double [.double x0, .double x1]) (D0 : own_D 6 (64 * Y0) x0) (D1 : own_D 6 (64 * Y1) x1) (hres : (Y1 = Y0 ∧ res = 1) ∨ (¬ Y1 = Y0 ∧ res = 0)) :
    MetFree l (⟨"com/example/veritree/veritree/calibration/EffectiveSampleSize", "allEqual", "([D)Z"⟩ : MethodName) (head1 (Jvm.Cond.code (⟨"com/example/veritree/veritree/calibration/EffectiveSampleSize", "allEqual", "([D)Z"⟩ : MethodName) prog_1_method_3_code 6 (some .boolean) :: ws) ({ frames := 0, cells := 0, slots := 0, locals := 0 } : Room)) (fun as_ U => as_ = #[.ref a] ∧ Z.Warmed39 U.vm ∧ U.heap = h0) (fun _ _ _ _ _ => True) (fun _ U o U' => own_Fin U ({ frames := 0, cells := 0, slots := 0, locals := 0 } : Room).cells ({ frames := 0, cells := 0, slots := 0, locals := 0 } : Room).slots (fun v h L => v = some (.int res) ∧ Fr n0 L ∧ h = h0) o U') := by
  refine own_body (plainFor_of_name pn2) (ls0 := [.val (.ref a), .unset, .unset, .unset, .unset, .unset]) (fun m => by first | (simp [entryFrame, mkF, argsToLocals, Value.category, maxLocals]; done) | rfl) ?_
  intro p e s m below meth c T0 hx hby hml hown hnm hlk hret hZ X0 e0
  have hK : own_ks "com/example/veritree/veritree/calibration/EffectiveSampleSize" a0 Z kt2 := ⟨hw _ (List.mem_of_getElem? (i := 11) rfl), hw _ (List.mem_of_getElem? (i := 12) rfl), hw _ (List.mem_of_getElem? (i := 16) rfl), trivial⟩
  have hF : own_fs "com/example/veritree/veritree/calibration/EffectiveSampleSize" a0 Z ft2 := trivial
  have N0 := Fr.nil n0
  rcases hres with ⟨h1, rfl⟩ | ⟨hj, rfl⟩
  · skip
    refine own_blk dec2 seq2 hby hx hZ hown hK hF 12 [false] [.int (2 : Int32)] X0 e0 ?_
    show (own_ln Z h0 a (2 : Int32)) ∧ (¬ (((2 : Int32)).toInt ≤ ((0 : Int32)).toInt)) ∧ own_Aft X0 h0 _ 14 [.val (.ref a), .val (.ref a), .val (.int (2 : Int32)), .val (.int (0 : Int32)), .unset, .unset] [.int (0 : Int32), .ref a]
    refine ⟨A0.ln (2 : Int32) rfl, by decide, fun T1 X1 eh1 => ?_⟩
    refine own_blk dec2 seq2 hby hx hZ hown hK hF 12 [true] [.double x0, .double x0] X1 eh1 ?_
    show (own_at Z h0 a .double (0 : Int32) (.double x0)) ∧ (own_at Z h0 a .double (0 : Int32) (.double x0)) ∧ ((cmpValue (FP.dcmp x0 x0) .l).toInt = 0) ∧ own_Aft X1 h0 _ 9 [.val (.ref a), .val (.ref a), .val (.int (2 : Int32)), .val (.int (1 : Int32)), .val (.double x0), .second] [.int (2 : Int32), .int (1 : Int32)]
    refine ⟨A0.at (0 : Int32) 0 rfl rfl, A0.at (0 : Int32) 0 rfl rfl, by rw [own_cv_eq (D0.eq D0 (by omega))], fun T2 X2 eh2 => ?_⟩
    refine own_blk dec2 seq2 hby hx hZ hown hK hF 12 [false, true] [.double x1, .double x0] X2 eh2 ?_
    show (¬ (((2 : Int32)).toInt ≤ ((1 : Int32)).toInt)) ∧ (own_at Z h0 a .double (1 : Int32) (.double x1)) ∧ (own_at Z h0 a .double (0 : Int32) (.double x0)) ∧ ((cmpValue (FP.dcmp x1 x0) .l).toInt = 0) ∧ own_Aft X2 h0 _ 31 [.val (.ref a), .val (.ref a), .val (.int (2 : Int32)), .val (.int (2 : Int32)), .val (.double x1), .second] []
    refine ⟨by decide, A0.at (1 : Int32) 1 rfl rfl, A0.at (0 : Int32) 0 rfl rfl, by rw [own_cv_eq (D1.eq D0 (by omega))], fun T3 X3 eh3 => ?_⟩
    refine own_blk dec2 seq2 hby hx hZ hown hK hF 5 [true] [] X3 eh3 ?_
    show (((2 : Int32)).toInt ≤ ((2 : Int32)).toInt) ∧ own_Aft X3 h0 _ 35 [.val (.ref a), .val (.ref a), .val (.int (2 : Int32)), .val (.int (2 : Int32)), .val (.double x1), .second] [.int (1 : Int32)]
    refine ⟨by decide, fun T4 X4 eh4 => ?_⟩
    exact own_ret X4 hx hlk eh4 hret (by first | rfl | decide) (Or.inl ⟨rfl, by simp, _, rfl⟩) (hb hby d2_35) (by decide) (by decide) (⟨rfl, N0, rfl⟩)
  · skip
    refine own_blk dec2 seq2 hby hx hZ hown hK hF 12 [false] [.int (2 : Int32)] X0 e0 ?_
    show (own_ln Z h0 a (2 : Int32)) ∧ (¬ (((2 : Int32)).toInt ≤ ((0 : Int32)).toInt)) ∧ own_Aft X0 h0 _ 14 [.val (.ref a), .val (.ref a), .val (.int (2 : Int32)), .val (.int (0 : Int32)), .unset, .unset] [.int (0 : Int32), .ref a]
    refine ⟨A0.ln (2 : Int32) rfl, by decide, fun T5 X5 eh5 => ?_⟩
    refine own_blk dec2 seq2 hby hx hZ hown hK hF 12 [true] [.double x0, .double x0] X5 eh5 ?_
    show (own_at Z h0 a .double (0 : Int32) (.double x0)) ∧ (own_at Z h0 a .double (0 : Int32) (.double x0)) ∧ ((cmpValue (FP.dcmp x0 x0) .l).toInt = 0) ∧ own_Aft X5 h0 _ 9 [.val (.ref a), .val (.ref a), .val (.int (2 : Int32)), .val (.int (1 : Int32)), .val (.double x0), .second] [.int (2 : Int32), .int (1 : Int32)]
    refine ⟨A0.at (0 : Int32) 0 rfl rfl, A0.at (0 : Int32) 0 rfl rfl, by rw [own_cv_eq (D0.eq D0 (by omega))], fun T6 X6 eh6 => ?_⟩
    refine own_blk dec2 seq2 hby hx hZ hown hK hF 12 [false, false] [.double x1, .double x0] X6 eh6 ?_
    show (¬ (((2 : Int32)).toInt ≤ ((1 : Int32)).toInt)) ∧ (own_at Z h0 a .double (1 : Int32) (.double x1)) ∧ (own_at Z h0 a .double (0 : Int32) (.double x0)) ∧ (¬ ((cmpValue (FP.dcmp x1 x0) .l).toInt = 0)) ∧ own_Aft X6 h0 _ 27 [.val (.ref a), .val (.ref a), .val (.int (2 : Int32)), .val (.int (1 : Int32)), .val (.double x1), .second] [.int (0 : Int32)]
    refine ⟨by decide, A0.at (1 : Int32) 1 rfl rfl, A0.at (0 : Int32) 0 rfl rfl, by rcases Int.lt_or_gt_of_ne hj with q | q <;> first | (rw [own_cv_lt (D1.lt D0 (by omega))]; omega) | (rw [own_cv_gt (D1.gt D0 (by omega))]; omega), fun T7 X7 eh7 => ?_⟩
    exact own_ret X7 hx hlk eh7 hret (by first | rfl | decide) (Or.inl ⟨rfl, by simp, _, rfl⟩) (hb hby d2_27) (by decide) (by decide) (⟨rfl, N0, rfl⟩)
set_option maxRecDepth 65536 in
set_option maxHeartbeats 40000000 in
theorem rm2_4 (l : Launch) (Z : State) (a0 : Array Value) (hw : ∀ d ∈ tables_1, d.before a0 Z = true) (ws : List Jvm.Cond) (a : Addr) (x0 x1 x2 x3 : UInt64) (Y0 Y1 Y2 Y3 : Int) (res : Int32) (h0 : Heap) (n0 : Nat) (Z0 : n0 ≤ h0.size) (A0 : own_A Z h0 a .double [.double x0, .double x1, .double x2, .double x3]) (D0 : own_D 6 (64 * Y0) x0) (D1 : own_D 6 (64 * Y1) x1) (D2 : own_D 6 (64 * Y2) x2) (D3 : own_D 6 (64 * Y3) x3) (hres : (Y1 = Y0 ∧ Y2 = Y0 ∧ Y3 = Y0 ∧ res = 1) ∨ (¬ Y1 = Y0 ∧ res = 0) ∨ (Y1 = Y0 ∧ ¬ Y2 = Y0 ∧ res = 0) ∨ (Y1 = Y0 ∧ Y2 = Y0 ∧ ¬ Y3 = Y0 ∧ res = 0)) :
    MetFree l (⟨"com/example/veritree/veritree/calibration/EffectiveSampleSize", "allEqual", "([D)Z"⟩ : MethodName) (head1 (Jvm.Cond.code (⟨"com/example/veritree/veritree/calibration/EffectiveSampleSize", "allEqual", "([D)Z"⟩ : MethodName) prog_1_method_3_code 6 (some .boolean) :: ws) ({ frames := 0, cells := 0, slots := 0, locals := 0 } : Room)) (fun as_ U => as_ = #[.ref a] ∧ Z.Warmed39 U.vm ∧ U.heap = h0) (fun _ _ _ _ _ => True) (fun _ U o U' => own_Fin U ({ frames := 0, cells := 0, slots := 0, locals := 0 } : Room).cells ({ frames := 0, cells := 0, slots := 0, locals := 0 } : Room).slots (fun v h L => v = some (.int res) ∧ Fr n0 L ∧ h = h0) o U') := by
  refine own_body (plainFor_of_name pn2) (ls0 := [.val (.ref a), .unset, .unset, .unset, .unset, .unset]) (fun m => by first | (simp [entryFrame, mkF, argsToLocals, Value.category, maxLocals]; done) | rfl) ?_
  intro p e s m below meth c T0 hx hby hml hown hnm hlk hret hZ X0 e0
  have hK : own_ks "com/example/veritree/veritree/calibration/EffectiveSampleSize" a0 Z kt2 := ⟨hw _ (List.mem_of_getElem? (i := 11) rfl), hw _ (List.mem_of_getElem? (i := 12) rfl), hw _ (List.mem_of_getElem? (i := 16) rfl), trivial⟩
  have hF : own_fs "com/example/veritree/veritree/calibration/EffectiveSampleSize" a0 Z ft2 := trivial
  have N0 := Fr.nil n0
  rcases hres with ⟨h1, h2, h3, rfl⟩ | ⟨hj, rfl⟩ | ⟨h1, hj, rfl⟩ | ⟨h1, h2, hj, rfl⟩
  · skip
    refine own_blk dec2 seq2 hby hx hZ hown hK hF 12 [false] [.int (4 : Int32)] X0 e0 ?_
    show (own_ln Z h0 a (4 : Int32)) ∧ (¬ (((4 : Int32)).toInt ≤ ((0 : Int32)).toInt)) ∧ own_Aft X0 h0 _ 14 [.val (.ref a), .val (.ref a), .val (.int (4 : Int32)), .val (.int (0 : Int32)), .unset, .unset] [.int (0 : Int32), .ref a]
    refine ⟨A0.ln (4 : Int32) rfl, by decide, fun T1 X1 eh1 => ?_⟩
    refine own_blk dec2 seq2 hby hx hZ hown hK hF 12 [true] [.double x0, .double x0] X1 eh1 ?_
    show (own_at Z h0 a .double (0 : Int32) (.double x0)) ∧ (own_at Z h0 a .double (0 : Int32) (.double x0)) ∧ ((cmpValue (FP.dcmp x0 x0) .l).toInt = 0) ∧ own_Aft X1 h0 _ 9 [.val (.ref a), .val (.ref a), .val (.int (4 : Int32)), .val (.int (1 : Int32)), .val (.double x0), .second] [.int (4 : Int32), .int (1 : Int32)]
    refine ⟨A0.at (0 : Int32) 0 rfl rfl, A0.at (0 : Int32) 0 rfl rfl, by rw [own_cv_eq (D0.eq D0 (by omega))], fun T2 X2 eh2 => ?_⟩
    refine own_blk dec2 seq2 hby hx hZ hown hK hF 12 [false, true] [.double x1, .double x0] X2 eh2 ?_
    show (¬ (((4 : Int32)).toInt ≤ ((1 : Int32)).toInt)) ∧ (own_at Z h0 a .double (1 : Int32) (.double x1)) ∧ (own_at Z h0 a .double (0 : Int32) (.double x0)) ∧ ((cmpValue (FP.dcmp x1 x0) .l).toInt = 0) ∧ own_Aft X2 h0 _ 31 [.val (.ref a), .val (.ref a), .val (.int (4 : Int32)), .val (.int (2 : Int32)), .val (.double x1), .second] []
    refine ⟨by decide, A0.at (1 : Int32) 1 rfl rfl, A0.at (0 : Int32) 0 rfl rfl, by rw [own_cv_eq (D1.eq D0 (by omega))], fun T3 X3 eh3 => ?_⟩
    refine own_blk dec2 seq2 hby hx hZ hown hK hF 12 [false] [.double x2, .double x0] X3 eh3 ?_
    show (¬ (((4 : Int32)).toInt ≤ ((2 : Int32)).toInt)) ∧ (own_at Z h0 a .double (2 : Int32) (.double x2)) ∧ (own_at Z h0 a .double (0 : Int32) (.double x0)) ∧ own_Aft X3 h0 _ 22 [.val (.ref a), .val (.ref a), .val (.int (4 : Int32)), .val (.int (2 : Int32)), .val (.double x2), .second] [.double x0, .double x2]
    refine ⟨by decide, A0.at (2 : Int32) 2 rfl rfl, A0.at (0 : Int32) 0 rfl rfl, fun T4 X4 eh4 => ?_⟩
    refine own_blk dec2 seq2 hby hx hZ hown hK hF 12 [true, false] [.double x3] X4 eh4 ?_
    show ((cmpValue (FP.dcmp x2 x0) .l).toInt = 0) ∧ (¬ (((4 : Int32)).toInt ≤ ((3 : Int32)).toInt)) ∧ (own_at Z h0 a .double (3 : Int32) (.double x3)) ∧ own_Aft X4 h0 _ 19 [.val (.ref a), .val (.ref a), .val (.int (4 : Int32)), .val (.int (3 : Int32)), .val (.double x3), .second] [.double x3]
    refine ⟨by rw [own_cv_eq (D2.eq D0 (by omega))], by decide, A0.at (3 : Int32) 3 rfl rfl, fun T5 X5 eh5 => ?_⟩
    refine own_blk dec2 seq2 hby hx hZ hown hK hF 11 [true, true] [.double x0] X5 eh5 ?_
    show (own_at Z h0 a .double (0 : Int32) (.double x0)) ∧ ((cmpValue (FP.dcmp x3 x0) .l).toInt = 0) ∧ (((4 : Int32)).toInt ≤ ((4 : Int32)).toInt) ∧ own_Aft X5 h0 _ 35 [.val (.ref a), .val (.ref a), .val (.int (4 : Int32)), .val (.int (4 : Int32)), .val (.double x3), .second] [.int (1 : Int32)]
    refine ⟨A0.at (0 : Int32) 0 rfl rfl, by rw [own_cv_eq (D3.eq D0 (by omega))], by decide, fun T6 X6 eh6 => ?_⟩
    exact own_ret X6 hx hlk eh6 hret (by first | rfl | decide) (Or.inl ⟨rfl, by simp, _, rfl⟩) (hb hby d2_35) (by decide) (by decide) (⟨rfl, N0, rfl⟩)
  · skip
    refine own_blk dec2 seq2 hby hx hZ hown hK hF 12 [false] [.int (4 : Int32)] X0 e0 ?_
    show (own_ln Z h0 a (4 : Int32)) ∧ (¬ (((4 : Int32)).toInt ≤ ((0 : Int32)).toInt)) ∧ own_Aft X0 h0 _ 14 [.val (.ref a), .val (.ref a), .val (.int (4 : Int32)), .val (.int (0 : Int32)), .unset, .unset] [.int (0 : Int32), .ref a]
    refine ⟨A0.ln (4 : Int32) rfl, by decide, fun T7 X7 eh7 => ?_⟩
    refine own_blk dec2 seq2 hby hx hZ hown hK hF 12 [true] [.double x0, .double x0] X7 eh7 ?_
    show (own_at Z h0 a .double (0 : Int32) (.double x0)) ∧ (own_at Z h0 a .double (0 : Int32) (.double x0)) ∧ ((cmpValue (FP.dcmp x0 x0) .l).toInt = 0) ∧ own_Aft X7 h0 _ 9 [.val (.ref a), .val (.ref a), .val (.int (4 : Int32)), .val (.int (1 : Int32)), .val (.double x0), .second] [.int (4 : Int32), .int (1 : Int32)]
    refine ⟨A0.at (0 : Int32) 0 rfl rfl, A0.at (0 : Int32) 0 rfl rfl, by rw [own_cv_eq (D0.eq D0 (by omega))], fun T8 X8 eh8 => ?_⟩
    refine own_blk dec2 seq2 hby hx hZ hown hK hF 12 [false, false] [.double x1, .double x0] X8 eh8 ?_
    show (¬ (((4 : Int32)).toInt ≤ ((1 : Int32)).toInt)) ∧ (own_at Z h0 a .double (1 : Int32) (.double x1)) ∧ (own_at Z h0 a .double (0 : Int32) (.double x0)) ∧ (¬ ((cmpValue (FP.dcmp x1 x0) .l).toInt = 0)) ∧ own_Aft X8 h0 _ 27 [.val (.ref a), .val (.ref a), .val (.int (4 : Int32)), .val (.int (1 : Int32)), .val (.double x1), .second] [.int (0 : Int32)]
    refine ⟨by decide, A0.at (1 : Int32) 1 rfl rfl, A0.at (0 : Int32) 0 rfl rfl, by rcases Int.lt_or_gt_of_ne hj with q | q <;> first | (rw [own_cv_lt (D1.lt D0 (by omega))]; omega) | (rw [own_cv_gt (D1.gt D0 (by omega))]; omega), fun T9 X9 eh9 => ?_⟩
    exact own_ret X9 hx hlk eh9 hret (by first | rfl | decide) (Or.inl ⟨rfl, by simp, _, rfl⟩) (hb hby d2_27) (by decide) (by decide) (⟨rfl, N0, rfl⟩)
  · skip
    refine own_blk dec2 seq2 hby hx hZ hown hK hF 12 [false] [.int (4 : Int32)] X0 e0 ?_
    show (own_ln Z h0 a (4 : Int32)) ∧ (¬ (((4 : Int32)).toInt ≤ ((0 : Int32)).toInt)) ∧ own_Aft X0 h0 _ 14 [.val (.ref a), .val (.ref a), .val (.int (4 : Int32)), .val (.int (0 : Int32)), .unset, .unset] [.int (0 : Int32), .ref a]
    refine ⟨A0.ln (4 : Int32) rfl, by decide, fun T10 X10 eh10 => ?_⟩
    refine own_blk dec2 seq2 hby hx hZ hown hK hF 12 [true] [.double x0, .double x0] X10 eh10 ?_
    show (own_at Z h0 a .double (0 : Int32) (.double x0)) ∧ (own_at Z h0 a .double (0 : Int32) (.double x0)) ∧ ((cmpValue (FP.dcmp x0 x0) .l).toInt = 0) ∧ own_Aft X10 h0 _ 9 [.val (.ref a), .val (.ref a), .val (.int (4 : Int32)), .val (.int (1 : Int32)), .val (.double x0), .second] [.int (4 : Int32), .int (1 : Int32)]
    refine ⟨A0.at (0 : Int32) 0 rfl rfl, A0.at (0 : Int32) 0 rfl rfl, by rw [own_cv_eq (D0.eq D0 (by omega))], fun T11 X11 eh11 => ?_⟩
    refine own_blk dec2 seq2 hby hx hZ hown hK hF 12 [false, true] [.double x1, .double x0] X11 eh11 ?_
    show (¬ (((4 : Int32)).toInt ≤ ((1 : Int32)).toInt)) ∧ (own_at Z h0 a .double (1 : Int32) (.double x1)) ∧ (own_at Z h0 a .double (0 : Int32) (.double x0)) ∧ ((cmpValue (FP.dcmp x1 x0) .l).toInt = 0) ∧ own_Aft X11 h0 _ 31 [.val (.ref a), .val (.ref a), .val (.int (4 : Int32)), .val (.int (2 : Int32)), .val (.double x1), .second] []
    refine ⟨by decide, A0.at (1 : Int32) 1 rfl rfl, A0.at (0 : Int32) 0 rfl rfl, by rw [own_cv_eq (D1.eq D0 (by omega))], fun T12 X12 eh12 => ?_⟩
    refine own_blk dec2 seq2 hby hx hZ hown hK hF 12 [false] [.double x2, .double x0] X12 eh12 ?_
    show (¬ (((4 : Int32)).toInt ≤ ((2 : Int32)).toInt)) ∧ (own_at Z h0 a .double (2 : Int32) (.double x2)) ∧ (own_at Z h0 a .double (0 : Int32) (.double x0)) ∧ own_Aft X12 h0 _ 22 [.val (.ref a), .val (.ref a), .val (.int (4 : Int32)), .val (.int (2 : Int32)), .val (.double x2), .second] [.double x0, .double x2]
    refine ⟨by decide, A0.at (2 : Int32) 2 rfl rfl, A0.at (0 : Int32) 0 rfl rfl, fun T13 X13 eh13 => ?_⟩
    refine own_blk dec2 seq2 hby hx hZ hown hK hF 3 [false] [] X13 eh13 ?_
    show (¬ ((cmpValue (FP.dcmp x2 x0) .l).toInt = 0)) ∧ own_Aft X13 h0 _ 27 [.val (.ref a), .val (.ref a), .val (.int (4 : Int32)), .val (.int (2 : Int32)), .val (.double x2), .second] [.int (0 : Int32)]
    refine ⟨by rcases Int.lt_or_gt_of_ne hj with q | q <;> first | (rw [own_cv_lt (D2.lt D0 (by omega))]; omega) | (rw [own_cv_gt (D2.gt D0 (by omega))]; omega), fun T14 X14 eh14 => ?_⟩
    exact own_ret X14 hx hlk eh14 hret (by first | rfl | decide) (Or.inl ⟨rfl, by simp, _, rfl⟩) (hb hby d2_27) (by decide) (by decide) (⟨rfl, N0, rfl⟩)
  · skip
    refine own_blk dec2 seq2 hby hx hZ hown hK hF 12 [false] [.int (4 : Int32)] X0 e0 ?_
    show (own_ln Z h0 a (4 : Int32)) ∧ (¬ (((4 : Int32)).toInt ≤ ((0 : Int32)).toInt)) ∧ own_Aft X0 h0 _ 14 [.val (.ref a), .val (.ref a), .val (.int (4 : Int32)), .val (.int (0 : Int32)), .unset, .unset] [.int (0 : Int32), .ref a]
    refine ⟨A0.ln (4 : Int32) rfl, by decide, fun T15 X15 eh15 => ?_⟩
    refine own_blk dec2 seq2 hby hx hZ hown hK hF 12 [true] [.double x0, .double x0] X15 eh15 ?_
    show (own_at Z h0 a .double (0 : Int32) (.double x0)) ∧ (own_at Z h0 a .double (0 : Int32) (.double x0)) ∧ ((cmpValue (FP.dcmp x0 x0) .l).toInt = 0) ∧ own_Aft X15 h0 _ 9 [.val (.ref a), .val (.ref a), .val (.int (4 : Int32)), .val (.int (1 : Int32)), .val (.double x0), .second] [.int (4 : Int32), .int (1 : Int32)]
    refine ⟨A0.at (0 : Int32) 0 rfl rfl, A0.at (0 : Int32) 0 rfl rfl, by rw [own_cv_eq (D0.eq D0 (by omega))], fun T16 X16 eh16 => ?_⟩
    refine own_blk dec2 seq2 hby hx hZ hown hK hF 12 [false, true] [.double x1, .double x0] X16 eh16 ?_
    show (¬ (((4 : Int32)).toInt ≤ ((1 : Int32)).toInt)) ∧ (own_at Z h0 a .double (1 : Int32) (.double x1)) ∧ (own_at Z h0 a .double (0 : Int32) (.double x0)) ∧ ((cmpValue (FP.dcmp x1 x0) .l).toInt = 0) ∧ own_Aft X16 h0 _ 31 [.val (.ref a), .val (.ref a), .val (.int (4 : Int32)), .val (.int (2 : Int32)), .val (.double x1), .second] []
    refine ⟨by decide, A0.at (1 : Int32) 1 rfl rfl, A0.at (0 : Int32) 0 rfl rfl, by rw [own_cv_eq (D1.eq D0 (by omega))], fun T17 X17 eh17 => ?_⟩
    refine own_blk dec2 seq2 hby hx hZ hown hK hF 12 [false] [.double x2, .double x0] X17 eh17 ?_
    show (¬ (((4 : Int32)).toInt ≤ ((2 : Int32)).toInt)) ∧ (own_at Z h0 a .double (2 : Int32) (.double x2)) ∧ (own_at Z h0 a .double (0 : Int32) (.double x0)) ∧ own_Aft X17 h0 _ 22 [.val (.ref a), .val (.ref a), .val (.int (4 : Int32)), .val (.int (2 : Int32)), .val (.double x2), .second] [.double x0, .double x2]
    refine ⟨by decide, A0.at (2 : Int32) 2 rfl rfl, A0.at (0 : Int32) 0 rfl rfl, fun T18 X18 eh18 => ?_⟩
    refine own_blk dec2 seq2 hby hx hZ hown hK hF 12 [true, false] [.double x3] X18 eh18 ?_
    show ((cmpValue (FP.dcmp x2 x0) .l).toInt = 0) ∧ (¬ (((4 : Int32)).toInt ≤ ((3 : Int32)).toInt)) ∧ (own_at Z h0 a .double (3 : Int32) (.double x3)) ∧ own_Aft X18 h0 _ 19 [.val (.ref a), .val (.ref a), .val (.int (4 : Int32)), .val (.int (3 : Int32)), .val (.double x3), .second] [.double x3]
    refine ⟨by rw [own_cv_eq (D2.eq D0 (by omega))], by decide, A0.at (3 : Int32) 3 rfl rfl, fun T19 X19 eh19 => ?_⟩
    refine own_blk dec2 seq2 hby hx hZ hown hK hF 6 [false] [.double x0] X19 eh19 ?_
    show (own_at Z h0 a .double (0 : Int32) (.double x0)) ∧ (¬ ((cmpValue (FP.dcmp x3 x0) .l).toInt = 0)) ∧ own_Aft X19 h0 _ 27 [.val (.ref a), .val (.ref a), .val (.int (4 : Int32)), .val (.int (3 : Int32)), .val (.double x3), .second] [.int (0 : Int32)]
    refine ⟨A0.at (0 : Int32) 0 rfl rfl, by rcases Int.lt_or_gt_of_ne hj with q | q <;> first | (rw [own_cv_lt (D3.lt D0 (by omega))]; omega) | (rw [own_cv_gt (D3.gt D0 (by omega))]; omega), fun T20 X20 eh20 => ?_⟩
    exact own_ret X20 hx hlk eh20 hret (by first | rfl | decide) (Or.inl ⟨rfl, by simp, _, rfl⟩) (hb hby d2_27) (by decide) (by decide) (⟨rfl, N0, rfl⟩)
set_option maxRecDepth 65536 in
set_option maxHeartbeats 40000000 in
theorem rm3_2_0 (l : Launch) (Z : State) (a0 : Array Value) (hw : ∀ d ∈ tables_1, d.before a0 Z = true) (ws : List Jvm.Cond) (a : Addr) (v0 v1 : UInt64) (u0 u1 KK : Int) (h0 : Heap) (n0 : Nat) (Z0 : n0 ≤ h0.size) (A0 : own_A Z h0 a .double [.double v0, .double v1]) (D0 : own_D 6 (8 * u0) v0) (b0 : -20000 ≤ u0 ∧ u0 ≤ 20000) (D1 : own_D 6 (8 * u1) v1) (b1 : -20000 ≤ u1 ∧ u1 ≤ 20000) (hKK : KK * 2 = 0 + u0 * u0 + u1 * u1) :
    MetFree l (⟨"com/example/veritree/veritree/calibration/EffectiveSampleSize", "autocovariance", "([DI)D"⟩ : MethodName) (head1 (Jvm.Cond.code (⟨"com/example/veritree/veritree/calibration/EffectiveSampleSize", "autocovariance", "([DI)D"⟩ : MethodName) prog_1_method_4_code 5 (some .double) :: ws) ({ frames := 0, cells := 0, slots := 0, locals := 0 } : Room)) (fun as_ U => as_ = #[.ref a, .int (0 : Int32)] ∧ Z.Warmed39 U.vm ∧ U.heap = h0) (fun _ _ _ _ _ => True) (fun _ U o U' => own_Fin U ({ frames := 0, cells := 0, slots := 0, locals := 0 } : Room).cells ({ frames := 0, cells := 0, slots := 0, locals := 0 } : Room).slots (fun v h L => ∃ r, v = some (.double r) ∧ own_D 6 KK r ∧ Fr n0 L ∧ h = h0) o U') := by
  refine own_body (plainFor_of_name pn3) (ls0 := [.val (.ref a), .val (.int (0 : Int32)), .unset, .unset, .unset]) (fun m => by first | (simp [entryFrame, mkF, argsToLocals, Value.category, maxLocals]; done) | rfl) ?_
  intro p e s m below meth c T0 hx hby hml hown hnm hlk hret hZ X0 e0
  have hK : own_ks "com/example/veritree/veritree/calibration/EffectiveSampleSize" a0 Z kt3 := ⟨hw _ (List.mem_of_getElem? (i := 11) rfl), hw _ (List.mem_of_getElem? (i := 12) rfl), hw _ (List.mem_of_getElem? (i := 16) rfl), trivial⟩
  have hF : own_fs "com/example/veritree/veritree/calibration/EffectiveSampleSize" a0 Z ft3 := trivial
  have N0 := Fr.nil n0
  have pb0 := own_pb b0.1 b0.2 b0.1 b0.2
  have m0 : own_D 6 (u0 * u0) _ := D0.mul (by omega) D0 (by rw [show (8 * u0) * (8 * u0) = 64 * (u0 * u0) by rw [Int.mul_assoc, Int.mul_left_comm u0 8 u0, ← Int.mul_assoc]; rfl]; omega) (by omega)
  have s1 := own_z6.add (by omega) m0 (by omega)
  have pb1 := own_pb b1.1 b1.2 b1.1 b1.2
  have m1 : own_D 6 (u1 * u1) _ := D1.mul (by omega) D1 (by rw [show (8 * u1) * (8 * u1) = 64 * (u1 * u1) by rw [Int.mul_assoc, Int.mul_left_comm u1 8 u1, ← Int.mul_assoc]; rfl]; omega) (by omega)
  have s2 := s1.add (by omega) m1 (by omega)
  have fin : own_D 6 KK _ := s2.div (by omega) own_2g (by omega) (by omega) (by omega)
  refine own_blk dec3 seq3 hby hx hZ hown hK hF 12 [false] [.int (2 : Int32)] X0 e0 ?_
  show (own_ln Z h0 a (2 : Int32)) ∧ (¬ (((2 : Int32)).toInt ≤ ((0 : Int32)).toInt)) ∧ own_Aft X0 h0 _ 16 [.val (.ref a), .val (.int (0 : Int32)), .val (.double 0), .second, .val (.int (0 : Int32))] [.ref a, .double 0]
  refine ⟨A0.ln (2 : Int32) rfl, by decide, fun T1 X1 eh1 => ?_⟩
  refine own_blk dec3 seq3 hby hx hZ hown hK hF 12 [] [.double v0, .double v0] X1 eh1 ?_
  show (own_at Z h0 a .double (0 : Int32) (.double v0)) ∧ (own_at Z h0 a .double (0 : Int32) (.double v0)) ∧ (Jvm.Free.Fl.NoNaN64 (FP.dmul v0 v0)) ∧ (Jvm.Free.Fl.NoNaN64 (FP.dadd 0 (FP.dmul v0 v0))) ∧ own_Aft X1 h0 _ 5 [.val (.ref a), .val (.int (0 : Int32)), .val (.double (FP.dadd 0 (FP.dmul v0 v0))), .second, .val (.int (1 : Int32))] []
  refine ⟨A0.at (0 : Int32) 0 rfl rfl, A0.at (0 : Int32) 0 rfl rfl, own_nn m0.num, own_nn s1.num, fun T2 X2 eh2 => ?_⟩
  refine own_blk dec3 seq3 hby hx hZ hown hK hF 12 [false] [.int (2 : Int32), .double v1] X2 eh2 ?_
  show (own_ln Z h0 a (2 : Int32)) ∧ (¬ (((2 : Int32)).toInt ≤ ((1 : Int32)).toInt)) ∧ (own_at Z h0 a .double (1 : Int32) (.double v1)) ∧ own_Aft X2 h0 _ 22 [.val (.ref a), .val (.int (0 : Int32)), .val (.double (FP.dadd 0 (FP.dmul v0 v0))), .second, .val (.int (1 : Int32))] [.int (1 : Int32), .ref a, .double v1, .double (FP.dadd 0 (FP.dmul v0 v0))]
  refine ⟨A0.ln (2 : Int32) rfl, by decide, A0.at (1 : Int32) 1 rfl rfl, fun T3 X3 eh3 => ?_⟩
  refine own_blk dec3 seq3 hby hx hZ hown hK hF 12 [] [.double v1] X3 eh3 ?_
  show (own_at Z h0 a .double (1 : Int32) (.double v1)) ∧ (Jvm.Free.Fl.NoNaN64 (FP.dmul v1 v1)) ∧ (Jvm.Free.Fl.NoNaN64 (FP.dadd (FP.dadd 0 (FP.dmul v0 v0)) (FP.dmul v1 v1))) ∧ own_Aft X3 h0 _ 10 [.val (.ref a), .val (.int (0 : Int32)), .val (.double (FP.dadd (FP.dadd 0 (FP.dmul v0 v0)) (FP.dmul v1 v1))), .second, .val (.int (2 : Int32))] [.ref a, .int (2 : Int32)]
  refine ⟨A0.at (1 : Int32) 1 rfl rfl, own_nn m1.num, own_nn s2.num, fun T4 X4 eh4 => ?_⟩
  refine own_blk dec3 seq3 hby hx hZ hown hK hF 7 [true] [.int (2 : Int32), .int (2 : Int32)] X4 eh4 ?_
  show (own_ln Z h0 a (2 : Int32)) ∧ (((2 : Int32)).toInt ≤ ((2 : Int32)).toInt) ∧ (own_ln Z h0 a (2 : Int32)) ∧ (Jvm.Free.Fl.NoNaN64 (FP.ddiv (FP.dadd (FP.dadd 0 (FP.dmul v0 v0)) (FP.dmul v1 v1)) (FP.i2d (2 : Int32)))) ∧ own_Aft X4 h0 _ 39 [.val (.ref a), .val (.int (0 : Int32)), .val (.double (FP.dadd (FP.dadd 0 (FP.dmul v0 v0)) (FP.dmul v1 v1))), .second, .val (.int (2 : Int32))] [.double (FP.ddiv (FP.dadd (FP.dadd 0 (FP.dmul v0 v0)) (FP.dmul v1 v1)) (FP.i2d (2 : Int32)))]
  refine ⟨A0.ln (2 : Int32) rfl, by decide, A0.ln (2 : Int32) rfl, own_nn fin.num, fun T5 X5 eh5 => ?_⟩
  exact own_ret X5 hx hlk eh5 hret (by first | rfl | decide) (Or.inr (Or.inr (Or.inl ⟨rfl, rfl, _, rfl⟩))) (hb hby d3_39) (by decide) (by decide) (⟨_, rfl, fin, N0, rfl⟩)
set_option maxRecDepth 65536 in
set_option maxHeartbeats 40000000 in
theorem rm3_2_1 (l : Launch) (Z : State) (a0 : Array Value) (hw : ∀ d ∈ tables_1, d.before a0 Z = true) (ws : List Jvm.Cond) (a : Addr) (v0 v1 : UInt64) (u0 u1 KK : Int) (h0 : Heap) (n0 : Nat) (Z0 : n0 ≤ h0.size) (A0 : own_A Z h0 a .double [.double v0, .double v1]) (D0 : own_D 6 (8 * u0) v0) (b0 : -20000 ≤ u0 ∧ u0 ≤ 20000) (D1 : own_D 6 (8 * u1) v1) (b1 : -20000 ≤ u1 ∧ u1 ≤ 20000) (hKK : KK * 2 = 0 + u0 * u1) :
    MetFree l (⟨"com/example/veritree/veritree/calibration/EffectiveSampleSize", "autocovariance", "([DI)D"⟩ : MethodName) (head1 (Jvm.Cond.code (⟨"com/example/veritree/veritree/calibration/EffectiveSampleSize", "autocovariance", "([DI)D"⟩ : MethodName) prog_1_method_4_code 5 (some .double) :: ws) ({ frames := 0, cells := 0, slots := 0, locals := 0 } : Room)) (fun as_ U => as_ = #[.ref a, .int (1 : Int32)] ∧ Z.Warmed39 U.vm ∧ U.heap = h0) (fun _ _ _ _ _ => True) (fun _ U o U' => own_Fin U ({ frames := 0, cells := 0, slots := 0, locals := 0 } : Room).cells ({ frames := 0, cells := 0, slots := 0, locals := 0 } : Room).slots (fun v h L => ∃ r, v = some (.double r) ∧ own_D 6 KK r ∧ Fr n0 L ∧ h = h0) o U') := by
  refine own_body (plainFor_of_name pn3) (ls0 := [.val (.ref a), .val (.int (1 : Int32)), .unset, .unset, .unset]) (fun m => by first | (simp [entryFrame, mkF, argsToLocals, Value.category, maxLocals]; done) | rfl) ?_
  intro p e s m below meth c T0 hx hby hml hown hnm hlk hret hZ X0 e0
  have hK : own_ks "com/example/veritree/veritree/calibration/EffectiveSampleSize" a0 Z kt3 := ⟨hw _ (List.mem_of_getElem? (i := 11) rfl), hw _ (List.mem_of_getElem? (i := 12) rfl), hw _ (List.mem_of_getElem? (i := 16) rfl), trivial⟩
  have hF : own_fs "com/example/veritree/veritree/calibration/EffectiveSampleSize" a0 Z ft3 := trivial
  have N0 := Fr.nil n0
  have pb0 := own_pb b0.1 b0.2 b1.1 b1.2
  have m0 : own_D 6 (u0 * u1) _ := D0.mul (by omega) D1 (by rw [show (8 * u0) * (8 * u1) = 64 * (u0 * u1) by rw [Int.mul_assoc, Int.mul_left_comm u0 8 u1, ← Int.mul_assoc]; rfl]; omega) (by omega)
  have s1 := own_z6.add (by omega) m0 (by omega)
  have fin : own_D 6 KK _ := s1.div (by omega) own_2g (by omega) (by omega) (by omega)
  refine own_blk dec3 seq3 hby hx hZ hown hK hF 12 [false] [.int (2 : Int32)] X0 e0 ?_
  show (own_ln Z h0 a (2 : Int32)) ∧ (¬ (((2 : Int32)).toInt ≤ ((1 : Int32)).toInt)) ∧ own_Aft X0 h0 _ 16 [.val (.ref a), .val (.int (1 : Int32)), .val (.double 0), .second, .val (.int (0 : Int32))] [.ref a, .double 0]
  refine ⟨A0.ln (2 : Int32) rfl, by decide, fun T1 X1 eh1 => ?_⟩
  refine own_blk dec3 seq3 hby hx hZ hown hK hF 12 [] [.double v0, .double v1] X1 eh1 ?_
  show (own_at Z h0 a .double (0 : Int32) (.double v0)) ∧ (own_at Z h0 a .double (1 : Int32) (.double v1)) ∧ (Jvm.Free.Fl.NoNaN64 (FP.dmul v0 v1)) ∧ (Jvm.Free.Fl.NoNaN64 (FP.dadd 0 (FP.dmul v0 v1))) ∧ own_Aft X1 h0 _ 5 [.val (.ref a), .val (.int (1 : Int32)), .val (.double (FP.dadd 0 (FP.dmul v0 v1))), .second, .val (.int (1 : Int32))] []
  refine ⟨A0.at (0 : Int32) 0 rfl rfl, A0.at (1 : Int32) 1 rfl rfl, own_nn m0.num, own_nn s1.num, fun T2 X2 eh2 => ?_⟩
  refine own_blk dec3 seq3 hby hx hZ hown hK hF 11 [true] [.int (2 : Int32), .int (2 : Int32)] X2 eh2 ?_
  show (own_ln Z h0 a (2 : Int32)) ∧ (((2 : Int32)).toInt ≤ ((2 : Int32)).toInt) ∧ (own_ln Z h0 a (2 : Int32)) ∧ (Jvm.Free.Fl.NoNaN64 (FP.ddiv (FP.dadd 0 (FP.dmul v0 v1)) (FP.i2d (2 : Int32)))) ∧ own_Aft X2 h0 _ 39 [.val (.ref a), .val (.int (1 : Int32)), .val (.double (FP.dadd 0 (FP.dmul v0 v1))), .second, .val (.int (1 : Int32))] [.double (FP.ddiv (FP.dadd 0 (FP.dmul v0 v1)) (FP.i2d (2 : Int32)))]
  refine ⟨A0.ln (2 : Int32) rfl, by decide, A0.ln (2 : Int32) rfl, own_nn fin.num, fun T3 X3 eh3 => ?_⟩
  exact own_ret X3 hx hlk eh3 hret (by first | rfl | decide) (Or.inr (Or.inr (Or.inl ⟨rfl, rfl, _, rfl⟩))) (hb hby d3_39) (by decide) (by decide) (⟨_, rfl, fin, N0, rfl⟩)
set_option maxRecDepth 65536 in
set_option maxHeartbeats 40000000 in
theorem rm3_4_0 (l : Launch) (Z : State) (a0 : Array Value) (hw : ∀ d ∈ tables_1, d.before a0 Z = true) (ws : List Jvm.Cond) (a : Addr) (v0 v1 v2 v3 : UInt64) (u0 u1 u2 u3 KK : Int) (h0 : Heap) (n0 : Nat) (Z0 : n0 ≤ h0.size) (A0 : own_A Z h0 a .double [.double v0, .double v1, .double v2, .double v3]) (D0 : own_D 6 (8 * u0) v0) (b0 : -20000 ≤ u0 ∧ u0 ≤ 20000) (D1 : own_D 6 (8 * u1) v1) (b1 : -20000 ≤ u1 ∧ u1 ≤ 20000) (D2 : own_D 6 (8 * u2) v2) (b2 : -20000 ≤ u2 ∧ u2 ≤ 20000) (D3 : own_D 6 (8 * u3) v3) (b3 : -20000 ≤ u3 ∧ u3 ≤ 20000) (hKK : KK * 4 = 0 + u0 * u0 + u1 * u1 + u2 * u2 + u3 * u3) :
    MetFree l (⟨"com/example/veritree/veritree/calibration/EffectiveSampleSize", "autocovariance", "([DI)D"⟩ : MethodName) (head1 (Jvm.Cond.code (⟨"com/example/veritree/veritree/calibration/EffectiveSampleSize", "autocovariance", "([DI)D"⟩ : MethodName) prog_1_method_4_code 5 (some .double) :: ws) ({ frames := 0, cells := 0, slots := 0, locals := 0 } : Room)) (fun as_ U => as_ = #[.ref a, .int (0 : Int32)] ∧ Z.Warmed39 U.vm ∧ U.heap = h0) (fun _ _ _ _ _ => True) (fun _ U o U' => own_Fin U ({ frames := 0, cells := 0, slots := 0, locals := 0 } : Room).cells ({ frames := 0, cells := 0, slots := 0, locals := 0 } : Room).slots (fun v h L => ∃ r, v = some (.double r) ∧ own_D 6 KK r ∧ Fr n0 L ∧ h = h0) o U') := by
  refine own_body (plainFor_of_name pn3) (ls0 := [.val (.ref a), .val (.int (0 : Int32)), .unset, .unset, .unset]) (fun m => by first | (simp [entryFrame, mkF, argsToLocals, Value.category, maxLocals]; done) | rfl) ?_
  intro p e s m below meth c T0 hx hby hml hown hnm hlk hret hZ X0 e0
  have hK : own_ks "com/example/veritree/veritree/calibration/EffectiveSampleSize" a0 Z kt3 := ⟨hw _ (List.mem_of_getElem? (i := 11) rfl), hw _ (List.mem_of_getElem? (i := 12) rfl), hw _ (List.mem_of_getElem? (i := 16) rfl), trivial⟩
  have hF : own_fs "com/example/veritree/veritree/calibration/EffectiveSampleSize" a0 Z ft3 := trivial
  have N0 := Fr.nil n0
  have pb0 := own_pb b0.1 b0.2 b0.1 b0.2
  have m0 : own_D 6 (u0 * u0) _ := D0.mul (by omega) D0 (by rw [show (8 * u0) * (8 * u0) = 64 * (u0 * u0) by rw [Int.mul_assoc, Int.mul_left_comm u0 8 u0, ← Int.mul_assoc]; rfl]; omega) (by omega)
  have s1 := own_z6.add (by omega) m0 (by omega)
  have pb1 := own_pb b1.1 b1.2 b1.1 b1.2
  have m1 : own_D 6 (u1 * u1) _ := D1.mul (by omega) D1 (by rw [show (8 * u1) * (8 * u1) = 64 * (u1 * u1) by rw [Int.mul_assoc, Int.mul_left_comm u1 8 u1, ← Int.mul_assoc]; rfl]; omega) (by omega)
  have s2 := s1.add (by omega) m1 (by omega)
  have pb2 := own_pb b2.1 b2.2 b2.1 b2.2
  have m2 : own_D 6 (u2 * u2) _ := D2.mul (by omega) D2 (by rw [show (8 * u2) * (8 * u2) = 64 * (u2 * u2) by rw [Int.mul_assoc, Int.mul_left_comm u2 8 u2, ← Int.mul_assoc]; rfl]; omega) (by omega)
  have s3 := s2.add (by omega) m2 (by omega)
  have pb3 := own_pb b3.1 b3.2 b3.1 b3.2
  have m3 : own_D 6 (u3 * u3) _ := D3.mul (by omega) D3 (by rw [show (8 * u3) * (8 * u3) = 64 * (u3 * u3) by rw [Int.mul_assoc, Int.mul_left_comm u3 8 u3, ← Int.mul_assoc]; rfl]; omega) (by omega)
  have s4 := s3.add (by omega) m3 (by omega)
  have fin : own_D 6 KK _ := s4.div (by omega) own_4g (by omega) (by omega) (by omega)
  refine own_blk dec3 seq3 hby hx hZ hown hK hF 12 [false] [.int (4 : Int32)] X0 e0 ?_
  show (own_ln Z h0 a (4 : Int32)) ∧ (¬ (((4 : Int32)).toInt ≤ ((0 : Int32)).toInt)) ∧ own_Aft X0 h0 _ 16 [.val (.ref a), .val (.int (0 : Int32)), .val (.double 0), .second, .val (.int (0 : Int32))] [.ref a, .double 0]
  refine ⟨A0.ln (4 : Int32) rfl, by decide, fun T1 X1 eh1 => ?_⟩
  refine own_blk dec3 seq3 hby hx hZ hown hK hF 12 [] [.double v0, .double v0] X1 eh1 ?_
  show (own_at Z h0 a .double (0 : Int32) (.double v0)) ∧ (own_at Z h0 a .double (0 : Int32) (.double v0)) ∧ (Jvm.Free.Fl.NoNaN64 (FP.dmul v0 v0)) ∧ (Jvm.Free.Fl.NoNaN64 (FP.dadd 0 (FP.dmul v0 v0))) ∧ own_Aft X1 h0 _ 5 [.val (.ref a), .val (.int (0 : Int32)), .val (.double (FP.dadd 0 (FP.dmul v0 v0))), .second, .val (.int (1 : Int32))] []
  refine ⟨A0.at (0 : Int32) 0 rfl rfl, A0.at (0 : Int32) 0 rfl rfl, own_nn m0.num, own_nn s1.num, fun T2 X2 eh2 => ?_⟩
  refine own_blk dec3 seq3 hby hx hZ hown hK hF 12 [false] [.int (4 : Int32), .double v1] X2 eh2 ?_
  show (own_ln Z h0 a (4 : Int32)) ∧ (¬ (((4 : Int32)).toInt ≤ ((1 : Int32)).toInt)) ∧ (own_at Z h0 a .double (1 : Int32) (.double v1)) ∧ own_Aft X2 h0 _ 22 [.val (.ref a), .val (.int (0 : Int32)), .val (.double (FP.dadd 0 (FP.dmul v0 v0))), .second, .val (.int (1 : Int32))] [.int (1 : Int32), .ref a, .double v1, .double (FP.dadd 0 (FP.dmul v0 v0))]
  refine ⟨A0.ln (4 : Int32) rfl, by decide, A0.at (1 : Int32) 1 rfl rfl, fun T3 X3 eh3 => ?_⟩
  refine own_blk dec3 seq3 hby hx hZ hown hK hF 12 [] [.double v1] X3 eh3 ?_
  show (own_at Z h0 a .double (1 : Int32) (.double v1)) ∧ (Jvm.Free.Fl.NoNaN64 (FP.dmul v1 v1)) ∧ (Jvm.Free.Fl.NoNaN64 (FP.dadd (FP.dadd 0 (FP.dmul v0 v0)) (FP.dmul v1 v1))) ∧ own_Aft X3 h0 _ 10 [.val (.ref a), .val (.int (0 : Int32)), .val (.double (FP.dadd (FP.dadd 0 (FP.dmul v0 v0)) (FP.dmul v1 v1))), .second, .val (.int (2 : Int32))] [.ref a, .int (2 : Int32)]
  refine ⟨A0.at (1 : Int32) 1 rfl rfl, own_nn m1.num, own_nn s2.num, fun T4 X4 eh4 => ?_⟩
  refine own_blk dec3 seq3 hby hx hZ hown hK hF 12 [false] [.int (4 : Int32), .double v2, .double v2] X4 eh4 ?_
  show (own_ln Z h0 a (4 : Int32)) ∧ (¬ (((4 : Int32)).toInt ≤ ((2 : Int32)).toInt)) ∧ (own_at Z h0 a .double (2 : Int32) (.double v2)) ∧ (own_at Z h0 a .double (2 : Int32) (.double v2)) ∧ (Jvm.Free.Fl.NoNaN64 (FP.dmul v2 v2)) ∧ own_Aft X4 h0 _ 26 [.val (.ref a), .val (.int (0 : Int32)), .val (.double (FP.dadd (FP.dadd 0 (FP.dmul v0 v0)) (FP.dmul v1 v1))), .second, .val (.int (2 : Int32))] [.double (FP.dmul v2 v2), .double (FP.dadd (FP.dadd 0 (FP.dmul v0 v0)) (FP.dmul v1 v1))]
  refine ⟨A0.ln (4 : Int32) rfl, by decide, A0.at (2 : Int32) 2 rfl rfl, A0.at (2 : Int32) 2 rfl rfl, own_nn m2.num, fun T5 X5 eh5 => ?_⟩
  refine own_blk dec3 seq3 hby hx hZ hown hK hF 12 [false] [.int (4 : Int32)] X5 eh5 ?_
  show (Jvm.Free.Fl.NoNaN64 (FP.dadd (FP.dadd (FP.dadd 0 (FP.dmul v0 v0)) (FP.dmul v1 v1)) (FP.dmul v2 v2))) ∧ (own_ln Z h0 a (4 : Int32)) ∧ (¬ (((4 : Int32)).toInt ≤ ((3 : Int32)).toInt)) ∧ own_Aft X5 h0 _ 16 [.val (.ref a), .val (.int (0 : Int32)), .val (.double (FP.dadd (FP.dadd (FP.dadd 0 (FP.dmul v0 v0)) (FP.dmul v1 v1)) (FP.dmul v2 v2))), .second, .val (.int (3 : Int32))] [.ref a, .double (FP.dadd (FP.dadd (FP.dadd 0 (FP.dmul v0 v0)) (FP.dmul v1 v1)) (FP.dmul v2 v2))]
  refine ⟨own_nn s3.num, A0.ln (4 : Int32) rfl, by decide, fun T6 X6 eh6 => ?_⟩
  refine own_blk dec3 seq3 hby hx hZ hown hK hF 12 [] [.double v3, .double v3] X6 eh6 ?_
  show (own_at Z h0 a .double (3 : Int32) (.double v3)) ∧ (own_at Z h0 a .double (3 : Int32) (.double v3)) ∧ (Jvm.Free.Fl.NoNaN64 (FP.dmul v3 v3)) ∧ (Jvm.Free.Fl.NoNaN64 (FP.dadd (FP.dadd (FP.dadd (FP.dadd 0 (FP.dmul v0 v0)) (FP.dmul v1 v1)) (FP.dmul v2 v2)) (FP.dmul v3 v3))) ∧ own_Aft X6 h0 _ 5 [.val (.ref a), .val (.int (0 : Int32)), .val (.double (FP.dadd (FP.dadd (FP.dadd (FP.dadd 0 (FP.dmul v0 v0)) (FP.dmul v1 v1)) (FP.dmul v2 v2)) (FP.dmul v3 v3))), .second, .val (.int (4 : Int32))] []
  refine ⟨A0.at (3 : Int32) 3 rfl rfl, A0.at (3 : Int32) 3 rfl rfl, own_nn m3.num, own_nn s4.num, fun T7 X7 eh7 => ?_⟩
  refine own_blk dec3 seq3 hby hx hZ hown hK hF 11 [true] [.int (4 : Int32), .int (4 : Int32)] X7 eh7 ?_
  show (own_ln Z h0 a (4 : Int32)) ∧ (((4 : Int32)).toInt ≤ ((4 : Int32)).toInt) ∧ (own_ln Z h0 a (4 : Int32)) ∧ (Jvm.Free.Fl.NoNaN64 (FP.ddiv (FP.dadd (FP.dadd (FP.dadd (FP.dadd 0 (FP.dmul v0 v0)) (FP.dmul v1 v1)) (FP.dmul v2 v2)) (FP.dmul v3 v3)) (FP.i2d (4 : Int32)))) ∧ own_Aft X7 h0 _ 39 [.val (.ref a), .val (.int (0 : Int32)), .val (.double (FP.dadd (FP.dadd (FP.dadd (FP.dadd 0 (FP.dmul v0 v0)) (FP.dmul v1 v1)) (FP.dmul v2 v2)) (FP.dmul v3 v3))), .second, .val (.int (4 : Int32))] [.double (FP.ddiv (FP.dadd (FP.dadd (FP.dadd (FP.dadd 0 (FP.dmul v0 v0)) (FP.dmul v1 v1)) (FP.dmul v2 v2)) (FP.dmul v3 v3)) (FP.i2d (4 : Int32)))]
  refine ⟨A0.ln (4 : Int32) rfl, by decide, A0.ln (4 : Int32) rfl, own_nn fin.num, fun T8 X8 eh8 => ?_⟩
  exact own_ret X8 hx hlk eh8 hret (by first | rfl | decide) (Or.inr (Or.inr (Or.inl ⟨rfl, rfl, _, rfl⟩))) (hb hby d3_39) (by decide) (by decide) (⟨_, rfl, fin, N0, rfl⟩)
set_option maxRecDepth 65536 in
set_option maxHeartbeats 40000000 in
theorem rm3_4_1 (l : Launch) (Z : State) (a0 : Array Value) (hw : ∀ d ∈ tables_1, d.before a0 Z = true) (ws : List Jvm.Cond) (a : Addr) (v0 v1 v2 v3 : UInt64) (u0 u1 u2 u3 KK : Int) (h0 : Heap) (n0 : Nat) (Z0 : n0 ≤ h0.size) (A0 : own_A Z h0 a .double [.double v0, .double v1, .double v2, .double v3]) (D0 : own_D 6 (8 * u0) v0) (b0 : -20000 ≤ u0 ∧ u0 ≤ 20000) (D1 : own_D 6 (8 * u1) v1) (b1 : -20000 ≤ u1 ∧ u1 ≤ 20000) (D2 : own_D 6 (8 * u2) v2) (b2 : -20000 ≤ u2 ∧ u2 ≤ 20000) (D3 : own_D 6 (8 * u3) v3) (b3 : -20000 ≤ u3 ∧ u3 ≤ 20000) (hKK : KK * 4 = 0 + u0 * u1 + u1 * u2 + u2 * u3) :
    MetFree l (⟨"com/example/veritree/veritree/calibration/EffectiveSampleSize", "autocovariance", "([DI)D"⟩ : MethodName) (head1 (Jvm.Cond.code (⟨"com/example/veritree/veritree/calibration/EffectiveSampleSize", "autocovariance", "([DI)D"⟩ : MethodName) prog_1_method_4_code 5 (some .double) :: ws) ({ frames := 0, cells := 0, slots := 0, locals := 0 } : Room)) (fun as_ U => as_ = #[.ref a, .int (1 : Int32)] ∧ Z.Warmed39 U.vm ∧ U.heap = h0) (fun _ _ _ _ _ => True) (fun _ U o U' => own_Fin U ({ frames := 0, cells := 0, slots := 0, locals := 0 } : Room).cells ({ frames := 0, cells := 0, slots := 0, locals := 0 } : Room).slots (fun v h L => ∃ r, v = some (.double r) ∧ own_D 6 KK r ∧ Fr n0 L ∧ h = h0) o U') := by
  refine own_body (plainFor_of_name pn3) (ls0 := [.val (.ref a), .val (.int (1 : Int32)), .unset, .unset, .unset]) (fun m => by first | (simp [entryFrame, mkF, argsToLocals, Value.category, maxLocals]; done) | rfl) ?_
  intro p e s m below meth c T0 hx hby hml hown hnm hlk hret hZ X0 e0
  have hK : own_ks "com/example/veritree/veritree/calibration/EffectiveSampleSize" a0 Z kt3 := ⟨hw _ (List.mem_of_getElem? (i := 11) rfl), hw _ (List.mem_of_getElem? (i := 12) rfl), hw _ (List.mem_of_getElem? (i := 16) rfl), trivial⟩
  have hF : own_fs "com/example/veritree/veritree/calibration/EffectiveSampleSize" a0 Z ft3 := trivial
  have N0 := Fr.nil n0
  have pb0 := own_pb b0.1 b0.2 b1.1 b1.2
  have m0 : own_D 6 (u0 * u1) _ := D0.mul (by omega) D1 (by rw [show (8 * u0) * (8 * u1) = 64 * (u0 * u1) by rw [Int.mul_assoc, Int.mul_left_comm u0 8 u1, ← Int.mul_assoc]; rfl]; omega) (by omega)
  have s1 := own_z6.add (by omega) m0 (by omega)
  have pb1 := own_pb b1.1 b1.2 b2.1 b2.2
  have m1 : own_D 6 (u1 * u2) _ := D1.mul (by omega) D2 (by rw [show (8 * u1) * (8 * u2) = 64 * (u1 * u2) by rw [Int.mul_assoc, Int.mul_left_comm u1 8 u2, ← Int.mul_assoc]; rfl]; omega) (by omega)
  have s2 := s1.add (by omega) m1 (by omega)
  have pb2 := own_pb b2.1 b2.2 b3.1 b3.2
  have m2 : own_D 6 (u2 * u3) _ := D2.mul (by omega) D3 (by rw [show (8 * u2) * (8 * u3) = 64 * (u2 * u3) by rw [Int.mul_assoc, Int.mul_left_comm u2 8 u3, ← Int.mul_assoc]; rfl]; omega) (by omega)
  have s3 := s2.add (by omega) m2 (by omega)
  have fin : own_D 6 KK _ := s3.div (by omega) own_4g (by omega) (by omega) (by omega)
  refine own_blk dec3 seq3 hby hx hZ hown hK hF 12 [false] [.int (4 : Int32)] X0 e0 ?_
  show (own_ln Z h0 a (4 : Int32)) ∧ (¬ (((4 : Int32)).toInt ≤ ((1 : Int32)).toInt)) ∧ own_Aft X0 h0 _ 16 [.val (.ref a), .val (.int (1 : Int32)), .val (.double 0), .second, .val (.int (0 : Int32))] [.ref a, .double 0]
  refine ⟨A0.ln (4 : Int32) rfl, by decide, fun T1 X1 eh1 => ?_⟩
  refine own_blk dec3 seq3 hby hx hZ hown hK hF 12 [] [.double v0, .double v1] X1 eh1 ?_
  show (own_at Z h0 a .double (0 : Int32) (.double v0)) ∧ (own_at Z h0 a .double (1 : Int32) (.double v1)) ∧ (Jvm.Free.Fl.NoNaN64 (FP.dmul v0 v1)) ∧ (Jvm.Free.Fl.NoNaN64 (FP.dadd 0 (FP.dmul v0 v1))) ∧ own_Aft X1 h0 _ 5 [.val (.ref a), .val (.int (1 : Int32)), .val (.double (FP.dadd 0 (FP.dmul v0 v1))), .second, .val (.int (1 : Int32))] []
  refine ⟨A0.at (0 : Int32) 0 rfl rfl, A0.at (1 : Int32) 1 rfl rfl, own_nn m0.num, own_nn s1.num, fun T2 X2 eh2 => ?_⟩
  refine own_blk dec3 seq3 hby hx hZ hown hK hF 12 [false] [.int (4 : Int32), .double v1] X2 eh2 ?_
  show (own_ln Z h0 a (4 : Int32)) ∧ (¬ (((4 : Int32)).toInt ≤ ((2 : Int32)).toInt)) ∧ (own_at Z h0 a .double (1 : Int32) (.double v1)) ∧ own_Aft X2 h0 _ 22 [.val (.ref a), .val (.int (1 : Int32)), .val (.double (FP.dadd 0 (FP.dmul v0 v1))), .second, .val (.int (1 : Int32))] [.int (1 : Int32), .ref a, .double v1, .double (FP.dadd 0 (FP.dmul v0 v1))]
  refine ⟨A0.ln (4 : Int32) rfl, by decide, A0.at (1 : Int32) 1 rfl rfl, fun T3 X3 eh3 => ?_⟩
  refine own_blk dec3 seq3 hby hx hZ hown hK hF 12 [] [.double v2] X3 eh3 ?_
  show (own_at Z h0 a .double (2 : Int32) (.double v2)) ∧ (Jvm.Free.Fl.NoNaN64 (FP.dmul v1 v2)) ∧ (Jvm.Free.Fl.NoNaN64 (FP.dadd (FP.dadd 0 (FP.dmul v0 v1)) (FP.dmul v1 v2))) ∧ own_Aft X3 h0 _ 10 [.val (.ref a), .val (.int (1 : Int32)), .val (.double (FP.dadd (FP.dadd 0 (FP.dmul v0 v1)) (FP.dmul v1 v2))), .second, .val (.int (2 : Int32))] [.ref a, .int (3 : Int32)]
  refine ⟨A0.at (2 : Int32) 2 rfl rfl, own_nn m1.num, own_nn s2.num, fun T4 X4 eh4 => ?_⟩
  refine own_blk dec3 seq3 hby hx hZ hown hK hF 12 [false] [.int (4 : Int32), .double v2, .double v3] X4 eh4 ?_
  show (own_ln Z h0 a (4 : Int32)) ∧ (¬ (((4 : Int32)).toInt ≤ ((3 : Int32)).toInt)) ∧ (own_at Z h0 a .double (2 : Int32) (.double v2)) ∧ (own_at Z h0 a .double (3 : Int32) (.double v3)) ∧ (Jvm.Free.Fl.NoNaN64 (FP.dmul v2 v3)) ∧ own_Aft X4 h0 _ 26 [.val (.ref a), .val (.int (1 : Int32)), .val (.double (FP.dadd (FP.dadd 0 (FP.dmul v0 v1)) (FP.dmul v1 v2))), .second, .val (.int (2 : Int32))] [.double (FP.dmul v2 v3), .double (FP.dadd (FP.dadd 0 (FP.dmul v0 v1)) (FP.dmul v1 v2))]
  refine ⟨A0.ln (4 : Int32) rfl, by decide, A0.at (2 : Int32) 2 rfl rfl, A0.at (3 : Int32) 3 rfl rfl, own_nn m2.num, fun T5 X5 eh5 => ?_⟩
  refine own_blk dec3 seq3 hby hx hZ hown hK hF 12 [true] [.int (4 : Int32)] X5 eh5 ?_
  show (Jvm.Free.Fl.NoNaN64 (FP.dadd (FP.dadd (FP.dadd 0 (FP.dmul v0 v1)) (FP.dmul v1 v2)) (FP.dmul v2 v3))) ∧ (own_ln Z h0 a (4 : Int32)) ∧ (((4 : Int32)).toInt ≤ ((4 : Int32)).toInt) ∧ own_Aft X5 h0 _ 36 [.val (.ref a), .val (.int (1 : Int32)), .val (.double (FP.dadd (FP.dadd (FP.dadd 0 (FP.dmul v0 v1)) (FP.dmul v1 v2)) (FP.dmul v2 v3))), .second, .val (.int (3 : Int32))] [.ref a, .double (FP.dadd (FP.dadd (FP.dadd 0 (FP.dmul v0 v1)) (FP.dmul v1 v2)) (FP.dmul v2 v3))]
  refine ⟨own_nn s3.num, A0.ln (4 : Int32) rfl, by decide, fun T6 X6 eh6 => ?_⟩
  refine own_blk dec3 seq3 hby hx hZ hown hK hF 3 [] [.int (4 : Int32)] X6 eh6 ?_
  show (own_ln Z h0 a (4 : Int32)) ∧ (Jvm.Free.Fl.NoNaN64 (FP.ddiv (FP.dadd (FP.dadd (FP.dadd 0 (FP.dmul v0 v1)) (FP.dmul v1 v2)) (FP.dmul v2 v3)) (FP.i2d (4 : Int32)))) ∧ own_Aft X6 h0 _ 39 [.val (.ref a), .val (.int (1 : Int32)), .val (.double (FP.dadd (FP.dadd (FP.dadd 0 (FP.dmul v0 v1)) (FP.dmul v1 v2)) (FP.dmul v2 v3))), .second, .val (.int (3 : Int32))] [.double (FP.ddiv (FP.dadd (FP.dadd (FP.dadd 0 (FP.dmul v0 v1)) (FP.dmul v1 v2)) (FP.dmul v2 v3)) (FP.i2d (4 : Int32)))]
  refine ⟨A0.ln (4 : Int32) rfl, own_nn fin.num, fun T7 X7 eh7 => ?_⟩
  exact own_ret X7 hx hlk eh7 hret (by first | rfl | decide) (Or.inr (Or.inr (Or.inl ⟨rfl, rfl, _, rfl⟩))) (hb hby d3_39) (by decide) (by decide) (⟨_, rfl, fin, N0, rfl⟩)
set_option maxRecDepth 65536 in
set_option maxHeartbeats 40000000 in
theorem rm3_4_2 (l : Launch) (Z : State) (a0 : Array Value) (hw : ∀ d ∈ tables_1, d.before a0 Z = true) (ws : List Jvm.Cond) (a : Addr) (v0 v1 v2 v3 : UInt64) (u0 u1 u2 u3 KK : Int) (h0 : Heap) (n0 : Nat) (Z0 : n0 ≤ h0.size) (A0 : own_A Z h0 a .double [.double v0, .double v1, .double v2, .double v3]) (D0 : own_D 6 (8 * u0) v0) (b0 : -20000 ≤ u0 ∧ u0 ≤ 20000) (D1 : own_D 6 (8 * u1) v1) (b1 : -20000 ≤ u1 ∧ u1 ≤ 20000) (D2 : own_D 6 (8 * u2) v2) (b2 : -20000 ≤ u2 ∧ u2 ≤ 20000) (D3 : own_D 6 (8 * u3) v3) (b3 : -20000 ≤ u3 ∧ u3 ≤ 20000) (hKK : KK * 4 = 0 + u0 * u2 + u1 * u3) :
    MetFree l (⟨"com/example/veritree/veritree/calibration/EffectiveSampleSize", "autocovariance", "([DI)D"⟩ : MethodName) (head1 (Jvm.Cond.code (⟨"com/example/veritree/veritree/calibration/EffectiveSampleSize", "autocovariance", "([DI)D"⟩ : MethodName) prog_1_method_4_code 5 (some .double) :: ws) ({ frames := 0, cells := 0, slots := 0, locals := 0 } : Room)) (fun as_ U => as_ = #[.ref a, .int (2 : Int32)] ∧ Z.Warmed39 U.vm ∧ U.heap = h0) (fun _ _ _ _ _ => True) (fun _ U o U' => own_Fin U ({ frames := 0, cells := 0, slots := 0, locals := 0 } : Room).cells ({ frames := 0, cells := 0, slots := 0, locals := 0 } : Room).slots (fun v h L => ∃ r, v = some (.double r) ∧ own_D 6 KK r ∧ Fr n0 L ∧ h = h0) o U') := by
  refine own_body (plainFor_of_name pn3) (ls0 := [.val (.ref a), .val (.int (2 : Int32)), .unset, .unset, .unset]) (fun m => by first | (simp [entryFrame, mkF, argsToLocals, Value.category, maxLocals]; done) | rfl) ?_
  intro p e s m below meth c T0 hx hby hml hown hnm hlk hret hZ X0 e0
  have hK : own_ks "com/example/veritree/veritree/calibration/EffectiveSampleSize" a0 Z kt3 := ⟨hw _ (List.mem_of_getElem? (i := 11) rfl), hw _ (List.mem_of_getElem? (i := 12) rfl), hw _ (List.mem_of_getElem? (i := 16) rfl), trivial⟩
  have hF : own_fs "com/example/veritree/veritree/calibration/EffectiveSampleSize" a0 Z ft3 := trivial
  have N0 := Fr.nil n0
  have pb0 := own_pb b0.1 b0.2 b2.1 b2.2
  have m0 : own_D 6 (u0 * u2) _ := D0.mul (by omega) D2 (by rw [show (8 * u0) * (8 * u2) = 64 * (u0 * u2) by rw [Int.mul_assoc, Int.mul_left_comm u0 8 u2, ← Int.mul_assoc]; rfl]; omega) (by omega)
  have s1 := own_z6.add (by omega) m0 (by omega)
  have pb1 := own_pb b1.1 b1.2 b3.1 b3.2
  have m1 : own_D 6 (u1 * u3) _ := D1.mul (by omega) D3 (by rw [show (8 * u1) * (8 * u3) = 64 * (u1 * u3) by rw [Int.mul_assoc, Int.mul_left_comm u1 8 u3, ← Int.mul_assoc]; rfl]; omega) (by omega)
  have s2 := s1.add (by omega) m1 (by omega)
  have fin : own_D 6 KK _ := s2.div (by omega) own_4g (by omega) (by omega) (by omega)
  refine own_blk dec3 seq3 hby hx hZ hown hK hF 12 [false] [.int (4 : Int32)] X0 e0 ?_
  show (own_ln Z h0 a (4 : Int32)) ∧ (¬ (((4 : Int32)).toInt ≤ ((2 : Int32)).toInt)) ∧ own_Aft X0 h0 _ 16 [.val (.ref a), .val (.int (2 : Int32)), .val (.double 0), .second, .val (.int (0 : Int32))] [.ref a, .double 0]
  refine ⟨A0.ln (4 : Int32) rfl, by decide, fun T1 X1 eh1 => ?_⟩
  refine own_blk dec3 seq3 hby hx hZ hown hK hF 12 [] [.double v0, .double v2] X1 eh1 ?_
  show (own_at Z h0 a .double (0 : Int32) (.double v0)) ∧ (own_at Z h0 a .double (2 : Int32) (.double v2)) ∧ (Jvm.Free.Fl.NoNaN64 (FP.dmul v0 v2)) ∧ (Jvm.Free.Fl.NoNaN64 (FP.dadd 0 (FP.dmul v0 v2))) ∧ own_Aft X1 h0 _ 5 [.val (.ref a), .val (.int (2 : Int32)), .val (.double (FP.dadd 0 (FP.dmul v0 v2))), .second, .val (.int (1 : Int32))] []
  refine ⟨A0.at (0 : Int32) 0 rfl rfl, A0.at (2 : Int32) 2 rfl rfl, own_nn m0.num, own_nn s1.num, fun T2 X2 eh2 => ?_⟩
  refine own_blk dec3 seq3 hby hx hZ hown hK hF 12 [false] [.int (4 : Int32), .double v1] X2 eh2 ?_
  show (own_ln Z h0 a (4 : Int32)) ∧ (¬ (((4 : Int32)).toInt ≤ ((3 : Int32)).toInt)) ∧ (own_at Z h0 a .double (1 : Int32) (.double v1)) ∧ own_Aft X2 h0 _ 22 [.val (.ref a), .val (.int (2 : Int32)), .val (.double (FP.dadd 0 (FP.dmul v0 v2))), .second, .val (.int (1 : Int32))] [.int (1 : Int32), .ref a, .double v1, .double (FP.dadd 0 (FP.dmul v0 v2))]
  refine ⟨A0.ln (4 : Int32) rfl, by decide, A0.at (1 : Int32) 1 rfl rfl, fun T3 X3 eh3 => ?_⟩
  refine own_blk dec3 seq3 hby hx hZ hown hK hF 12 [] [.double v3] X3 eh3 ?_
  show (own_at Z h0 a .double (3 : Int32) (.double v3)) ∧ (Jvm.Free.Fl.NoNaN64 (FP.dmul v1 v3)) ∧ (Jvm.Free.Fl.NoNaN64 (FP.dadd (FP.dadd 0 (FP.dmul v0 v2)) (FP.dmul v1 v3))) ∧ own_Aft X3 h0 _ 10 [.val (.ref a), .val (.int (2 : Int32)), .val (.double (FP.dadd (FP.dadd 0 (FP.dmul v0 v2)) (FP.dmul v1 v3))), .second, .val (.int (2 : Int32))] [.ref a, .int (4 : Int32)]
  refine ⟨A0.at (3 : Int32) 3 rfl rfl, own_nn m1.num, own_nn s2.num, fun T4 X4 eh4 => ?_⟩
  refine own_blk dec3 seq3 hby hx hZ hown hK hF 7 [true] [.int (4 : Int32), .int (4 : Int32)] X4 eh4 ?_
  show (own_ln Z h0 a (4 : Int32)) ∧ (((4 : Int32)).toInt ≤ ((4 : Int32)).toInt) ∧ (own_ln Z h0 a (4 : Int32)) ∧ (Jvm.Free.Fl.NoNaN64 (FP.ddiv (FP.dadd (FP.dadd 0 (FP.dmul v0 v2)) (FP.dmul v1 v3)) (FP.i2d (4 : Int32)))) ∧ own_Aft X4 h0 _ 39 [.val (.ref a), .val (.int (2 : Int32)), .val (.double (FP.dadd (FP.dadd 0 (FP.dmul v0 v2)) (FP.dmul v1 v3))), .second, .val (.int (2 : Int32))] [.double (FP.ddiv (FP.dadd (FP.dadd 0 (FP.dmul v0 v2)) (FP.dmul v1 v3)) (FP.i2d (4 : Int32)))]
  refine ⟨A0.ln (4 : Int32) rfl, by decide, A0.ln (4 : Int32) rfl, own_nn fin.num, fun T5 X5 eh5 => ?_⟩
  exact own_ret X5 hx hlk eh5 hret (by first | rfl | decide) (Or.inr (Or.inr (Or.inl ⟨rfl, rfl, _, rfl⟩))) (hb hby d3_39) (by decide) (by decide) (⟨_, rfl, fin, N0, rfl⟩)
set_option maxRecDepth 65536 in
set_option maxHeartbeats 40000000 in
theorem rm3_4_3 (l : Launch) (Z : State) (a0 : Array Value) (hw : ∀ d ∈ tables_1, d.before a0 Z = true) (ws : List Jvm.Cond) (a : Addr) (v0 v1 v2 v3 : UInt64) (u0 u1 u2 u3 KK : Int) (h0 : Heap) (n0 : Nat) (Z0 : n0 ≤ h0.size) (A0 : own_A Z h0 a .double [.double v0, .double v1, .double v2, .double v3]) (D0 : own_D 6 (8 * u0) v0) (b0 : -20000 ≤ u0 ∧ u0 ≤ 20000) (D1 : own_D 6 (8 * u1) v1) (b1 : -20000 ≤ u1 ∧ u1 ≤ 20000) (D2 : own_D 6 (8 * u2) v2) (b2 : -20000 ≤ u2 ∧ u2 ≤ 20000) (D3 : own_D 6 (8 * u3) v3) (b3 : -20000 ≤ u3 ∧ u3 ≤ 20000) (hKK : KK * 4 = 0 + u0 * u3) :
    MetFree l (⟨"com/example/veritree/veritree/calibration/EffectiveSampleSize", "autocovariance", "([DI)D"⟩ : MethodName) (head1 (Jvm.Cond.code (⟨"com/example/veritree/veritree/calibration/EffectiveSampleSize", "autocovariance", "([DI)D"⟩ : MethodName) prog_1_method_4_code 5 (some .double) :: ws) ({ frames := 0, cells := 0, slots := 0, locals := 0 } : Room)) (fun as_ U => as_ = #[.ref a, .int (3 : Int32)] ∧ Z.Warmed39 U.vm ∧ U.heap = h0) (fun _ _ _ _ _ => True) (fun _ U o U' => own_Fin U ({ frames := 0, cells := 0, slots := 0, locals := 0 } : Room).cells ({ frames := 0, cells := 0, slots := 0, locals := 0 } : Room).slots (fun v h L => ∃ r, v = some (.double r) ∧ own_D 6 KK r ∧ Fr n0 L ∧ h = h0) o U') := by
  refine own_body (plainFor_of_name pn3) (ls0 := [.val (.ref a), .val (.int (3 : Int32)), .unset, .unset, .unset]) (fun m => by first | (simp [entryFrame, mkF, argsToLocals, Value.category, maxLocals]; done) | rfl) ?_
  intro p e s m below meth c T0 hx hby hml hown hnm hlk hret hZ X0 e0
  have hK : own_ks "com/example/veritree/veritree/calibration/EffectiveSampleSize" a0 Z kt3 := ⟨hw _ (List.mem_of_getElem? (i := 11) rfl), hw _ (List.mem_of_getElem? (i := 12) rfl), hw _ (List.mem_of_getElem? (i := 16) rfl), trivial⟩
  have hF : own_fs "com/example/veritree/veritree/calibration/EffectiveSampleSize" a0 Z ft3 := trivial
  have N0 := Fr.nil n0
  have pb0 := own_pb b0.1 b0.2 b3.1 b3.2
  have m0 : own_D 6 (u0 * u3) _ := D0.mul (by omega) D3 (by rw [show (8 * u0) * (8 * u3) = 64 * (u0 * u3) by rw [Int.mul_assoc, Int.mul_left_comm u0 8 u3, ← Int.mul_assoc]; rfl]; omega) (by omega)
  have s1 := own_z6.add (by omega) m0 (by omega)
  have fin : own_D 6 KK _ := s1.div (by omega) own_4g (by omega) (by omega) (by omega)
  refine own_blk dec3 seq3 hby hx hZ hown hK hF 12 [false] [.int (4 : Int32)] X0 e0 ?_
  show (own_ln Z h0 a (4 : Int32)) ∧ (¬ (((4 : Int32)).toInt ≤ ((3 : Int32)).toInt)) ∧ own_Aft X0 h0 _ 16 [.val (.ref a), .val (.int (3 : Int32)), .val (.double 0), .second, .val (.int (0 : Int32))] [.ref a, .double 0]
  refine ⟨A0.ln (4 : Int32) rfl, by decide, fun T1 X1 eh1 => ?_⟩
  refine own_blk dec3 seq3 hby hx hZ hown hK hF 12 [] [.double v0, .double v3] X1 eh1 ?_
  show (own_at Z h0 a .double (0 : Int32) (.double v0)) ∧ (own_at Z h0 a .double (3 : Int32) (.double v3)) ∧ (Jvm.Free.Fl.NoNaN64 (FP.dmul v0 v3)) ∧ (Jvm.Free.Fl.NoNaN64 (FP.dadd 0 (FP.dmul v0 v3))) ∧ own_Aft X1 h0 _ 5 [.val (.ref a), .val (.int (3 : Int32)), .val (.double (FP.dadd 0 (FP.dmul v0 v3))), .second, .val (.int (1 : Int32))] []
  refine ⟨A0.at (0 : Int32) 0 rfl rfl, A0.at (3 : Int32) 3 rfl rfl, own_nn m0.num, own_nn s1.num, fun T2 X2 eh2 => ?_⟩
  refine own_blk dec3 seq3 hby hx hZ hown hK hF 11 [true] [.int (4 : Int32), .int (4 : Int32)] X2 eh2 ?_
  show (own_ln Z h0 a (4 : Int32)) ∧ (((4 : Int32)).toInt ≤ ((4 : Int32)).toInt) ∧ (own_ln Z h0 a (4 : Int32)) ∧ (Jvm.Free.Fl.NoNaN64 (FP.ddiv (FP.dadd 0 (FP.dmul v0 v3)) (FP.i2d (4 : Int32)))) ∧ own_Aft X2 h0 _ 39 [.val (.ref a), .val (.int (3 : Int32)), .val (.double (FP.dadd 0 (FP.dmul v0 v3))), .second, .val (.int (1 : Int32))] [.double (FP.ddiv (FP.dadd 0 (FP.dmul v0 v3)) (FP.i2d (4 : Int32)))]
  refine ⟨A0.ln (4 : Int32) rfl, by decide, A0.ln (4 : Int32) rfl, own_nn fin.num, fun T3 X3 eh3 => ?_⟩
  exact own_ret X3 hx hlk eh3 hret (by first | rfl | decide) (Or.inr (Or.inr (Or.inl ⟨rfl, rfl, _, rfl⟩))) (hb hby d3_39) (by decide) (by decide) (⟨_, rfl, fin, N0, rfl⟩)
set_option maxRecDepth 65536 in
set_option maxHeartbeats 40000000 in
theorem rm1_0e (l : Launch) (Z : State) (a0 : Array Value) (hw : ∀ d ∈ tables_1, d.before a0 Z = true) (ws : List Jvm.Cond) (da : Addr) (h0 : Heap) (n0 : Nat) (Z0 : n0 ≤ h0.size) (na : n0 ≤ da) (A0 : own_A Z h0 da .double []) :
    MetFree l (⟨"com/example/veritree/veritree/calibration/EffectiveSampleSize", "of", "([D)D"⟩ : MethodName) (head1 (Jvm.Cond.code (⟨"com/example/veritree/veritree/calibration/EffectiveSampleSize", "of", "([D)D"⟩ : MethodName) prog_1_method_2_code 13 (some .double) :: ws) ({ frames := 1, cells := 0, slots := 0, locals := 24 } : Room)) (fun as_ U => as_ = #[.ref da] ∧ Z.Warmed39 U.vm ∧ U.heap = h0) (fun _ _ _ _ _ => True) (fun _ U o U' => own_Fin U ({ frames := 1, cells := 0, slots := 0, locals := 24 } : Room).cells ({ frames := 1, cells := 0, slots := 0, locals := 24 } : Room).slots (fun v h L => v = some (.double 0) ∧ Fr n0 L ∧ h = h0) o U') := by
  refine own_body (plainFor_of_name pn1) (ls0 := [.val (.ref da), .unset, .unset, .unset, .unset, .unset, .unset, .unset, .unset, .unset, .unset, .unset, .unset]) (fun m => by first | (simp [entryFrame, mkF, argsToLocals, Value.category, maxLocals]; done) | rfl) ?_
  intro p e s m below meth c T0 hx hby hml hown hnm hlk hret hZ X0 e0
  have hK : own_ks "com/example/veritree/veritree/calibration/EffectiveSampleSize" a0 Z kt1 := ⟨hw _ (List.mem_of_getElem? (i := 11) rfl), hw _ (List.mem_of_getElem? (i := 12) rfl), hw _ (List.mem_of_getElem? (i := 16) rfl), trivial⟩
  have hF : own_fs "com/example/veritree/veritree/calibration/EffectiveSampleSize" a0 Z ft1 := trivial
  have N0 := Fr.nil n0
  refine own_blk dec1 seq1 hby hx hZ hown hK hF 1 [] [] X0 e0 ?_
  show own_Aft X0 h0 _ 1 [.val (.ref da), .unset, .unset, .unset, .unset, .unset, .unset, .unset, .unset, .unset, .unset, .unset, .unset] [.ref da]
  refine fun T1 X1 eh1 => ?_
  refine own_callS X1 hx hZ hown (hw _ (List.mem_of_getElem? (i := 5) rfl)) (hw _ (List.mem_of_getElem? (i := 6) rfl)) (hw _ (List.mem_of_getElem? (i := 3) rfl)) (hw _ (List.mem_of_getElem? (i := 7) rfl)) (by decide) eh1 [.ref da] pd2 rfl (rm := ({ frames := 0, cells := 0, slots := 0, locals := 0 } : Room)) (rm2_0 l Z a0 hw [] da  1 h0 n0 Z0 A0  rfl) (by rw [hml]; rfl) 0 rfl (Nat.le_of_eq rfl) (hb hby d1_1) (by decide) (by decide) (by decide) (by decide) (fun T2 rv2 Lc2 X2 qc2 => ?_)
  obtain ⟨rfl, Me, he⟩ := qc2
  show own_Go p.tables e below _ (T2.setTop (mkF m 4 (Array.mk [.val (.ref da), .unset, .unset, .unset, .unset, .unset, .unset, .unset, .unset, .unset, .unset, .unset, .unset]) [.int (1 : Int32)]))
  have N0 := Fr.app N0 Me
  refine own_blk dec1 seq1 hby hx hZ hown hK hF 2 [false] [] X2 he ?_
  show (¬ (((1 : Int32)).toInt = 0)) ∧ own_Aft X2 h0 _ 8 [.val (.ref da), .unset, .unset, .unset, .unset, .unset, .unset, .unset, .unset, .unset, .unset, .unset, .unset] [.double 0]
  refine ⟨by decide, fun T3 X3 eh3 => ?_⟩
  exact own_ret X3 hx hlk eh3 hret (by first | rfl | decide) (Or.inr (Or.inr (Or.inl ⟨rfl, rfl, _, rfl⟩))) (hb hby d1_8) (by decide) (by decide) (⟨rfl, N0, rfl⟩)
set_option maxRecDepth 65536 in
set_option maxHeartbeats 40000000 in
theorem rm1_1e (l : Launch) (Z : State) (a0 : Array Value) (hw : ∀ d ∈ tables_1, d.before a0 Z = true) (ws : List Jvm.Cond) (da : Addr) (x0 : UInt64) (Y0 : Int) (h0 : Heap) (n0 : Nat) (Z0 : n0 ≤ h0.size) (na : n0 ≤ da) (A0 : own_A Z h0 da .double [.double x0]) (D0 : own_D 6 (64 * Y0) x0) :
    MetFree l (⟨"com/example/veritree/veritree/calibration/EffectiveSampleSize", "of", "([D)D"⟩ : MethodName) (head1 (Jvm.Cond.code (⟨"com/example/veritree/veritree/calibration/EffectiveSampleSize", "of", "([D)D"⟩ : MethodName) prog_1_method_2_code 13 (some .double) :: ws) ({ frames := 1, cells := 0, slots := 0, locals := 24 } : Room)) (fun as_ U => as_ = #[.ref da] ∧ Z.Warmed39 U.vm ∧ U.heap = h0) (fun _ _ _ _ _ => True) (fun _ U o U' => own_Fin U ({ frames := 1, cells := 0, slots := 0, locals := 24 } : Room).cells ({ frames := 1, cells := 0, slots := 0, locals := 24 } : Room).slots (fun v h L => v = some (.double 0) ∧ Fr n0 L ∧ h = h0) o U') := by
  refine own_body (plainFor_of_name pn1) (ls0 := [.val (.ref da), .unset, .unset, .unset, .unset, .unset, .unset, .unset, .unset, .unset, .unset, .unset, .unset]) (fun m => by first | (simp [entryFrame, mkF, argsToLocals, Value.category, maxLocals]; done) | rfl) ?_
  intro p e s m below meth c T0 hx hby hml hown hnm hlk hret hZ X0 e0
  have hK : own_ks "com/example/veritree/veritree/calibration/EffectiveSampleSize" a0 Z kt1 := ⟨hw _ (List.mem_of_getElem? (i := 11) rfl), hw _ (List.mem_of_getElem? (i := 12) rfl), hw _ (List.mem_of_getElem? (i := 16) rfl), trivial⟩
  have hF : own_fs "com/example/veritree/veritree/calibration/EffectiveSampleSize" a0 Z ft1 := trivial
  have N0 := Fr.nil n0
  refine own_blk dec1 seq1 hby hx hZ hown hK hF 1 [] [] X0 e0 ?_
  show own_Aft X0 h0 _ 1 [.val (.ref da), .unset, .unset, .unset, .unset, .unset, .unset, .unset, .unset, .unset, .unset, .unset, .unset] [.ref da]
  refine fun T1 X1 eh1 => ?_
  refine own_callS X1 hx hZ hown (hw _ (List.mem_of_getElem? (i := 5) rfl)) (hw _ (List.mem_of_getElem? (i := 6) rfl)) (hw _ (List.mem_of_getElem? (i := 3) rfl)) (hw _ (List.mem_of_getElem? (i := 7) rfl)) (by decide) eh1 [.ref da] pd2 rfl (rm := ({ frames := 0, cells := 0, slots := 0, locals := 0 } : Room)) (rm2_1 l Z a0 hw [] da x0 Y0 1 h0 n0 Z0 A0 D0 rfl) (by rw [hml]; rfl) 0 rfl (Nat.le_of_eq rfl) (hb hby d1_1) (by decide) (by decide) (by decide) (by decide) (fun T2 rv2 Lc2 X2 qc2 => ?_)
  obtain ⟨rfl, Me, he⟩ := qc2
  show own_Go p.tables e below _ (T2.setTop (mkF m 4 (Array.mk [.val (.ref da), .unset, .unset, .unset, .unset, .unset, .unset, .unset, .unset, .unset, .unset, .unset, .unset]) [.int (1 : Int32)]))
  have N0 := Fr.app N0 Me
  refine own_blk dec1 seq1 hby hx hZ hown hK hF 2 [false] [] X2 he ?_
  show (¬ (((1 : Int32)).toInt = 0)) ∧ own_Aft X2 h0 _ 8 [.val (.ref da), .unset, .unset, .unset, .unset, .unset, .unset, .unset, .unset, .unset, .unset, .unset, .unset] [.double 0]
  refine ⟨by decide, fun T3 X3 eh3 => ?_⟩
  exact own_ret X3 hx hlk eh3 hret (by first | rfl | decide) (Or.inr (Or.inr (Or.inl ⟨rfl, rfl, _, rfl⟩))) (hb hby d1_8) (by decide) (by decide) (⟨rfl, N0, rfl⟩)
set_option maxRecDepth 65536 in
set_option maxHeartbeats 40000000 in
theorem rm1_2e (l : Launch) (Z : State) (a0 : Array Value) (hw : ∀ d ∈ tables_1, d.before a0 Z = true) (ws : List Jvm.Cond) (da : Addr) (x0 x1 : UInt64) (Y0 Y1 : Int) (h0 : Heap) (n0 : Nat) (Z0 : n0 ≤ h0.size) (na : n0 ≤ da) (A0 : own_A Z h0 da .double [.double x0, .double x1]) (D0 : own_D 6 (64 * Y0) x0) (D1 : own_D 6 (64 * Y1) x1) (q1 : Y1 = Y0) :
    MetFree l (⟨"com/example/veritree/veritree/calibration/EffectiveSampleSize", "of", "([D)D"⟩ : MethodName) (head1 (Jvm.Cond.code (⟨"com/example/veritree/veritree/calibration/EffectiveSampleSize", "of", "([D)D"⟩ : MethodName) prog_1_method_2_code 13 (some .double) :: ws) ({ frames := 1, cells := 0, slots := 0, locals := 24 } : Room)) (fun as_ U => as_ = #[.ref da] ∧ Z.Warmed39 U.vm ∧ U.heap = h0) (fun _ _ _ _ _ => True) (fun _ U o U' => own_Fin U ({ frames := 1, cells := 0, slots := 0, locals := 24 } : Room).cells ({ frames := 1, cells := 0, slots := 0, locals := 24 } : Room).slots (fun v h L => v = some (.double 0) ∧ Fr n0 L ∧ h = h0) o U') := by
  refine own_body (plainFor_of_name pn1) (ls0 := [.val (.ref da), .unset, .unset, .unset, .unset, .unset, .unset, .unset, .unset, .unset, .unset, .unset, .unset]) (fun m => by first | (simp [entryFrame, mkF, argsToLocals, Value.category, maxLocals]; done) | rfl) ?_
  intro p e s m below meth c T0 hx hby hml hown hnm hlk hret hZ X0 e0
  have hK : own_ks "com/example/veritree/veritree/calibration/EffectiveSampleSize" a0 Z kt1 := ⟨hw _ (List.mem_of_getElem? (i := 11) rfl), hw _ (List.mem_of_getElem? (i := 12) rfl), hw _ (List.mem_of_getElem? (i := 16) rfl), trivial⟩
  have hF : own_fs "com/example/veritree/veritree/calibration/EffectiveSampleSize" a0 Z ft1 := trivial
  have N0 := Fr.nil n0
  refine own_blk dec1 seq1 hby hx hZ hown hK hF 1 [] [] X0 e0 ?_
  show own_Aft X0 h0 _ 1 [.val (.ref da), .unset, .unset, .unset, .unset, .unset, .unset, .unset, .unset, .unset, .unset, .unset, .unset] [.ref da]
  refine fun T1 X1 eh1 => ?_
  refine own_callS X1 hx hZ hown (hw _ (List.mem_of_getElem? (i := 5) rfl)) (hw _ (List.mem_of_getElem? (i := 6) rfl)) (hw _ (List.mem_of_getElem? (i := 3) rfl)) (hw _ (List.mem_of_getElem? (i := 7) rfl)) (by decide) eh1 [.ref da] pd2 rfl (rm := ({ frames := 0, cells := 0, slots := 0, locals := 0 } : Room)) (rm2_2 l Z a0 hw [] da x0 x1 Y0 Y1 1 h0 n0 Z0 A0 D0 D1 (Or.inl ⟨q1, rfl⟩)) (by rw [hml]; rfl) 0 rfl (Nat.le_of_eq rfl) (hb hby d1_1) (by decide) (by decide) (by decide) (by decide) (fun T2 rv2 Lc2 X2 qc2 => ?_)
  obtain ⟨rfl, Me, he⟩ := qc2
  show own_Go p.tables e below _ (T2.setTop (mkF m 4 (Array.mk [.val (.ref da), .unset, .unset, .unset, .unset, .unset, .unset, .unset, .unset, .unset, .unset, .unset, .unset]) [.int (1 : Int32)]))
  have N0 := Fr.app N0 Me
  refine own_blk dec1 seq1 hby hx hZ hown hK hF 2 [false] [] X2 he ?_
  show (¬ (((1 : Int32)).toInt = 0)) ∧ own_Aft X2 h0 _ 8 [.val (.ref da), .unset, .unset, .unset, .unset, .unset, .unset, .unset, .unset, .unset, .unset, .unset, .unset] [.double 0]
  refine ⟨by decide, fun T3 X3 eh3 => ?_⟩
  exact own_ret X3 hx hlk eh3 hret (by first | rfl | decide) (Or.inr (Or.inr (Or.inl ⟨rfl, rfl, _, rfl⟩))) (hb hby d1_8) (by decide) (by decide) (⟨rfl, N0, rfl⟩)
set_option maxRecDepth 65536 in
set_option maxHeartbeats 40000000 in
theorem rm1_2n (l : Launch) (Z : State) (a0 : Array Value) (hw : ∀ d ∈ tables_1, d.before a0 Z = true) (ws : List Jvm.Cond) (da : Addr) (x0 x1 : UInt64) (Y0 Y1 : Int) (h0 : Heap) (n0 : Nat) (Z0 : n0 ≤ h0.size) (na : n0 ≤ da) (A0 : own_A Z h0 da .double [.double x0, .double x1]) (D0 : own_D 6 (64 * Y0) x0) (D1 : own_D 6 (64 * Y1) x1) (b0 : -1024 ≤ Y0 ∧ Y0 ≤ 1023) (b1 : -1024 ≤ Y1 ∧ Y1 ≤ 1023) (hne : ¬ Y1 = Y0) :
    MetFree l (⟨"com/example/veritree/veritree/calibration/EffectiveSampleSize", "of", "([D)D"⟩ : MethodName) (head1 (Jvm.Cond.code (⟨"com/example/veritree/veritree/calibration/EffectiveSampleSize", "of", "([D)D"⟩ : MethodName) prog_1_method_2_code 13 (some .double) :: ws) ({ frames := 1, cells := 1, slots := 2, locals := 24 } : Room)) (fun as_ U => as_ = #[.ref da] ∧ Z.Warmed39 U.vm ∧ U.heap = h0) (fun _ _ _ _ _ => True) (fun _ U o U' => own_Fin U ({ frames := 1, cells := 1, slots := 2, locals := 24 } : Room).cells ({ frames := 1, cells := 1, slots := 2, locals := 24 } : Room).slots (fun v h L => v = some (.double 9218868437227405312) ∧ Fr n0 L ∧ own_A Z h da .double [.double x0, .double x1]) o U') := by
  refine own_body (plainFor_of_name pn1) (ls0 := [.val (.ref da), .unset, .unset, .unset, .unset, .unset, .unset, .unset, .unset, .unset, .unset, .unset, .unset]) (fun m => by first | (simp [entryFrame, mkF, argsToLocals, Value.category, maxLocals]; done) | rfl) ?_
  intro p e s m below meth c T0 hx hby hml hown hnm hlk hret hZ X0 e0
  have hK : own_ks "com/example/veritree/veritree/calibration/EffectiveSampleSize" a0 Z kt1 := ⟨hw _ (List.mem_of_getElem? (i := 11) rfl), hw _ (List.mem_of_getElem? (i := 12) rfl), hw _ (List.mem_of_getElem? (i := 16) rfl), trivial⟩
  have hF : own_fs "com/example/veritree/veritree/calibration/EffectiveSampleSize" a0 Z ft1 := trivial
  have N0 := Fr.nil n0
  refine own_blk dec1 seq1 hby hx hZ hown hK hF 1 [] [] X0 e0 ?_
  show own_Aft X0 h0 _ 1 [.val (.ref da), .unset, .unset, .unset, .unset, .unset, .unset, .unset, .unset, .unset, .unset, .unset, .unset] [.ref da]
  refine fun T1 X1 eh1 => ?_
  refine own_callS X1 hx hZ hown (hw _ (List.mem_of_getElem? (i := 5) rfl)) (hw _ (List.mem_of_getElem? (i := 6) rfl)) (hw _ (List.mem_of_getElem? (i := 3) rfl)) (hw _ (List.mem_of_getElem? (i := 7) rfl)) (by decide) eh1 [.ref da] pd2 rfl (rm := ({ frames := 0, cells := 0, slots := 0, locals := 0 } : Room)) (rm2_2 l Z a0 hw [] da x0 x1 Y0 Y1 0 h0 n0 Z0 A0 D0 D1 (Or.inr ⟨hne, rfl⟩)) (by rw [hml]; rfl) 0 rfl (Nat.le_of_eq rfl) (hb hby d1_1) (by decide) (by decide) (by decide) (by decide) (fun T2 rv2 Lc2 X2 qc2 => ?_)
  obtain ⟨rfl, Me, he⟩ := qc2
  show own_Go p.tables e below _ (T2.setTop (mkF m 4 (Array.mk [.val (.ref da), .unset, .unset, .unset, .unset, .unset, .unset, .unset, .unset, .unset, .unset, .unset, .unset]) [.int (0 : Int32)]))
  have N0 := Fr.app N0 Me
  have s1 := own_z6.add (by omega) D0 (by omega)
  have s2 := s1.add (by omega) D1 (by omega)
  have mn : own_D 6 (32 * (Y0 + Y1)) _ := s2.div (by omega) own_2g (by omega) (by omega) (by omega)
  refine own_blk dec1 seq1 hby hx hZ hown hK hF 12 [true] [.int (2 : Int32)] X2 he ?_
  show (((0 : Int32)).toInt = 0) ∧ (own_ln Z h0 da (2 : Int32)) ∧ own_Aft X2 h0 _ 24 [.val (.ref da), .val (.double 0), .second, .val (.ref da), .val (.int (2 : Int32)), .val (.int (0 : Int32)), .unset, .unset, .unset, .unset, .unset, .unset, .unset] [.int (2 : Int32), .int (0 : Int32)]
  refine ⟨by decide, A0.ln (2 : Int32) rfl, fun T3 X3 eh3 => ?_⟩
  refine own_blk dec1 seq1 hby hx hZ hown hK hF 12 [false] [.double x0] X3 eh3 ?_
  show (¬ (((2 : Int32)).toInt ≤ ((0 : Int32)).toInt)) ∧ (own_at Z h0 da .double (0 : Int32) (.double x0)) ∧ (Jvm.Free.Fl.NoNaN64 (FP.dadd 0 x0)) ∧ own_Aft X3 h0 _ 22 [.val (.ref da), .val (.double (FP.dadd 0 x0)), .second, .val (.ref da), .val (.int (2 : Int32)), .val (.int (1 : Int32)), .val (.double x0), .second, .unset, .unset, .unset, .unset, .unset] [.int (1 : Int32)]
  refine ⟨by decide, A0.at (0 : Int32) 0 rfl rfl, own_nn s1.num, fun T4 X4 eh4 => ?_⟩
  refine own_blk dec1 seq1 hby hx hZ hown hK hF 12 [false] [.double x1] X4 eh4 ?_
  show (¬ (((2 : Int32)).toInt ≤ ((1 : Int32)).toInt)) ∧ (own_at Z h0 da .double (1 : Int32) (.double x1)) ∧ (Jvm.Free.Fl.NoNaN64 (FP.dadd (FP.dadd 0 x0) x1)) ∧ own_Aft X4 h0 _ 20 [.val (.ref da), .val (.double (FP.dadd (FP.dadd 0 x0) x1)), .second, .val (.ref da), .val (.int (2 : Int32)), .val (.int (2 : Int32)), .val (.double x1), .second, .unset, .unset, .unset, .unset, .unset] []
  refine ⟨by decide, A0.at (1 : Int32) 1 rfl rfl, own_nn s2.num, fun T5 X5 eh5 => ?_⟩
  refine own_blk dec1 seq1 hby hx hZ hown hK hF 11 [true] [.int (2 : Int32), .int (2 : Int32)] X5 eh5 ?_
  show (((2 : Int32)).toInt ≤ ((2 : Int32)).toInt) ∧ (own_ln Z h0 da (2 : Int32)) ∧ (Jvm.Free.Fl.NoNaN64 (FP.ddiv (FP.dadd (FP.dadd 0 x0) x1) (FP.i2d (2 : Int32)))) ∧ (own_ln Z h0 da (2 : Int32)) ∧ own_Aft X5 h0 _ 52 [.val (.ref da), .val (.double (FP.dadd (FP.dadd 0 x0) x1)), .second, .val (.double (FP.ddiv (FP.dadd (FP.dadd 0 x0) x1) (FP.i2d (2 : Int32)))), .second, .val (.int (2 : Int32)), .val (.double x1), .second, .unset, .unset, .unset, .unset, .unset] [.int (2 : Int32)]
  refine ⟨by decide, A0.ln (2 : Int32) rfl, own_nn mn.num, A0.ln (2 : Int32) rfl, fun T6 X6 eh6 => ?_⟩
  generalize FP.ddiv (FP.dadd (FP.dadd 0 x0) x1) (FP.i2d (2 : Int32)) = mean at mn ⊢
  generalize FP.dadd (FP.dadd 0 x0) x1 = tot
  show own_Go p.tables e below _ (T6.setTop (mkF m 52 (Array.mk [.val (.ref da), .val (.double tot), .second, .val (.double mean), .second, .val (.int (2 : Int32)), .val (.double x1), .second, .unset, .unset, .unset, .unset, .unset]) [.int (2 : Int32)]))
  refine own_newP X6 hx hZ (hw _ (List.mem_of_getElem? (i := 0) rfl)) eh6 2 rfl (cap := 2) (by decide) (by decide) (hb hby d1_52) (by decide) (by decide) (fun T7 hp7 ce ga7 X7 eh7 Ex7 Ar7 => ?_)
  have ne_da_ce : da ≠ ce := fun q => absurd A0.lt (by rw [q, ga7]; exact Nat.lt_irrefl _)
  have nw_ce : n0 ≤ ce := by rw [ga7]; exact Z0
  have A0_7 := A0.ext Ex7
  have Z_7 : n0 ≤ hp7.size := Nat.le_trans Z0 Ex7.1
  have Ar7' : own_A Z hp7 ce .double [.double 0, .double 0] := Ar7
  show own_Go p.tables e below _ (T7.setTop (mkF m 54 (Array.mk [.val (.ref da), .val (.double tot), .second, .val (.double mean), .second, .val (.int (2 : Int32)), .val (.double x1), .second, .unset, .unset, .unset, .unset, .unset]) [.ref ce]))
  have c0 : own_D 6 (8 * (8 * Y0 - 4 * (Y0 + Y1))) (FP.dsub x0 mean) := by have := D0.sub (by omega) mn (by omega); rwa [show 64 * Y0 - 32 * (Y0 + Y1) = 8 * (8 * Y0 - 4 * (Y0 + Y1)) by omega] at this
  refine own_blk dec1 seq1 hby hx hZ hown hK hF 12 [false] [.int (2 : Int32), .double x0] X7 eh7 ?_
  show (own_ln Z hp7 da (2 : Int32)) ∧ (¬ (((2 : Int32)).toInt ≤ ((0 : Int32)).toInt)) ∧ (own_at Z hp7 da .double (0 : Int32) (.double x0)) ∧ own_Aft X7 hp7 _ 74 [.val (.ref da), .val (.double tot), .second, .val (.double mean), .second, .val (.ref ce), .val (.int (0 : Int32)), .unset, .unset, .unset, .unset, .unset, .unset] [.double x0, .int (0 : Int32), .ref ce]
  refine ⟨A0_7.ln (2 : Int32) rfl, by decide, A0_7.at (0 : Int32) 0 rfl rfl, fun T8 X8 eh8 => ?_⟩
  refine own_blk dec1 seq1 hby hx hZ hown hK hF 2 [] [] X8 eh8 ?_
  show (Jvm.Free.Fl.NoNaN64 (FP.dsub x0 mean)) ∧ own_Aft X8 hp7 _ 76 [.val (.ref da), .val (.double tot), .second, .val (.double mean), .second, .val (.ref ce), .val (.int (0 : Int32)), .unset, .unset, .unset, .unset, .unset, .unset] [.double (FP.dsub x0 mean), .int (0 : Int32), .ref ce]
  refine ⟨own_nn c0.num, fun T9 X9 eh9 => ?_⟩
  refine own_sD X9 hx hZ eh9 Ar7' 0 rfl (by show 0 < 2; decide) (hb hby d1_76) (fun T10 hp10 X10 eh10 Wr10 Ar10 => ?_)
  have Ar10' : own_A Z hp10 ce .double [.double (FP.dsub x0 mean), .double 0] := Ar10
  have A0_10 := A0_7.other Wr10 ne_da_ce
  have Nf10 := Fr.snoc X10 N0 nw_ce
  have Z_10 : n0 ≤ hp10.size := by rw [Wr.size Wr10]; exact Z_7
  have c1 : own_D 6 (8 * (8 * Y1 - 4 * (Y0 + Y1))) (FP.dsub x1 mean) := by have := D1.sub (by omega) mn (by omega); rwa [show 64 * Y1 - 32 * (Y0 + Y1) = 8 * (8 * Y1 - 4 * (Y0 + Y1)) by omega] at this
  refine own_blk dec1 seq1 hby hx hZ hown hK hF 12 [false] [.int (2 : Int32), .double x1] X10 eh10 ?_
  show (own_ln Z hp10 da (2 : Int32)) ∧ (¬ (((2 : Int32)).toInt ≤ ((1 : Int32)).toInt)) ∧ (own_at Z hp10 da .double (1 : Int32) (.double x1)) ∧ own_Aft X10 hp10 _ 75 [.val (.ref da), .val (.double tot), .second, .val (.double mean), .second, .val (.ref ce), .val (.int (1 : Int32)), .unset, .unset, .unset, .unset, .unset, .unset] [.double mean, .double x1, .int (1 : Int32), .ref ce]
  refine ⟨A0_10.ln (2 : Int32) rfl, by decide, A0_10.at (1 : Int32) 1 rfl rfl, fun T11 X11 eh11 => ?_⟩
  refine own_blk dec1 seq1 hby hx hZ hown hK hF 1 [] [] X11 eh11 ?_
  show (Jvm.Free.Fl.NoNaN64 (FP.dsub x1 mean)) ∧ own_Aft X11 hp10 _ 76 [.val (.ref da), .val (.double tot), .second, .val (.double mean), .second, .val (.ref ce), .val (.int (1 : Int32)), .unset, .unset, .unset, .unset, .unset, .unset] [.double (FP.dsub x1 mean), .int (1 : Int32), .ref ce]
  refine ⟨own_nn c1.num, fun T12 X12 eh12 => ?_⟩
  refine own_sD X12 hx hZ eh12 Ar10' 1 rfl (by show 1 < 2; decide) (hb hby d1_76) (fun T13 hp13 X13 eh13 Wr13 Ar13 => ?_)
  have Ar13' : own_A Z hp13 ce .double [.double (FP.dsub x0 mean), .double (FP.dsub x1 mean)] := Ar13
  have A0_13 := A0_10.other Wr13 ne_da_ce
  have Nf13 := Fr.snoc X13 Nf10 nw_ce
  have Z_13 : n0 ≤ hp13.size := by rw [Wr.size Wr13]; exact Z_10
  refine own_blk dec1 seq1 hby hx hZ hown hK hF 8 [true] [.int (2 : Int32)] X13 eh13 ?_
  show (own_ln Z hp13 da (2 : Int32)) ∧ (((2 : Int32)).toInt ≤ ((2 : Int32)).toInt) ∧ own_Aft X13 hp13 _ 86 [.val (.ref da), .val (.double tot), .second, .val (.double mean), .second, .val (.ref ce), .val (.int (2 : Int32)), .unset, .unset, .unset, .unset, .unset, .unset] [.int (0 : Int32), .ref ce]
  refine ⟨A0_13.ln (2 : Int32) rfl, by decide, fun T14 X14 eh14 => ?_⟩
  obtain ⟨w0, hw0⟩ : ∃ z : Int, z = 8 * Y0 - 4 * (Y0 + Y1) := ⟨_, rfl⟩
  rw [← hw0] at c0
  have ub0 : -20000 ≤ w0 ∧ w0 ≤ 20000 := by omega
  obtain ⟨w1, hw1⟩ : ∃ z : Int, z = 8 * Y1 - 4 * (Y0 + Y1) := ⟨_, rfl⟩
  rw [← hw1] at c1
  have ub1 : -20000 ≤ w1 ∧ w1 ≤ 20000 := by omega
  obtain ⟨d, hd⟩ : ∃ z : Int, z = Y0 - Y1 := ⟨_, rfl⟩
  have e0_ : w0 = 4 * d := by omega
  have e1_ : w1 = -(4 * d) := by omega
  have pd : 0 < d * d := by rcases Int.lt_or_gt_of_ne (show d ≠ 0 by omega) with q | q; exact Int.mul_pos_of_neg_of_neg q q; exact Int.mul_pos q q
  have db : -2047 ≤ d ∧ d ≤ 2047 := by omega
  have pd2 := own_pb (a := d) (b := d) (by omega) (by omega) (by omega) (by omega)
  have sq : 4 * d * (4 * d) = 16 * (d * d) := by rw [Int.mul_assoc, Int.mul_left_comm d 4 d, ← Int.mul_assoc]; rfl
  have sqn : 4 * d * -(4 * d) = -(16 * (d * d)) := by rw [Int.mul_neg, sq]
  have sqm : -(4 * d) * -(4 * d) = 16 * (d * d) := by rw [Int.neg_mul_neg, sq]
  refine own_callS X14 hx hZ hown (hw _ (List.mem_of_getElem? (i := 8) rfl)) (hw _ (List.mem_of_getElem? (i := 9) rfl)) (hw _ (List.mem_of_getElem? (i := 3) rfl)) (hw _ (List.mem_of_getElem? (i := 10) rfl)) (by decide) eh14 [.ref ce, .int (0 : Int32)] pd3 rfl (rm := ({ frames := 0, cells := 0, slots := 0, locals := 0 } : Room)) (rm3_2_0 l Z a0 hw [] ce (FP.dsub x0 mean) (FP.dsub x1 mean) w0 w1 (16 * (d * d)) hp13 n0 Z_13 Ar13' c0 ub0 c1 ub1 (by rw [e0_, e1_, sq, sqm]; omega)) (by rw [hml]; rfl) 0 rfl (Nat.le_of_eq rfl) (hb hby d1_86) (by decide) (by decide) (by decide) (by decide) (fun T15 rv15 Lc15 X15 qc15 => ?_)
  obtain ⟨r0, rfl, dr0, Mr0, her0⟩ := qc15
  show own_Go p.tables e below _ (T15.setTop (mkF m 89 (Array.mk [.val (.ref da), .val (.double tot), .second, .val (.double mean), .second, .val (.ref ce), .val (.int (2 : Int32)), .unset, .unset, .unset, .unset, .unset, .unset]) [.double r0]))
  have Nf13_r0 := Fr.app Nf13 Mr0
  refine own_blk dec1 seq1 hby hx hZ hown hK hF 12 [false] [.int (2 : Int32)] X15 her0 ?_
  show (own_ln Z hp13 ce (2 : Int32)) ∧ (¬ (((2 : Int32)).toInt ≤ ((1 : Int32)).toInt)) ∧ own_Aft X15 hp13 _ 109 [.val (.ref da), .val (.double tot), .second, .val (.double mean), .second, .val (.ref ce), .val (.double r0), .second, .val (.double 0), .second, .val (.int (0 : Int32)), .unset, .unset] [.ref ce]
  refine ⟨Ar13'.ln (2 : Int32) rfl, by decide, fun T16 X16 eh16 => ?_⟩
  refine own_blk dec1 seq1 hby hx hZ hown hK hF 1 [] [] X16 eh16 ?_
  show own_Aft X16 hp13 _ 111 [.val (.ref da), .val (.double tot), .second, .val (.double mean), .second, .val (.ref ce), .val (.double r0), .second, .val (.double 0), .second, .val (.int (0 : Int32)), .unset, .unset] [.int (0 : Int32), .ref ce]
  refine fun T17 X17 eh17 => ?_
  refine own_callS X17 hx hZ hown (hw _ (List.mem_of_getElem? (i := 8) rfl)) (hw _ (List.mem_of_getElem? (i := 9) rfl)) (hw _ (List.mem_of_getElem? (i := 3) rfl)) (hw _ (List.mem_of_getElem? (i := 10) rfl)) (by decide) eh17 [.ref ce, .int (0 : Int32)] pd3 rfl (rm := ({ frames := 0, cells := 0, slots := 0, locals := 0 } : Room)) (rm3_2_0 l Z a0 hw [] ce (FP.dsub x0 mean) (FP.dsub x1 mean) w0 w1 (16 * (d * d)) hp13 n0 Z_13 Ar13' c0 ub0 c1 ub1 (by rw [e0_, e1_, sq, sqm]; omega)) (by rw [hml]; rfl) 0 rfl (Nat.le_of_eq rfl) (hb hby d1_111) (by decide) (by decide) (by decide) (by decide) (fun T18 rv18 Lc18 X18 qc18 => ?_)
  obtain ⟨r1, rfl, dr1, Mr1, her1⟩ := qc18
  show own_Go p.tables e below _ (T18.setTop (mkF m 114 (Array.mk [.val (.ref da), .val (.double tot), .second, .val (.double mean), .second, .val (.ref ce), .val (.double r0), .second, .val (.double 0), .second, .val (.int (0 : Int32)), .unset, .unset]) [.double r1]))
  have Nf13_r0_r1 := Fr.app Nf13_r0 Mr1
  refine own_blk dec1 seq1 hby hx hZ hown hK hF 4 [] [] X18 her1 ?_
  show own_Aft X18 hp13 _ 120 [.val (.ref da), .val (.double tot), .second, .val (.double mean), .second, .val (.ref ce), .val (.double r0), .second, .val (.double 0), .second, .val (.int (0 : Int32)), .unset, .unset] [.int (1 : Int32), .ref ce, .double r1]
  refine fun T19 X19 eh19 => ?_
  refine own_callS X19 hx hZ hown (hw _ (List.mem_of_getElem? (i := 8) rfl)) (hw _ (List.mem_of_getElem? (i := 9) rfl)) (hw _ (List.mem_of_getElem? (i := 3) rfl)) (hw _ (List.mem_of_getElem? (i := 10) rfl)) (by decide) eh19 [.ref ce, .int (1 : Int32)] pd3 rfl (rm := ({ frames := 0, cells := 0, slots := 0, locals := 0 } : Room)) (rm3_2_1 l Z a0 hw [] ce (FP.dsub x0 mean) (FP.dsub x1 mean) w0 w1 (-(8 * (d * d))) hp13 n0 Z_13 Ar13' c0 ub0 c1 ub1 (by rw [e0_, e1_, sqn]; omega)) (by rw [hml]; rfl) 2 rfl (Nat.le_of_eq rfl) (hb hby d1_120) (by decide) (by decide) (by decide) (by decide) (fun T20 rv20 Lc20 X20 qc20 => ?_)
  obtain ⟨r2, rfl, dr2, Mr2, her2⟩ := qc20
  show own_Go p.tables e below _ (T20.setTop (mkF m 123 (Array.mk [.val (.ref da), .val (.double tot), .second, .val (.double mean), .second, .val (.ref ce), .val (.double r0), .second, .val (.double 0), .second, .val (.int (0 : Int32)), .unset, .unset]) [.double r2, .double r1]))
  have Nf13_r0_r1_r2 := Fr.app Nf13_r0_r1 Mr2
  have sm := dr1.add (by omega) dr2 (by omega)
  have qd : own_D 6 32 _ := sm.div (by omega) dr0 (by omega) (by omega) (by omega)
  have t1 := own_z6.add (by omega) qd (by omega)
  have c2g : own_D 6 128 4611686018427387904 := own_i2d2 ▸ own_2g
  have t2 : own_D 6 64 _ := c2g.mul (by omega) t1 (by omega) (by omega)
  have m1g : own_D 6 (-64) 13830554455654793216 := own_m1.up 6 (by omega)
  have t3 := m1g.add (by omega) t2 (by omega)
  refine own_blk dec1 seq1 hby hx hZ hown hK hF 12 [true] [] X20 her2 ?_
  show (Jvm.Free.Fl.NoNaN64 (FP.dadd r1 r2)) ∧ (Jvm.Free.Fl.NoNaN64 (FP.ddiv (FP.dadd r1 r2) r0)) ∧ (0 < (cmpValue (FP.dcmp (FP.ddiv (FP.dadd r1 r2) r0) 0) .g).toInt) ∧ (Jvm.Free.Fl.NoNaN64 (FP.dadd 0 (FP.ddiv (FP.dadd r1 r2) r0))) ∧ own_Aft X20 hp13 _ 146 [.val (.ref da), .val (.double tot), .second, .val (.double mean), .second, .val (.ref ce), .val (.double r0), .second, .val (.double (FP.dadd 0 (FP.ddiv (FP.dadd r1 r2) r0))), .second, .val (.int (0 : Int32)), .val (.double (FP.ddiv (FP.dadd r1 r2) r0)), .second] []
  refine ⟨own_nn sm.num, own_nn qd.num, by rw [own_cv_gt (qd.gt own_z6 (by omega))]; omega, own_nn t1.num, fun T21 X21 eh21 => ?_⟩
  refine own_blk dec1 seq1 hby hx hZ hown hK hF 12 [true] [.int (2 : Int32)] X21 eh21 ?_
  show (own_ln Z hp13 ce (2 : Int32)) ∧ (((2 : Int32)).toInt ≤ ((3 : Int32)).toInt) ∧ (Jvm.Free.Fl.NoNaN64 (FP.dmul 4611686018427387904 (FP.dadd 0 (FP.ddiv (FP.dadd r1 r2) r0)))) ∧ own_Aft X21 hp13 _ 161 [.val (.ref da), .val (.double tot), .second, .val (.double mean), .second, .val (.ref ce), .val (.double r0), .second, .val (.double (FP.dadd 0 (FP.ddiv (FP.dadd r1 r2) r0))), .second, .val (.int (2 : Int32)), .val (.double (FP.ddiv (FP.dadd r1 r2) r0)), .second] [.double (FP.dmul 4611686018427387904 (FP.dadd 0 (FP.ddiv (FP.dadd r1 r2) r0))), .double 13830554455654793216]
  refine ⟨Ar13'.ln (2 : Int32) rfl, by decide, own_nn t2.num, fun T22 X22 eh22 => ?_⟩
  refine own_blk dec1 seq1 hby hx hZ hown hK hF 7 [true] [] X22 eh22 ?_
  show (Jvm.Free.Fl.NoNaN64 (FP.dadd 13830554455654793216 (FP.dmul 4611686018427387904 (FP.dadd 0 (FP.ddiv (FP.dadd r1 r2) r0))))) ∧ ((cmpValue (FP.dcmp (FP.dadd 13830554455654793216 (FP.dmul 4611686018427387904 (FP.dadd 0 (FP.ddiv (FP.dadd r1 r2) r0)))) 0) .l).toInt ≤ 0) ∧ own_Aft X22 hp13 _ 183 [.val (.ref da), .val (.double tot), .second, .val (.double mean), .second, .val (.ref ce), .val (.double r0), .second, .val (.double (FP.dadd 0 (FP.ddiv (FP.dadd r1 r2) r0))), .second, .val (.double (FP.dadd 13830554455654793216 (FP.dmul 4611686018427387904 (FP.dadd 0 (FP.ddiv (FP.dadd r1 r2) r0))))), .second, .unset] [.double 9218868437227405312]
  refine ⟨own_nn t3.num, by rw [own_cv_eq (t3.eq own_z6 (by omega))]; omega, fun T23 X23 eh23 => ?_⟩
  exact own_ret X23 hx hlk eh23 hret (by first | rfl | decide) (Or.inr (Or.inr (Or.inl ⟨rfl, rfl, _, rfl⟩))) (hb hby d1_183) (by decide) (by decide) (⟨rfl, Nf13_r0_r1_r2, A0_13⟩)
set_option maxRecDepth 65536 in
set_option maxHeartbeats 40000000 in
theorem rm1_4e (l : Launch) (Z : State) (a0 : Array Value) (hw : ∀ d ∈ tables_1, d.before a0 Z = true) (ws : List Jvm.Cond) (da : Addr) (x0 x1 x2 x3 : UInt64) (Y0 Y1 Y2 Y3 : Int) (h0 : Heap) (n0 : Nat) (Z0 : n0 ≤ h0.size) (na : n0 ≤ da) (A0 : own_A Z h0 da .double [.double x0, .double x1, .double x2, .double x3]) (D0 : own_D 6 (64 * Y0) x0) (D1 : own_D 6 (64 * Y1) x1) (D2 : own_D 6 (64 * Y2) x2) (D3 : own_D 6 (64 * Y3) x3) (q1 : Y1 = Y0) (q2 : Y2 = Y0) (q3 : Y3 = Y0) :
    MetFree l (⟨"com/example/veritree/veritree/calibration/EffectiveSampleSize", "of", "([D)D"⟩ : MethodName) (head1 (Jvm.Cond.code (⟨"com/example/veritree/veritree/calibration/EffectiveSampleSize", "of", "([D)D"⟩ : MethodName) prog_1_method_2_code 13 (some .double) :: ws) ({ frames := 1, cells := 0, slots := 0, locals := 24 } : Room)) (fun as_ U => as_ = #[.ref da] ∧ Z.Warmed39 U.vm ∧ U.heap = h0) (fun _ _ _ _ _ => True) (fun _ U o U' => own_Fin U ({ frames := 1, cells := 0, slots := 0, locals := 24 } : Room).cells ({ frames := 1, cells := 0, slots := 0, locals := 24 } : Room).slots (fun v h L => v = some (.double 0) ∧ Fr n0 L ∧ h = h0) o U') := by
  refine own_body (plainFor_of_name pn1) (ls0 := [.val (.ref da), .unset, .unset, .unset, .unset, .unset, .unset, .unset, .unset, .unset, .unset, .unset, .unset]) (fun m => by first | (simp [entryFrame, mkF, argsToLocals, Value.category, maxLocals]; done) | rfl) ?_
  intro p e s m below meth c T0 hx hby hml hown hnm hlk hret hZ X0 e0
  have hK : own_ks "com/example/veritree/veritree/calibration/EffectiveSampleSize" a0 Z kt1 := ⟨hw _ (List.mem_of_getElem? (i := 11) rfl), hw _ (List.mem_of_getElem? (i := 12) rfl), hw _ (List.mem_of_getElem? (i := 16) rfl), trivial⟩
  have hF : own_fs "com/example/veritree/veritree/calibration/EffectiveSampleSize" a0 Z ft1 := trivial
  have N0 := Fr.nil n0
  refine own_blk dec1 seq1 hby hx hZ hown hK hF 1 [] [] X0 e0 ?_
  show own_Aft X0 h0 _ 1 [.val (.ref da), .unset, .unset, .unset, .unset, .unset, .unset, .unset, .unset, .unset, .unset, .unset, .unset] [.ref da]
  refine fun T1 X1 eh1 => ?_
  refine own_callS X1 hx hZ hown (hw _ (List.mem_of_getElem? (i := 5) rfl)) (hw _ (List.mem_of_getElem? (i := 6) rfl)) (hw _ (List.mem_of_getElem? (i := 3) rfl)) (hw _ (List.mem_of_getElem? (i := 7) rfl)) (by decide) eh1 [.ref da] pd2 rfl (rm := ({ frames := 0, cells := 0, slots := 0, locals := 0 } : Room)) (rm2_4 l Z a0 hw [] da x0 x1 x2 x3 Y0 Y1 Y2 Y3 1 h0 n0 Z0 A0 D0 D1 D2 D3 (Or.inl ⟨q1, q2, q3, rfl⟩)) (by rw [hml]; rfl) 0 rfl (Nat.le_of_eq rfl) (hb hby d1_1) (by decide) (by decide) (by decide) (by decide) (fun T2 rv2 Lc2 X2 qc2 => ?_)
  obtain ⟨rfl, Me, he⟩ := qc2
  show own_Go p.tables e below _ (T2.setTop (mkF m 4 (Array.mk [.val (.ref da), .unset, .unset, .unset, .unset, .unset, .unset, .unset, .unset, .unset, .unset, .unset, .unset]) [.int (1 : Int32)]))
  have N0 := Fr.app N0 Me
  refine own_blk dec1 seq1 hby hx hZ hown hK hF 2 [false] [] X2 he ?_
  show (¬ (((1 : Int32)).toInt = 0)) ∧ own_Aft X2 h0 _ 8 [.val (.ref da), .unset, .unset, .unset, .unset, .unset, .unset, .unset, .unset, .unset, .unset, .unset, .unset] [.double 0]
  refine ⟨by decide, fun T3 X3 eh3 => ?_⟩
  exact own_ret X3 hx hlk eh3 hret (by first | rfl | decide) (Or.inr (Or.inr (Or.inl ⟨rfl, rfl, _, rfl⟩))) (hb hby d1_8) (by decide) (by decide) (⟨rfl, N0, rfl⟩)
set_option maxRecDepth 65536 in
set_option maxHeartbeats 40000000 in
theorem rm1_4n (l : Launch) (Z : State) (a0 : Array Value) (hw : ∀ d ∈ tables_1, d.before a0 Z = true) (ws : List Jvm.Cond) (da : Addr) (x0 x1 x2 x3 : UInt64) (Y0 Y1 Y2 Y3 : Int) (nu0 nu1 pp : Int32) (res : UInt64) (h0 : Heap) (n0 : Nat) (Z0 : n0 ≤ h0.size) (na : n0 ≤ da) (A0 : own_A Z h0 da .double [.double x0, .double x1, .double x2, .double x3]) (D0 : own_D 6 (64 * Y0) x0) (D1 : own_D 6 (64 * Y1) x1) (D2 : own_D 6 (64 * Y2) x2) (D3 : own_D 6 (64 * Y3) x3) (b0 : -1024 ≤ Y0 ∧ Y0 ≤ 1023) (b1 : -1024 ≤ Y1 ∧ Y1 ≤ 1023) (b2 : -1024 ≤ Y2 ∧ Y2 ≤ 1023) (b3 : -1024 ≤ Y3 ∧ Y3 ≤ 1023) (hne : ¬ (Y0 = Y1 ∧ Y1 = Y2 ∧ Y2 = Y3)) (hp : pp.toInt = (4 * Y0 - (Y0 + Y1 + Y2 + Y3)) * (4 * Y0 - (Y0 + Y1 + Y2 + Y3)) + (4 * Y1 - (Y0 + Y1 + Y2 + Y3)) * (4 * Y1 - (Y0 + Y1 + Y2 + Y3)) + (4 * Y2 - (Y0 + Y1 + Y2 + Y3)) * (4 * Y2 - (Y0 + Y1 + Y2 + Y3)) + (4 * Y3 - (Y0 + Y1 + Y2 + Y3)) * (4 * Y3 - (Y0 + Y1 + Y2 + Y3))) (h0_ : nu0.toInt = (4 * Y0 - (Y0 + Y1 + Y2 + Y3)) * (4 * Y0 - (Y0 + Y1 + Y2 + Y3)) + (4 * Y1 - (Y0 + Y1 + Y2 + Y3)) * (4 * Y1 - (Y0 + Y1 + Y2 + Y3)) + (4 * Y2 - (Y0 + Y1 + Y2 + Y3)) * (4 * Y2 - (Y0 + Y1 + Y2 + Y3)) + (4 * Y3 - (Y0 + Y1 + Y2 + Y3)) * (4 * Y3 - (Y0 + Y1 + Y2 + Y3)) + ((4 * Y0 - (Y0 + Y1 + Y2 + Y3)) * (4 * Y1 - (Y0 + Y1 + Y2 + Y3)) + (4 * Y1 - (Y0 + Y1 + Y2 + Y3)) * (4 * Y2 - (Y0 + Y1 + Y2 + Y3)) + (4 * Y2 - (Y0 + Y1 + Y2 + Y3)) * (4 * Y3 - (Y0 + Y1 + Y2 + Y3)))) (h1_ : nu1.toInt = (4 * Y0 - (Y0 + Y1 + Y2 + Y3)) * (4 * Y2 - (Y0 + Y1 + Y2 + Y3)) + (4 * Y1 - (Y0 + Y1 + Y2 + Y3)) * (4 * Y3 - (Y0 + Y1 + Y2 + Y3)) + ((4 * Y0 - (Y0 + Y1 + Y2 + Y3)) * (4 * Y3 - (Y0 + Y1 + Y2 + Y3)))) (hres : (nu0.toInt ≤ 0 ∧ res = 9218868437227405312) ∨ (0 < nu0.toInt ∧ nu1.toInt ≤ 0 ∧ ((0 < own_z (own_tau (FP.ddiv (FP.i2d nu0) (FP.i2d pp))) ∧ res = FP.ddiv 4616189618054758400 (own_tau (FP.ddiv (FP.i2d nu0) (FP.i2d pp)))) ∨ (own_z (own_tau (FP.ddiv (FP.i2d nu0) (FP.i2d pp))) ≤ 0 ∧ res = 9218868437227405312))) ∨ (0 < nu0.toInt ∧ 0 < nu1.toInt ∧ ((0 < own_z (own_tau (FP.dadd (FP.ddiv (FP.i2d nu0) (FP.i2d pp)) (FP.ddiv (FP.i2d nu1) (FP.i2d pp)))) ∧ res = FP.ddiv 4616189618054758400 (own_tau (FP.dadd (FP.ddiv (FP.i2d nu0) (FP.i2d pp)) (FP.ddiv (FP.i2d nu1) (FP.i2d pp))))) ∨ (own_z (own_tau (FP.dadd (FP.ddiv (FP.i2d nu0) (FP.i2d pp)) (FP.ddiv (FP.i2d nu1) (FP.i2d pp)))) ≤ 0 ∧ res = 9218868437227405312)))) :
    MetFree l (⟨"com/example/veritree/veritree/calibration/EffectiveSampleSize", "of", "([D)D"⟩ : MethodName) (head1 (Jvm.Cond.code (⟨"com/example/veritree/veritree/calibration/EffectiveSampleSize", "of", "([D)D"⟩ : MethodName) prog_1_method_2_code 13 (some .double) :: ws) ({ frames := 1, cells := 1, slots := 4, locals := 24 } : Room)) (fun as_ U => as_ = #[.ref da] ∧ Z.Warmed39 U.vm ∧ U.heap = h0) (fun _ _ _ _ _ => True) (fun _ U o U' => own_Fin U ({ frames := 1, cells := 1, slots := 4, locals := 24 } : Room).cells ({ frames := 1, cells := 1, slots := 4, locals := 24 } : Room).slots (fun v h L => v = some (.double res) ∧ Fr n0 L ∧ own_A Z h da .double [.double x0, .double x1, .double x2, .double x3]) o U') := by
  refine own_body (plainFor_of_name pn1) (ls0 := [.val (.ref da), .unset, .unset, .unset, .unset, .unset, .unset, .unset, .unset, .unset, .unset, .unset, .unset]) (fun m => by first | (simp [entryFrame, mkF, argsToLocals, Value.category, maxLocals]; done) | rfl) ?_
  intro p e s m below meth c T0 hx hby hml hown hnm hlk hret hZ X0 e0
  have hK : own_ks "com/example/veritree/veritree/calibration/EffectiveSampleSize" a0 Z kt1 := ⟨hw _ (List.mem_of_getElem? (i := 11) rfl), hw _ (List.mem_of_getElem? (i := 12) rfl), hw _ (List.mem_of_getElem? (i := 16) rfl), trivial⟩
  have hF : own_fs "com/example/veritree/veritree/calibration/EffectiveSampleSize" a0 Z ft1 := trivial
  have N0 := Fr.nil n0
  have hdis : (Y1 = Y0 ∧ Y2 = Y0 ∧ Y3 = Y0 ∧ (0 : Int32) = 1) ∨ (¬ Y1 = Y0 ∧ (0 : Int32) = 0) ∨ (Y1 = Y0 ∧ ¬ Y2 = Y0 ∧ (0 : Int32) = 0) ∨ (Y1 = Y0 ∧ Y2 = Y0 ∧ ¬ Y3 = Y0 ∧ (0 : Int32) = 0) := by
    by_cases k1 : Y1 = Y0
    · by_cases k2 : Y2 = Y0
      · exact Or.inr (Or.inr (Or.inr ⟨k1, k2, fun k3 => hne ⟨by omega, by omega, by omega⟩, rfl⟩))
      · exact Or.inr (Or.inr (Or.inl ⟨k1, k2, rfl⟩))
    · exact Or.inr (Or.inl ⟨k1, rfl⟩)
  refine own_blk dec1 seq1 hby hx hZ hown hK hF 1 [] [] X0 e0 ?_
  show own_Aft X0 h0 _ 1 [.val (.ref da), .unset, .unset, .unset, .unset, .unset, .unset, .unset, .unset, .unset, .unset, .unset, .unset] [.ref da]
  refine fun T1 X1 eh1 => ?_
  refine own_callS X1 hx hZ hown (hw _ (List.mem_of_getElem? (i := 5) rfl)) (hw _ (List.mem_of_getElem? (i := 6) rfl)) (hw _ (List.mem_of_getElem? (i := 3) rfl)) (hw _ (List.mem_of_getElem? (i := 7) rfl)) (by decide) eh1 [.ref da] pd2 rfl (rm := ({ frames := 0, cells := 0, slots := 0, locals := 0 } : Room)) (rm2_4 l Z a0 hw [] da x0 x1 x2 x3 Y0 Y1 Y2 Y3 0 h0 n0 Z0 A0 D0 D1 D2 D3 hdis) (by rw [hml]; rfl) 0 rfl (Nat.le_of_eq rfl) (hb hby d1_1) (by decide) (by decide) (by decide) (by decide) (fun T2 rv2 Lc2 X2 qc2 => ?_)
  obtain ⟨rfl, Me, he⟩ := qc2
  show own_Go p.tables e below _ (T2.setTop (mkF m 4 (Array.mk [.val (.ref da), .unset, .unset, .unset, .unset, .unset, .unset, .unset, .unset, .unset, .unset, .unset, .unset]) [.int (0 : Int32)]))
  have N0 := Fr.app N0 Me
  have s1 := own_z6.add (by omega) D0 (by omega)
  have s2 := s1.add (by omega) D1 (by omega)
  have s3 := s2.add (by omega) D2 (by omega)
  have s4 := s3.add (by omega) D3 (by omega)
  have mn : own_D 6 (16 * (Y0 + Y1 + Y2 + Y3)) _ := s4.div (by omega) own_4g (by omega) (by omega) (by omega)
  refine own_blk dec1 seq1 hby hx hZ hown hK hF 12 [true] [.int (4 : Int32)] X2 he ?_
  show (((0 : Int32)).toInt = 0) ∧ (own_ln Z h0 da (4 : Int32)) ∧ own_Aft X2 h0 _ 24 [.val (.ref da), .val (.double 0), .second, .val (.ref da), .val (.int (4 : Int32)), .val (.int (0 : Int32)), .unset, .unset, .unset, .unset, .unset, .unset, .unset] [.int (4 : Int32), .int (0 : Int32)]
  refine ⟨by decide, A0.ln (4 : Int32) rfl, fun T3 X3 eh3 => ?_⟩
  refine own_blk dec1 seq1 hby hx hZ hown hK hF 12 [false] [.double x0] X3 eh3 ?_
  show (¬ (((4 : Int32)).toInt ≤ ((0 : Int32)).toInt)) ∧ (own_at Z h0 da .double (0 : Int32) (.double x0)) ∧ (Jvm.Free.Fl.NoNaN64 (FP.dadd 0 x0)) ∧ own_Aft X3 h0 _ 22 [.val (.ref da), .val (.double (FP.dadd 0 x0)), .second, .val (.ref da), .val (.int (4 : Int32)), .val (.int (1 : Int32)), .val (.double x0), .second, .unset, .unset, .unset, .unset, .unset] [.int (1 : Int32)]
  refine ⟨by decide, A0.at (0 : Int32) 0 rfl rfl, own_nn s1.num, fun T4 X4 eh4 => ?_⟩
  refine own_blk dec1 seq1 hby hx hZ hown hK hF 12 [false] [.double x1] X4 eh4 ?_
  show (¬ (((4 : Int32)).toInt ≤ ((1 : Int32)).toInt)) ∧ (own_at Z h0 da .double (1 : Int32) (.double x1)) ∧ (Jvm.Free.Fl.NoNaN64 (FP.dadd (FP.dadd 0 x0) x1)) ∧ own_Aft X4 h0 _ 20 [.val (.ref da), .val (.double (FP.dadd (FP.dadd 0 x0) x1)), .second, .val (.ref da), .val (.int (4 : Int32)), .val (.int (2 : Int32)), .val (.double x1), .second, .unset, .unset, .unset, .unset, .unset] []
  refine ⟨by decide, A0.at (1 : Int32) 1 rfl rfl, own_nn s2.num, fun T5 X5 eh5 => ?_⟩
  refine own_blk dec1 seq1 hby hx hZ hown hK hF 12 [false] [.double x2] X5 eh5 ?_
  show (¬ (((4 : Int32)).toInt ≤ ((2 : Int32)).toInt)) ∧ (own_at Z h0 da .double (2 : Int32) (.double x2)) ∧ (Jvm.Free.Fl.NoNaN64 (FP.dadd (FP.dadd (FP.dadd 0 x0) x1) x2)) ∧ own_Aft X5 h0 _ 41 [.val (.ref da), .val (.double (FP.dadd (FP.dadd (FP.dadd 0 x0) x1) x2)), .second, .val (.ref da), .val (.int (4 : Int32)), .val (.int (3 : Int32)), .val (.double x2), .second, .unset, .unset, .unset, .unset, .unset] []
  refine ⟨by decide, A0.at (2 : Int32) 2 rfl rfl, own_nn s3.num, fun T6 X6 eh6 => ?_⟩
  refine own_blk dec1 seq1 hby hx hZ hown hK hF 12 [false] [.double x3] X6 eh6 ?_
  show (¬ (((4 : Int32)).toInt ≤ ((3 : Int32)).toInt)) ∧ (own_at Z h0 da .double (3 : Int32) (.double x3)) ∧ (Jvm.Free.Fl.NoNaN64 (FP.dadd (FP.dadd (FP.dadd (FP.dadd 0 x0) x1) x2) x3)) ∧ own_Aft X6 h0 _ 38 [.val (.ref da), .val (.double (FP.dadd (FP.dadd (FP.dadd (FP.dadd 0 x0) x1) x2) x3)), .second, .val (.ref da), .val (.int (4 : Int32)), .val (.int (3 : Int32)), .val (.double x3), .second, .unset, .unset, .unset, .unset, .unset] []
  refine ⟨by decide, A0.at (3 : Int32) 3 rfl rfl, own_nn s4.num, fun T7 X7 eh7 => ?_⟩
  refine own_blk dec1 seq1 hby hx hZ hown hK hF 12 [true] [.int (4 : Int32)] X7 eh7 ?_
  show (((4 : Int32)).toInt ≤ ((4 : Int32)).toInt) ∧ (own_ln Z h0 da (4 : Int32)) ∧ (Jvm.Free.Fl.NoNaN64 (FP.ddiv (FP.dadd (FP.dadd (FP.dadd (FP.dadd 0 x0) x1) x2) x3) (FP.i2d (4 : Int32)))) ∧ own_Aft X7 h0 _ 51 [.val (.ref da), .val (.double (FP.dadd (FP.dadd (FP.dadd (FP.dadd 0 x0) x1) x2) x3)), .second, .val (.double (FP.ddiv (FP.dadd (FP.dadd (FP.dadd (FP.dadd 0 x0) x1) x2) x3) (FP.i2d (4 : Int32)))), .second, .val (.int (4 : Int32)), .val (.double x3), .second, .unset, .unset, .unset, .unset, .unset] [.ref da]
  refine ⟨by decide, A0.ln (4 : Int32) rfl, own_nn mn.num, fun T8 X8 eh8 => ?_⟩
  refine own_blk dec1 seq1 hby hx hZ hown hK hF 1 [] [.int (4 : Int32)] X8 eh8 ?_
  show (own_ln Z h0 da (4 : Int32)) ∧ own_Aft X8 h0 _ 52 [.val (.ref da), .val (.double (FP.dadd (FP.dadd (FP.dadd (FP.dadd 0 x0) x1) x2) x3)), .second, .val (.double (FP.ddiv (FP.dadd (FP.dadd (FP.dadd (FP.dadd 0 x0) x1) x2) x3) (FP.i2d (4 : Int32)))), .second, .val (.int (4 : Int32)), .val (.double x3), .second, .unset, .unset, .unset, .unset, .unset] [.int (4 : Int32)]
  refine ⟨A0.ln (4 : Int32) rfl, fun T9 X9 eh9 => ?_⟩
  generalize FP.ddiv (FP.dadd (FP.dadd (FP.dadd (FP.dadd 0 x0) x1) x2) x3) (FP.i2d (4 : Int32)) = mean at mn ⊢
  generalize FP.dadd (FP.dadd (FP.dadd (FP.dadd 0 x0) x1) x2) x3 = tot
  show own_Go p.tables e below _ (T9.setTop (mkF m 52 (Array.mk [.val (.ref da), .val (.double tot), .second, .val (.double mean), .second, .val (.int (4 : Int32)), .val (.double x3), .second, .unset, .unset, .unset, .unset, .unset]) [.int (4 : Int32)]))
  refine own_newP X9 hx hZ (hw _ (List.mem_of_getElem? (i := 0) rfl)) eh9 4 rfl (cap := 4) (by decide) (by decide) (hb hby d1_52) (by decide) (by decide) (fun T10 hp10 ce ga10 X10 eh10 Ex10 Ar10 => ?_)
  have ne_da_ce : da ≠ ce := fun q => absurd A0.lt (by rw [q, ga10]; exact Nat.lt_irrefl _)
  have nw_ce : n0 ≤ ce := by rw [ga10]; exact Z0
  have A0_10 := A0.ext Ex10
  have Z_10 : n0 ≤ hp10.size := Nat.le_trans Z0 Ex10.1
  have Ar10' : own_A Z hp10 ce .double [.double 0, .double 0, .double 0, .double 0] := Ar10
  show own_Go p.tables e below _ (T10.setTop (mkF m 54 (Array.mk [.val (.ref da), .val (.double tot), .second, .val (.double mean), .second, .val (.int (4 : Int32)), .val (.double x3), .second, .unset, .unset, .unset, .unset, .unset]) [.ref ce]))
  have c0 : own_D 6 (8 * (8 * Y0 - 2 * (Y0 + Y1 + Y2 + Y3))) (FP.dsub x0 mean) := by have := D0.sub (by omega) mn (by omega); rwa [show 64 * Y0 - 16 * (Y0 + Y1 + Y2 + Y3) = 8 * (8 * Y0 - 2 * (Y0 + Y1 + Y2 + Y3)) by omega] at this
  refine own_blk dec1 seq1 hby hx hZ hown hK hF 12 [false] [.int (4 : Int32), .double x0] X10 eh10 ?_
  show (own_ln Z hp10 da (4 : Int32)) ∧ (¬ (((4 : Int32)).toInt ≤ ((0 : Int32)).toInt)) ∧ (own_at Z hp10 da .double (0 : Int32) (.double x0)) ∧ own_Aft X10 hp10 _ 74 [.val (.ref da), .val (.double tot), .second, .val (.double mean), .second, .val (.ref ce), .val (.int (0 : Int32)), .unset, .unset, .unset, .unset, .unset, .unset] [.double x0, .int (0 : Int32), .ref ce]
  refine ⟨A0_10.ln (4 : Int32) rfl, by decide, A0_10.at (0 : Int32) 0 rfl rfl, fun T11 X11 eh11 => ?_⟩
  refine own_blk dec1 seq1 hby hx hZ hown hK hF 2 [] [] X11 eh11 ?_
  show (Jvm.Free.Fl.NoNaN64 (FP.dsub x0 mean)) ∧ own_Aft X11 hp10 _ 76 [.val (.ref da), .val (.double tot), .second, .val (.double mean), .second, .val (.ref ce), .val (.int (0 : Int32)), .unset, .unset, .unset, .unset, .unset, .unset] [.double (FP.dsub x0 mean), .int (0 : Int32), .ref ce]
  refine ⟨own_nn c0.num, fun T12 X12 eh12 => ?_⟩
  refine own_sD X12 hx hZ eh12 Ar10' 0 rfl (by show 0 < 4; decide) (hb hby d1_76) (fun T13 hp13 X13 eh13 Wr13 Ar13 => ?_)
  have Ar13' : own_A Z hp13 ce .double [.double (FP.dsub x0 mean), .double 0, .double 0, .double 0] := Ar13
  have A0_13 := A0_10.other Wr13 ne_da_ce
  have Nf13 := Fr.snoc X13 N0 nw_ce
  have Z_13 : n0 ≤ hp13.size := by rw [Wr.size Wr13]; exact Z_10
  have c1 : own_D 6 (8 * (8 * Y1 - 2 * (Y0 + Y1 + Y2 + Y3))) (FP.dsub x1 mean) := by have := D1.sub (by omega) mn (by omega); rwa [show 64 * Y1 - 16 * (Y0 + Y1 + Y2 + Y3) = 8 * (8 * Y1 - 2 * (Y0 + Y1 + Y2 + Y3)) by omega] at this
  refine own_blk dec1 seq1 hby hx hZ hown hK hF 12 [false] [.int (4 : Int32), .double x1] X13 eh13 ?_
  show (own_ln Z hp13 da (4 : Int32)) ∧ (¬ (((4 : Int32)).toInt ≤ ((1 : Int32)).toInt)) ∧ (own_at Z hp13 da .double (1 : Int32) (.double x1)) ∧ own_Aft X13 hp13 _ 75 [.val (.ref da), .val (.double tot), .second, .val (.double mean), .second, .val (.ref ce), .val (.int (1 : Int32)), .unset, .unset, .unset, .unset, .unset, .unset] [.double mean, .double x1, .int (1 : Int32), .ref ce]
  refine ⟨A0_13.ln (4 : Int32) rfl, by decide, A0_13.at (1 : Int32) 1 rfl rfl, fun T14 X14 eh14 => ?_⟩
  refine own_blk dec1 seq1 hby hx hZ hown hK hF 1 [] [] X14 eh14 ?_
  show (Jvm.Free.Fl.NoNaN64 (FP.dsub x1 mean)) ∧ own_Aft X14 hp13 _ 76 [.val (.ref da), .val (.double tot), .second, .val (.double mean), .second, .val (.ref ce), .val (.int (1 : Int32)), .unset, .unset, .unset, .unset, .unset, .unset] [.double (FP.dsub x1 mean), .int (1 : Int32), .ref ce]
  refine ⟨own_nn c1.num, fun T15 X15 eh15 => ?_⟩
  refine own_sD X15 hx hZ eh15 Ar13' 1 rfl (by show 1 < 4; decide) (hb hby d1_76) (fun T16 hp16 X16 eh16 Wr16 Ar16 => ?_)
  have Ar16' : own_A Z hp16 ce .double [.double (FP.dsub x0 mean), .double (FP.dsub x1 mean), .double 0, .double 0] := Ar16
  have A0_16 := A0_13.other Wr16 ne_da_ce
  have Nf16 := Fr.snoc X16 Nf13 nw_ce
  have Z_16 : n0 ≤ hp16.size := by rw [Wr.size Wr16]; exact Z_13
  have c2 : own_D 6 (8 * (8 * Y2 - 2 * (Y0 + Y1 + Y2 + Y3))) (FP.dsub x2 mean) := by have := D2.sub (by omega) mn (by omega); rwa [show 64 * Y2 - 16 * (Y0 + Y1 + Y2 + Y3) = 8 * (8 * Y2 - 2 * (Y0 + Y1 + Y2 + Y3)) by omega] at this
  refine own_blk dec1 seq1 hby hx hZ hown hK hF 12 [false] [.int (4 : Int32), .double x2] X16 eh16 ?_
  show (own_ln Z hp16 da (4 : Int32)) ∧ (¬ (((4 : Int32)).toInt ≤ ((2 : Int32)).toInt)) ∧ (own_at Z hp16 da .double (2 : Int32) (.double x2)) ∧ own_Aft X16 hp16 _ 75 [.val (.ref da), .val (.double tot), .second, .val (.double mean), .second, .val (.ref ce), .val (.int (2 : Int32)), .unset, .unset, .unset, .unset, .unset, .unset] [.double mean, .double x2, .int (2 : Int32), .ref ce]
  refine ⟨A0_16.ln (4 : Int32) rfl, by decide, A0_16.at (2 : Int32) 2 rfl rfl, fun T17 X17 eh17 => ?_⟩
  refine own_blk dec1 seq1 hby hx hZ hown hK hF 1 [] [] X17 eh17 ?_
  show (Jvm.Free.Fl.NoNaN64 (FP.dsub x2 mean)) ∧ own_Aft X17 hp16 _ 76 [.val (.ref da), .val (.double tot), .second, .val (.double mean), .second, .val (.ref ce), .val (.int (2 : Int32)), .unset, .unset, .unset, .unset, .unset, .unset] [.double (FP.dsub x2 mean), .int (2 : Int32), .ref ce]
  refine ⟨own_nn c2.num, fun T18 X18 eh18 => ?_⟩
  refine own_sD X18 hx hZ eh18 Ar16' 2 rfl (by show 2 < 4; decide) (hb hby d1_76) (fun T19 hp19 X19 eh19 Wr19 Ar19 => ?_)
  have Ar19' : own_A Z hp19 ce .double [.double (FP.dsub x0 mean), .double (FP.dsub x1 mean), .double (FP.dsub x2 mean), .double 0] := Ar19
  have A0_19 := A0_16.other Wr19 ne_da_ce
  have Nf19 := Fr.snoc X19 Nf16 nw_ce
  have Z_19 : n0 ≤ hp19.size := by rw [Wr.size Wr19]; exact Z_16
  have c3 : own_D 6 (8 * (8 * Y3 - 2 * (Y0 + Y1 + Y2 + Y3))) (FP.dsub x3 mean) := by have := D3.sub (by omega) mn (by omega); rwa [show 64 * Y3 - 16 * (Y0 + Y1 + Y2 + Y3) = 8 * (8 * Y3 - 2 * (Y0 + Y1 + Y2 + Y3)) by omega] at this
  refine own_blk dec1 seq1 hby hx hZ hown hK hF 12 [false] [.int (4 : Int32), .double x3] X19 eh19 ?_
  show (own_ln Z hp19 da (4 : Int32)) ∧ (¬ (((4 : Int32)).toInt ≤ ((3 : Int32)).toInt)) ∧ (own_at Z hp19 da .double (3 : Int32) (.double x3)) ∧ own_Aft X19 hp19 _ 75 [.val (.ref da), .val (.double tot), .second, .val (.double mean), .second, .val (.ref ce), .val (.int (3 : Int32)), .unset, .unset, .unset, .unset, .unset, .unset] [.double mean, .double x3, .int (3 : Int32), .ref ce]
  refine ⟨A0_19.ln (4 : Int32) rfl, by decide, A0_19.at (3 : Int32) 3 rfl rfl, fun T20 X20 eh20 => ?_⟩
  refine own_blk dec1 seq1 hby hx hZ hown hK hF 1 [] [] X20 eh20 ?_
  show (Jvm.Free.Fl.NoNaN64 (FP.dsub x3 mean)) ∧ own_Aft X20 hp19 _ 76 [.val (.ref da), .val (.double tot), .second, .val (.double mean), .second, .val (.ref ce), .val (.int (3 : Int32)), .unset, .unset, .unset, .unset, .unset, .unset] [.double (FP.dsub x3 mean), .int (3 : Int32), .ref ce]
  refine ⟨own_nn c3.num, fun T21 X21 eh21 => ?_⟩
  refine own_sD X21 hx hZ eh21 Ar19' 3 rfl (by show 3 < 4; decide) (hb hby d1_76) (fun T22 hp22 X22 eh22 Wr22 Ar22 => ?_)
  have Ar22' : own_A Z hp22 ce .double [.double (FP.dsub x0 mean), .double (FP.dsub x1 mean), .double (FP.dsub x2 mean), .double (FP.dsub x3 mean)] := Ar22
  have A0_22 := A0_19.other Wr22 ne_da_ce
  have Nf22 := Fr.snoc X22 Nf19 nw_ce
  have Z_22 : n0 ≤ hp22.size := by rw [Wr.size Wr22]; exact Z_19
  refine own_blk dec1 seq1 hby hx hZ hown hK hF 8 [true] [.int (4 : Int32)] X22 eh22 ?_
  show (own_ln Z hp22 da (4 : Int32)) ∧ (((4 : Int32)).toInt ≤ ((4 : Int32)).toInt) ∧ own_Aft X22 hp22 _ 86 [.val (.ref da), .val (.double tot), .second, .val (.double mean), .second, .val (.ref ce), .val (.int (4 : Int32)), .unset, .unset, .unset, .unset, .unset, .unset] [.int (0 : Int32), .ref ce]
  refine ⟨A0_22.ln (4 : Int32) rfl, by decide, fun T23 X23 eh23 => ?_⟩
  obtain ⟨w0, hw0⟩ : ∃ z : Int, z = 8 * Y0 - 2 * (Y0 + Y1 + Y2 + Y3) := ⟨_, rfl⟩
  rw [← hw0] at c0
  have ub0 : -20000 ≤ w0 ∧ w0 ≤ 20000 := by omega
  obtain ⟨w1, hw1⟩ : ∃ z : Int, z = 8 * Y1 - 2 * (Y0 + Y1 + Y2 + Y3) := ⟨_, rfl⟩
  rw [← hw1] at c1
  have ub1 : -20000 ≤ w1 ∧ w1 ≤ 20000 := by omega
  obtain ⟨w2, hw2⟩ : ∃ z : Int, z = 8 * Y2 - 2 * (Y0 + Y1 + Y2 + Y3) := ⟨_, rfl⟩
  rw [← hw2] at c2
  have ub2 : -20000 ≤ w2 ∧ w2 ≤ 20000 := by omega
  obtain ⟨w3, hw3⟩ : ∃ z : Int, z = 8 * Y3 - 2 * (Y0 + Y1 + Y2 + Y3) := ⟨_, rfl⟩
  rw [← hw3] at c3
  have ub3 : -20000 ≤ w3 ∧ w3 ≤ 20000 := by omega
  have g0 : w0 = 2 * (4 * Y0 - (Y0 + Y1 + Y2 + Y3)) := by omega
  have g1 : w1 = 2 * (4 * Y1 - (Y0 + Y1 + Y2 + Y3)) := by omega
  have g2 : w2 = 2 * (4 * Y2 - (Y0 + Y1 + Y2 + Y3)) := by omega
  have g3 : w3 = 2 * (4 * Y3 - (Y0 + Y1 + Y2 + Y3)) := by omega
  have ppos := own_P0 hne
  generalize (4 * Y0 - (Y0 + Y1 + Y2 + Y3)) = e0 at g0 hp h0_ h1_ ppos
  generalize (4 * Y1 - (Y0 + Y1 + Y2 + Y3)) = e1 at g1 hp h0_ h1_ ppos
  generalize (4 * Y2 - (Y0 + Y1 + Y2 + Y3)) = e2 at g2 hp h0_ h1_ ppos
  generalize (4 * Y3 - (Y0 + Y1 + Y2 + Y3)) = e3 at g3 hp h0_ h1_ ppos
  have dbl : ∀ a b : Int, 2 * a * (2 * b) = 4 * (a * b) := fun a b => by rw [Int.mul_assoc, Int.mul_left_comm a 2 b, ← Int.mul_assoc]; rfl
  have pb00 := own_pb (a := e0) (b := e0) (by omega) (by omega) (by omega) (by omega)
  have pb01 := own_pb (a := e0) (b := e1) (by omega) (by omega) (by omega) (by omega)
  have pb02 := own_pb (a := e0) (b := e2) (by omega) (by omega) (by omega) (by omega)
  have pb03 := own_pb (a := e0) (b := e3) (by omega) (by omega) (by omega) (by omega)
  have pb11 := own_pb (a := e1) (b := e1) (by omega) (by omega) (by omega) (by omega)
  have pb12 := own_pb (a := e1) (b := e2) (by omega) (by omega) (by omega) (by omega)
  have pb13 := own_pb (a := e1) (b := e3) (by omega) (by omega) (by omega) (by omega)
  have pb22 := own_pb (a := e2) (b := e2) (by omega) (by omega) (by omega) (by omega)
  have pb23 := own_pb (a := e2) (b := e3) (by omega) (by omega) (by omega) (by omega)
  have pb33 := own_pb (a := e3) (b := e3) (by omega) (by omega) (by omega) (by omega)
  refine own_callS X23 hx hZ hown (hw _ (List.mem_of_getElem? (i := 8) rfl)) (hw _ (List.mem_of_getElem? (i := 9) rfl)) (hw _ (List.mem_of_getElem? (i := 3) rfl)) (hw _ (List.mem_of_getElem? (i := 10) rfl)) (by decide) eh23 [.ref ce, .int (0 : Int32)] pd3 rfl (rm := ({ frames := 0, cells := 0, slots := 0, locals := 0 } : Room)) (rm3_4_0 l Z a0 hw [] ce (FP.dsub x0 mean) (FP.dsub x1 mean) (FP.dsub x2 mean) (FP.dsub x3 mean) w0 w1 w2 w3 (e0 * e0 + e1 * e1 + e2 * e2 + e3 * e3) hp22 n0 Z_22 Ar22' c0 ub0 c1 ub1 c2 ub2 c3 ub3 (by simp only [g0, g1, g2, g3, dbl]; omega)) (by rw [hml]; rfl) 0 rfl (Nat.le_of_eq rfl) (hb hby d1_86) (by decide) (by decide) (by decide) (by decide) (fun T24 rv24 Lc24 X24 qc24 => ?_)
  obtain ⟨r0, rfl, dr0, Mr0, her0⟩ := qc24
  show own_Go p.tables e below _ (T24.setTop (mkF m 89 (Array.mk [.val (.ref da), .val (.double tot), .second, .val (.double mean), .second, .val (.ref ce), .val (.int (4 : Int32)), .unset, .unset, .unset, .unset, .unset, .unset]) [.double r0]))
  have Nf22_r0 := Fr.app Nf22 Mr0
  refine own_blk dec1 seq1 hby hx hZ hown hK hF 12 [false] [.int (4 : Int32)] X24 her0 ?_
  show (own_ln Z hp22 ce (4 : Int32)) ∧ (¬ (((4 : Int32)).toInt ≤ ((1 : Int32)).toInt)) ∧ own_Aft X24 hp22 _ 109 [.val (.ref da), .val (.double tot), .second, .val (.double mean), .second, .val (.ref ce), .val (.double r0), .second, .val (.double 0), .second, .val (.int (0 : Int32)), .unset, .unset] [.ref ce]
  refine ⟨Ar22'.ln (4 : Int32) rfl, by decide, fun T25 X25 eh25 => ?_⟩
  refine own_blk dec1 seq1 hby hx hZ hown hK hF 1 [] [] X25 eh25 ?_
  show own_Aft X25 hp22 _ 111 [.val (.ref da), .val (.double tot), .second, .val (.double mean), .second, .val (.ref ce), .val (.double r0), .second, .val (.double 0), .second, .val (.int (0 : Int32)), .unset, .unset] [.int (0 : Int32), .ref ce]
  refine fun T26 X26 eh26 => ?_
  refine own_callS X26 hx hZ hown (hw _ (List.mem_of_getElem? (i := 8) rfl)) (hw _ (List.mem_of_getElem? (i := 9) rfl)) (hw _ (List.mem_of_getElem? (i := 3) rfl)) (hw _ (List.mem_of_getElem? (i := 10) rfl)) (by decide) eh26 [.ref ce, .int (0 : Int32)] pd3 rfl (rm := ({ frames := 0, cells := 0, slots := 0, locals := 0 } : Room)) (rm3_4_0 l Z a0 hw [] ce (FP.dsub x0 mean) (FP.dsub x1 mean) (FP.dsub x2 mean) (FP.dsub x3 mean) w0 w1 w2 w3 (e0 * e0 + e1 * e1 + e2 * e2 + e3 * e3) hp22 n0 Z_22 Ar22' c0 ub0 c1 ub1 c2 ub2 c3 ub3 (by simp only [g0, g1, g2, g3, dbl]; omega)) (by rw [hml]; rfl) 0 rfl (Nat.le_of_eq rfl) (hb hby d1_111) (by decide) (by decide) (by decide) (by decide) (fun T27 rv27 Lc27 X27 qc27 => ?_)
  obtain ⟨r1, rfl, dr1, Mr1, her1⟩ := qc27
  show own_Go p.tables e below _ (T27.setTop (mkF m 114 (Array.mk [.val (.ref da), .val (.double tot), .second, .val (.double mean), .second, .val (.ref ce), .val (.double r0), .second, .val (.double 0), .second, .val (.int (0 : Int32)), .unset, .unset]) [.double r1]))
  have Nf22_r0_r1 := Fr.app Nf22_r0 Mr1
  refine own_blk dec1 seq1 hby hx hZ hown hK hF 4 [] [] X27 her1 ?_
  show own_Aft X27 hp22 _ 120 [.val (.ref da), .val (.double tot), .second, .val (.double mean), .second, .val (.ref ce), .val (.double r0), .second, .val (.double 0), .second, .val (.int (0 : Int32)), .unset, .unset] [.int (1 : Int32), .ref ce, .double r1]
  refine fun T28 X28 eh28 => ?_
  refine own_callS X28 hx hZ hown (hw _ (List.mem_of_getElem? (i := 8) rfl)) (hw _ (List.mem_of_getElem? (i := 9) rfl)) (hw _ (List.mem_of_getElem? (i := 3) rfl)) (hw _ (List.mem_of_getElem? (i := 10) rfl)) (by decide) eh28 [.ref ce, .int (1 : Int32)] pd3 rfl (rm := ({ frames := 0, cells := 0, slots := 0, locals := 0 } : Room)) (rm3_4_1 l Z a0 hw [] ce (FP.dsub x0 mean) (FP.dsub x1 mean) (FP.dsub x2 mean) (FP.dsub x3 mean) w0 w1 w2 w3 (e0 * e1 + e1 * e2 + e2 * e3) hp22 n0 Z_22 Ar22' c0 ub0 c1 ub1 c2 ub2 c3 ub3 (by simp only [g0, g1, g2, g3, dbl]; omega)) (by rw [hml]; rfl) 2 rfl (Nat.le_of_eq rfl) (hb hby d1_120) (by decide) (by decide) (by decide) (by decide) (fun T29 rv29 Lc29 X29 qc29 => ?_)
  obtain ⟨r2, rfl, dr2, Mr2, her2⟩ := qc29
  show own_Go p.tables e below _ (T29.setTop (mkF m 123 (Array.mk [.val (.ref da), .val (.double tot), .second, .val (.double mean), .second, .val (.ref ce), .val (.double r0), .second, .val (.double 0), .second, .val (.int (0 : Int32)), .unset, .unset]) [.double r2, .double r1]))
  have Nf22_r0_r1_r2 := Fr.app Nf22_r0_r1 Mr2
  have sm := dr1.add (by omega) dr2 (by omega)
  have qn : own_num (FP.ddiv (FP.dadd r1 r2) r0) := own_num_div sm.num dr0.1 (dr0.ne (by omega))
  rcases hres with ⟨hn0, rfl⟩ | ⟨hn0, hn1, ht⟩ | ⟨hn0, hn1, ht⟩
  · skip
    have hle : own_z (FP.ddiv (FP.dadd r1 r2) r0) ≤ own_z 0 := own_div_le sm.1 dr0.1 own_z6.num (dr0.pos (by omega)) (by rw [own_z6.2, Int.zero_mul, Int.zero_mul, sm.2]; exact Int.mul_nonpos_of_nonpos_of_nonneg (Int.mul_nonpos_of_nonpos_of_nonneg (by omega) (by have := own_u_pos 6; omega)) (Int.natCast_nonneg _))
    obtain ⟨nt, ft⟩ := own_tau_b own_z00.1 (by rw [own_z00.2]; omega) (by rw [own_z00.2]; have := own_u_pos 0; omega)
    refine own_blk dec1 seq1 hby hx hZ hown hK hF 9 [false] [] X29 her2 ?_
    show (Jvm.Free.Fl.NoNaN64 (FP.dadd r1 r2)) ∧ (Jvm.Free.Fl.NoNaN64 (FP.ddiv (FP.dadd r1 r2) r0)) ∧ (¬ (0 < (cmpValue (FP.dcmp (FP.ddiv (FP.dadd r1 r2) r0) 0) .g).toInt)) ∧ own_Aft X29 hp22 _ 152 [.val (.ref da), .val (.double tot), .second, .val (.double mean), .second, .val (.ref ce), .val (.double r0), .second, .val (.double 0), .second, .val (.int (0 : Int32)), .val (.double (FP.ddiv (FP.dadd r1 r2) r0)), .second] []
    refine ⟨own_nn sm.num, own_nn qn, by rcases Int.lt_or_eq_of_le hle with q | q <;> first | (rw [own_cv_lt (own_lt qn own_z6.num q)]; omega) | (rw [own_cv_eq (own_eq qn own_z6.num q)]; omega), fun T30 X30 eh30 => ?_⟩
    refine own_blk dec1 seq1 hby hx hZ hown hK hF 11 [true] [] X30 eh30 ?_
    show (Jvm.Free.Fl.NoNaN64 (FP.dmul 4611686018427387904 0)) ∧ (Jvm.Free.Fl.NoNaN64 (FP.dadd 13830554455654793216 (FP.dmul 4611686018427387904 0))) ∧ ((cmpValue (FP.dcmp (FP.dadd 13830554455654793216 (FP.dmul 4611686018427387904 0)) 0) .l).toInt ≤ 0) ∧ own_Aft X30 hp22 _ 183 [.val (.ref da), .val (.double tot), .second, .val (.double mean), .second, .val (.ref ce), .val (.double r0), .second, .val (.double 0), .second, .val (.double (FP.dadd 13830554455654793216 (FP.dmul 4611686018427387904 0))), .second, .unset] [.double 9218868437227405312]
    refine ⟨own_nn nt, own_nn (own_fin_num ft), by rw [show FP.dadd 13830554455654793216 (FP.dmul 4611686018427387904 0) = own_tau 0 from rfl, own_tau0]; decide +kernel, fun T31 X31 eh31 => ?_⟩
    exact own_ret X31 hx hlk eh31 hret (by first | rfl | decide) (Or.inr (Or.inr (Or.inl ⟨rfl, rfl, _, rfl⟩))) (hb hby d1_183) (by decide) (by decide) (⟨rfl, Nf22_r0_r1_r2, A0_22⟩)
  · skip
    have qs : FP.ddiv (FP.dadd r1 r2) r0 = FP.ddiv (FP.i2d nu0) (FP.i2d pp) := own_qsame sm dr0 (by omega) hp (by omega) ppos
    obtain ⟨qf, qp, qb⟩ := own_qb (n := nu0) (p := pp) hn0 (by omega)
    have qz := own_add0 (own_fin_num qf) qp
    have zz0 := own_z00.2
    refine own_blk dec1 seq1 hby hx hZ hown hK hF 12 [true] [] X29 her2 ?_
    show (Jvm.Free.Fl.NoNaN64 (FP.dadd r1 r2)) ∧ (Jvm.Free.Fl.NoNaN64 (FP.ddiv (FP.dadd r1 r2) r0)) ∧ (0 < (cmpValue (FP.dcmp (FP.ddiv (FP.dadd r1 r2) r0) 0) .g).toInt) ∧ (Jvm.Free.Fl.NoNaN64 (FP.dadd 0 (FP.ddiv (FP.dadd r1 r2) r0))) ∧ own_Aft X29 hp22 _ 146 [.val (.ref da), .val (.double tot), .second, .val (.double mean), .second, .val (.ref ce), .val (.double r0), .second, .val (.double (FP.dadd 0 (FP.ddiv (FP.dadd r1 r2) r0))), .second, .val (.int (0 : Int32)), .val (.double (FP.ddiv (FP.dadd r1 r2) r0)), .second] []
    refine ⟨own_nn sm.num, own_nn qn, by rw [qs, own_cv_gt (own_gt (own_fin_num qf) own_z00.num (by omega))]; omega, by rw [qs, qz]; exact own_nn (own_fin_num qf), fun T32 X32 eh32 => ?_⟩
    refine own_blk dec1 seq1 hby hx hZ hown hK hF 2 [] [] X32 eh32 ?_
    show own_Aft X32 hp22 _ 97 [.val (.ref da), .val (.double tot), .second, .val (.double mean), .second, .val (.ref ce), .val (.double r0), .second, .val (.double (FP.dadd 0 (FP.ddiv (FP.dadd r1 r2) r0))), .second, .val (.int (2 : Int32)), .val (.double (FP.ddiv (FP.dadd r1 r2) r0)), .second] []
    refine fun T33 X33 eh33 => ?_
    rw [qs, qz]
    show own_Go p.tables e below _ (T33.setTop (mkF m 97 (Array.mk [.val (.ref da), .val (.double tot), .second, .val (.double mean), .second, .val (.ref ce), .val (.double r0), .second, .val (.double (FP.ddiv (FP.i2d nu0) (FP.i2d pp))), .second, .val (.int (2 : Int32)), .val (.double (FP.ddiv (FP.i2d nu0) (FP.i2d pp))), .second]) []))
    refine own_blk dec1 seq1 hby hx hZ hown hK hF 8 [false] [.int (4 : Int32)] X33 eh33 ?_
    show (own_ln Z hp22 ce (4 : Int32)) ∧ (¬ (((4 : Int32)).toInt ≤ ((3 : Int32)).toInt)) ∧ own_Aft X33 hp22 _ 111 [.val (.ref da), .val (.double tot), .second, .val (.double mean), .second, .val (.ref ce), .val (.double r0), .second, .val (.double (FP.ddiv (FP.i2d nu0) (FP.i2d pp))), .second, .val (.int (2 : Int32)), .val (.double (FP.ddiv (FP.i2d nu0) (FP.i2d pp))), .second] [.int (2 : Int32), .ref ce]
    refine ⟨Ar22'.ln (4 : Int32) rfl, by decide, fun T34 X34 eh34 => ?_⟩
    refine own_callS X34 hx hZ hown (hw _ (List.mem_of_getElem? (i := 8) rfl)) (hw _ (List.mem_of_getElem? (i := 9) rfl)) (hw _ (List.mem_of_getElem? (i := 3) rfl)) (hw _ (List.mem_of_getElem? (i := 10) rfl)) (by decide) eh34 [.ref ce, .int (2 : Int32)] pd3 rfl (rm := ({ frames := 0, cells := 0, slots := 0, locals := 0 } : Room)) (rm3_4_2 l Z a0 hw [] ce (FP.dsub x0 mean) (FP.dsub x1 mean) (FP.dsub x2 mean) (FP.dsub x3 mean) w0 w1 w2 w3 (e0 * e2 + e1 * e3) hp22 n0 Z_22 Ar22' c0 ub0 c1 ub1 c2 ub2 c3 ub3 (by simp only [g0, g1, g2, g3, dbl]; omega)) (by rw [hml]; rfl) 0 rfl (Nat.le_of_eq rfl) (hb hby d1_111) (by decide) (by decide) (by decide) (by decide) (fun T35 rv35 Lc35 X35 qc35 => ?_)
    obtain ⟨r3, rfl, dr3, Mr3, her3⟩ := qc35
    show own_Go p.tables e below _ (T35.setTop (mkF m 114 (Array.mk [.val (.ref da), .val (.double tot), .second, .val (.double mean), .second, .val (.ref ce), .val (.double r0), .second, .val (.double (FP.ddiv (FP.i2d nu0) (FP.i2d pp))), .second, .val (.int (2 : Int32)), .val (.double (FP.ddiv (FP.i2d nu0) (FP.i2d pp))), .second]) [.double r3]))
    have Nf22_r0_r1_r2_r3 := Fr.app Nf22_r0_r1_r2 Mr3
    refine own_blk dec1 seq1 hby hx hZ hown hK hF 4 [] [] X35 her3 ?_
    show own_Aft X35 hp22 _ 120 [.val (.ref da), .val (.double tot), .second, .val (.double mean), .second, .val (.ref ce), .val (.double r0), .second, .val (.double (FP.ddiv (FP.i2d nu0) (FP.i2d pp))), .second, .val (.int (2 : Int32)), .val (.double (FP.ddiv (FP.i2d nu0) (FP.i2d pp))), .second] [.int (3 : Int32), .ref ce, .double r3]
    refine fun T36 X36 eh36 => ?_
    refine own_callS X36 hx hZ hown (hw _ (List.mem_of_getElem? (i := 8) rfl)) (hw _ (List.mem_of_getElem? (i := 9) rfl)) (hw _ (List.mem_of_getElem? (i := 3) rfl)) (hw _ (List.mem_of_getElem? (i := 10) rfl)) (by decide) eh36 [.ref ce, .int (3 : Int32)] pd3 rfl (rm := ({ frames := 0, cells := 0, slots := 0, locals := 0 } : Room)) (rm3_4_3 l Z a0 hw [] ce (FP.dsub x0 mean) (FP.dsub x1 mean) (FP.dsub x2 mean) (FP.dsub x3 mean) w0 w1 w2 w3 (e0 * e3) hp22 n0 Z_22 Ar22' c0 ub0 c1 ub1 c2 ub2 c3 ub3 (by simp only [g0, g1, g2, g3, dbl]; omega)) (by rw [hml]; rfl) 2 rfl (Nat.le_of_eq rfl) (hb hby d1_120) (by decide) (by decide) (by decide) (by decide) (fun T37 rv37 Lc37 X37 qc37 => ?_)
    obtain ⟨r4, rfl, dr4, Mr4, her4⟩ := qc37
    show own_Go p.tables e below _ (T37.setTop (mkF m 123 (Array.mk [.val (.ref da), .val (.double tot), .second, .val (.double mean), .second, .val (.ref ce), .val (.double r0), .second, .val (.double (FP.ddiv (FP.i2d nu0) (FP.i2d pp))), .second, .val (.int (2 : Int32)), .val (.double (FP.ddiv (FP.i2d nu0) (FP.i2d pp))), .second]) [.double r4, .double r3]))
    have Nf22_r0_r1_r2_r3_r4 := Fr.app Nf22_r0_r1_r2_r3 Mr4
    have sm2 := dr3.add (by omega) dr4 (by omega)
    have qn2 : own_num (FP.ddiv (FP.dadd r3 r4) r0) := own_num_div sm2.num dr0.1 (dr0.ne (by omega))
    have hle : own_z (FP.ddiv (FP.dadd r3 r4) r0) ≤ own_z 0 := own_div_le sm2.1 dr0.1 own_z6.num (dr0.pos (by omega)) (by rw [own_z6.2, Int.zero_mul, Int.zero_mul, sm2.2]; exact Int.mul_nonpos_of_nonpos_of_nonneg (Int.mul_nonpos_of_nonpos_of_nonneg (by omega) (by have := own_u_pos 6; omega)) (Int.natCast_nonneg _))
    refine own_blk dec1 seq1 hby hx hZ hown hK hF 9 [false] [] X37 her4 ?_
    show (Jvm.Free.Fl.NoNaN64 (FP.dadd r3 r4)) ∧ (Jvm.Free.Fl.NoNaN64 (FP.ddiv (FP.dadd r3 r4) r0)) ∧ (¬ (0 < (cmpValue (FP.dcmp (FP.ddiv (FP.dadd r3 r4) r0) 0) .g).toInt)) ∧ own_Aft X37 hp22 _ 152 [.val (.ref da), .val (.double tot), .second, .val (.double mean), .second, .val (.ref ce), .val (.double r0), .second, .val (.double (FP.ddiv (FP.i2d nu0) (FP.i2d pp))), .second, .val (.int (2 : Int32)), .val (.double (FP.ddiv (FP.dadd r3 r4) r0)), .second] []
    refine ⟨own_nn sm2.num, own_nn qn2, by rcases Int.lt_or_eq_of_le hle with q | q <;> first | (rw [own_cv_lt (own_lt qn2 own_z6.num q)]; omega) | (rw [own_cv_eq (own_eq qn2 own_z6.num q)]; omega), fun T38 X38 eh38 => ?_⟩
    obtain ⟨nt, ft⟩ := own_tau_b qf (Int.le_of_lt qp) (by have := own_u_pos 0; omega)
    have zz := own_z00.2
    rcases ht with ⟨ht, rfl⟩ | ⟨ht, rfl⟩
    · skip
      refine own_blk dec1 seq1 hby hx hZ hown hK hF 12 [false] [.int (4 : Int32)] X38 eh38 ?_
      show (Jvm.Free.Fl.NoNaN64 (FP.dmul 4611686018427387904 (FP.ddiv (FP.i2d nu0) (FP.i2d pp)))) ∧ (Jvm.Free.Fl.NoNaN64 (FP.dadd 13830554455654793216 (FP.dmul 4611686018427387904 (FP.ddiv (FP.i2d nu0) (FP.i2d pp))))) ∧ (¬ ((cmpValue (FP.dcmp (FP.dadd 13830554455654793216 (FP.dmul 4611686018427387904 (FP.ddiv (FP.i2d nu0) (FP.i2d pp)))) 0) .l).toInt ≤ 0)) ∧ (own_ln Z hp22 da (4 : Int32)) ∧ own_Aft X38 hp22 _ 173 [.val (.ref da), .val (.double tot), .second, .val (.double mean), .second, .val (.ref ce), .val (.double r0), .second, .val (.double (FP.ddiv (FP.i2d nu0) (FP.i2d pp))), .second, .val (.double (FP.dadd 13830554455654793216 (FP.dmul 4611686018427387904 (FP.ddiv (FP.i2d nu0) (FP.i2d pp))))), .second, .unset] [.int (4 : Int32)]
      refine ⟨own_nn nt, own_nn (own_fin_num ft), by rw [show FP.dadd 13830554455654793216 (FP.dmul 4611686018427387904 (FP.ddiv (FP.i2d nu0) (FP.i2d pp))) = own_tau (FP.ddiv (FP.i2d nu0) (FP.i2d pp)) from rfl, own_cv_gt (own_gt (own_fin_num ft) own_z00.num (by omega))]; omega, A0_22.ln (4 : Int32) rfl, fun T39 X39 eh39 => ?_⟩
      refine own_blk dec1 seq1 hby hx hZ hown hK hF 4 [] [] X39 eh39 ?_
      show (Jvm.Free.Fl.NoNaN64 (FP.ddiv (FP.i2d (4 : Int32)) (FP.dadd 13830554455654793216 (FP.dmul 4611686018427387904 (FP.ddiv (FP.i2d nu0) (FP.i2d pp)))))) ∧ own_Aft X39 hp22 _ 183 [.val (.ref da), .val (.double tot), .second, .val (.double mean), .second, .val (.ref ce), .val (.double r0), .second, .val (.double (FP.ddiv (FP.i2d nu0) (FP.i2d pp))), .second, .val (.double (FP.dadd 13830554455654793216 (FP.dmul 4611686018427387904 (FP.ddiv (FP.i2d nu0) (FP.i2d pp))))), .second, .unset] [.double (FP.ddiv (FP.i2d (4 : Int32)) (FP.dadd 13830554455654793216 (FP.dmul 4611686018427387904 (FP.ddiv (FP.i2d nu0) (FP.i2d pp)))))]
      refine ⟨own_nn (own_num_div own_4g.num ft (Int.ne_of_gt ht)), fun T40 X40 eh40 => ?_⟩
      exact own_ret X40 hx hlk eh40 hret (by first | rfl | decide) (Or.inr (Or.inr (Or.inl ⟨rfl, rfl, _, rfl⟩))) (hb hby d1_183) (by decide) (by decide) (⟨by rw [own_i4]; rfl, Nf22_r0_r1_r2_r3_r4, A0_22⟩)
    · skip
      refine own_blk dec1 seq1 hby hx hZ hown hK hF 11 [true] [] X38 eh38 ?_
      show (Jvm.Free.Fl.NoNaN64 (FP.dmul 4611686018427387904 (FP.ddiv (FP.i2d nu0) (FP.i2d pp)))) ∧ (Jvm.Free.Fl.NoNaN64 (FP.dadd 13830554455654793216 (FP.dmul 4611686018427387904 (FP.ddiv (FP.i2d nu0) (FP.i2d pp))))) ∧ ((cmpValue (FP.dcmp (FP.dadd 13830554455654793216 (FP.dmul 4611686018427387904 (FP.ddiv (FP.i2d nu0) (FP.i2d pp)))) 0) .l).toInt ≤ 0) ∧ own_Aft X38 hp22 _ 183 [.val (.ref da), .val (.double tot), .second, .val (.double mean), .second, .val (.ref ce), .val (.double r0), .second, .val (.double (FP.ddiv (FP.i2d nu0) (FP.i2d pp))), .second, .val (.double (FP.dadd 13830554455654793216 (FP.dmul 4611686018427387904 (FP.ddiv (FP.i2d nu0) (FP.i2d pp))))), .second, .unset] [.double 9218868437227405312]
      refine ⟨own_nn nt, own_nn (own_fin_num ft), by rw [show FP.dadd 13830554455654793216 (FP.dmul 4611686018427387904 (FP.ddiv (FP.i2d nu0) (FP.i2d pp))) = own_tau (FP.ddiv (FP.i2d nu0) (FP.i2d pp)) from rfl]; rcases Int.lt_or_eq_of_le ht with q | q <;> first | (rw [own_cv_lt (own_lt (own_fin_num ft) own_z00.num (by omega))]; omega) | (rw [own_cv_eq (own_eq (own_fin_num ft) own_z00.num (by omega))]; omega), fun T41 X41 eh41 => ?_⟩
      exact own_ret X41 hx hlk eh41 hret (by first | rfl | decide) (Or.inr (Or.inr (Or.inl ⟨rfl, rfl, _, rfl⟩))) (hb hby d1_183) (by decide) (by decide) (⟨rfl, Nf22_r0_r1_r2_r3_r4, A0_22⟩)
  · skip
    have qs : FP.ddiv (FP.dadd r1 r2) r0 = FP.ddiv (FP.i2d nu0) (FP.i2d pp) := own_qsame sm dr0 (by omega) hp (by omega) ppos
    obtain ⟨qf, qp, qb⟩ := own_qb (n := nu0) (p := pp) hn0 (by omega)
    have qz := own_add0 (own_fin_num qf) qp
    have zz0 := own_z00.2
    refine own_blk dec1 seq1 hby hx hZ hown hK hF 12 [true] [] X29 her2 ?_
    show (Jvm.Free.Fl.NoNaN64 (FP.dadd r1 r2)) ∧ (Jvm.Free.Fl.NoNaN64 (FP.ddiv (FP.dadd r1 r2) r0)) ∧ (0 < (cmpValue (FP.dcmp (FP.ddiv (FP.dadd r1 r2) r0) 0) .g).toInt) ∧ (Jvm.Free.Fl.NoNaN64 (FP.dadd 0 (FP.ddiv (FP.dadd r1 r2) r0))) ∧ own_Aft X29 hp22 _ 146 [.val (.ref da), .val (.double tot), .second, .val (.double mean), .second, .val (.ref ce), .val (.double r0), .second, .val (.double (FP.dadd 0 (FP.ddiv (FP.dadd r1 r2) r0))), .second, .val (.int (0 : Int32)), .val (.double (FP.ddiv (FP.dadd r1 r2) r0)), .second] []
    refine ⟨own_nn sm.num, own_nn qn, by rw [qs, own_cv_gt (own_gt (own_fin_num qf) own_z00.num (by omega))]; omega, by rw [qs, qz]; exact own_nn (own_fin_num qf), fun T42 X42 eh42 => ?_⟩
    refine own_blk dec1 seq1 hby hx hZ hown hK hF 2 [] [] X42 eh42 ?_
    show own_Aft X42 hp22 _ 97 [.val (.ref da), .val (.double tot), .second, .val (.double mean), .second, .val (.ref ce), .val (.double r0), .second, .val (.double (FP.dadd 0 (FP.ddiv (FP.dadd r1 r2) r0))), .second, .val (.int (2 : Int32)), .val (.double (FP.ddiv (FP.dadd r1 r2) r0)), .second] []
    refine fun T43 X43 eh43 => ?_
    rw [qs, qz]
    show own_Go p.tables e below _ (T43.setTop (mkF m 97 (Array.mk [.val (.ref da), .val (.double tot), .second, .val (.double mean), .second, .val (.ref ce), .val (.double r0), .second, .val (.double (FP.ddiv (FP.i2d nu0) (FP.i2d pp))), .second, .val (.int (2 : Int32)), .val (.double (FP.ddiv (FP.i2d nu0) (FP.i2d pp))), .second]) []))
    refine own_blk dec1 seq1 hby hx hZ hown hK hF 8 [false] [.int (4 : Int32)] X43 eh43 ?_
    show (own_ln Z hp22 ce (4 : Int32)) ∧ (¬ (((4 : Int32)).toInt ≤ ((3 : Int32)).toInt)) ∧ own_Aft X43 hp22 _ 111 [.val (.ref da), .val (.double tot), .second, .val (.double mean), .second, .val (.ref ce), .val (.double r0), .second, .val (.double (FP.ddiv (FP.i2d nu0) (FP.i2d pp))), .second, .val (.int (2 : Int32)), .val (.double (FP.ddiv (FP.i2d nu0) (FP.i2d pp))), .second] [.int (2 : Int32), .ref ce]
    refine ⟨Ar22'.ln (4 : Int32) rfl, by decide, fun T44 X44 eh44 => ?_⟩
    refine own_callS X44 hx hZ hown (hw _ (List.mem_of_getElem? (i := 8) rfl)) (hw _ (List.mem_of_getElem? (i := 9) rfl)) (hw _ (List.mem_of_getElem? (i := 3) rfl)) (hw _ (List.mem_of_getElem? (i := 10) rfl)) (by decide) eh44 [.ref ce, .int (2 : Int32)] pd3 rfl (rm := ({ frames := 0, cells := 0, slots := 0, locals := 0 } : Room)) (rm3_4_2 l Z a0 hw [] ce (FP.dsub x0 mean) (FP.dsub x1 mean) (FP.dsub x2 mean) (FP.dsub x3 mean) w0 w1 w2 w3 (e0 * e2 + e1 * e3) hp22 n0 Z_22 Ar22' c0 ub0 c1 ub1 c2 ub2 c3 ub3 (by simp only [g0, g1, g2, g3, dbl]; omega)) (by rw [hml]; rfl) 0 rfl (Nat.le_of_eq rfl) (hb hby d1_111) (by decide) (by decide) (by decide) (by decide) (fun T45 rv45 Lc45 X45 qc45 => ?_)
    obtain ⟨r3, rfl, dr3, Mr3, her3⟩ := qc45
    show own_Go p.tables e below _ (T45.setTop (mkF m 114 (Array.mk [.val (.ref da), .val (.double tot), .second, .val (.double mean), .second, .val (.ref ce), .val (.double r0), .second, .val (.double (FP.ddiv (FP.i2d nu0) (FP.i2d pp))), .second, .val (.int (2 : Int32)), .val (.double (FP.ddiv (FP.i2d nu0) (FP.i2d pp))), .second]) [.double r3]))
    have Nf22_r0_r1_r2_r3 := Fr.app Nf22_r0_r1_r2 Mr3
    refine own_blk dec1 seq1 hby hx hZ hown hK hF 4 [] [] X45 her3 ?_
    show own_Aft X45 hp22 _ 120 [.val (.ref da), .val (.double tot), .second, .val (.double mean), .second, .val (.ref ce), .val (.double r0), .second, .val (.double (FP.ddiv (FP.i2d nu0) (FP.i2d pp))), .second, .val (.int (2 : Int32)), .val (.double (FP.ddiv (FP.i2d nu0) (FP.i2d pp))), .second] [.int (3 : Int32), .ref ce, .double r3]
    refine fun T46 X46 eh46 => ?_
    refine own_callS X46 hx hZ hown (hw _ (List.mem_of_getElem? (i := 8) rfl)) (hw _ (List.mem_of_getElem? (i := 9) rfl)) (hw _ (List.mem_of_getElem? (i := 3) rfl)) (hw _ (List.mem_of_getElem? (i := 10) rfl)) (by decide) eh46 [.ref ce, .int (3 : Int32)] pd3 rfl (rm := ({ frames := 0, cells := 0, slots := 0, locals := 0 } : Room)) (rm3_4_3 l Z a0 hw [] ce (FP.dsub x0 mean) (FP.dsub x1 mean) (FP.dsub x2 mean) (FP.dsub x3 mean) w0 w1 w2 w3 (e0 * e3) hp22 n0 Z_22 Ar22' c0 ub0 c1 ub1 c2 ub2 c3 ub3 (by simp only [g0, g1, g2, g3, dbl]; omega)) (by rw [hml]; rfl) 2 rfl (Nat.le_of_eq rfl) (hb hby d1_120) (by decide) (by decide) (by decide) (by decide) (fun T47 rv47 Lc47 X47 qc47 => ?_)
    obtain ⟨r4, rfl, dr4, Mr4, her4⟩ := qc47
    show own_Go p.tables e below _ (T47.setTop (mkF m 123 (Array.mk [.val (.ref da), .val (.double tot), .second, .val (.double mean), .second, .val (.ref ce), .val (.double r0), .second, .val (.double (FP.ddiv (FP.i2d nu0) (FP.i2d pp))), .second, .val (.int (2 : Int32)), .val (.double (FP.ddiv (FP.i2d nu0) (FP.i2d pp))), .second]) [.double r4, .double r3]))
    have Nf22_r0_r1_r2_r3_r4 := Fr.app Nf22_r0_r1_r2_r3 Mr4
    have sm2 := dr3.add (by omega) dr4 (by omega)
    have qn2 : own_num (FP.ddiv (FP.dadd r3 r4) r0) := own_num_div sm2.num dr0.1 (dr0.ne (by omega))
    have qs2 : FP.ddiv (FP.dadd r3 r4) r0 = FP.ddiv (FP.i2d nu1) (FP.i2d pp) := own_qsame sm2 dr0 (by omega) hp (by omega) ppos
    obtain ⟨qf2, qp2, qb2⟩ := own_qb (n := nu1) (p := pp) hn1 (by omega)
    have nq := own_num_add qf qf2
    obtain ⟨vv, hvv⟩ := own_rep 0 (by omega) 4294967296 (by omega)
    have bq : own_z (FP.dadd (FP.ddiv (FP.i2d nu0) (FP.i2d pp)) (FP.ddiv (FP.i2d nu1) (FP.i2d pp))) ≤ 4294967296 * ((2 ^ (1074 - 0) : Nat) : Int) := by rw [← hvv.2]; exact own_add_le qf qf2 hvv.num (by rw [hvv.2]; omega)
    have lq : own_z (FP.ddiv (FP.i2d nu0) (FP.i2d pp)) ≤ own_z (FP.dadd (FP.ddiv (FP.i2d nu0) (FP.i2d pp)) (FP.ddiv (FP.i2d nu1) (FP.i2d pp))) := own_add_ge qf qf2 (own_fin_num qf) (by omega)
    have fq := own_fin_btw (g := 0) (A := 0) (B := 4294967296) (by omega) nq (by omega) bq (by omega) (by omega)
    refine own_blk dec1 seq1 hby hx hZ hown hK hF 12 [true] [] X47 her4 ?_
    show (Jvm.Free.Fl.NoNaN64 (FP.dadd r3 r4)) ∧ (Jvm.Free.Fl.NoNaN64 (FP.ddiv (FP.dadd r3 r4) r0)) ∧ (0 < (cmpValue (FP.dcmp (FP.ddiv (FP.dadd r3 r4) r0) 0) .g).toInt) ∧ (Jvm.Free.Fl.NoNaN64 (FP.dadd (FP.ddiv (FP.i2d nu0) (FP.i2d pp)) (FP.ddiv (FP.dadd r3 r4) r0))) ∧ own_Aft X47 hp22 _ 146 [.val (.ref da), .val (.double tot), .second, .val (.double mean), .second, .val (.ref ce), .val (.double r0), .second, .val (.double (FP.dadd (FP.ddiv (FP.i2d nu0) (FP.i2d pp)) (FP.ddiv (FP.dadd r3 r4) r0))), .second, .val (.int (2 : Int32)), .val (.double (FP.ddiv (FP.dadd r3 r4) r0)), .second] []
    refine ⟨own_nn sm2.num, own_nn qn2, by rw [qs2, own_cv_gt (own_gt (own_fin_num qf2) own_z00.num (by omega))]; omega, by rw [qs2]; exact own_nn nq, fun T48 X48 eh48 => ?_⟩
    refine own_blk dec1 seq1 hby hx hZ hown hK hF 2 [] [] X48 eh48 ?_
    show own_Aft X48 hp22 _ 97 [.val (.ref da), .val (.double tot), .second, .val (.double mean), .second, .val (.ref ce), .val (.double r0), .second, .val (.double (FP.dadd (FP.ddiv (FP.i2d nu0) (FP.i2d pp)) (FP.ddiv (FP.dadd r3 r4) r0))), .second, .val (.int (4 : Int32)), .val (.double (FP.ddiv (FP.dadd r3 r4) r0)), .second] []
    refine fun T49 X49 eh49 => ?_
    refine own_blk dec1 seq1 hby hx hZ hown hK hF 6 [true] [.int (4 : Int32)] X49 eh49 ?_
    show (own_ln Z hp22 ce (4 : Int32)) ∧ (((4 : Int32)).toInt ≤ ((5 : Int32)).toInt) ∧ own_Aft X49 hp22 _ 152 [.val (.ref da), .val (.double tot), .second, .val (.double mean), .second, .val (.ref ce), .val (.double r0), .second, .val (.double (FP.dadd (FP.ddiv (FP.i2d nu0) (FP.i2d pp)) (FP.ddiv (FP.dadd r3 r4) r0))), .second, .val (.int (4 : Int32)), .val (.double (FP.ddiv (FP.dadd r3 r4) r0)), .second] []
    refine ⟨Ar22'.ln (4 : Int32) rfl, by decide, fun T50 X50 eh50 => ?_⟩
    rw [qs2]
    show own_Go p.tables e below _ (T50.setTop (mkF m 152 (Array.mk [.val (.ref da), .val (.double tot), .second, .val (.double mean), .second, .val (.ref ce), .val (.double r0), .second, .val (.double (FP.dadd (FP.ddiv (FP.i2d nu0) (FP.i2d pp)) (FP.ddiv (FP.i2d nu1) (FP.i2d pp)))), .second, .val (.int (4 : Int32)), .val (.double (FP.ddiv (FP.i2d nu1) (FP.i2d pp))), .second]) []))
    obtain ⟨nt, ft⟩ := own_tau_b fq (Int.le_of_lt (Int.lt_of_lt_of_le qp lq)) bq
    have zz := own_z00.2
    rcases ht with ⟨ht, rfl⟩ | ⟨ht, rfl⟩
    · skip
      refine own_blk dec1 seq1 hby hx hZ hown hK hF 12 [false] [.int (4 : Int32)] X50 eh50 ?_
      show (Jvm.Free.Fl.NoNaN64 (FP.dmul 4611686018427387904 (FP.dadd (FP.ddiv (FP.i2d nu0) (FP.i2d pp)) (FP.ddiv (FP.i2d nu1) (FP.i2d pp))))) ∧ (Jvm.Free.Fl.NoNaN64 (FP.dadd 13830554455654793216 (FP.dmul 4611686018427387904 (FP.dadd (FP.ddiv (FP.i2d nu0) (FP.i2d pp)) (FP.ddiv (FP.i2d nu1) (FP.i2d pp)))))) ∧ (¬ ((cmpValue (FP.dcmp (FP.dadd 13830554455654793216 (FP.dmul 4611686018427387904 (FP.dadd (FP.ddiv (FP.i2d nu0) (FP.i2d pp)) (FP.ddiv (FP.i2d nu1) (FP.i2d pp))))) 0) .l).toInt ≤ 0)) ∧ (own_ln Z hp22 da (4 : Int32)) ∧ own_Aft X50 hp22 _ 173 [.val (.ref da), .val (.double tot), .second, .val (.double mean), .second, .val (.ref ce), .val (.double r0), .second, .val (.double (FP.dadd (FP.ddiv (FP.i2d nu0) (FP.i2d pp)) (FP.ddiv (FP.i2d nu1) (FP.i2d pp)))), .second, .val (.double (FP.dadd 13830554455654793216 (FP.dmul 4611686018427387904 (FP.dadd (FP.ddiv (FP.i2d nu0) (FP.i2d pp)) (FP.ddiv (FP.i2d nu1) (FP.i2d pp)))))), .second, .unset] [.int (4 : Int32)]
      refine ⟨own_nn nt, own_nn (own_fin_num ft), by rw [show FP.dadd 13830554455654793216 (FP.dmul 4611686018427387904 (FP.dadd (FP.ddiv (FP.i2d nu0) (FP.i2d pp)) (FP.ddiv (FP.i2d nu1) (FP.i2d pp)))) = own_tau (FP.dadd (FP.ddiv (FP.i2d nu0) (FP.i2d pp)) (FP.ddiv (FP.i2d nu1) (FP.i2d pp))) from rfl, own_cv_gt (own_gt (own_fin_num ft) own_z00.num (by omega))]; omega, A0_22.ln (4 : Int32) rfl, fun T51 X51 eh51 => ?_⟩
      refine own_blk dec1 seq1 hby hx hZ hown hK hF 4 [] [] X51 eh51 ?_
      show (Jvm.Free.Fl.NoNaN64 (FP.ddiv (FP.i2d (4 : Int32)) (FP.dadd 13830554455654793216 (FP.dmul 4611686018427387904 (FP.dadd (FP.ddiv (FP.i2d nu0) (FP.i2d pp)) (FP.ddiv (FP.i2d nu1) (FP.i2d pp))))))) ∧ own_Aft X51 hp22 _ 183 [.val (.ref da), .val (.double tot), .second, .val (.double mean), .second, .val (.ref ce), .val (.double r0), .second, .val (.double (FP.dadd (FP.ddiv (FP.i2d nu0) (FP.i2d pp)) (FP.ddiv (FP.i2d nu1) (FP.i2d pp)))), .second, .val (.double (FP.dadd 13830554455654793216 (FP.dmul 4611686018427387904 (FP.dadd (FP.ddiv (FP.i2d nu0) (FP.i2d pp)) (FP.ddiv (FP.i2d nu1) (FP.i2d pp)))))), .second, .unset] [.double (FP.ddiv (FP.i2d (4 : Int32)) (FP.dadd 13830554455654793216 (FP.dmul 4611686018427387904 (FP.dadd (FP.ddiv (FP.i2d nu0) (FP.i2d pp)) (FP.ddiv (FP.i2d nu1) (FP.i2d pp))))))]
      refine ⟨own_nn (own_num_div own_4g.num ft (Int.ne_of_gt ht)), fun T52 X52 eh52 => ?_⟩
      exact own_ret X52 hx hlk eh52 hret (by first | rfl | decide) (Or.inr (Or.inr (Or.inl ⟨rfl, rfl, _, rfl⟩))) (hb hby d1_183) (by decide) (by decide) (⟨by rw [own_i4]; rfl, Nf22_r0_r1_r2_r3_r4, A0_22⟩)
    · skip
      refine own_blk dec1 seq1 hby hx hZ hown hK hF 11 [true] [] X50 eh50 ?_
      show (Jvm.Free.Fl.NoNaN64 (FP.dmul 4611686018427387904 (FP.dadd (FP.ddiv (FP.i2d nu0) (FP.i2d pp)) (FP.ddiv (FP.i2d nu1) (FP.i2d pp))))) ∧ (Jvm.Free.Fl.NoNaN64 (FP.dadd 13830554455654793216 (FP.dmul 4611686018427387904 (FP.dadd (FP.ddiv (FP.i2d nu0) (FP.i2d pp)) (FP.ddiv (FP.i2d nu1) (FP.i2d pp)))))) ∧ ((cmpValue (FP.dcmp (FP.dadd 13830554455654793216 (FP.dmul 4611686018427387904 (FP.dadd (FP.ddiv (FP.i2d nu0) (FP.i2d pp)) (FP.ddiv (FP.i2d nu1) (FP.i2d pp))))) 0) .l).toInt ≤ 0) ∧ own_Aft X50 hp22 _ 183 [.val (.ref da), .val (.double tot), .second, .val (.double mean), .second, .val (.ref ce), .val (.double r0), .second, .val (.double (FP.dadd (FP.ddiv (FP.i2d nu0) (FP.i2d pp)) (FP.ddiv (FP.i2d nu1) (FP.i2d pp)))), .second, .val (.double (FP.dadd 13830554455654793216 (FP.dmul 4611686018427387904 (FP.dadd (FP.ddiv (FP.i2d nu0) (FP.i2d pp)) (FP.ddiv (FP.i2d nu1) (FP.i2d pp)))))), .second, .unset] [.double 9218868437227405312]
      refine ⟨own_nn nt, own_nn (own_fin_num ft), by rw [show FP.dadd 13830554455654793216 (FP.dmul 4611686018427387904 (FP.dadd (FP.ddiv (FP.i2d nu0) (FP.i2d pp)) (FP.ddiv (FP.i2d nu1) (FP.i2d pp)))) = own_tau (FP.dadd (FP.ddiv (FP.i2d nu0) (FP.i2d pp)) (FP.ddiv (FP.i2d nu1) (FP.i2d pp))) from rfl]; rcases Int.lt_or_eq_of_le ht with q | q <;> first | (rw [own_cv_lt (own_lt (own_fin_num ft) own_z00.num (by omega))]; omega) | (rw [own_cv_eq (own_eq (own_fin_num ft) own_z00.num (by omega))]; omega), fun T53 X53 eh53 => ?_⟩
      exact own_ret X53 hx hlk eh53 hret (by first | rfl | decide) (Or.inr (Or.inr (Or.inl ⟨rfl, rfl, _, rfl⟩))) (hb hby d1_183) (by decide) (by decide) (⟨rfl, Nf22_r0_r1_r2_r3_r4, A0_22⟩)
theorem own_i6 (x : Int32) : own_D 6 (64 * x.toInt) (FP.i2d x) := by
  have := own_D.i2dg 6 (by omega) x
  rwa [show x.toInt * ((2 ^ 6 : Nat) : Int) = 64 * x.toInt by omega] at this
theorem own_l4 : (4 : Int32).toInt = 4 := rfl
theorem own_x4 (x : Int32) (h : -1024 ≤ x.toInt ∧ x.toInt ≤ 1023) : ((4 : Int32) * x).toInt = 4 * x.toInt := by
  rw [own_mul32 (by rw [own_l4]; omega) (by rw [own_l4]; omega), own_l4]
theorem own_pm {a b : Int32} (ha : -8000 ≤ a.toInt ∧ a.toInt ≤ 8000) (hb : -8000 ≤ b.toInt ∧ b.toInt ≤ 8000) : (a * b).toInt = a.toInt * b.toInt ∧ -64000000 ≤ a.toInt * b.toInt ∧ a.toInt * b.toInt ≤ 64000000 := by
  have h : -64000000 ≤ a.toInt * b.toInt ∧ a.toInt * b.toInt ≤ 64000000 := by
    have k : (a.toInt * b.toInt).natAbs ≤ 8000 * 8000 := by
      rw [Int.natAbs_mul]
      exact Nat.mul_le_mul (by omega) (by omega)
    omega
  exact ⟨own_mul32 (by omega) (by omega), h⟩
set_option maxRecDepth 65536 in
set_option maxHeartbeats 40000000 in
theorem rm0 (l : Launch) (Z : State) (a0 : Array Value) (hw : ∀ d ∈ tables_1, d.before a0 Z = true) (ws : List Jvm.Cond) (aa bb cc dd md : Int32) (h0 : Heap) (n0 : Nat) (Z0 : n0 ≤ h0.size)  :
    MetFree l x (head1 (Jvm.Cond.code x code maxLocals ret :: ws) room_1) (fun as_ U => as_ = #[.int aa, .int bb, .int cc, .int dd, .int md] ∧ Z.Warmed39 U.vm ∧ U.heap = h0) (fun _ _ _ _ _ => True) (fun _ U o U' => own_Fin U 16 128 (fun v h L => v = some (.int 1) ∧ Fr n0 L) o U') := by
  refine own_body (plainFor_of_name pn0) (ls0 := [.val (.int aa), .val (.int bb), .val (.int cc), .val (.int dd), .val (.int md), .unset, .unset, .unset, .unset, .unset, .unset, .unset, .unset, .unset, .unset, .unset, .unset, .unset, .unset, .unset, .unset, .unset, .unset, .unset, .unset, .unset, .unset, .unset, .unset]) (fun m => by first | (simp [entryFrame, mkF, argsToLocals, Value.category, maxLocals]; done) | rfl) ?_
  intro p e s m below meth c T0 hx hby hml hown hnm hlk hret hZ X0 e0
  have hK : own_ks "com/example/veritree/veritree/calibration/EffectiveSampleSizeOfPinLaw" a0 Z kt0 := ⟨hw _ (List.mem_of_getElem? (i := 13) rfl), hw _ (List.mem_of_getElem? (i := 14) rfl), hw _ (List.mem_of_getElem? (i := 15) rfl), trivial⟩
  have hF : own_fs "com/example/veritree/veritree/calibration/EffectiveSampleSizeOfPinLaw" a0 Z ft0 := trivial
  have N0 := Fr.nil n0
  have b0 := own_s11 aa
  have b1 := own_s11 bb
  have b2 := own_s11 cc
  have b3 := own_s11 dd
  have hm := own_and32 md 7 (by decide)
  have l7 : (7 : Int32).toInt = 7 := rfl
  have l1 : (1 : Int32).toInt = 1 := rfl
  have l2 : (2 : Int32).toInt = 2 := rfl
  refine own_blk dec0 seq0 hby hx hZ hown hK hF 12 [] [.int (21 : Int32), .int (21 : Int32), .int (21 : Int32), .int (21 : Int32)] X0 e0 ?_
  show ((Int8.ofInt 21).toInt32 = (21 : Int32)) ∧ ((Int8.ofInt 21).toInt32 = (21 : Int32)) ∧ ((Int8.ofInt 21).toInt32 = (21 : Int32)) ∧ ((Int8.ofInt 21).toInt32 = (21 : Int32)) ∧ own_Aft X0 h0 _ 18 [.val (.int aa), .val (.int bb), .val (.int cc), .val (.int dd), .val (.int md), .val (.int ((aa <<< ((21 : Int32) &&& 31)) >>> ((21 : Int32) &&& 31))), .val (.int ((bb <<< ((21 : Int32) &&& 31)) >>> ((21 : Int32) &&& 31))), .unset, .unset, .unset, .unset, .unset, .unset, .unset, .unset, .unset, .unset, .unset, .unset, .unset, .unset, .unset, .unset, .unset, .unset, .unset, .unset, .unset, .unset] []
  refine ⟨by decide +kernel, by decide +kernel, by decide +kernel, by decide +kernel, fun T1 X1 eh1 => ?_⟩
  refine own_blk dec0 seq0 hby hx hZ hown hK hF 12 [] [.int (21 : Int32), .int (21 : Int32), .int (21 : Int32), .int (21 : Int32)] X1 eh1 ?_
  show ((Int8.ofInt 21).toInt32 = (21 : Int32)) ∧ ((Int8.ofInt 21).toInt32 = (21 : Int32)) ∧ ((Int8.ofInt 21).toInt32 = (21 : Int32)) ∧ ((Int8.ofInt 21).toInt32 = (21 : Int32)) ∧ own_Aft X1 h0 _ 36 [.val (.int aa), .val (.int bb), .val (.int cc), .val (.int dd), .val (.int md), .val (.int ((aa <<< ((21 : Int32) &&& 31)) >>> ((21 : Int32) &&& 31))), .val (.int ((bb <<< ((21 : Int32) &&& 31)) >>> ((21 : Int32) &&& 31))), .val (.int ((cc <<< ((21 : Int32) &&& 31)) >>> ((21 : Int32) &&& 31))), .val (.int ((dd <<< ((21 : Int32) &&& 31)) >>> ((21 : Int32) &&& 31))), .unset, .unset, .unset, .unset, .unset, .unset, .unset, .unset, .unset, .unset, .unset, .unset, .unset, .unset, .unset, .unset, .unset, .unset, .unset, .unset] []
  refine ⟨by decide +kernel, by decide +kernel, by decide +kernel, by decide +kernel, fun T2 X2 eh2 => ?_⟩
  refine own_blk dec0 seq0 hby hx hZ hown hK hF 4 [] [.int (7 : Int32)] X2 eh2 ?_
  show ((Int8.ofInt 7).toInt32 = (7 : Int32)) ∧ own_Aft X2 h0 _ 43 [.val (.int aa), .val (.int bb), .val (.int cc), .val (.int dd), .val (.int md), .val (.int ((aa <<< ((21 : Int32) &&& 31)) >>> ((21 : Int32) &&& 31))), .val (.int ((bb <<< ((21 : Int32) &&& 31)) >>> ((21 : Int32) &&& 31))), .val (.int ((cc <<< ((21 : Int32) &&& 31)) >>> ((21 : Int32) &&& 31))), .val (.int ((dd <<< ((21 : Int32) &&& 31)) >>> ((21 : Int32) &&& 31))), .val (.int (md &&& (7 : Int32))), .unset, .unset, .unset, .unset, .unset, .unset, .unset, .unset, .unset, .unset, .unset, .unset, .unset, .unset, .unset, .unset, .unset, .unset, .unset] []
  refine ⟨by decide +kernel, fun T3 X3 eh3 => ?_⟩
  generalize (aa <<< ((21 : Int32) &&& 31)) >>> ((21 : Int32) &&& 31) = x0 at b0 ⊢
  generalize (bb <<< ((21 : Int32) &&& 31)) >>> ((21 : Int32) &&& 31) = x1 at b1 ⊢
  generalize (cc <<< ((21 : Int32) &&& 31)) >>> ((21 : Int32) &&& 31) = x2 at b2 ⊢
  generalize (dd <<< ((21 : Int32) &&& 31)) >>> ((21 : Int32) &&& 31) = x3 at b3 ⊢
  generalize md &&& (7 : Int32) = mm at hm ⊢
  show own_Go p.tables e below _ (T3.setTop (mkF m 43 (Array.mk [.val (.int aa), .val (.int bb), .val (.int cc), .val (.int dd), .val (.int md), .val (.int x0), .val (.int x1), .val (.int x2), .val (.int x3), .val (.int mm), .unset, .unset, .unset, .unset, .unset, .unset, .unset, .unset, .unset, .unset, .unset, .unset, .unset, .unset, .unset, .unset, .unset, .unset, .unset]) []))
  have D0 := own_i6 x0
  have D1 := own_i6 x1
  have D2 := own_i6 x2
  have D3 := own_i6 x3
  obtain hv | hv | hv | hv : mm.toInt = 0 ∨ mm.toInt = 1 ∨ mm.toInt = 2 ∨ 3 ≤ mm.toInt := by omega
  · skip
    refine own_blk dec0 seq0 hby hx hZ hown hK hF 3 [false] [] X3 eh3 ?_
    show (¬ ((mm).toInt ≠ 0)) ∧ own_Aft X3 h0 _ 49 [.val (.int aa), .val (.int bb), .val (.int cc), .val (.int dd), .val (.int md), .val (.int x0), .val (.int x1), .val (.int x2), .val (.int x3), .val (.int mm), .unset, .unset, .unset, .unset, .unset, .unset, .unset, .unset, .unset, .unset, .unset, .unset, .unset, .unset, .unset, .unset, .unset, .unset, .unset] [.int (0 : Int32)]
    refine ⟨by omega, fun T4 X4 eh4 => ?_⟩
    refine own_newP X4 hx hZ (hw _ (List.mem_of_getElem? (i := 0) rfl)) eh4 0 rfl (cap := 0) (by decide) (by decide) (hb hby at_49) (by decide) (by decide) (fun T5 hp5 da ga5 X5 eh5 Ex5 Ar5 => ?_)
    have nw_da : n0 ≤ da := by rw [ga5]; exact Z0
    have Z_5 : n0 ≤ hp5.size := Nat.le_trans Z0 Ex5.1
    have Ar5' : own_A Z hp5 da .double [] := Ar5
    show own_Go p.tables e below _ (T5.setTop (mkF m 51 (Array.mk [.val (.int aa), .val (.int bb), .val (.int cc), .val (.int dd), .val (.int md), .val (.int x0), .val (.int x1), .val (.int x2), .val (.int x3), .val (.int mm), .unset, .unset, .unset, .unset, .unset, .unset, .unset, .unset, .unset, .unset, .unset, .unset, .unset, .unset, .unset, .unset, .unset, .unset, .unset]) [.ref da]))
    refine own_callS X5 hx hZ hown (hw _ (List.mem_of_getElem? (i := 1) rfl)) (hw _ (List.mem_of_getElem? (i := 2) rfl)) (hw _ (List.mem_of_getElem? (i := 3) rfl)) (hw _ (List.mem_of_getElem? (i := 4) rfl)) (by decide) eh5 [.ref da] pd1 rfl (rm := ({ frames := 1, cells := 0, slots := 0, locals := 24 } : Room)) (rm1_0e l Z a0 hw [] da  hp5 n0 Z_5 nw_da Ar5' ) (by rw [hml]; rfl) 0 rfl (Nat.le_of_eq rfl) (hb hby at_51) (by decide) (by decide) (by decide) (by decide) (fun T6 rv6 Lc6 X6 qc6 => ?_)
    obtain ⟨rfl, M1, hh⟩ := qc6
    show own_Go p.tables e below _ (T6.setTop (mkF m 54 (Array.mk [.val (.int aa), .val (.int bb), .val (.int cc), .val (.int dd), .val (.int md), .val (.int x0), .val (.int x1), .val (.int x2), .val (.int x3), .val (.int mm), .unset, .unset, .unset, .unset, .unset, .unset, .unset, .unset, .unset, .unset, .unset, .unset, .unset, .unset, .unset, .unset, .unset, .unset, .unset]) [.double 0]))
    refine own_blk dec0 seq0 hby hx hZ hown hK hF 5 [false] [] X6 hh ?_
    show (¬ ((cmpValue (FP.dcmp 0 0) .l).toInt ≠ 0)) ∧ own_Aft X6 hp5 _ 64 [.val (.int aa), .val (.int bb), .val (.int cc), .val (.int dd), .val (.int md), .val (.int x0), .val (.int x1), .val (.int x2), .val (.int x3), .val (.int mm), .unset, .unset, .unset, .unset, .unset, .unset, .unset, .unset, .unset, .unset, .unset, .unset, .unset, .unset, .unset, .unset, .unset, .unset, .unset] [.int (1 : Int32)]
    refine ⟨by rw [own_cv_eq (FP.Core.dcmp_self own_z00.num)]; omega, fun T7 X7 eh7 => ?_⟩
    exact own_ret X7 hx hlk eh7 hret (by first | rfl | decide) (Or.inl ⟨rfl, by simp, _, rfl⟩) (hb hby at_64) (by decide) (by decide) (⟨rfl, Fr.app N0 M1⟩)
  · skip
    refine own_blk dec0 seq0 hby hx hZ hown hK hF 6 [true, false] [] X3 eh3 ?_
    show ((mm).toInt ≠ 0) ∧ (¬ ((mm).toInt ≠ ((1 : Int32)).toInt)) ∧ own_Aft X3 h0 _ 72 [.val (.int aa), .val (.int bb), .val (.int cc), .val (.int dd), .val (.int md), .val (.int x0), .val (.int x1), .val (.int x2), .val (.int x3), .val (.int mm), .unset, .unset, .unset, .unset, .unset, .unset, .unset, .unset, .unset, .unset, .unset, .unset, .unset, .unset, .unset, .unset, .unset, .unset, .unset] [.int (1 : Int32)]
    refine ⟨by omega, by omega, fun T8 X8 eh8 => ?_⟩
    refine own_newP X8 hx hZ (hw _ (List.mem_of_getElem? (i := 0) rfl)) eh8 1 rfl (cap := 1) (by decide) (by decide) (hb hby at_72) (by decide) (by decide) (fun T9 hp9 da ga9 X9 eh9 Ex9 Ar9 => ?_)
    have nw_da : n0 ≤ da := by rw [ga9]; exact Z0
    have Z_9 : n0 ≤ hp9.size := Nat.le_trans Z0 Ex9.1
    have Ar9' : own_A Z hp9 da .double [.double 0] := Ar9
    show own_Go p.tables e below _ (T9.setTop (mkF m 74 (Array.mk [.val (.int aa), .val (.int bb), .val (.int cc), .val (.int dd), .val (.int md), .val (.int x0), .val (.int x1), .val (.int x2), .val (.int x3), .val (.int mm), .unset, .unset, .unset, .unset, .unset, .unset, .unset, .unset, .unset, .unset, .unset, .unset, .unset, .unset, .unset, .unset, .unset, .unset, .unset]) [.ref da]))
    refine own_blk dec0 seq0 hby hx hZ hown hK hF 4 [] [] X9 eh9 ?_
    show own_Aft X9 hp9 _ 79 [.val (.int aa), .val (.int bb), .val (.int cc), .val (.int dd), .val (.int md), .val (.int x0), .val (.int x1), .val (.int x2), .val (.int x3), .val (.int mm), .unset, .unset, .unset, .unset, .unset, .unset, .unset, .unset, .unset, .unset, .unset, .unset, .unset, .unset, .unset, .unset, .unset, .unset, .unset] [.double (FP.i2d x0), .int (0 : Int32), .ref da, .ref da]
    refine fun T10 X10 eh10 => ?_
    refine own_sD X10 hx hZ eh10 Ar9' 0 rfl (by show 0 < 1; decide) (hb hby at_79) (fun T11 hp11 X11 eh11 Wr11 Ar11 => ?_)
    have Ar11' : own_A Z hp11 da .double [.double (FP.i2d x0)] := Ar11
    have Nf11 := Fr.snoc X11 N0 nw_da
    have Z_11 : n0 ≤ hp11.size := by rw [Wr.size Wr11]; exact Z_9
    refine own_blk dec0 seq0 hby hx hZ hown hK hF 2 [] [] X11 eh11 ?_
    show own_Aft X11 hp11 _ 84 [.val (.int aa), .val (.int bb), .val (.int cc), .val (.int dd), .val (.int md), .val (.int x0), .val (.int x1), .val (.int x2), .val (.int x3), .val (.int mm), .val (.ref da), .unset, .unset, .unset, .unset, .unset, .unset, .unset, .unset, .unset, .unset, .unset, .unset, .unset, .unset, .unset, .unset, .unset, .unset] [.ref da]
    refine fun T12 X12 eh12 => ?_
    refine own_callS X12 hx hZ hown (hw _ (List.mem_of_getElem? (i := 1) rfl)) (hw _ (List.mem_of_getElem? (i := 2) rfl)) (hw _ (List.mem_of_getElem? (i := 3) rfl)) (hw _ (List.mem_of_getElem? (i := 4) rfl)) (by decide) eh12 [.ref da] pd1 rfl (rm := ({ frames := 1, cells := 0, slots := 0, locals := 24 } : Room)) (rm1_1e l Z a0 hw [] da (FP.i2d x0) x0.toInt hp11 n0 Z_11 nw_da Ar11' D0) (by rw [hml]; rfl) 0 rfl (Nat.le_of_eq rfl) (hb hby at_84) (by decide) (by decide) (by decide) (by decide) (fun T13 rv13 Lc13 X13 qc13 => ?_)
    obtain ⟨rfl, M1, hh⟩ := qc13
    show own_Go p.tables e below _ (T13.setTop (mkF m 87 (Array.mk [.val (.int aa), .val (.int bb), .val (.int cc), .val (.int dd), .val (.int md), .val (.int x0), .val (.int x1), .val (.int x2), .val (.int x3), .val (.int mm), .val (.ref da), .unset, .unset, .unset, .unset, .unset, .unset, .unset, .unset, .unset, .unset, .unset, .unset, .unset, .unset, .unset, .unset, .unset, .unset]) [.double 0]))
    refine own_blk dec0 seq0 hby hx hZ hown hK hF 12 [false, false] [.double (FP.i2d x0)] X13 hh ?_
    show (¬ ((cmpValue (FP.dcmp 0 0) .l).toInt ≠ 0)) ∧ (own_at Z hp11 da .double (0 : Int32) (.double (FP.i2d x0))) ∧ (¬ ((cmpValue (FP.dcmp (FP.i2d x0) (FP.i2d x0)) .l).toInt ≠ 0)) ∧ own_Aft X13 hp11 _ 107 [.val (.int aa), .val (.int bb), .val (.int cc), .val (.int dd), .val (.int md), .val (.int x0), .val (.int x1), .val (.int x2), .val (.int x3), .val (.int mm), .val (.ref da), .val (.double 0), .second, .unset, .unset, .unset, .unset, .unset, .unset, .unset, .unset, .unset, .unset, .unset, .unset, .unset, .unset, .unset, .unset] []
    refine ⟨by rw [own_cv_eq (FP.Core.dcmp_self own_z00.num)]; omega, Ar11'.at (0 : Int32) 0 rfl rfl, by rw [own_cv_eq (FP.Core.dcmp_self D0.num)]; omega, fun T14 X14 eh14 => ?_⟩
    refine own_blk dec0 seq0 hby hx hZ hown hK hF 2 [] [] X14 eh14 ?_
    show own_Aft X14 hp11 _ 112 [.val (.int aa), .val (.int bb), .val (.int cc), .val (.int dd), .val (.int md), .val (.int x0), .val (.int x1), .val (.int x2), .val (.int x3), .val (.int mm), .val (.ref da), .val (.double 0), .second, .unset, .unset, .unset, .unset, .unset, .unset, .unset, .unset, .unset, .unset, .unset, .unset, .unset, .unset, .unset, .unset] [.int (1 : Int32)]
    refine fun T15 X15 eh15 => ?_
    exact own_ret X15 hx hlk eh15 hret (by first | rfl | decide) (Or.inl ⟨rfl, by simp, _, rfl⟩) (hb hby at_112) (by decide) (by decide) (⟨rfl, Fr.app Nf11 M1⟩)
  · skip
    refine own_blk dec0 seq0 hby hx hZ hown hK hF 9 [true, true, false] [] X3 eh3 ?_
    show ((mm).toInt ≠ 0) ∧ ((mm).toInt ≠ ((1 : Int32)).toInt) ∧ (¬ ((mm).toInt ≠ ((2 : Int32)).toInt)) ∧ own_Aft X3 h0 _ 120 [.val (.int aa), .val (.int bb), .val (.int cc), .val (.int dd), .val (.int md), .val (.int x0), .val (.int x1), .val (.int x2), .val (.int x3), .val (.int mm), .unset, .unset, .unset, .unset, .unset, .unset, .unset, .unset, .unset, .unset, .unset, .unset, .unset, .unset, .unset, .unset, .unset, .unset, .unset] [.int (2 : Int32)]
    refine ⟨by omega, by omega, by omega, fun T16 X16 eh16 => ?_⟩
    refine own_newP X16 hx hZ (hw _ (List.mem_of_getElem? (i := 0) rfl)) eh16 2 rfl (cap := 2) (by decide) (by decide) (hb hby at_120) (by decide) (by decide) (fun T17 hp17 da ga17 X17 eh17 Ex17 Ar17 => ?_)
    have nw_da : n0 ≤ da := by rw [ga17]; exact Z0
    have Z_17 : n0 ≤ hp17.size := Nat.le_trans Z0 Ex17.1
    have Ar17' : own_A Z hp17 da .double [.double 0, .double 0] := Ar17
    show own_Go p.tables e below _ (T17.setTop (mkF m 122 (Array.mk [.val (.int aa), .val (.int bb), .val (.int cc), .val (.int dd), .val (.int md), .val (.int x0), .val (.int x1), .val (.int x2), .val (.int x3), .val (.int mm), .unset, .unset, .unset, .unset, .unset, .unset, .unset, .unset, .unset, .unset, .unset, .unset, .unset, .unset, .unset, .unset, .unset, .unset, .unset]) [.ref da]))
    refine own_blk dec0 seq0 hby hx hZ hown hK hF 4 [] [] X17 eh17 ?_
    show own_Aft X17 hp17 _ 127 [.val (.int aa), .val (.int bb), .val (.int cc), .val (.int dd), .val (.int md), .val (.int x0), .val (.int x1), .val (.int x2), .val (.int x3), .val (.int mm), .unset, .unset, .unset, .unset, .unset, .unset, .unset, .unset, .unset, .unset, .unset, .unset, .unset, .unset, .unset, .unset, .unset, .unset, .unset] [.double (FP.i2d x0), .int (0 : Int32), .ref da, .ref da]
    refine fun T18 X18 eh18 => ?_
    refine own_sD X18 hx hZ eh18 Ar17' 0 rfl (by show 0 < 2; decide) (hb hby at_127) (fun T19 hp19 X19 eh19 Wr19 Ar19 => ?_)
    have Ar19' : own_A Z hp19 da .double [.double (FP.i2d x0), .double 0] := Ar19
    have Nf19 := Fr.snoc X19 N0 nw_da
    have Z_19 : n0 ≤ hp19.size := by rw [Wr.size Wr19]; exact Z_17
    refine own_blk dec0 seq0 hby hx hZ hown hK hF 4 [] [] X19 eh19 ?_
    show own_Aft X19 hp19 _ 133 [.val (.int aa), .val (.int bb), .val (.int cc), .val (.int dd), .val (.int md), .val (.int x0), .val (.int x1), .val (.int x2), .val (.int x3), .val (.int mm), .unset, .unset, .unset, .unset, .unset, .unset, .unset, .unset, .unset, .unset, .unset, .unset, .unset, .unset, .unset, .unset, .unset, .unset, .unset] [.double (FP.i2d x1), .int (1 : Int32), .ref da, .ref da]
    refine fun T20 X20 eh20 => ?_
    refine own_sD X20 hx hZ eh20 Ar19' 1 rfl (by show 1 < 2; decide) (hb hby at_133) (fun T21 hp21 X21 eh21 Wr21 Ar21 => ?_)
    have Ar21' : own_A Z hp21 da .double [.double (FP.i2d x0), .double (FP.i2d x1)] := Ar21
    have Nf21 := Fr.snoc X21 Nf19 nw_da
    have Z_21 : n0 ≤ hp21.size := by rw [Wr.size Wr21]; exact Z_19
    refine own_blk dec0 seq0 hby hx hZ hown hK hF 2 [] [] X21 eh21 ?_
    show own_Aft X21 hp21 _ 138 [.val (.int aa), .val (.int bb), .val (.int cc), .val (.int dd), .val (.int md), .val (.int x0), .val (.int x1), .val (.int x2), .val (.int x3), .val (.int mm), .val (.ref da), .unset, .unset, .unset, .unset, .unset, .unset, .unset, .unset, .unset, .unset, .unset, .unset, .unset, .unset, .unset, .unset, .unset, .unset] [.ref da]
    refine fun T22 X22 eh22 => ?_
    by_cases hq : x1.toInt = x0.toInt
    · skip
      refine own_callS X22 hx hZ hown (hw _ (List.mem_of_getElem? (i := 1) rfl)) (hw _ (List.mem_of_getElem? (i := 2) rfl)) (hw _ (List.mem_of_getElem? (i := 3) rfl)) (hw _ (List.mem_of_getElem? (i := 4) rfl)) (by decide) eh22 [.ref da] pd1 rfl (rm := ({ frames := 1, cells := 0, slots := 0, locals := 24 } : Room)) (rm1_2e l Z a0 hw [] da (FP.i2d x0) (FP.i2d x1) x0.toInt x1.toInt hp21 n0 Z_21 nw_da Ar21' D0 D1 hq) (by rw [hml]; rfl) 0 rfl (Nat.le_of_eq rfl) (hb hby at_138) (by decide) (by decide) (by decide) (by decide) (fun T23 rv23 Lc23 X23 qc23 => ?_)
      obtain ⟨rfl, M1, hh⟩ := qc23
      show own_Go p.tables e below _ (T23.setTop (mkF m 141 (Array.mk [.val (.int aa), .val (.int bb), .val (.int cc), .val (.int dd), .val (.int md), .val (.int x0), .val (.int x1), .val (.int x2), .val (.int x3), .val (.int mm), .val (.ref da), .unset, .unset, .unset, .unset, .unset, .unset, .unset, .unset, .unset, .unset, .unset, .unset, .unset, .unset, .unset, .unset, .unset, .unset]) [.double 0]))
      refine own_blk dec0 seq0 hby hx hZ hown hK hF 12 [false] [.double (FP.i2d x0), .double (FP.i2d x1)] X23 hh ?_
      show (own_at Z hp21 da .double (0 : Int32) (.double (FP.i2d x0))) ∧ (¬ ((cmpValue (FP.dcmp (FP.i2d x0) (FP.i2d x0)) .l).toInt ≠ 0)) ∧ (own_at Z hp21 da .double (1 : Int32) (.double (FP.i2d x1))) ∧ own_Aft X23 hp21 _ 160 [.val (.int aa), .val (.int bb), .val (.int cc), .val (.int dd), .val (.int md), .val (.int x0), .val (.int x1), .val (.int x2), .val (.int x3), .val (.int mm), .val (.ref da), .val (.double 0), .second, .unset, .unset, .unset, .unset, .unset, .unset, .unset, .unset, .unset, .unset, .unset, .unset, .unset, .unset, .unset, .unset] [.int x1, .double (FP.i2d x1)]
      refine ⟨Ar21'.at (0 : Int32) 0 rfl rfl, by rw [own_cv_eq (FP.Core.dcmp_self D0.num)]; omega, Ar21'.at (1 : Int32) 1 rfl rfl, fun T24 X24 eh24 => ?_⟩
      refine own_blk dec0 seq0 hby hx hZ hown hK hF 12 [false, false] [] X24 eh24 ?_
      show (¬ ((cmpValue (FP.dcmp (FP.i2d x1) (FP.i2d x1)) .l).toInt ≠ 0)) ∧ (¬ ((x0).toInt ≠ (x1).toInt)) ∧ own_Aft X24 hp21 _ 183 [.val (.int aa), .val (.int bb), .val (.int cc), .val (.int dd), .val (.int md), .val (.int x0), .val (.int x1), .val (.int x2), .val (.int x3), .val (.int mm), .val (.ref da), .val (.double 0), .second, .val (.int (1 : Int32)), .unset, .unset, .unset, .unset, .unset, .unset, .unset, .unset, .unset, .unset, .unset, .unset, .unset, .unset, .unset] [.int (cmpValue (FP.dcmp 0 0) .l)]
      refine ⟨by rw [own_cv_eq (FP.Core.dcmp_self D1.num)]; omega, by omega, fun T25 X25 eh25 => ?_⟩
      refine own_blk dec0 seq0 hby hx hZ hown hK hF 5 [false, false] [] X25 eh25 ?_
      show (¬ ((cmpValue (FP.dcmp 0 0) .l).toInt ≠ 0)) ∧ (¬ (((1 : Int32)).toInt = 0)) ∧ own_Aft X25 hp21 _ 196 [.val (.int aa), .val (.int bb), .val (.int cc), .val (.int dd), .val (.int md), .val (.int x0), .val (.int x1), .val (.int x2), .val (.int x3), .val (.int mm), .val (.ref da), .val (.double 0), .second, .val (.int (1 : Int32)), .unset, .unset, .unset, .unset, .unset, .unset, .unset, .unset, .unset, .unset, .unset, .unset, .unset, .unset, .unset] [.int (1 : Int32)]
      refine ⟨by rw [own_cv_eq (FP.Core.dcmp_self own_z00.num)]; omega, by decide, fun T26 X26 eh26 => ?_⟩
      exact own_ret X26 hx hlk eh26 hret (by first | rfl | decide) (Or.inl ⟨rfl, by simp, _, rfl⟩) (hb hby at_196) (by decide) (by decide) (⟨rfl, Fr.app Nf21 M1⟩)
    · skip
      refine own_callS X22 hx hZ hown (hw _ (List.mem_of_getElem? (i := 1) rfl)) (hw _ (List.mem_of_getElem? (i := 2) rfl)) (hw _ (List.mem_of_getElem? (i := 3) rfl)) (hw _ (List.mem_of_getElem? (i := 4) rfl)) (by decide) eh22 [.ref da] pd1 rfl (rm := ({ frames := 1, cells := 1, slots := 2, locals := 24 } : Room)) (rm1_2n l Z a0 hw [] da (FP.i2d x0) (FP.i2d x1) x0.toInt x1.toInt hp21 n0 Z_21 nw_da Ar21' D0 D1 b0 b1 hq) (by rw [hml]; rfl) 0 rfl (Nat.le_of_eq rfl) (hb hby at_138) (by decide) (by decide) (by decide) (by decide) (fun T27 rv27 Lc27 X27 qc27 => ?_)
      obtain ⟨rfl, M1, AA⟩ := qc27
      have Z_c : n0 ≤ T27.heap.size := Nat.le_trans nw_da (Nat.le_of_lt AA.lt)
      show own_Go p.tables e below _ (T27.setTop (mkF m 141 (Array.mk [.val (.int aa), .val (.int bb), .val (.int cc), .val (.int dd), .val (.int md), .val (.int x0), .val (.int x1), .val (.int x2), .val (.int x3), .val (.int mm), .val (.ref da), .unset, .unset, .unset, .unset, .unset, .unset, .unset, .unset, .unset, .unset, .unset, .unset, .unset, .unset, .unset, .unset, .unset, .unset]) [.double 9218868437227405312]))
      refine own_blk dec0 seq0 hby hx hZ hown hK hF 12 [false] [.double (FP.i2d x0), .double (FP.i2d x1)] X27 rfl ?_
      show (own_at Z T27.heap da .double (0 : Int32) (.double (FP.i2d x0))) ∧ (¬ ((cmpValue (FP.dcmp (FP.i2d x0) (FP.i2d x0)) .l).toInt ≠ 0)) ∧ (own_at Z T27.heap da .double (1 : Int32) (.double (FP.i2d x1))) ∧ own_Aft X27 T27.heap _ 160 [.val (.int aa), .val (.int bb), .val (.int cc), .val (.int dd), .val (.int md), .val (.int x0), .val (.int x1), .val (.int x2), .val (.int x3), .val (.int mm), .val (.ref da), .val (.double 9218868437227405312), .second, .unset, .unset, .unset, .unset, .unset, .unset, .unset, .unset, .unset, .unset, .unset, .unset, .unset, .unset, .unset, .unset] [.int x1, .double (FP.i2d x1)]
      refine ⟨AA.at (0 : Int32) 0 rfl rfl, by rw [own_cv_eq (FP.Core.dcmp_self D0.num)]; omega, AA.at (1 : Int32) 1 rfl rfl, fun T28 X28 eh28 => ?_⟩
      refine own_blk dec0 seq0 hby hx hZ hown hK hF 10 [false, true] [] X28 eh28 ?_
      show (¬ ((cmpValue (FP.dcmp (FP.i2d x1) (FP.i2d x1)) .l).toInt ≠ 0)) ∧ ((x0).toInt ≠ (x1).toInt) ∧ own_Aft X28 T27.heap _ 199 [.val (.int aa), .val (.int bb), .val (.int cc), .val (.int dd), .val (.int md), .val (.int x0), .val (.int x1), .val (.int x2), .val (.int x3), .val (.int mm), .val (.ref da), .val (.double 9218868437227405312), .second, .val (.int (1 : Int32)), .unset, .unset, .unset, .unset, .unset, .unset, .unset, .unset, .unset, .unset, .unset, .unset, .unset, .unset, .unset] [.double 9218868437227405312]
      refine ⟨by rw [own_cv_eq (FP.Core.dcmp_self D1.num)]; omega, by omega, fun T29 X29 eh29 => ?_⟩
      refine own_callS X29 hx hZ hown (hw _ (List.mem_of_getElem? (i := 17) rfl)) (hw _ (List.mem_of_getElem? (i := 18) rfl)) (hw _ (List.mem_of_getElem? (i := 19) rfl)) (hw _ (List.mem_of_getElem? (i := 20) rfl)) (by decide) eh29 [.double 9218868437227405312] pd4 rfl (rm := ({ frames := 0, cells := 0, slots := 0, locals := 0 } : Room)) (rm4 l Z a0 hw []  T27.heap n0 Z_c) (by rw [hml]; rfl) 0 rfl (Nat.le_of_eq rfl) (hb hby at_199) (by decide) (by decide) (by decide) (by decide) (fun T30 rv30 Lc30 X30 qc30 => ?_)
      obtain ⟨rfl, M2, hi⟩ := qc30
      show own_Go p.tables e below _ (T30.setTop (mkF m 202 (Array.mk [.val (.int aa), .val (.int bb), .val (.int cc), .val (.int dd), .val (.int md), .val (.int x0), .val (.int x1), .val (.int x2), .val (.int x3), .val (.int mm), .val (.ref da), .val (.double 9218868437227405312), .second, .val (.int (1 : Int32)), .unset, .unset, .unset, .unset, .unset, .unset, .unset, .unset, .unset, .unset, .unset, .unset, .unset, .unset, .unset]) [.int (1 : Int32)]))
      refine own_blk dec0 seq0 hby hx hZ hown hK hF 5 [false, false] [] X30 hi ?_
      show (¬ (((1 : Int32)).toInt = 0)) ∧ (¬ (((1 : Int32)).toInt = 0)) ∧ own_Aft X30 T27.heap _ 215 [.val (.int aa), .val (.int bb), .val (.int cc), .val (.int dd), .val (.int md), .val (.int x0), .val (.int x1), .val (.int x2), .val (.int x3), .val (.int mm), .val (.ref da), .val (.double 9218868437227405312), .second, .val (.int (1 : Int32)), .unset, .unset, .unset, .unset, .unset, .unset, .unset, .unset, .unset, .unset, .unset, .unset, .unset, .unset, .unset] [.int (1 : Int32)]
      refine ⟨by decide, by decide, fun T31 X31 eh31 => ?_⟩
      exact own_ret X31 hx hlk eh31 hret (by first | rfl | decide) (Or.inl ⟨rfl, by simp, _, rfl⟩) (hb hby at_215) (by decide) (by decide) (⟨rfl, Fr.app (Fr.app Nf21 M1) M2⟩)
  · skip
    refine own_blk dec0 seq0 hby hx hZ hown hK hF 9 [true, true, true] [] X3 eh3 ?_
    show ((mm).toInt ≠ 0) ∧ ((mm).toInt ≠ ((1 : Int32)).toInt) ∧ ((mm).toInt ≠ ((2 : Int32)).toInt) ∧ own_Aft X3 h0 _ 217 [.val (.int aa), .val (.int bb), .val (.int cc), .val (.int dd), .val (.int md), .val (.int x0), .val (.int x1), .val (.int x2), .val (.int x3), .val (.int mm), .unset, .unset, .unset, .unset, .unset, .unset, .unset, .unset, .unset, .unset, .unset, .unset, .unset, .unset, .unset, .unset, .unset, .unset, .unset] [.int (4 : Int32)]
    refine ⟨by omega, by omega, by omega, fun T32 X32 eh32 => ?_⟩
    refine own_newP X32 hx hZ (hw _ (List.mem_of_getElem? (i := 0) rfl)) eh32 4 rfl (cap := 4) (by decide) (by decide) (hb hby at_217) (by decide) (by decide) (fun T33 hp33 da ga33 X33 eh33 Ex33 Ar33 => ?_)
    have nw_da : n0 ≤ da := by rw [ga33]; exact Z0
    have Z_33 : n0 ≤ hp33.size := Nat.le_trans Z0 Ex33.1
    have Ar33' : own_A Z hp33 da .double [.double 0, .double 0, .double 0, .double 0] := Ar33
    show own_Go p.tables e below _ (T33.setTop (mkF m 219 (Array.mk [.val (.int aa), .val (.int bb), .val (.int cc), .val (.int dd), .val (.int md), .val (.int x0), .val (.int x1), .val (.int x2), .val (.int x3), .val (.int mm), .unset, .unset, .unset, .unset, .unset, .unset, .unset, .unset, .unset, .unset, .unset, .unset, .unset, .unset, .unset, .unset, .unset, .unset, .unset]) [.ref da]))
    refine own_blk dec0 seq0 hby hx hZ hown hK hF 4 [] [] X33 eh33 ?_
    show own_Aft X33 hp33 _ 224 [.val (.int aa), .val (.int bb), .val (.int cc), .val (.int dd), .val (.int md), .val (.int x0), .val (.int x1), .val (.int x2), .val (.int x3), .val (.int mm), .unset, .unset, .unset, .unset, .unset, .unset, .unset, .unset, .unset, .unset, .unset, .unset, .unset, .unset, .unset, .unset, .unset, .unset, .unset] [.double (FP.i2d x0), .int (0 : Int32), .ref da, .ref da]
    refine fun T34 X34 eh34 => ?_
    refine own_sD X34 hx hZ eh34 Ar33' 0 rfl (by show 0 < 4; decide) (hb hby at_224) (fun T35 hp35 X35 eh35 Wr35 Ar35 => ?_)
    have Ar35' : own_A Z hp35 da .double [.double (FP.i2d x0), .double 0, .double 0, .double 0] := Ar35
    have Nf35 := Fr.snoc X35 N0 nw_da
    have Z_35 : n0 ≤ hp35.size := by rw [Wr.size Wr35]; exact Z_33
    refine own_blk dec0 seq0 hby hx hZ hown hK hF 4 [] [] X35 eh35 ?_
    show own_Aft X35 hp35 _ 230 [.val (.int aa), .val (.int bb), .val (.int cc), .val (.int dd), .val (.int md), .val (.int x0), .val (.int x1), .val (.int x2), .val (.int x3), .val (.int mm), .unset, .unset, .unset, .unset, .unset, .unset, .unset, .unset, .unset, .unset, .unset, .unset, .unset, .unset, .unset, .unset, .unset, .unset, .unset] [.double (FP.i2d x1), .int (1 : Int32), .ref da, .ref da]
    refine fun T36 X36 eh36 => ?_
    refine own_sD X36 hx hZ eh36 Ar35' 1 rfl (by show 1 < 4; decide) (hb hby at_230) (fun T37 hp37 X37 eh37 Wr37 Ar37 => ?_)
    have Ar37' : own_A Z hp37 da .double [.double (FP.i2d x0), .double (FP.i2d x1), .double 0, .double 0] := Ar37
    have Nf37 := Fr.snoc X37 Nf35 nw_da
    have Z_37 : n0 ≤ hp37.size := by rw [Wr.size Wr37]; exact Z_35
    refine own_blk dec0 seq0 hby hx hZ hown hK hF 4 [] [] X37 eh37 ?_
    show own_Aft X37 hp37 _ 236 [.val (.int aa), .val (.int bb), .val (.int cc), .val (.int dd), .val (.int md), .val (.int x0), .val (.int x1), .val (.int x2), .val (.int x3), .val (.int mm), .unset, .unset, .unset, .unset, .unset, .unset, .unset, .unset, .unset, .unset, .unset, .unset, .unset, .unset, .unset, .unset, .unset, .unset, .unset] [.double (FP.i2d x2), .int (2 : Int32), .ref da, .ref da]
    refine fun T38 X38 eh38 => ?_
    refine own_sD X38 hx hZ eh38 Ar37' 2 rfl (by show 2 < 4; decide) (hb hby at_236) (fun T39 hp39 X39 eh39 Wr39 Ar39 => ?_)
    have Ar39' : own_A Z hp39 da .double [.double (FP.i2d x0), .double (FP.i2d x1), .double (FP.i2d x2), .double 0] := Ar39
    have Nf39 := Fr.snoc X39 Nf37 nw_da
    have Z_39 : n0 ≤ hp39.size := by rw [Wr.size Wr39]; exact Z_37
    refine own_blk dec0 seq0 hby hx hZ hown hK hF 4 [] [] X39 eh39 ?_
    show own_Aft X39 hp39 _ 242 [.val (.int aa), .val (.int bb), .val (.int cc), .val (.int dd), .val (.int md), .val (.int x0), .val (.int x1), .val (.int x2), .val (.int x3), .val (.int mm), .unset, .unset, .unset, .unset, .unset, .unset, .unset, .unset, .unset, .unset, .unset, .unset, .unset, .unset, .unset, .unset, .unset, .unset, .unset] [.double (FP.i2d x3), .int (3 : Int32), .ref da, .ref da]
    refine fun T40 X40 eh40 => ?_
    refine own_sD X40 hx hZ eh40 Ar39' 3 rfl (by show 3 < 4; decide) (hb hby at_242) (fun T41 hp41 X41 eh41 Wr41 Ar41 => ?_)
    have Ar41' : own_A Z hp41 da .double [.double (FP.i2d x0), .double (FP.i2d x1), .double (FP.i2d x2), .double (FP.i2d x3)] := Ar41
    have Nf41 := Fr.snoc X41 Nf39 nw_da
    have Z_41 : n0 ≤ hp41.size := by rw [Wr.size Wr41]; exact Z_39
    refine own_blk dec0 seq0 hby hx hZ hown hK hF 2 [] [] X41 eh41 ?_
    show own_Aft X41 hp41 _ 247 [.val (.int aa), .val (.int bb), .val (.int cc), .val (.int dd), .val (.int md), .val (.int x0), .val (.int x1), .val (.int x2), .val (.int x3), .val (.int mm), .val (.ref da), .unset, .unset, .unset, .unset, .unset, .unset, .unset, .unset, .unset, .unset, .unset, .unset, .unset, .unset, .unset, .unset, .unset, .unset] [.ref da]
    refine fun T42 X42 eh42 => ?_
    by_cases hq : x1.toInt = x0.toInt ∧ x2.toInt = x0.toInt ∧ x3.toInt = x0.toInt
    · skip
      refine own_callS X42 hx hZ hown (hw _ (List.mem_of_getElem? (i := 1) rfl)) (hw _ (List.mem_of_getElem? (i := 2) rfl)) (hw _ (List.mem_of_getElem? (i := 3) rfl)) (hw _ (List.mem_of_getElem? (i := 4) rfl)) (by decide) eh42 [.ref da] pd1 rfl (rm := ({ frames := 1, cells := 0, slots := 0, locals := 24 } : Room)) (rm1_4e l Z a0 hw [] da (FP.i2d x0) (FP.i2d x1) (FP.i2d x2) (FP.i2d x3) x0.toInt x1.toInt x2.toInt x3.toInt hp41 n0 Z_41 nw_da Ar41' D0 D1 D2 D3 hq.1 hq.2.1 hq.2.2) (by rw [hml]; rfl) 0 rfl (Nat.le_of_eq rfl) (hb hby at_247) (by decide) (by decide) (by decide) (by decide) (fun T43 rv43 Lc43 X43 qc43 => ?_)
      obtain ⟨rfl, M1, hh⟩ := qc43
      show own_Go p.tables e below _ (T43.setTop (mkF m 250 (Array.mk [.val (.int aa), .val (.int bb), .val (.int cc), .val (.int dd), .val (.int md), .val (.int x0), .val (.int x1), .val (.int x2), .val (.int x3), .val (.int mm), .val (.ref da), .unset, .unset, .unset, .unset, .unset, .unset, .unset, .unset, .unset, .unset, .unset, .unset, .unset, .unset, .unset, .unset, .unset, .unset]) [.double 0]))
      refine own_blk dec0 seq0 hby hx hZ hown hK hF 12 [false] [.double (FP.i2d x0), .double (FP.i2d x1)] X43 hh ?_
      show (own_at Z hp41 da .double (0 : Int32) (.double (FP.i2d x0))) ∧ (¬ ((cmpValue (FP.dcmp (FP.i2d x0) (FP.i2d x0)) .l).toInt ≠ 0)) ∧ (own_at Z hp41 da .double (1 : Int32) (.double (FP.i2d x1))) ∧ own_Aft X43 hp41 _ 269 [.val (.int aa), .val (.int bb), .val (.int cc), .val (.int dd), .val (.int md), .val (.int x0), .val (.int x1), .val (.int x2), .val (.int x3), .val (.int mm), .val (.ref da), .val (.double 0), .second, .unset, .unset, .unset, .unset, .unset, .unset, .unset, .unset, .unset, .unset, .unset, .unset, .unset, .unset, .unset, .unset] [.int x1, .double (FP.i2d x1)]
      refine ⟨Ar41'.at (0 : Int32) 0 rfl rfl, by rw [own_cv_eq (FP.Core.dcmp_self D0.num)]; omega, Ar41'.at (1 : Int32) 1 rfl rfl, fun T44 X44 eh44 => ?_⟩
      refine own_blk dec0 seq0 hby hx hZ hown hK hF 12 [false, false] [.double (FP.i2d x2)] X44 eh44 ?_
      show (¬ ((cmpValue (FP.dcmp (FP.i2d x1) (FP.i2d x1)) .l).toInt ≠ 0)) ∧ (own_at Z hp41 da .double (2 : Int32) (.double (FP.i2d x2))) ∧ (¬ ((cmpValue (FP.dcmp (FP.i2d x2) (FP.i2d x2)) .l).toInt ≠ 0)) ∧ own_Aft X44 hp41 _ 288 [.val (.int aa), .val (.int bb), .val (.int cc), .val (.int dd), .val (.int md), .val (.int x0), .val (.int x1), .val (.int x2), .val (.int x3), .val (.int mm), .val (.ref da), .val (.double 0), .second, .unset, .unset, .unset, .unset, .unset, .unset, .unset, .unset, .unset, .unset, .unset, .unset, .unset, .unset, .unset, .unset] [.int (3 : Int32), .ref da]
      refine ⟨by rw [own_cv_eq (FP.Core.dcmp_self D1.num)]; omega, Ar41'.at (2 : Int32) 2 rfl rfl, by rw [own_cv_eq (FP.Core.dcmp_self D2.num)]; omega, fun T45 X45 eh45 => ?_⟩
      refine own_blk dec0 seq0 hby hx hZ hown hK hF 12 [false, false] [.double (FP.i2d x3)] X45 eh45 ?_
      show (own_at Z hp41 da .double (3 : Int32) (.double (FP.i2d x3))) ∧ (¬ ((cmpValue (FP.dcmp (FP.i2d x3) (FP.i2d x3)) .l).toInt ≠ 0)) ∧ (¬ ((x0).toInt ≠ (x1).toInt)) ∧ own_Aft X45 hp41 _ 312 [.val (.int aa), .val (.int bb), .val (.int cc), .val (.int dd), .val (.int md), .val (.int x0), .val (.int x1), .val (.int x2), .val (.int x3), .val (.int mm), .val (.ref da), .val (.double 0), .second, .val (.int (1 : Int32)), .unset, .unset, .unset, .unset, .unset, .unset, .unset, .unset, .unset, .unset, .unset, .unset, .unset, .unset, .unset] [.int x1]
      refine ⟨Ar41'.at (3 : Int32) 3 rfl rfl, by rw [own_cv_eq (FP.Core.dcmp_self D3.num)]; omega, by omega, fun T46 X46 eh46 => ?_⟩
      refine own_blk dec0 seq0 hby hx hZ hown hK hF 12 [false, false, false, false] [] X46 eh46 ?_
      show (¬ ((x1).toInt ≠ (x2).toInt)) ∧ (¬ ((x2).toInt ≠ (x3).toInt)) ∧ (¬ ((cmpValue (FP.dcmp 0 0) .l).toInt ≠ 0)) ∧ (¬ (((1 : Int32)).toInt = 0)) ∧ own_Aft X46 hp41 _ 337 [.val (.int aa), .val (.int bb), .val (.int cc), .val (.int dd), .val (.int md), .val (.int x0), .val (.int x1), .val (.int x2), .val (.int x3), .val (.int mm), .val (.ref da), .val (.double 0), .second, .val (.int (1 : Int32)), .unset, .unset, .unset, .unset, .unset, .unset, .unset, .unset, .unset, .unset, .unset, .unset, .unset, .unset, .unset] [.int (1 : Int32)]
      refine ⟨by omega, by omega, by rw [own_cv_eq (FP.Core.dcmp_self own_z00.num)]; omega, by decide, fun T47 X47 eh47 => ?_⟩
      refine own_blk dec0 seq0 hby hx hZ hown hK hF 1 [] [] X47 eh47 ?_
      show own_Aft X47 hp41 _ 341 [.val (.int aa), .val (.int bb), .val (.int cc), .val (.int dd), .val (.int md), .val (.int x0), .val (.int x1), .val (.int x2), .val (.int x3), .val (.int mm), .val (.ref da), .val (.double 0), .second, .val (.int (1 : Int32)), .unset, .unset, .unset, .unset, .unset, .unset, .unset, .unset, .unset, .unset, .unset, .unset, .unset, .unset, .unset] [.int (1 : Int32)]
      refine fun T48 X48 eh48 => ?_
      exact own_ret X48 hx hlk eh48 hret (by first | rfl | decide) (Or.inl ⟨rfl, by simp, _, rfl⟩) (hb hby at_341) (by decide) (by decide) (⟨rfl, Fr.app Nf41 M1⟩)
    · skip
      have hne : ¬ (x0.toInt = x1.toInt ∧ x1.toInt = x2.toInt ∧ x2.toInt = x3.toInt) := fun q => hq ⟨by omega, by omega, by omega⟩
      have t1 : (x0 + x1).toInt = x0.toInt + x1.toInt := own_add32 (by omega) (by omega)
      have t2 : (x0 + x1 + x2).toInt = x0.toInt + x1.toInt + x2.toInt := by rw [own_add32 (by omega) (by omega), t1]
      have t3 : (x0 + x1 + x2 + x3).toInt = x0.toInt + x1.toInt + x2.toInt + x3.toInt := by rw [own_add32 (by omega) (by omega), t2]
      have y0 := own_x4 x0 b0
      have z0 : ((4 : Int32) * x0 - (x0 + x1 + x2 + x3)).toInt = 4 * x0.toInt - (x0.toInt + x1.toInt + x2.toInt + x3.toInt) := by rw [own_sub32 (by omega) (by omega), y0, t3]
      obtain ⟨E0, hE0⟩ : ∃ z : Int32, z = (4 : Int32) * x0 - (x0 + x1 + x2 + x3) := ⟨_, rfl⟩
      rw [← hE0] at z0
      have v0 : -8000 ≤ E0.toInt ∧ E0.toInt ≤ 8000 := by omega
      have y1 := own_x4 x1 b1
      have z1 : ((4 : Int32) * x1 - (x0 + x1 + x2 + x3)).toInt = 4 * x1.toInt - (x0.toInt + x1.toInt + x2.toInt + x3.toInt) := by rw [own_sub32 (by omega) (by omega), y1, t3]
      obtain ⟨E1, hE1⟩ : ∃ z : Int32, z = (4 : Int32) * x1 - (x0 + x1 + x2 + x3) := ⟨_, rfl⟩
      rw [← hE1] at z1
      have v1 : -8000 ≤ E1.toInt ∧ E1.toInt ≤ 8000 := by omega
      have y2 := own_x4 x2 b2
      have z2 : ((4 : Int32) * x2 - (x0 + x1 + x2 + x3)).toInt = 4 * x2.toInt - (x0.toInt + x1.toInt + x2.toInt + x3.toInt) := by rw [own_sub32 (by omega) (by omega), y2, t3]
      obtain ⟨E2, hE2⟩ : ∃ z : Int32, z = (4 : Int32) * x2 - (x0 + x1 + x2 + x3) := ⟨_, rfl⟩
      rw [← hE2] at z2
      have v2 : -8000 ≤ E2.toInt ∧ E2.toInt ≤ 8000 := by omega
      have y3 := own_x4 x3 b3
      have z3 : ((4 : Int32) * x3 - (x0 + x1 + x2 + x3)).toInt = 4 * x3.toInt - (x0.toInt + x1.toInt + x2.toInt + x3.toInt) := by rw [own_sub32 (by omega) (by omega), y3, t3]
      obtain ⟨E3, hE3⟩ : ∃ z : Int32, z = (4 : Int32) * x3 - (x0 + x1 + x2 + x3) := ⟨_, rfl⟩
      rw [← hE3] at z3
      have v3 : -8000 ≤ E3.toInt ∧ E3.toInt ≤ 8000 := by omega
      obtain ⟨m00, lb00, ub00⟩ := own_pm v0 v0
      obtain ⟨m01, lb01, ub01⟩ := own_pm v0 v1
      obtain ⟨m02, lb02, ub02⟩ := own_pm v0 v2
      obtain ⟨m03, lb03, ub03⟩ := own_pm v0 v3
      obtain ⟨m11, lb11, ub11⟩ := own_pm v1 v1
      obtain ⟨m12, lb12, ub12⟩ := own_pm v1 v2
      obtain ⟨m13, lb13, ub13⟩ := own_pm v1 v3
      obtain ⟨m22, lb22, ub22⟩ := own_pm v2 v2
      obtain ⟨m23, lb23, ub23⟩ := own_pm v2 v3
      obtain ⟨m33, lb33, ub33⟩ := own_pm v3 v3
      have w1 : (E0 * E0 + E1 * E1).toInt = E0.toInt * E0.toInt + E1.toInt * E1.toInt := by rw [own_add32 (by omega) (by omega), m00, m11]
      have w2 : (E0 * E0 + E1 * E1 + E2 * E2).toInt = E0.toInt * E0.toInt + E1.toInt * E1.toInt + E2.toInt * E2.toInt := by rw [own_add32 (by omega) (by omega), w1, m22]
      have wP : (E0 * E0 + E1 * E1 + E2 * E2 + E3 * E3).toInt = E0.toInt * E0.toInt + E1.toInt * E1.toInt + E2.toInt * E2.toInt + E3.toInt * E3.toInt := by rw [own_add32 (by omega) (by omega), w2, m33]
      have w3 : (E0 * E1 + E1 * E2).toInt = E0.toInt * E1.toInt + E1.toInt * E2.toInt := by rw [own_add32 (by omega) (by omega), m01, m12]
      have wQ : (E0 * E1 + E1 * E2 + E2 * E3).toInt = E0.toInt * E1.toInt + E1.toInt * E2.toInt + E2.toInt * E3.toInt := by rw [own_add32 (by omega) (by omega), w3, m23]
      have wR : (E0 * E2 + E1 * E3).toInt = E0.toInt * E2.toInt + E1.toInt * E3.toInt := by rw [own_add32 (by omega) (by omega), m02, m13]
      obtain ⟨pp, hpp⟩ : ∃ z : Int32, z = E0 * E0 + E1 * E1 + E2 * E2 + E3 * E3 := ⟨_, rfl⟩
      rw [← hpp] at wP
      obtain ⟨p1, hp1⟩ : ∃ z : Int32, z = E0 * E1 + E1 * E2 + E2 * E3 := ⟨_, rfl⟩
      rw [← hp1] at wQ
      obtain ⟨p2, hp2⟩ : ∃ z : Int32, z = E0 * E2 + E1 * E3 := ⟨_, rfl⟩
      rw [← hp2] at wR
      obtain ⟨p3, hp3⟩ : ∃ z : Int32, z = E0 * E3 := ⟨_, rfl⟩
      rw [← hp3] at m03
      have u0 : (pp + p1).toInt = pp.toInt + p1.toInt := own_add32 (by omega) (by omega)
      have u1 : (p2 + p3).toInt = p2.toInt + p3.toInt := own_add32 (by omega) (by omega)
      obtain ⟨nu0, hn0⟩ : ∃ z : Int32, z = pp + p1 := ⟨_, rfl⟩
      rw [← hn0] at u0
      obtain ⟨nu1, hn1⟩ : ∃ z : Int32, z = p2 + p3 := ⟨_, rfl⟩
      rw [← hn1] at u1
      have hp_ := wP
      have h0_ : nu0.toInt = E0.toInt * E0.toInt + E1.toInt * E1.toInt + E2.toInt * E2.toInt + E3.toInt * E3.toInt + (E0.toInt * E1.toInt + E1.toInt * E2.toInt + E2.toInt * E3.toInt) := by rw [u0, wP, wQ]
      have h1_ : nu1.toInt = E0.toInt * E2.toInt + E1.toInt * E3.toInt + E0.toInt * E3.toInt := by rw [u1, wR, m03]
      rw [z0, z1, z2, z3] at hp_ h0_ h1_
      have ppos : 0 < pp.toInt := by rw [hp_]; exact own_P0 hne
      rcases Int.lt_or_le 0 nu0.toInt with hk0 | hk0
      · skip
        rcases Int.lt_or_le 0 nu1.toInt with hk1 | hk1
        · skip
          rcases Int.lt_or_le 0 (own_z (own_tau (FP.dadd (FP.ddiv (FP.i2d nu0) (FP.i2d pp)) (FP.ddiv (FP.i2d nu1) (FP.i2d pp))))) with ht | ht
          · skip
            refine own_callS X42 hx hZ hown (hw _ (List.mem_of_getElem? (i := 1) rfl)) (hw _ (List.mem_of_getElem? (i := 2) rfl)) (hw _ (List.mem_of_getElem? (i := 3) rfl)) (hw _ (List.mem_of_getElem? (i := 4) rfl)) (by decide) eh42 [.ref da] pd1 rfl (rm := ({ frames := 1, cells := 1, slots := 4, locals := 24 } : Room)) (rm1_4n l Z a0 hw [] da (FP.i2d x0) (FP.i2d x1) (FP.i2d x2) (FP.i2d x3) x0.toInt x1.toInt x2.toInt x3.toInt nu0 nu1 pp (FP.ddiv 4616189618054758400 (own_tau (FP.dadd (FP.ddiv (FP.i2d nu0) (FP.i2d pp)) (FP.ddiv (FP.i2d nu1) (FP.i2d pp))))) hp41 n0 Z_41 nw_da Ar41' D0 D1 D2 D3 b0 b1 b2 b3 hne hp_ h0_ h1_ (Or.inr (Or.inr ⟨hk0, hk1, Or.inl ⟨ht, rfl⟩⟩))) (by rw [hml]; rfl) 0 rfl (Nat.le_of_eq rfl) (hb hby at_247) (by decide) (by decide) (by decide) (by decide) (fun T49 rv49 Lc49 X49 qc49 => ?_)
            obtain ⟨rfl, M1, AA⟩ := qc49
            have Z_c : n0 ≤ T49.heap.size := Nat.le_trans nw_da (Nat.le_of_lt AA.lt)
            show own_Go p.tables e below _ (T49.setTop (mkF m 250 (Array.mk [.val (.int aa), .val (.int bb), .val (.int cc), .val (.int dd), .val (.int md), .val (.int x0), .val (.int x1), .val (.int x2), .val (.int x3), .val (.int mm), .val (.ref da), .unset, .unset, .unset, .unset, .unset, .unset, .unset, .unset, .unset, .unset, .unset, .unset, .unset, .unset, .unset, .unset, .unset, .unset]) [.double (FP.ddiv 4616189618054758400 (own_tau (FP.dadd (FP.ddiv (FP.i2d nu0) (FP.i2d pp)) (FP.ddiv (FP.i2d nu1) (FP.i2d pp)))))]))
            generalize hrr : FP.ddiv 4616189618054758400 (own_tau (FP.dadd (FP.ddiv (FP.i2d nu0) (FP.i2d pp)) (FP.ddiv (FP.i2d nu1) (FP.i2d pp)))) = rr
            show own_Go p.tables e below _ (T49.setTop (mkF m 250 (Array.mk [.val (.int aa), .val (.int bb), .val (.int cc), .val (.int dd), .val (.int md), .val (.int x0), .val (.int x1), .val (.int x2), .val (.int x3), .val (.int mm), .val (.ref da), .unset, .unset, .unset, .unset, .unset, .unset, .unset, .unset, .unset, .unset, .unset, .unset, .unset, .unset, .unset, .unset, .unset, .unset]) [.double rr]))
            refine own_blk dec0 seq0 hby hx hZ hown hK hF 12 [false] [.double (FP.i2d x0), .double (FP.i2d x1)] X49 rfl ?_
            show (own_at Z T49.heap da .double (0 : Int32) (.double (FP.i2d x0))) ∧ (¬ ((cmpValue (FP.dcmp (FP.i2d x0) (FP.i2d x0)) .l).toInt ≠ 0)) ∧ (own_at Z T49.heap da .double (1 : Int32) (.double (FP.i2d x1))) ∧ own_Aft X49 T49.heap _ 269 [.val (.int aa), .val (.int bb), .val (.int cc), .val (.int dd), .val (.int md), .val (.int x0), .val (.int x1), .val (.int x2), .val (.int x3), .val (.int mm), .val (.ref da), .val (.double rr), .second, .unset, .unset, .unset, .unset, .unset, .unset, .unset, .unset, .unset, .unset, .unset, .unset, .unset, .unset, .unset, .unset] [.int x1, .double (FP.i2d x1)]
            refine ⟨AA.at (0 : Int32) 0 rfl rfl, by rw [own_cv_eq (FP.Core.dcmp_self D0.num)]; omega, AA.at (1 : Int32) 1 rfl rfl, fun T50 X50 eh50 => ?_⟩
            refine own_blk dec0 seq0 hby hx hZ hown hK hF 12 [false, false] [.double (FP.i2d x2)] X50 eh50 ?_
            show (¬ ((cmpValue (FP.dcmp (FP.i2d x1) (FP.i2d x1)) .l).toInt ≠ 0)) ∧ (own_at Z T49.heap da .double (2 : Int32) (.double (FP.i2d x2))) ∧ (¬ ((cmpValue (FP.dcmp (FP.i2d x2) (FP.i2d x2)) .l).toInt ≠ 0)) ∧ own_Aft X50 T49.heap _ 288 [.val (.int aa), .val (.int bb), .val (.int cc), .val (.int dd), .val (.int md), .val (.int x0), .val (.int x1), .val (.int x2), .val (.int x3), .val (.int mm), .val (.ref da), .val (.double rr), .second, .unset, .unset, .unset, .unset, .unset, .unset, .unset, .unset, .unset, .unset, .unset, .unset, .unset, .unset, .unset, .unset] [.int (3 : Int32), .ref da]
            refine ⟨by rw [own_cv_eq (FP.Core.dcmp_self D1.num)]; omega, AA.at (2 : Int32) 2 rfl rfl, by rw [own_cv_eq (FP.Core.dcmp_self D2.num)]; omega, fun T51 X51 eh51 => ?_⟩
            refine own_blk dec0 seq0 hby hx hZ hown hK hF 8 [false] [.double (FP.i2d x3)] X51 eh51 ?_
            show (own_at Z T49.heap da .double (3 : Int32) (.double (FP.i2d x3))) ∧ (¬ ((cmpValue (FP.dcmp (FP.i2d x3) (FP.i2d x3)) .l).toInt ≠ 0)) ∧ own_Aft X51 T49.heap _ 303 [.val (.int aa), .val (.int bb), .val (.int cc), .val (.int dd), .val (.int md), .val (.int x0), .val (.int x1), .val (.int x2), .val (.int x3), .val (.int mm), .val (.ref da), .val (.double rr), .second, .val (.int (1 : Int32)), .unset, .unset, .unset, .unset, .unset, .unset, .unset, .unset, .unset, .unset, .unset, .unset, .unset, .unset, .unset] []
            refine ⟨AA.at (3 : Int32) 3 rfl rfl, by rw [own_cv_eq (FP.Core.dcmp_self D3.num)]; omega, fun T52 X52 eh52 => ?_⟩
            have hfst : ¬ x0.toInt = x1.toInt ∨ (x0.toInt = x1.toInt ∧ ¬ x1.toInt = x2.toInt) ∨ (x0.toInt = x1.toInt ∧ x1.toInt = x2.toInt ∧ ¬ x2.toInt = x3.toInt) := by omega
            suffices tl53 : own_Aft X52 T49.heap (own_Fin s 16 128 (fun v h L => v = some (.int 1) ∧ Fr n0 L)) 342 [.val (.int aa), .val (.int bb), .val (.int cc), .val (.int dd), .val (.int md), .val (.int x0), .val (.int x1), .val (.int x2), .val (.int x3), .val (.int mm), .val (.ref da), .val (.double rr), .second, .val (.int (1 : Int32)), .unset, .unset, .unset, .unset, .unset, .unset, .unset, .unset, .unset, .unset, .unset, .unset, .unset, .unset, .unset] [] by
              rcases hfst with h1 | ⟨h1, h2⟩ | ⟨h1, h2, h3⟩
              · skip
                refine own_blk dec0 seq0 hby hx hZ hown hK hF 3 [true] [] X52 eh52 ?_
                show ((x0).toInt ≠ (x1).toInt) ∧ own_Aft X52 T49.heap _ 342 [.val (.int aa), .val (.int bb), .val (.int cc), .val (.int dd), .val (.int md), .val (.int x0), .val (.int x1), .val (.int x2), .val (.int x3), .val (.int mm), .val (.ref da), .val (.double rr), .second, .val (.int (1 : Int32)), .unset, .unset, .unset, .unset, .unset, .unset, .unset, .unset, .unset, .unset, .unset, .unset, .unset, .unset, .unset] []
                refine ⟨by omega, fun T54 X54 eh54 => ?_⟩
                exact tl53  T54 X54 eh54
              · skip
                refine own_blk dec0 seq0 hby hx hZ hown hK hF 6 [false, true] [] X52 eh52 ?_
                show (¬ ((x0).toInt ≠ (x1).toInt)) ∧ ((x1).toInt ≠ (x2).toInt) ∧ own_Aft X52 T49.heap _ 342 [.val (.int aa), .val (.int bb), .val (.int cc), .val (.int dd), .val (.int md), .val (.int x0), .val (.int x1), .val (.int x2), .val (.int x3), .val (.int mm), .val (.ref da), .val (.double rr), .second, .val (.int (1 : Int32)), .unset, .unset, .unset, .unset, .unset, .unset, .unset, .unset, .unset, .unset, .unset, .unset, .unset, .unset, .unset] []
                refine ⟨by omega, by omega, fun T55 X55 eh55 => ?_⟩
                exact tl53  T55 X55 eh55
              · skip
                refine own_blk dec0 seq0 hby hx hZ hown hK hF 9 [false, false, true] [] X52 eh52 ?_
                show (¬ ((x0).toInt ≠ (x1).toInt)) ∧ (¬ ((x1).toInt ≠ (x2).toInt)) ∧ ((x2).toInt ≠ (x3).toInt) ∧ own_Aft X52 T49.heap _ 342 [.val (.int aa), .val (.int bb), .val (.int cc), .val (.int dd), .val (.int md), .val (.int x0), .val (.int x1), .val (.int x2), .val (.int x3), .val (.int mm), .val (.ref da), .val (.double rr), .second, .val (.int (1 : Int32)), .unset, .unset, .unset, .unset, .unset, .unset, .unset, .unset, .unset, .unset, .unset, .unset, .unset, .unset, .unset] []
                refine ⟨by omega, by omega, by omega, fun T56 X56 eh56 => ?_⟩
                exact tl53  T56 X56 eh56
            intro T53 X53 eh53
            refine own_blk dec0 seq0 hby hx hZ hown hK hF 12 [] [] X53 eh53 ?_
            show own_Aft X53 T49.heap _ 361 [.val (.int aa), .val (.int bb), .val (.int cc), .val (.int dd), .val (.int md), .val (.int x0), .val (.int x1), .val (.int x2), .val (.int x3), .val (.int mm), .val (.ref da), .val (.double rr), .second, .val (.int (1 : Int32)), .val (.int (((x0 + x1) + x2) + x3)), .unset, .unset, .unset, .unset, .unset, .unset, .unset, .unset, .unset, .unset, .unset, .unset, .unset, .unset] [.int (((x0 + x1) + x2) + x3), .int ((4 : Int32) * x0)]
            refine fun T57 X57 eh57 => ?_
            refine own_blk dec0 seq0 hby hx hZ hown hK hF 12 [] [] X57 eh57 ?_
            show own_Aft X57 T49.heap _ 379 [.val (.int aa), .val (.int bb), .val (.int cc), .val (.int dd), .val (.int md), .val (.int x0), .val (.int x1), .val (.int x2), .val (.int x3), .val (.int mm), .val (.ref da), .val (.double rr), .second, .val (.int (1 : Int32)), .val (.int (((x0 + x1) + x2) + x3)), .val (.int (((4 : Int32) * x0) - (((x0 + x1) + x2) + x3))), .val (.int (((4 : Int32) * x1) - (((x0 + x1) + x2) + x3))), .unset, .unset, .unset, .unset, .unset, .unset, .unset, .unset, .unset, .unset, .unset, .unset] [.int (((x0 + x1) + x2) + x3), .int ((4 : Int32) * x2)]
            refine fun T58 X58 eh58 => ?_
            refine own_blk dec0 seq0 hby hx hZ hown hK hF 8 [] [] X58 eh58 ?_
            show own_Aft X58 T49.heap _ 391 [.val (.int aa), .val (.int bb), .val (.int cc), .val (.int dd), .val (.int md), .val (.int x0), .val (.int x1), .val (.int x2), .val (.int x3), .val (.int mm), .val (.ref da), .val (.double rr), .second, .val (.int (1 : Int32)), .val (.int (((x0 + x1) + x2) + x3)), .val (.int (((4 : Int32) * x0) - (((x0 + x1) + x2) + x3))), .val (.int (((4 : Int32) * x1) - (((x0 + x1) + x2) + x3))), .val (.int (((4 : Int32) * x2) - (((x0 + x1) + x2) + x3))), .val (.int (((4 : Int32) * x3) - (((x0 + x1) + x2) + x3))), .unset, .unset, .unset, .unset, .unset, .unset, .unset, .unset, .unset, .unset] []
            refine fun T59 X59 eh59 => ?_
            rw [← hE0, ← hE1, ← hE2, ← hE3]
            show own_Go p.tables e below _ (T59.setTop (mkF m 391 (Array.mk [.val (.int aa), .val (.int bb), .val (.int cc), .val (.int dd), .val (.int md), .val (.int x0), .val (.int x1), .val (.int x2), .val (.int x3), .val (.int mm), .val (.ref da), .val (.double rr), .second, .val (.int (1 : Int32)), .val (.int (((x0 + x1) + x2) + x3)), .val (.int E0), .val (.int E1), .val (.int E2), .val (.int E3), .unset, .unset, .unset, .unset, .unset, .unset, .unset, .unset, .unset, .unset]) []))
            refine own_blk dec0 seq0 hby hx hZ hown hK hF 12 [] [] X59 eh59 ?_
            show own_Aft X59 T49.heap _ 410 [.val (.int aa), .val (.int bb), .val (.int cc), .val (.int dd), .val (.int md), .val (.int x0), .val (.int x1), .val (.int x2), .val (.int x3), .val (.int mm), .val (.ref da), .val (.double rr), .second, .val (.int (1 : Int32)), .val (.int (((x0 + x1) + x2) + x3)), .val (.int E0), .val (.int E1), .val (.int E2), .val (.int E3), .unset, .unset, .unset, .unset, .unset, .unset, .unset, .unset, .unset, .unset] [.int E3, .int (((E0 * E0) + (E1 * E1)) + (E2 * E2))]
            refine fun T60 X60 eh60 => ?_
            refine own_blk dec0 seq0 hby hx hZ hown hK hF 12 [] [] X60 eh60 ?_
            show own_Aft X60 T49.heap _ 429 [.val (.int aa), .val (.int bb), .val (.int cc), .val (.int dd), .val (.int md), .val (.int x0), .val (.int x1), .val (.int x2), .val (.int x3), .val (.int mm), .val (.ref da), .val (.double rr), .second, .val (.int (1 : Int32)), .val (.int (((x0 + x1) + x2) + x3)), .val (.int E0), .val (.int E1), .val (.int E2), .val (.int E3), .val (.int ((((E0 * E0) + (E1 * E1)) + (E2 * E2)) + (E3 * E3))), .unset, .unset, .unset, .unset, .unset, .unset, .unset, .unset, .unset] [.int E2, .int ((E0 * E1) + (E1 * E2))]
            refine fun T61 X61 eh61 => ?_
            refine own_blk dec0 seq0 hby hx hZ hown hK hF 12 [] [] X61 eh61 ?_
            show own_Aft X61 T49.heap _ 448 [.val (.int aa), .val (.int bb), .val (.int cc), .val (.int dd), .val (.int md), .val (.int x0), .val (.int x1), .val (.int x2), .val (.int x3), .val (.int mm), .val (.ref da), .val (.double rr), .second, .val (.int (1 : Int32)), .val (.int (((x0 + x1) + x2) + x3)), .val (.int E0), .val (.int E1), .val (.int E2), .val (.int E3), .val (.int ((((E0 * E0) + (E1 * E1)) + (E2 * E2)) + (E3 * E3))), .val (.int (((E0 * E1) + (E1 * E2)) + (E2 * E3))), .val (.int ((E0 * E2) + (E1 * E3))), .unset, .unset, .unset, .unset, .unset, .unset, .unset] []
            refine fun T62 X62 eh62 => ?_
            refine own_blk dec0 seq0 hby hx hZ hown hK hF 4 [] [] X62 eh62 ?_
            show own_Aft X62 T49.heap _ 455 [.val (.int aa), .val (.int bb), .val (.int cc), .val (.int dd), .val (.int md), .val (.int x0), .val (.int x1), .val (.int x2), .val (.int x3), .val (.int mm), .val (.ref da), .val (.double rr), .second, .val (.int (1 : Int32)), .val (.int (((x0 + x1) + x2) + x3)), .val (.int E0), .val (.int E1), .val (.int E2), .val (.int E3), .val (.int ((((E0 * E0) + (E1 * E1)) + (E2 * E2)) + (E3 * E3))), .val (.int (((E0 * E1) + (E1 * E2)) + (E2 * E3))), .val (.int ((E0 * E2) + (E1 * E3))), .val (.int (E0 * E3)), .unset, .unset, .unset, .unset, .unset, .unset] []
            refine fun T63 X63 eh63 => ?_
            rw [← hpp, ← hp1, ← hp2, ← hp3]
            show own_Go p.tables e below _ (T63.setTop (mkF m 455 (Array.mk [.val (.int aa), .val (.int bb), .val (.int cc), .val (.int dd), .val (.int md), .val (.int x0), .val (.int x1), .val (.int x2), .val (.int x3), .val (.int mm), .val (.ref da), .val (.double rr), .second, .val (.int (1 : Int32)), .val (.int (((x0 + x1) + x2) + x3)), .val (.int E0), .val (.int E1), .val (.int E2), .val (.int E3), .val (.int pp), .val (.int p1), .val (.int p2), .val (.int p3), .unset, .unset, .unset, .unset, .unset, .unset]) []))
            refine own_blk dec0 seq0 hby hx hZ hown hK hF 4 [] [] X63 eh63 ?_
            show own_Aft X63 T49.heap _ 462 [.val (.int aa), .val (.int bb), .val (.int cc), .val (.int dd), .val (.int md), .val (.int x0), .val (.int x1), .val (.int x2), .val (.int x3), .val (.int mm), .val (.ref da), .val (.double rr), .second, .val (.int (1 : Int32)), .val (.int (((x0 + x1) + x2) + x3)), .val (.int E0), .val (.int E1), .val (.int E2), .val (.int E3), .val (.int pp), .val (.int p1), .val (.int p2), .val (.int p3), .val (.int (pp + p1)), .unset, .unset, .unset, .unset, .unset] []
            refine fun T64 X64 eh64 => ?_
            rw [← hn0]
            show own_Go p.tables e below _ (T64.setTop (mkF m 462 (Array.mk [.val (.int aa), .val (.int bb), .val (.int cc), .val (.int dd), .val (.int md), .val (.int x0), .val (.int x1), .val (.int x2), .val (.int x3), .val (.int mm), .val (.ref da), .val (.double rr), .second, .val (.int (1 : Int32)), .val (.int (((x0 + x1) + x2) + x3)), .val (.int E0), .val (.int E1), .val (.int E2), .val (.int E3), .val (.int pp), .val (.int p1), .val (.int p2), .val (.int p3), .val (.int nu0), .unset, .unset, .unset, .unset, .unset]) []))
            obtain ⟨qf, qp, qb⟩ := own_qb (n := nu0) (p := pp) hk0 ppos
            refine own_blk dec0 seq0 hby hx hZ hown hK hF 12 [true] [] X64 eh64 ?_
            show (0 < (nu0).toInt) ∧ (Jvm.Free.Fl.NoNaN64 (FP.ddiv (FP.i2d nu0) (FP.i2d pp))) ∧ own_Aft X64 T49.heap _ 502 [.val (.int aa), .val (.int bb), .val (.int cc), .val (.int dd), .val (.int md), .val (.int x0), .val (.int x1), .val (.int x2), .val (.int x3), .val (.int mm), .val (.ref da), .val (.double rr), .second, .val (.int (1 : Int32)), .val (.int (((x0 + x1) + x2) + x3)), .val (.int E0), .val (.int E1), .val (.int E2), .val (.int E3), .val (.int pp), .val (.int p1), .val (.int p2), .val (.int p3), .val (.int nu0), .val (.double (FP.ddiv (FP.i2d nu0) (FP.i2d pp))), .second, .val (.int (p2 + p3)), .unset, .unset] []
            refine ⟨by omega, own_nn (own_fin_num qf), fun T65 X65 eh65 => ?_⟩
            rw [← hn1]
            show own_Go p.tables e below _ (T65.setTop (mkF m 502 (Array.mk [.val (.int aa), .val (.int bb), .val (.int cc), .val (.int dd), .val (.int md), .val (.int x0), .val (.int x1), .val (.int x2), .val (.int x3), .val (.int mm), .val (.ref da), .val (.double rr), .second, .val (.int (1 : Int32)), .val (.int (((x0 + x1) + x2) + x3)), .val (.int E0), .val (.int E1), .val (.int E2), .val (.int E3), .val (.int pp), .val (.int p1), .val (.int p2), .val (.int p3), .val (.int nu0), .val (.double (FP.ddiv (FP.i2d nu0) (FP.i2d pp))), .second, .val (.int nu1), .unset, .unset]) []))
            have zz := own_z00.2
            obtain ⟨qf2, qp2, qb2⟩ := own_qb (n := nu1) (p := pp) hk1 ppos
            have nq := own_num_add qf qf2
            obtain ⟨vv, hvv⟩ := own_rep 0 (by omega) 4294967296 (by omega)
            have bq : own_z (FP.dadd (FP.ddiv (FP.i2d nu0) (FP.i2d pp)) (FP.ddiv (FP.i2d nu1) (FP.i2d pp))) ≤ 4294967296 * ((2 ^ (1074 - 0) : Nat) : Int) := by rw [← hvv.2]; exact own_add_le qf qf2 hvv.num (by rw [hvv.2]; omega)
            have lq : own_z (FP.ddiv (FP.i2d nu0) (FP.i2d pp)) ≤ own_z (FP.dadd (FP.ddiv (FP.i2d nu0) (FP.i2d pp)) (FP.ddiv (FP.i2d nu1) (FP.i2d pp))) := own_add_ge qf qf2 (own_fin_num qf) (by omega)
            have fq := own_fin_btw (g := 0) (A := 0) (B := 4294967296) (by omega) nq (by omega) bq (by omega) (by omega)
            obtain ⟨nt, ft⟩ := own_tau_b fq (Int.le_of_lt (Int.lt_of_lt_of_le qp lq)) bq
            refine own_blk dec0 seq0 hby hx hZ hown hK hF 12 [false] [] X65 eh65 ?_
            show (¬ ((nu1).toInt ≤ 0)) ∧ (Jvm.Free.Fl.NoNaN64 (FP.ddiv (FP.i2d nu1) (FP.i2d pp))) ∧ (Jvm.Free.Fl.NoNaN64 (FP.dadd (FP.ddiv (FP.i2d nu0) (FP.i2d pp)) (FP.ddiv (FP.i2d nu1) (FP.i2d pp)))) ∧ own_Aft X65 T49.heap _ 525 [.val (.int aa), .val (.int bb), .val (.int cc), .val (.int dd), .val (.int md), .val (.int x0), .val (.int x1), .val (.int x2), .val (.int x3), .val (.int mm), .val (.ref da), .val (.double rr), .second, .val (.int (1 : Int32)), .val (.int (((x0 + x1) + x2) + x3)), .val (.int E0), .val (.int E1), .val (.int E2), .val (.int E3), .val (.int pp), .val (.int p1), .val (.int p2), .val (.int p3), .val (.int nu0), .val (.double (FP.dadd (FP.ddiv (FP.i2d nu0) (FP.i2d pp)) (FP.ddiv (FP.i2d nu1) (FP.i2d pp)))), .second, .val (.int nu1), .unset, .unset] [.double 4611686018427387904, .double 13830554455654793216]
            refine ⟨by omega, own_nn (own_fin_num qf2), own_nn nq, fun T66 X66 eh66 => ?_⟩
            refine own_blk dec0 seq0 hby hx hZ hown hK hF 4 [] [] X66 eh66 ?_
            show (Jvm.Free.Fl.NoNaN64 (FP.dmul 4611686018427387904 (FP.dadd (FP.ddiv (FP.i2d nu0) (FP.i2d pp)) (FP.ddiv (FP.i2d nu1) (FP.i2d pp))))) ∧ (Jvm.Free.Fl.NoNaN64 (FP.dadd 13830554455654793216 (FP.dmul 4611686018427387904 (FP.dadd (FP.ddiv (FP.i2d nu0) (FP.i2d pp)) (FP.ddiv (FP.i2d nu1) (FP.i2d pp)))))) ∧ own_Aft X66 T49.heap _ 531 [.val (.int aa), .val (.int bb), .val (.int cc), .val (.int dd), .val (.int md), .val (.int x0), .val (.int x1), .val (.int x2), .val (.int x3), .val (.int mm), .val (.ref da), .val (.double rr), .second, .val (.int (1 : Int32)), .val (.int (((x0 + x1) + x2) + x3)), .val (.int E0), .val (.int E1), .val (.int E2), .val (.int E3), .val (.int pp), .val (.int p1), .val (.int p2), .val (.int p3), .val (.int nu0), .val (.double (FP.dadd (FP.ddiv (FP.i2d nu0) (FP.i2d pp)) (FP.ddiv (FP.i2d nu1) (FP.i2d pp)))), .second, .val (.int nu1), .val (.double (FP.dadd 13830554455654793216 (FP.dmul 4611686018427387904 (FP.dadd (FP.ddiv (FP.i2d nu0) (FP.i2d pp)) (FP.ddiv (FP.i2d nu1) (FP.i2d pp)))))), .second] []
            refine ⟨own_nn nt, own_nn (own_fin_num ft), fun T67 X67 eh67 => ?_⟩
            have etau : FP.dadd 13830554455654793216 (FP.dmul 4611686018427387904 (FP.dadd (FP.ddiv (FP.i2d nu0) (FP.i2d pp)) (FP.ddiv (FP.i2d nu1) (FP.i2d pp)))) = own_tau (FP.dadd (FP.ddiv (FP.i2d nu0) (FP.i2d pp)) (FP.ddiv (FP.i2d nu1) (FP.i2d pp))) := rfl
            rw [etau]
            generalize own_tau (FP.dadd (FP.ddiv (FP.i2d nu0) (FP.i2d pp)) (FP.ddiv (FP.i2d nu1) (FP.i2d pp))) = tau at ft ht hrr ⊢
            show own_Go p.tables e below _ (T67.setTop (mkF m 531 (Array.mk [.val (.int aa), .val (.int bb), .val (.int cc), .val (.int dd), .val (.int md), .val (.int x0), .val (.int x1), .val (.int x2), .val (.int x3), .val (.int mm), .val (.ref da), .val (.double rr), .second, .val (.int (1 : Int32)), .val (.int (((x0 + x1) + x2) + x3)), .val (.int E0), .val (.int E1), .val (.int E2), .val (.int E3), .val (.int pp), .val (.int p1), .val (.int p2), .val (.int p3), .val (.int nu0), .val (.double (FP.dadd (FP.ddiv (FP.i2d nu0) (FP.i2d pp)) (FP.ddiv (FP.i2d nu1) (FP.i2d pp)))), .second, .val (.int nu1), .val (.double tau), .second]) []))
            have nr : own_num (FP.ddiv 4616189618054758400 tau) := own_num_div own_4.num ft (Int.ne_of_gt ht)
            refine own_blk dec0 seq0 hby hx hZ hown hK hF 12 [false, false, false] [] X67 eh67 ?_
            show (¬ ((cmpValue (FP.dcmp tau 0) .l).toInt ≤ 0)) ∧ (Jvm.Free.Fl.NoNaN64 (FP.ddiv 4616189618054758400 tau)) ∧ (¬ ((cmpValue (FP.dcmp rr (FP.ddiv 4616189618054758400 tau)) .l).toInt ≠ 0)) ∧ (¬ (((1 : Int32)).toInt = 0)) ∧ own_Aft X67 T49.heap _ 555 [.val (.int aa), .val (.int bb), .val (.int cc), .val (.int dd), .val (.int md), .val (.int x0), .val (.int x1), .val (.int x2), .val (.int x3), .val (.int mm), .val (.ref da), .val (.double rr), .second, .val (.int (1 : Int32)), .val (.int (((x0 + x1) + x2) + x3)), .val (.int E0), .val (.int E1), .val (.int E2), .val (.int E3), .val (.int pp), .val (.int p1), .val (.int p2), .val (.int p3), .val (.int nu0), .val (.double (FP.dadd (FP.ddiv (FP.i2d nu0) (FP.i2d pp)) (FP.ddiv (FP.i2d nu1) (FP.i2d pp)))), .second, .val (.int nu1), .val (.double tau), .second] []
            refine ⟨by rw [own_cv_gt (own_gt (own_fin_num ft) own_z00.num (by omega))]; omega, own_nn nr, by rw [← hrr, own_cv_eq (FP.Core.dcmp_self nr)]; omega, by decide, fun T68 X68 eh68 => ?_⟩
            refine own_blk dec0 seq0 hby hx hZ hown hK hF 2 [] [] X68 eh68 ?_
            show own_Aft X68 T49.heap _ 560 [.val (.int aa), .val (.int bb), .val (.int cc), .val (.int dd), .val (.int md), .val (.int x0), .val (.int x1), .val (.int x2), .val (.int x3), .val (.int mm), .val (.ref da), .val (.double rr), .second, .val (.int (1 : Int32)), .val (.int (((x0 + x1) + x2) + x3)), .val (.int E0), .val (.int E1), .val (.int E2), .val (.int E3), .val (.int pp), .val (.int p1), .val (.int p2), .val (.int p3), .val (.int nu0), .val (.double (FP.dadd (FP.ddiv (FP.i2d nu0) (FP.i2d pp)) (FP.ddiv (FP.i2d nu1) (FP.i2d pp)))), .second, .val (.int nu1), .val (.double tau), .second] [.int (1 : Int32)]
            refine fun T69 X69 eh69 => ?_
            exact own_ret X69 hx hlk eh69 hret (by first | rfl | decide) (Or.inl ⟨rfl, by simp, _, rfl⟩) (hb hby at_560) (by decide) (by decide) (⟨rfl, Fr.app Nf41 M1⟩)
          · skip
            refine own_callS X42 hx hZ hown (hw _ (List.mem_of_getElem? (i := 1) rfl)) (hw _ (List.mem_of_getElem? (i := 2) rfl)) (hw _ (List.mem_of_getElem? (i := 3) rfl)) (hw _ (List.mem_of_getElem? (i := 4) rfl)) (by decide) eh42 [.ref da] pd1 rfl (rm := ({ frames := 1, cells := 1, slots := 4, locals := 24 } : Room)) (rm1_4n l Z a0 hw [] da (FP.i2d x0) (FP.i2d x1) (FP.i2d x2) (FP.i2d x3) x0.toInt x1.toInt x2.toInt x3.toInt nu0 nu1 pp (9218868437227405312) hp41 n0 Z_41 nw_da Ar41' D0 D1 D2 D3 b0 b1 b2 b3 hne hp_ h0_ h1_ (Or.inr (Or.inr ⟨hk0, hk1, Or.inr ⟨ht, rfl⟩⟩))) (by rw [hml]; rfl) 0 rfl (Nat.le_of_eq rfl) (hb hby at_247) (by decide) (by decide) (by decide) (by decide) (fun T70 rv70 Lc70 X70 qc70 => ?_)
            obtain ⟨rfl, M1, AA⟩ := qc70
            have Z_c : n0 ≤ T70.heap.size := Nat.le_trans nw_da (Nat.le_of_lt AA.lt)
            show own_Go p.tables e below _ (T70.setTop (mkF m 250 (Array.mk [.val (.int aa), .val (.int bb), .val (.int cc), .val (.int dd), .val (.int md), .val (.int x0), .val (.int x1), .val (.int x2), .val (.int x3), .val (.int mm), .val (.ref da), .unset, .unset, .unset, .unset, .unset, .unset, .unset, .unset, .unset, .unset, .unset, .unset, .unset, .unset, .unset, .unset, .unset, .unset]) [.double 9218868437227405312]))
            refine own_blk dec0 seq0 hby hx hZ hown hK hF 12 [false] [.double (FP.i2d x0), .double (FP.i2d x1)] X70 rfl ?_
            show (own_at Z T70.heap da .double (0 : Int32) (.double (FP.i2d x0))) ∧ (¬ ((cmpValue (FP.dcmp (FP.i2d x0) (FP.i2d x0)) .l).toInt ≠ 0)) ∧ (own_at Z T70.heap da .double (1 : Int32) (.double (FP.i2d x1))) ∧ own_Aft X70 T70.heap _ 269 [.val (.int aa), .val (.int bb), .val (.int cc), .val (.int dd), .val (.int md), .val (.int x0), .val (.int x1), .val (.int x2), .val (.int x3), .val (.int mm), .val (.ref da), .val (.double 9218868437227405312), .second, .unset, .unset, .unset, .unset, .unset, .unset, .unset, .unset, .unset, .unset, .unset, .unset, .unset, .unset, .unset, .unset] [.int x1, .double (FP.i2d x1)]
            refine ⟨AA.at (0 : Int32) 0 rfl rfl, by rw [own_cv_eq (FP.Core.dcmp_self D0.num)]; omega, AA.at (1 : Int32) 1 rfl rfl, fun T71 X71 eh71 => ?_⟩
            refine own_blk dec0 seq0 hby hx hZ hown hK hF 12 [false, false] [.double (FP.i2d x2)] X71 eh71 ?_
            show (¬ ((cmpValue (FP.dcmp (FP.i2d x1) (FP.i2d x1)) .l).toInt ≠ 0)) ∧ (own_at Z T70.heap da .double (2 : Int32) (.double (FP.i2d x2))) ∧ (¬ ((cmpValue (FP.dcmp (FP.i2d x2) (FP.i2d x2)) .l).toInt ≠ 0)) ∧ own_Aft X71 T70.heap _ 288 [.val (.int aa), .val (.int bb), .val (.int cc), .val (.int dd), .val (.int md), .val (.int x0), .val (.int x1), .val (.int x2), .val (.int x3), .val (.int mm), .val (.ref da), .val (.double 9218868437227405312), .second, .unset, .unset, .unset, .unset, .unset, .unset, .unset, .unset, .unset, .unset, .unset, .unset, .unset, .unset, .unset, .unset] [.int (3 : Int32), .ref da]
            refine ⟨by rw [own_cv_eq (FP.Core.dcmp_self D1.num)]; omega, AA.at (2 : Int32) 2 rfl rfl, by rw [own_cv_eq (FP.Core.dcmp_self D2.num)]; omega, fun T72 X72 eh72 => ?_⟩
            refine own_blk dec0 seq0 hby hx hZ hown hK hF 8 [false] [.double (FP.i2d x3)] X72 eh72 ?_
            show (own_at Z T70.heap da .double (3 : Int32) (.double (FP.i2d x3))) ∧ (¬ ((cmpValue (FP.dcmp (FP.i2d x3) (FP.i2d x3)) .l).toInt ≠ 0)) ∧ own_Aft X72 T70.heap _ 303 [.val (.int aa), .val (.int bb), .val (.int cc), .val (.int dd), .val (.int md), .val (.int x0), .val (.int x1), .val (.int x2), .val (.int x3), .val (.int mm), .val (.ref da), .val (.double 9218868437227405312), .second, .val (.int (1 : Int32)), .unset, .unset, .unset, .unset, .unset, .unset, .unset, .unset, .unset, .unset, .unset, .unset, .unset, .unset, .unset] []
            refine ⟨AA.at (3 : Int32) 3 rfl rfl, by rw [own_cv_eq (FP.Core.dcmp_self D3.num)]; omega, fun T73 X73 eh73 => ?_⟩
            have hfst : ¬ x0.toInt = x1.toInt ∨ (x0.toInt = x1.toInt ∧ ¬ x1.toInt = x2.toInt) ∨ (x0.toInt = x1.toInt ∧ x1.toInt = x2.toInt ∧ ¬ x2.toInt = x3.toInt) := by omega
            suffices tl74 : own_Aft X73 T70.heap (own_Fin s 16 128 (fun v h L => v = some (.int 1) ∧ Fr n0 L)) 342 [.val (.int aa), .val (.int bb), .val (.int cc), .val (.int dd), .val (.int md), .val (.int x0), .val (.int x1), .val (.int x2), .val (.int x3), .val (.int mm), .val (.ref da), .val (.double 9218868437227405312), .second, .val (.int (1 : Int32)), .unset, .unset, .unset, .unset, .unset, .unset, .unset, .unset, .unset, .unset, .unset, .unset, .unset, .unset, .unset] [] by
              rcases hfst with h1 | ⟨h1, h2⟩ | ⟨h1, h2, h3⟩
              · skip
                refine own_blk dec0 seq0 hby hx hZ hown hK hF 3 [true] [] X73 eh73 ?_
                show ((x0).toInt ≠ (x1).toInt) ∧ own_Aft X73 T70.heap _ 342 [.val (.int aa), .val (.int bb), .val (.int cc), .val (.int dd), .val (.int md), .val (.int x0), .val (.int x1), .val (.int x2), .val (.int x3), .val (.int mm), .val (.ref da), .val (.double 9218868437227405312), .second, .val (.int (1 : Int32)), .unset, .unset, .unset, .unset, .unset, .unset, .unset, .unset, .unset, .unset, .unset, .unset, .unset, .unset, .unset] []
                refine ⟨by omega, fun T75 X75 eh75 => ?_⟩
                exact tl74  T75 X75 eh75
              · skip
                refine own_blk dec0 seq0 hby hx hZ hown hK hF 6 [false, true] [] X73 eh73 ?_
                show (¬ ((x0).toInt ≠ (x1).toInt)) ∧ ((x1).toInt ≠ (x2).toInt) ∧ own_Aft X73 T70.heap _ 342 [.val (.int aa), .val (.int bb), .val (.int cc), .val (.int dd), .val (.int md), .val (.int x0), .val (.int x1), .val (.int x2), .val (.int x3), .val (.int mm), .val (.ref da), .val (.double 9218868437227405312), .second, .val (.int (1 : Int32)), .unset, .unset, .unset, .unset, .unset, .unset, .unset, .unset, .unset, .unset, .unset, .unset, .unset, .unset, .unset] []
                refine ⟨by omega, by omega, fun T76 X76 eh76 => ?_⟩
                exact tl74  T76 X76 eh76
              · skip
                refine own_blk dec0 seq0 hby hx hZ hown hK hF 9 [false, false, true] [] X73 eh73 ?_
                show (¬ ((x0).toInt ≠ (x1).toInt)) ∧ (¬ ((x1).toInt ≠ (x2).toInt)) ∧ ((x2).toInt ≠ (x3).toInt) ∧ own_Aft X73 T70.heap _ 342 [.val (.int aa), .val (.int bb), .val (.int cc), .val (.int dd), .val (.int md), .val (.int x0), .val (.int x1), .val (.int x2), .val (.int x3), .val (.int mm), .val (.ref da), .val (.double 9218868437227405312), .second, .val (.int (1 : Int32)), .unset, .unset, .unset, .unset, .unset, .unset, .unset, .unset, .unset, .unset, .unset, .unset, .unset, .unset, .unset] []
                refine ⟨by omega, by omega, by omega, fun T77 X77 eh77 => ?_⟩
                exact tl74  T77 X77 eh77
            intro T74 X74 eh74
            refine own_blk dec0 seq0 hby hx hZ hown hK hF 12 [] [] X74 eh74 ?_
            show own_Aft X74 T70.heap _ 361 [.val (.int aa), .val (.int bb), .val (.int cc), .val (.int dd), .val (.int md), .val (.int x0), .val (.int x1), .val (.int x2), .val (.int x3), .val (.int mm), .val (.ref da), .val (.double 9218868437227405312), .second, .val (.int (1 : Int32)), .val (.int (((x0 + x1) + x2) + x3)), .unset, .unset, .unset, .unset, .unset, .unset, .unset, .unset, .unset, .unset, .unset, .unset, .unset, .unset] [.int (((x0 + x1) + x2) + x3), .int ((4 : Int32) * x0)]
            refine fun T78 X78 eh78 => ?_
            refine own_blk dec0 seq0 hby hx hZ hown hK hF 12 [] [] X78 eh78 ?_
            show own_Aft X78 T70.heap _ 379 [.val (.int aa), .val (.int bb), .val (.int cc), .val (.int dd), .val (.int md), .val (.int x0), .val (.int x1), .val (.int x2), .val (.int x3), .val (.int mm), .val (.ref da), .val (.double 9218868437227405312), .second, .val (.int (1 : Int32)), .val (.int (((x0 + x1) + x2) + x3)), .val (.int (((4 : Int32) * x0) - (((x0 + x1) + x2) + x3))), .val (.int (((4 : Int32) * x1) - (((x0 + x1) + x2) + x3))), .unset, .unset, .unset, .unset, .unset, .unset, .unset, .unset, .unset, .unset, .unset, .unset] [.int (((x0 + x1) + x2) + x3), .int ((4 : Int32) * x2)]
            refine fun T79 X79 eh79 => ?_
            refine own_blk dec0 seq0 hby hx hZ hown hK hF 8 [] [] X79 eh79 ?_
            show own_Aft X79 T70.heap _ 391 [.val (.int aa), .val (.int bb), .val (.int cc), .val (.int dd), .val (.int md), .val (.int x0), .val (.int x1), .val (.int x2), .val (.int x3), .val (.int mm), .val (.ref da), .val (.double 9218868437227405312), .second, .val (.int (1 : Int32)), .val (.int (((x0 + x1) + x2) + x3)), .val (.int (((4 : Int32) * x0) - (((x0 + x1) + x2) + x3))), .val (.int (((4 : Int32) * x1) - (((x0 + x1) + x2) + x3))), .val (.int (((4 : Int32) * x2) - (((x0 + x1) + x2) + x3))), .val (.int (((4 : Int32) * x3) - (((x0 + x1) + x2) + x3))), .unset, .unset, .unset, .unset, .unset, .unset, .unset, .unset, .unset, .unset] []
            refine fun T80 X80 eh80 => ?_
            rw [← hE0, ← hE1, ← hE2, ← hE3]
            show own_Go p.tables e below _ (T80.setTop (mkF m 391 (Array.mk [.val (.int aa), .val (.int bb), .val (.int cc), .val (.int dd), .val (.int md), .val (.int x0), .val (.int x1), .val (.int x2), .val (.int x3), .val (.int mm), .val (.ref da), .val (.double 9218868437227405312), .second, .val (.int (1 : Int32)), .val (.int (((x0 + x1) + x2) + x3)), .val (.int E0), .val (.int E1), .val (.int E2), .val (.int E3), .unset, .unset, .unset, .unset, .unset, .unset, .unset, .unset, .unset, .unset]) []))
            refine own_blk dec0 seq0 hby hx hZ hown hK hF 12 [] [] X80 eh80 ?_
            show own_Aft X80 T70.heap _ 410 [.val (.int aa), .val (.int bb), .val (.int cc), .val (.int dd), .val (.int md), .val (.int x0), .val (.int x1), .val (.int x2), .val (.int x3), .val (.int mm), .val (.ref da), .val (.double 9218868437227405312), .second, .val (.int (1 : Int32)), .val (.int (((x0 + x1) + x2) + x3)), .val (.int E0), .val (.int E1), .val (.int E2), .val (.int E3), .unset, .unset, .unset, .unset, .unset, .unset, .unset, .unset, .unset, .unset] [.int E3, .int (((E0 * E0) + (E1 * E1)) + (E2 * E2))]
            refine fun T81 X81 eh81 => ?_
            refine own_blk dec0 seq0 hby hx hZ hown hK hF 12 [] [] X81 eh81 ?_
            show own_Aft X81 T70.heap _ 429 [.val (.int aa), .val (.int bb), .val (.int cc), .val (.int dd), .val (.int md), .val (.int x0), .val (.int x1), .val (.int x2), .val (.int x3), .val (.int mm), .val (.ref da), .val (.double 9218868437227405312), .second, .val (.int (1 : Int32)), .val (.int (((x0 + x1) + x2) + x3)), .val (.int E0), .val (.int E1), .val (.int E2), .val (.int E3), .val (.int ((((E0 * E0) + (E1 * E1)) + (E2 * E2)) + (E3 * E3))), .unset, .unset, .unset, .unset, .unset, .unset, .unset, .unset, .unset] [.int E2, .int ((E0 * E1) + (E1 * E2))]
            refine fun T82 X82 eh82 => ?_
            refine own_blk dec0 seq0 hby hx hZ hown hK hF 12 [] [] X82 eh82 ?_
            show own_Aft X82 T70.heap _ 448 [.val (.int aa), .val (.int bb), .val (.int cc), .val (.int dd), .val (.int md), .val (.int x0), .val (.int x1), .val (.int x2), .val (.int x3), .val (.int mm), .val (.ref da), .val (.double 9218868437227405312), .second, .val (.int (1 : Int32)), .val (.int (((x0 + x1) + x2) + x3)), .val (.int E0), .val (.int E1), .val (.int E2), .val (.int E3), .val (.int ((((E0 * E0) + (E1 * E1)) + (E2 * E2)) + (E3 * E3))), .val (.int (((E0 * E1) + (E1 * E2)) + (E2 * E3))), .val (.int ((E0 * E2) + (E1 * E3))), .unset, .unset, .unset, .unset, .unset, .unset, .unset] []
            refine fun T83 X83 eh83 => ?_
            refine own_blk dec0 seq0 hby hx hZ hown hK hF 4 [] [] X83 eh83 ?_
            show own_Aft X83 T70.heap _ 455 [.val (.int aa), .val (.int bb), .val (.int cc), .val (.int dd), .val (.int md), .val (.int x0), .val (.int x1), .val (.int x2), .val (.int x3), .val (.int mm), .val (.ref da), .val (.double 9218868437227405312), .second, .val (.int (1 : Int32)), .val (.int (((x0 + x1) + x2) + x3)), .val (.int E0), .val (.int E1), .val (.int E2), .val (.int E3), .val (.int ((((E0 * E0) + (E1 * E1)) + (E2 * E2)) + (E3 * E3))), .val (.int (((E0 * E1) + (E1 * E2)) + (E2 * E3))), .val (.int ((E0 * E2) + (E1 * E3))), .val (.int (E0 * E3)), .unset, .unset, .unset, .unset, .unset, .unset] []
            refine fun T84 X84 eh84 => ?_
            rw [← hpp, ← hp1, ← hp2, ← hp3]
            show own_Go p.tables e below _ (T84.setTop (mkF m 455 (Array.mk [.val (.int aa), .val (.int bb), .val (.int cc), .val (.int dd), .val (.int md), .val (.int x0), .val (.int x1), .val (.int x2), .val (.int x3), .val (.int mm), .val (.ref da), .val (.double 9218868437227405312), .second, .val (.int (1 : Int32)), .val (.int (((x0 + x1) + x2) + x3)), .val (.int E0), .val (.int E1), .val (.int E2), .val (.int E3), .val (.int pp), .val (.int p1), .val (.int p2), .val (.int p3), .unset, .unset, .unset, .unset, .unset, .unset]) []))
            refine own_blk dec0 seq0 hby hx hZ hown hK hF 4 [] [] X84 eh84 ?_
            show own_Aft X84 T70.heap _ 462 [.val (.int aa), .val (.int bb), .val (.int cc), .val (.int dd), .val (.int md), .val (.int x0), .val (.int x1), .val (.int x2), .val (.int x3), .val (.int mm), .val (.ref da), .val (.double 9218868437227405312), .second, .val (.int (1 : Int32)), .val (.int (((x0 + x1) + x2) + x3)), .val (.int E0), .val (.int E1), .val (.int E2), .val (.int E3), .val (.int pp), .val (.int p1), .val (.int p2), .val (.int p3), .val (.int (pp + p1)), .unset, .unset, .unset, .unset, .unset] []
            refine fun T85 X85 eh85 => ?_
            rw [← hn0]
            show own_Go p.tables e below _ (T85.setTop (mkF m 462 (Array.mk [.val (.int aa), .val (.int bb), .val (.int cc), .val (.int dd), .val (.int md), .val (.int x0), .val (.int x1), .val (.int x2), .val (.int x3), .val (.int mm), .val (.ref da), .val (.double 9218868437227405312), .second, .val (.int (1 : Int32)), .val (.int (((x0 + x1) + x2) + x3)), .val (.int E0), .val (.int E1), .val (.int E2), .val (.int E3), .val (.int pp), .val (.int p1), .val (.int p2), .val (.int p3), .val (.int nu0), .unset, .unset, .unset, .unset, .unset]) []))
            obtain ⟨qf, qp, qb⟩ := own_qb (n := nu0) (p := pp) hk0 ppos
            refine own_blk dec0 seq0 hby hx hZ hown hK hF 12 [true] [] X85 eh85 ?_
            show (0 < (nu0).toInt) ∧ (Jvm.Free.Fl.NoNaN64 (FP.ddiv (FP.i2d nu0) (FP.i2d pp))) ∧ own_Aft X85 T70.heap _ 502 [.val (.int aa), .val (.int bb), .val (.int cc), .val (.int dd), .val (.int md), .val (.int x0), .val (.int x1), .val (.int x2), .val (.int x3), .val (.int mm), .val (.ref da), .val (.double 9218868437227405312), .second, .val (.int (1 : Int32)), .val (.int (((x0 + x1) + x2) + x3)), .val (.int E0), .val (.int E1), .val (.int E2), .val (.int E3), .val (.int pp), .val (.int p1), .val (.int p2), .val (.int p3), .val (.int nu0), .val (.double (FP.ddiv (FP.i2d nu0) (FP.i2d pp))), .second, .val (.int (p2 + p3)), .unset, .unset] []
            refine ⟨by omega, own_nn (own_fin_num qf), fun T86 X86 eh86 => ?_⟩
            rw [← hn1]
            show own_Go p.tables e below _ (T86.setTop (mkF m 502 (Array.mk [.val (.int aa), .val (.int bb), .val (.int cc), .val (.int dd), .val (.int md), .val (.int x0), .val (.int x1), .val (.int x2), .val (.int x3), .val (.int mm), .val (.ref da), .val (.double 9218868437227405312), .second, .val (.int (1 : Int32)), .val (.int (((x0 + x1) + x2) + x3)), .val (.int E0), .val (.int E1), .val (.int E2), .val (.int E3), .val (.int pp), .val (.int p1), .val (.int p2), .val (.int p3), .val (.int nu0), .val (.double (FP.ddiv (FP.i2d nu0) (FP.i2d pp))), .second, .val (.int nu1), .unset, .unset]) []))
            have zz := own_z00.2
            obtain ⟨qf2, qp2, qb2⟩ := own_qb (n := nu1) (p := pp) hk1 ppos
            have nq := own_num_add qf qf2
            obtain ⟨vv, hvv⟩ := own_rep 0 (by omega) 4294967296 (by omega)
            have bq : own_z (FP.dadd (FP.ddiv (FP.i2d nu0) (FP.i2d pp)) (FP.ddiv (FP.i2d nu1) (FP.i2d pp))) ≤ 4294967296 * ((2 ^ (1074 - 0) : Nat) : Int) := by rw [← hvv.2]; exact own_add_le qf qf2 hvv.num (by rw [hvv.2]; omega)
            have lq : own_z (FP.ddiv (FP.i2d nu0) (FP.i2d pp)) ≤ own_z (FP.dadd (FP.ddiv (FP.i2d nu0) (FP.i2d pp)) (FP.ddiv (FP.i2d nu1) (FP.i2d pp))) := own_add_ge qf qf2 (own_fin_num qf) (by omega)
            have fq := own_fin_btw (g := 0) (A := 0) (B := 4294967296) (by omega) nq (by omega) bq (by omega) (by omega)
            obtain ⟨nt, ft⟩ := own_tau_b fq (Int.le_of_lt (Int.lt_of_lt_of_le qp lq)) bq
            refine own_blk dec0 seq0 hby hx hZ hown hK hF 12 [false] [] X86 eh86 ?_
            show (¬ ((nu1).toInt ≤ 0)) ∧ (Jvm.Free.Fl.NoNaN64 (FP.ddiv (FP.i2d nu1) (FP.i2d pp))) ∧ (Jvm.Free.Fl.NoNaN64 (FP.dadd (FP.ddiv (FP.i2d nu0) (FP.i2d pp)) (FP.ddiv (FP.i2d nu1) (FP.i2d pp)))) ∧ own_Aft X86 T70.heap _ 525 [.val (.int aa), .val (.int bb), .val (.int cc), .val (.int dd), .val (.int md), .val (.int x0), .val (.int x1), .val (.int x2), .val (.int x3), .val (.int mm), .val (.ref da), .val (.double 9218868437227405312), .second, .val (.int (1 : Int32)), .val (.int (((x0 + x1) + x2) + x3)), .val (.int E0), .val (.int E1), .val (.int E2), .val (.int E3), .val (.int pp), .val (.int p1), .val (.int p2), .val (.int p3), .val (.int nu0), .val (.double (FP.dadd (FP.ddiv (FP.i2d nu0) (FP.i2d pp)) (FP.ddiv (FP.i2d nu1) (FP.i2d pp)))), .second, .val (.int nu1), .unset, .unset] [.double 4611686018427387904, .double 13830554455654793216]
            refine ⟨by omega, own_nn (own_fin_num qf2), own_nn nq, fun T87 X87 eh87 => ?_⟩
            refine own_blk dec0 seq0 hby hx hZ hown hK hF 4 [] [] X87 eh87 ?_
            show (Jvm.Free.Fl.NoNaN64 (FP.dmul 4611686018427387904 (FP.dadd (FP.ddiv (FP.i2d nu0) (FP.i2d pp)) (FP.ddiv (FP.i2d nu1) (FP.i2d pp))))) ∧ (Jvm.Free.Fl.NoNaN64 (FP.dadd 13830554455654793216 (FP.dmul 4611686018427387904 (FP.dadd (FP.ddiv (FP.i2d nu0) (FP.i2d pp)) (FP.ddiv (FP.i2d nu1) (FP.i2d pp)))))) ∧ own_Aft X87 T70.heap _ 531 [.val (.int aa), .val (.int bb), .val (.int cc), .val (.int dd), .val (.int md), .val (.int x0), .val (.int x1), .val (.int x2), .val (.int x3), .val (.int mm), .val (.ref da), .val (.double 9218868437227405312), .second, .val (.int (1 : Int32)), .val (.int (((x0 + x1) + x2) + x3)), .val (.int E0), .val (.int E1), .val (.int E2), .val (.int E3), .val (.int pp), .val (.int p1), .val (.int p2), .val (.int p3), .val (.int nu0), .val (.double (FP.dadd (FP.ddiv (FP.i2d nu0) (FP.i2d pp)) (FP.ddiv (FP.i2d nu1) (FP.i2d pp)))), .second, .val (.int nu1), .val (.double (FP.dadd 13830554455654793216 (FP.dmul 4611686018427387904 (FP.dadd (FP.ddiv (FP.i2d nu0) (FP.i2d pp)) (FP.ddiv (FP.i2d nu1) (FP.i2d pp)))))), .second] []
            refine ⟨own_nn nt, own_nn (own_fin_num ft), fun T88 X88 eh88 => ?_⟩
            have etau : FP.dadd 13830554455654793216 (FP.dmul 4611686018427387904 (FP.dadd (FP.ddiv (FP.i2d nu0) (FP.i2d pp)) (FP.ddiv (FP.i2d nu1) (FP.i2d pp)))) = own_tau (FP.dadd (FP.ddiv (FP.i2d nu0) (FP.i2d pp)) (FP.ddiv (FP.i2d nu1) (FP.i2d pp))) := rfl
            rw [etau]
            generalize own_tau (FP.dadd (FP.ddiv (FP.i2d nu0) (FP.i2d pp)) (FP.ddiv (FP.i2d nu1) (FP.i2d pp))) = tau at ft ht ⊢
            show own_Go p.tables e below _ (T88.setTop (mkF m 531 (Array.mk [.val (.int aa), .val (.int bb), .val (.int cc), .val (.int dd), .val (.int md), .val (.int x0), .val (.int x1), .val (.int x2), .val (.int x3), .val (.int mm), .val (.ref da), .val (.double 9218868437227405312), .second, .val (.int (1 : Int32)), .val (.int (((x0 + x1) + x2) + x3)), .val (.int E0), .val (.int E1), .val (.int E2), .val (.int E3), .val (.int pp), .val (.int p1), .val (.int p2), .val (.int p3), .val (.int nu0), .val (.double (FP.dadd (FP.ddiv (FP.i2d nu0) (FP.i2d pp)) (FP.ddiv (FP.i2d nu1) (FP.i2d pp)))), .second, .val (.int nu1), .val (.double tau), .second]) []))
            refine own_blk dec0 seq0 hby hx hZ hown hK hF 5 [true] [] X88 eh88 ?_
            show ((cmpValue (FP.dcmp tau 0) .l).toInt ≤ 0) ∧ own_Aft X88 T70.heap _ 563 [.val (.int aa), .val (.int bb), .val (.int cc), .val (.int dd), .val (.int md), .val (.int x0), .val (.int x1), .val (.int x2), .val (.int x3), .val (.int mm), .val (.ref da), .val (.double 9218868437227405312), .second, .val (.int (1 : Int32)), .val (.int (((x0 + x1) + x2) + x3)), .val (.int E0), .val (.int E1), .val (.int E2), .val (.int E3), .val (.int pp), .val (.int p1), .val (.int p2), .val (.int p3), .val (.int nu0), .val (.double (FP.dadd (FP.ddiv (FP.i2d nu0) (FP.i2d pp)) (FP.ddiv (FP.i2d nu1) (FP.i2d pp)))), .second, .val (.int nu1), .val (.double tau), .second] [.double 9218868437227405312]
            refine ⟨by rcases Int.lt_or_eq_of_le ht with q | q <;> first | (rw [own_cv_lt (own_lt (own_fin_num ft) own_z00.num (by omega))]; omega) | (rw [own_cv_eq (own_eq (own_fin_num ft) own_z00.num (by omega))]; omega), fun T89 X89 eh89 => ?_⟩
            refine own_callS X89 hx hZ hown (hw _ (List.mem_of_getElem? (i := 17) rfl)) (hw _ (List.mem_of_getElem? (i := 18) rfl)) (hw _ (List.mem_of_getElem? (i := 19) rfl)) (hw _ (List.mem_of_getElem? (i := 20) rfl)) (by decide) eh89 [.double 9218868437227405312] pd4 rfl (rm := ({ frames := 0, cells := 0, slots := 0, locals := 0 } : Room)) (rm4 l Z a0 hw []  T70.heap n0 Z_c) (by rw [hml]; rfl) 0 rfl (Nat.le_of_eq rfl) (hb hby at_563) (by decide) (by decide) (by decide) (by decide) (fun T90 rv90 Lc90 X90 qc90 => ?_)
            obtain ⟨rfl, M2, hi⟩ := qc90
            show own_Go p.tables e below _ (T90.setTop (mkF m 566 (Array.mk [.val (.int aa), .val (.int bb), .val (.int cc), .val (.int dd), .val (.int md), .val (.int x0), .val (.int x1), .val (.int x2), .val (.int x3), .val (.int mm), .val (.ref da), .val (.double 9218868437227405312), .second, .val (.int (1 : Int32)), .val (.int (((x0 + x1) + x2) + x3)), .val (.int E0), .val (.int E1), .val (.int E2), .val (.int E3), .val (.int pp), .val (.int p1), .val (.int p2), .val (.int p3), .val (.int nu0), .val (.double (FP.dadd (FP.ddiv (FP.i2d nu0) (FP.i2d pp)) (FP.ddiv (FP.i2d nu1) (FP.i2d pp)))), .second, .val (.int nu1), .val (.double tau), .second]) [.int (1 : Int32)]))
            refine own_blk dec0 seq0 hby hx hZ hown hK hF 5 [false, false] [] X90 hi ?_
            show (¬ (((1 : Int32)).toInt = 0)) ∧ (¬ (((1 : Int32)).toInt = 0)) ∧ own_Aft X90 T70.heap _ 579 [.val (.int aa), .val (.int bb), .val (.int cc), .val (.int dd), .val (.int md), .val (.int x0), .val (.int x1), .val (.int x2), .val (.int x3), .val (.int mm), .val (.ref da), .val (.double 9218868437227405312), .second, .val (.int (1 : Int32)), .val (.int (((x0 + x1) + x2) + x3)), .val (.int E0), .val (.int E1), .val (.int E2), .val (.int E3), .val (.int pp), .val (.int p1), .val (.int p2), .val (.int p3), .val (.int nu0), .val (.double (FP.dadd (FP.ddiv (FP.i2d nu0) (FP.i2d pp)) (FP.ddiv (FP.i2d nu1) (FP.i2d pp)))), .second, .val (.int nu1), .val (.double tau), .second] [.int (1 : Int32)]
            refine ⟨by decide, by decide, fun T91 X91 eh91 => ?_⟩
            exact own_ret X91 hx hlk eh91 hret (by first | rfl | decide) (Or.inl ⟨rfl, by simp, _, rfl⟩) (hb hby at_579) (by decide) (by decide) (⟨rfl, Fr.app (Fr.app Nf41 M1) M2⟩)
        · skip
          rcases Int.lt_or_le 0 (own_z (own_tau (FP.ddiv (FP.i2d nu0) (FP.i2d pp)))) with ht | ht
          · skip
            refine own_callS X42 hx hZ hown (hw _ (List.mem_of_getElem? (i := 1) rfl)) (hw _ (List.mem_of_getElem? (i := 2) rfl)) (hw _ (List.mem_of_getElem? (i := 3) rfl)) (hw _ (List.mem_of_getElem? (i := 4) rfl)) (by decide) eh42 [.ref da] pd1 rfl (rm := ({ frames := 1, cells := 1, slots := 4, locals := 24 } : Room)) (rm1_4n l Z a0 hw [] da (FP.i2d x0) (FP.i2d x1) (FP.i2d x2) (FP.i2d x3) x0.toInt x1.toInt x2.toInt x3.toInt nu0 nu1 pp (FP.ddiv 4616189618054758400 (own_tau (FP.ddiv (FP.i2d nu0) (FP.i2d pp)))) hp41 n0 Z_41 nw_da Ar41' D0 D1 D2 D3 b0 b1 b2 b3 hne hp_ h0_ h1_ (Or.inr (Or.inl ⟨hk0, hk1, Or.inl ⟨ht, rfl⟩⟩))) (by rw [hml]; rfl) 0 rfl (Nat.le_of_eq rfl) (hb hby at_247) (by decide) (by decide) (by decide) (by decide) (fun T92 rv92 Lc92 X92 qc92 => ?_)
            obtain ⟨rfl, M1, AA⟩ := qc92
            have Z_c : n0 ≤ T92.heap.size := Nat.le_trans nw_da (Nat.le_of_lt AA.lt)
            show own_Go p.tables e below _ (T92.setTop (mkF m 250 (Array.mk [.val (.int aa), .val (.int bb), .val (.int cc), .val (.int dd), .val (.int md), .val (.int x0), .val (.int x1), .val (.int x2), .val (.int x3), .val (.int mm), .val (.ref da), .unset, .unset, .unset, .unset, .unset, .unset, .unset, .unset, .unset, .unset, .unset, .unset, .unset, .unset, .unset, .unset, .unset, .unset]) [.double (FP.ddiv 4616189618054758400 (own_tau (FP.ddiv (FP.i2d nu0) (FP.i2d pp))))]))
            generalize hrr : FP.ddiv 4616189618054758400 (own_tau (FP.ddiv (FP.i2d nu0) (FP.i2d pp))) = rr
            show own_Go p.tables e below _ (T92.setTop (mkF m 250 (Array.mk [.val (.int aa), .val (.int bb), .val (.int cc), .val (.int dd), .val (.int md), .val (.int x0), .val (.int x1), .val (.int x2), .val (.int x3), .val (.int mm), .val (.ref da), .unset, .unset, .unset, .unset, .unset, .unset, .unset, .unset, .unset, .unset, .unset, .unset, .unset, .unset, .unset, .unset, .unset, .unset]) [.double rr]))
            refine own_blk dec0 seq0 hby hx hZ hown hK hF 12 [false] [.double (FP.i2d x0), .double (FP.i2d x1)] X92 rfl ?_
            show (own_at Z T92.heap da .double (0 : Int32) (.double (FP.i2d x0))) ∧ (¬ ((cmpValue (FP.dcmp (FP.i2d x0) (FP.i2d x0)) .l).toInt ≠ 0)) ∧ (own_at Z T92.heap da .double (1 : Int32) (.double (FP.i2d x1))) ∧ own_Aft X92 T92.heap _ 269 [.val (.int aa), .val (.int bb), .val (.int cc), .val (.int dd), .val (.int md), .val (.int x0), .val (.int x1), .val (.int x2), .val (.int x3), .val (.int mm), .val (.ref da), .val (.double rr), .second, .unset, .unset, .unset, .unset, .unset, .unset, .unset, .unset, .unset, .unset, .unset, .unset, .unset, .unset, .unset, .unset] [.int x1, .double (FP.i2d x1)]
            refine ⟨AA.at (0 : Int32) 0 rfl rfl, by rw [own_cv_eq (FP.Core.dcmp_self D0.num)]; omega, AA.at (1 : Int32) 1 rfl rfl, fun T93 X93 eh93 => ?_⟩
            refine own_blk dec0 seq0 hby hx hZ hown hK hF 12 [false, false] [.double (FP.i2d x2)] X93 eh93 ?_
            show (¬ ((cmpValue (FP.dcmp (FP.i2d x1) (FP.i2d x1)) .l).toInt ≠ 0)) ∧ (own_at Z T92.heap da .double (2 : Int32) (.double (FP.i2d x2))) ∧ (¬ ((cmpValue (FP.dcmp (FP.i2d x2) (FP.i2d x2)) .l).toInt ≠ 0)) ∧ own_Aft X93 T92.heap _ 288 [.val (.int aa), .val (.int bb), .val (.int cc), .val (.int dd), .val (.int md), .val (.int x0), .val (.int x1), .val (.int x2), .val (.int x3), .val (.int mm), .val (.ref da), .val (.double rr), .second, .unset, .unset, .unset, .unset, .unset, .unset, .unset, .unset, .unset, .unset, .unset, .unset, .unset, .unset, .unset, .unset] [.int (3 : Int32), .ref da]
            refine ⟨by rw [own_cv_eq (FP.Core.dcmp_self D1.num)]; omega, AA.at (2 : Int32) 2 rfl rfl, by rw [own_cv_eq (FP.Core.dcmp_self D2.num)]; omega, fun T94 X94 eh94 => ?_⟩
            refine own_blk dec0 seq0 hby hx hZ hown hK hF 8 [false] [.double (FP.i2d x3)] X94 eh94 ?_
            show (own_at Z T92.heap da .double (3 : Int32) (.double (FP.i2d x3))) ∧ (¬ ((cmpValue (FP.dcmp (FP.i2d x3) (FP.i2d x3)) .l).toInt ≠ 0)) ∧ own_Aft X94 T92.heap _ 303 [.val (.int aa), .val (.int bb), .val (.int cc), .val (.int dd), .val (.int md), .val (.int x0), .val (.int x1), .val (.int x2), .val (.int x3), .val (.int mm), .val (.ref da), .val (.double rr), .second, .val (.int (1 : Int32)), .unset, .unset, .unset, .unset, .unset, .unset, .unset, .unset, .unset, .unset, .unset, .unset, .unset, .unset, .unset] []
            refine ⟨AA.at (3 : Int32) 3 rfl rfl, by rw [own_cv_eq (FP.Core.dcmp_self D3.num)]; omega, fun T95 X95 eh95 => ?_⟩
            have hfst : ¬ x0.toInt = x1.toInt ∨ (x0.toInt = x1.toInt ∧ ¬ x1.toInt = x2.toInt) ∨ (x0.toInt = x1.toInt ∧ x1.toInt = x2.toInt ∧ ¬ x2.toInt = x3.toInt) := by omega
            suffices tl96 : own_Aft X95 T92.heap (own_Fin s 16 128 (fun v h L => v = some (.int 1) ∧ Fr n0 L)) 342 [.val (.int aa), .val (.int bb), .val (.int cc), .val (.int dd), .val (.int md), .val (.int x0), .val (.int x1), .val (.int x2), .val (.int x3), .val (.int mm), .val (.ref da), .val (.double rr), .second, .val (.int (1 : Int32)), .unset, .unset, .unset, .unset, .unset, .unset, .unset, .unset, .unset, .unset, .unset, .unset, .unset, .unset, .unset] [] by
              rcases hfst with h1 | ⟨h1, h2⟩ | ⟨h1, h2, h3⟩
              · skip
                refine own_blk dec0 seq0 hby hx hZ hown hK hF 3 [true] [] X95 eh95 ?_
                show ((x0).toInt ≠ (x1).toInt) ∧ own_Aft X95 T92.heap _ 342 [.val (.int aa), .val (.int bb), .val (.int cc), .val (.int dd), .val (.int md), .val (.int x0), .val (.int x1), .val (.int x2), .val (.int x3), .val (.int mm), .val (.ref da), .val (.double rr), .second, .val (.int (1 : Int32)), .unset, .unset, .unset, .unset, .unset, .unset, .unset, .unset, .unset, .unset, .unset, .unset, .unset, .unset, .unset] []
                refine ⟨by omega, fun T97 X97 eh97 => ?_⟩
                exact tl96  T97 X97 eh97
              · skip
                refine own_blk dec0 seq0 hby hx hZ hown hK hF 6 [false, true] [] X95 eh95 ?_
                show (¬ ((x0).toInt ≠ (x1).toInt)) ∧ ((x1).toInt ≠ (x2).toInt) ∧ own_Aft X95 T92.heap _ 342 [.val (.int aa), .val (.int bb), .val (.int cc), .val (.int dd), .val (.int md), .val (.int x0), .val (.int x1), .val (.int x2), .val (.int x3), .val (.int mm), .val (.ref da), .val (.double rr), .second, .val (.int (1 : Int32)), .unset, .unset, .unset, .unset, .unset, .unset, .unset, .unset, .unset, .unset, .unset, .unset, .unset, .unset, .unset] []
                refine ⟨by omega, by omega, fun T98 X98 eh98 => ?_⟩
                exact tl96  T98 X98 eh98
              · skip
                refine own_blk dec0 seq0 hby hx hZ hown hK hF 9 [false, false, true] [] X95 eh95 ?_
                show (¬ ((x0).toInt ≠ (x1).toInt)) ∧ (¬ ((x1).toInt ≠ (x2).toInt)) ∧ ((x2).toInt ≠ (x3).toInt) ∧ own_Aft X95 T92.heap _ 342 [.val (.int aa), .val (.int bb), .val (.int cc), .val (.int dd), .val (.int md), .val (.int x0), .val (.int x1), .val (.int x2), .val (.int x3), .val (.int mm), .val (.ref da), .val (.double rr), .second, .val (.int (1 : Int32)), .unset, .unset, .unset, .unset, .unset, .unset, .unset, .unset, .unset, .unset, .unset, .unset, .unset, .unset, .unset] []
                refine ⟨by omega, by omega, by omega, fun T99 X99 eh99 => ?_⟩
                exact tl96  T99 X99 eh99
            intro T96 X96 eh96
            refine own_blk dec0 seq0 hby hx hZ hown hK hF 12 [] [] X96 eh96 ?_
            show own_Aft X96 T92.heap _ 361 [.val (.int aa), .val (.int bb), .val (.int cc), .val (.int dd), .val (.int md), .val (.int x0), .val (.int x1), .val (.int x2), .val (.int x3), .val (.int mm), .val (.ref da), .val (.double rr), .second, .val (.int (1 : Int32)), .val (.int (((x0 + x1) + x2) + x3)), .unset, .unset, .unset, .unset, .unset, .unset, .unset, .unset, .unset, .unset, .unset, .unset, .unset, .unset] [.int (((x0 + x1) + x2) + x3), .int ((4 : Int32) * x0)]
            refine fun T100 X100 eh100 => ?_
            refine own_blk dec0 seq0 hby hx hZ hown hK hF 12 [] [] X100 eh100 ?_
            show own_Aft X100 T92.heap _ 379 [.val (.int aa), .val (.int bb), .val (.int cc), .val (.int dd), .val (.int md), .val (.int x0), .val (.int x1), .val (.int x2), .val (.int x3), .val (.int mm), .val (.ref da), .val (.double rr), .second, .val (.int (1 : Int32)), .val (.int (((x0 + x1) + x2) + x3)), .val (.int (((4 : Int32) * x0) - (((x0 + x1) + x2) + x3))), .val (.int (((4 : Int32) * x1) - (((x0 + x1) + x2) + x3))), .unset, .unset, .unset, .unset, .unset, .unset, .unset, .unset, .unset, .unset, .unset, .unset] [.int (((x0 + x1) + x2) + x3), .int ((4 : Int32) * x2)]
            refine fun T101 X101 eh101 => ?_
            refine own_blk dec0 seq0 hby hx hZ hown hK hF 8 [] [] X101 eh101 ?_
            show own_Aft X101 T92.heap _ 391 [.val (.int aa), .val (.int bb), .val (.int cc), .val (.int dd), .val (.int md), .val (.int x0), .val (.int x1), .val (.int x2), .val (.int x3), .val (.int mm), .val (.ref da), .val (.double rr), .second, .val (.int (1 : Int32)), .val (.int (((x0 + x1) + x2) + x3)), .val (.int (((4 : Int32) * x0) - (((x0 + x1) + x2) + x3))), .val (.int (((4 : Int32) * x1) - (((x0 + x1) + x2) + x3))), .val (.int (((4 : Int32) * x2) - (((x0 + x1) + x2) + x3))), .val (.int (((4 : Int32) * x3) - (((x0 + x1) + x2) + x3))), .unset, .unset, .unset, .unset, .unset, .unset, .unset, .unset, .unset, .unset] []
            refine fun T102 X102 eh102 => ?_
            rw [← hE0, ← hE1, ← hE2, ← hE3]
            show own_Go p.tables e below _ (T102.setTop (mkF m 391 (Array.mk [.val (.int aa), .val (.int bb), .val (.int cc), .val (.int dd), .val (.int md), .val (.int x0), .val (.int x1), .val (.int x2), .val (.int x3), .val (.int mm), .val (.ref da), .val (.double rr), .second, .val (.int (1 : Int32)), .val (.int (((x0 + x1) + x2) + x3)), .val (.int E0), .val (.int E1), .val (.int E2), .val (.int E3), .unset, .unset, .unset, .unset, .unset, .unset, .unset, .unset, .unset, .unset]) []))
            refine own_blk dec0 seq0 hby hx hZ hown hK hF 12 [] [] X102 eh102 ?_
            show own_Aft X102 T92.heap _ 410 [.val (.int aa), .val (.int bb), .val (.int cc), .val (.int dd), .val (.int md), .val (.int x0), .val (.int x1), .val (.int x2), .val (.int x3), .val (.int mm), .val (.ref da), .val (.double rr), .second, .val (.int (1 : Int32)), .val (.int (((x0 + x1) + x2) + x3)), .val (.int E0), .val (.int E1), .val (.int E2), .val (.int E3), .unset, .unset, .unset, .unset, .unset, .unset, .unset, .unset, .unset, .unset] [.int E3, .int (((E0 * E0) + (E1 * E1)) + (E2 * E2))]
            refine fun T103 X103 eh103 => ?_
            refine own_blk dec0 seq0 hby hx hZ hown hK hF 12 [] [] X103 eh103 ?_
            show own_Aft X103 T92.heap _ 429 [.val (.int aa), .val (.int bb), .val (.int cc), .val (.int dd), .val (.int md), .val (.int x0), .val (.int x1), .val (.int x2), .val (.int x3), .val (.int mm), .val (.ref da), .val (.double rr), .second, .val (.int (1 : Int32)), .val (.int (((x0 + x1) + x2) + x3)), .val (.int E0), .val (.int E1), .val (.int E2), .val (.int E3), .val (.int ((((E0 * E0) + (E1 * E1)) + (E2 * E2)) + (E3 * E3))), .unset, .unset, .unset, .unset, .unset, .unset, .unset, .unset, .unset] [.int E2, .int ((E0 * E1) + (E1 * E2))]
            refine fun T104 X104 eh104 => ?_
            refine own_blk dec0 seq0 hby hx hZ hown hK hF 12 [] [] X104 eh104 ?_
            show own_Aft X104 T92.heap _ 448 [.val (.int aa), .val (.int bb), .val (.int cc), .val (.int dd), .val (.int md), .val (.int x0), .val (.int x1), .val (.int x2), .val (.int x3), .val (.int mm), .val (.ref da), .val (.double rr), .second, .val (.int (1 : Int32)), .val (.int (((x0 + x1) + x2) + x3)), .val (.int E0), .val (.int E1), .val (.int E2), .val (.int E3), .val (.int ((((E0 * E0) + (E1 * E1)) + (E2 * E2)) + (E3 * E3))), .val (.int (((E0 * E1) + (E1 * E2)) + (E2 * E3))), .val (.int ((E0 * E2) + (E1 * E3))), .unset, .unset, .unset, .unset, .unset, .unset, .unset] []
            refine fun T105 X105 eh105 => ?_
            refine own_blk dec0 seq0 hby hx hZ hown hK hF 4 [] [] X105 eh105 ?_
            show own_Aft X105 T92.heap _ 455 [.val (.int aa), .val (.int bb), .val (.int cc), .val (.int dd), .val (.int md), .val (.int x0), .val (.int x1), .val (.int x2), .val (.int x3), .val (.int mm), .val (.ref da), .val (.double rr), .second, .val (.int (1 : Int32)), .val (.int (((x0 + x1) + x2) + x3)), .val (.int E0), .val (.int E1), .val (.int E2), .val (.int E3), .val (.int ((((E0 * E0) + (E1 * E1)) + (E2 * E2)) + (E3 * E3))), .val (.int (((E0 * E1) + (E1 * E2)) + (E2 * E3))), .val (.int ((E0 * E2) + (E1 * E3))), .val (.int (E0 * E3)), .unset, .unset, .unset, .unset, .unset, .unset] []
            refine fun T106 X106 eh106 => ?_
            rw [← hpp, ← hp1, ← hp2, ← hp3]
            show own_Go p.tables e below _ (T106.setTop (mkF m 455 (Array.mk [.val (.int aa), .val (.int bb), .val (.int cc), .val (.int dd), .val (.int md), .val (.int x0), .val (.int x1), .val (.int x2), .val (.int x3), .val (.int mm), .val (.ref da), .val (.double rr), .second, .val (.int (1 : Int32)), .val (.int (((x0 + x1) + x2) + x3)), .val (.int E0), .val (.int E1), .val (.int E2), .val (.int E3), .val (.int pp), .val (.int p1), .val (.int p2), .val (.int p3), .unset, .unset, .unset, .unset, .unset, .unset]) []))
            refine own_blk dec0 seq0 hby hx hZ hown hK hF 4 [] [] X106 eh106 ?_
            show own_Aft X106 T92.heap _ 462 [.val (.int aa), .val (.int bb), .val (.int cc), .val (.int dd), .val (.int md), .val (.int x0), .val (.int x1), .val (.int x2), .val (.int x3), .val (.int mm), .val (.ref da), .val (.double rr), .second, .val (.int (1 : Int32)), .val (.int (((x0 + x1) + x2) + x3)), .val (.int E0), .val (.int E1), .val (.int E2), .val (.int E3), .val (.int pp), .val (.int p1), .val (.int p2), .val (.int p3), .val (.int (pp + p1)), .unset, .unset, .unset, .unset, .unset] []
            refine fun T107 X107 eh107 => ?_
            rw [← hn0]
            show own_Go p.tables e below _ (T107.setTop (mkF m 462 (Array.mk [.val (.int aa), .val (.int bb), .val (.int cc), .val (.int dd), .val (.int md), .val (.int x0), .val (.int x1), .val (.int x2), .val (.int x3), .val (.int mm), .val (.ref da), .val (.double rr), .second, .val (.int (1 : Int32)), .val (.int (((x0 + x1) + x2) + x3)), .val (.int E0), .val (.int E1), .val (.int E2), .val (.int E3), .val (.int pp), .val (.int p1), .val (.int p2), .val (.int p3), .val (.int nu0), .unset, .unset, .unset, .unset, .unset]) []))
            obtain ⟨qf, qp, qb⟩ := own_qb (n := nu0) (p := pp) hk0 ppos
            refine own_blk dec0 seq0 hby hx hZ hown hK hF 12 [true] [] X107 eh107 ?_
            show (0 < (nu0).toInt) ∧ (Jvm.Free.Fl.NoNaN64 (FP.ddiv (FP.i2d nu0) (FP.i2d pp))) ∧ own_Aft X107 T92.heap _ 502 [.val (.int aa), .val (.int bb), .val (.int cc), .val (.int dd), .val (.int md), .val (.int x0), .val (.int x1), .val (.int x2), .val (.int x3), .val (.int mm), .val (.ref da), .val (.double rr), .second, .val (.int (1 : Int32)), .val (.int (((x0 + x1) + x2) + x3)), .val (.int E0), .val (.int E1), .val (.int E2), .val (.int E3), .val (.int pp), .val (.int p1), .val (.int p2), .val (.int p3), .val (.int nu0), .val (.double (FP.ddiv (FP.i2d nu0) (FP.i2d pp))), .second, .val (.int (p2 + p3)), .unset, .unset] []
            refine ⟨by omega, own_nn (own_fin_num qf), fun T108 X108 eh108 => ?_⟩
            rw [← hn1]
            show own_Go p.tables e below _ (T108.setTop (mkF m 502 (Array.mk [.val (.int aa), .val (.int bb), .val (.int cc), .val (.int dd), .val (.int md), .val (.int x0), .val (.int x1), .val (.int x2), .val (.int x3), .val (.int mm), .val (.ref da), .val (.double rr), .second, .val (.int (1 : Int32)), .val (.int (((x0 + x1) + x2) + x3)), .val (.int E0), .val (.int E1), .val (.int E2), .val (.int E3), .val (.int pp), .val (.int p1), .val (.int p2), .val (.int p3), .val (.int nu0), .val (.double (FP.ddiv (FP.i2d nu0) (FP.i2d pp))), .second, .val (.int nu1), .unset, .unset]) []))
            have zz := own_z00.2
            obtain ⟨nt, ft⟩ := own_tau_b qf (Int.le_of_lt qp) (by have := own_u_pos 0; omega)
            refine own_blk dec0 seq0 hby hx hZ hown hK hF 8 [true] [] X108 eh108 ?_
            show ((nu1).toInt ≤ 0) ∧ (Jvm.Free.Fl.NoNaN64 (FP.dmul 4611686018427387904 (FP.ddiv (FP.i2d nu0) (FP.i2d pp)))) ∧ (Jvm.Free.Fl.NoNaN64 (FP.dadd 13830554455654793216 (FP.dmul 4611686018427387904 (FP.ddiv (FP.i2d nu0) (FP.i2d pp))))) ∧ own_Aft X108 T92.heap _ 531 [.val (.int aa), .val (.int bb), .val (.int cc), .val (.int dd), .val (.int md), .val (.int x0), .val (.int x1), .val (.int x2), .val (.int x3), .val (.int mm), .val (.ref da), .val (.double rr), .second, .val (.int (1 : Int32)), .val (.int (((x0 + x1) + x2) + x3)), .val (.int E0), .val (.int E1), .val (.int E2), .val (.int E3), .val (.int pp), .val (.int p1), .val (.int p2), .val (.int p3), .val (.int nu0), .val (.double (FP.ddiv (FP.i2d nu0) (FP.i2d pp))), .second, .val (.int nu1), .val (.double (FP.dadd 13830554455654793216 (FP.dmul 4611686018427387904 (FP.ddiv (FP.i2d nu0) (FP.i2d pp))))), .second] []
            refine ⟨by omega, own_nn nt, own_nn (own_fin_num ft), fun T109 X109 eh109 => ?_⟩
            have etau : FP.dadd 13830554455654793216 (FP.dmul 4611686018427387904 (FP.ddiv (FP.i2d nu0) (FP.i2d pp))) = own_tau (FP.ddiv (FP.i2d nu0) (FP.i2d pp)) := rfl
            rw [etau]
            generalize own_tau (FP.ddiv (FP.i2d nu0) (FP.i2d pp)) = tau at ft ht hrr ⊢
            show own_Go p.tables e below _ (T109.setTop (mkF m 531 (Array.mk [.val (.int aa), .val (.int bb), .val (.int cc), .val (.int dd), .val (.int md), .val (.int x0), .val (.int x1), .val (.int x2), .val (.int x3), .val (.int mm), .val (.ref da), .val (.double rr), .second, .val (.int (1 : Int32)), .val (.int (((x0 + x1) + x2) + x3)), .val (.int E0), .val (.int E1), .val (.int E2), .val (.int E3), .val (.int pp), .val (.int p1), .val (.int p2), .val (.int p3), .val (.int nu0), .val (.double (FP.ddiv (FP.i2d nu0) (FP.i2d pp))), .second, .val (.int nu1), .val (.double tau), .second]) []))
            have nr : own_num (FP.ddiv 4616189618054758400 tau) := own_num_div own_4.num ft (Int.ne_of_gt ht)
            refine own_blk dec0 seq0 hby hx hZ hown hK hF 12 [false, false, false] [] X109 eh109 ?_
            show (¬ ((cmpValue (FP.dcmp tau 0) .l).toInt ≤ 0)) ∧ (Jvm.Free.Fl.NoNaN64 (FP.ddiv 4616189618054758400 tau)) ∧ (¬ ((cmpValue (FP.dcmp rr (FP.ddiv 4616189618054758400 tau)) .l).toInt ≠ 0)) ∧ (¬ (((1 : Int32)).toInt = 0)) ∧ own_Aft X109 T92.heap _ 555 [.val (.int aa), .val (.int bb), .val (.int cc), .val (.int dd), .val (.int md), .val (.int x0), .val (.int x1), .val (.int x2), .val (.int x3), .val (.int mm), .val (.ref da), .val (.double rr), .second, .val (.int (1 : Int32)), .val (.int (((x0 + x1) + x2) + x3)), .val (.int E0), .val (.int E1), .val (.int E2), .val (.int E3), .val (.int pp), .val (.int p1), .val (.int p2), .val (.int p3), .val (.int nu0), .val (.double (FP.ddiv (FP.i2d nu0) (FP.i2d pp))), .second, .val (.int nu1), .val (.double tau), .second] []
            refine ⟨by rw [own_cv_gt (own_gt (own_fin_num ft) own_z00.num (by omega))]; omega, own_nn nr, by rw [← hrr, own_cv_eq (FP.Core.dcmp_self nr)]; omega, by decide, fun T110 X110 eh110 => ?_⟩
            refine own_blk dec0 seq0 hby hx hZ hown hK hF 2 [] [] X110 eh110 ?_
            show own_Aft X110 T92.heap _ 560 [.val (.int aa), .val (.int bb), .val (.int cc), .val (.int dd), .val (.int md), .val (.int x0), .val (.int x1), .val (.int x2), .val (.int x3), .val (.int mm), .val (.ref da), .val (.double rr), .second, .val (.int (1 : Int32)), .val (.int (((x0 + x1) + x2) + x3)), .val (.int E0), .val (.int E1), .val (.int E2), .val (.int E3), .val (.int pp), .val (.int p1), .val (.int p2), .val (.int p3), .val (.int nu0), .val (.double (FP.ddiv (FP.i2d nu0) (FP.i2d pp))), .second, .val (.int nu1), .val (.double tau), .second] [.int (1 : Int32)]
            refine fun T111 X111 eh111 => ?_
            exact own_ret X111 hx hlk eh111 hret (by first | rfl | decide) (Or.inl ⟨rfl, by simp, _, rfl⟩) (hb hby at_560) (by decide) (by decide) (⟨rfl, Fr.app Nf41 M1⟩)
          · skip
            refine own_callS X42 hx hZ hown (hw _ (List.mem_of_getElem? (i := 1) rfl)) (hw _ (List.mem_of_getElem? (i := 2) rfl)) (hw _ (List.mem_of_getElem? (i := 3) rfl)) (hw _ (List.mem_of_getElem? (i := 4) rfl)) (by decide) eh42 [.ref da] pd1 rfl (rm := ({ frames := 1, cells := 1, slots := 4, locals := 24 } : Room)) (rm1_4n l Z a0 hw [] da (FP.i2d x0) (FP.i2d x1) (FP.i2d x2) (FP.i2d x3) x0.toInt x1.toInt x2.toInt x3.toInt nu0 nu1 pp (9218868437227405312) hp41 n0 Z_41 nw_da Ar41' D0 D1 D2 D3 b0 b1 b2 b3 hne hp_ h0_ h1_ (Or.inr (Or.inl ⟨hk0, hk1, Or.inr ⟨ht, rfl⟩⟩))) (by rw [hml]; rfl) 0 rfl (Nat.le_of_eq rfl) (hb hby at_247) (by decide) (by decide) (by decide) (by decide) (fun T112 rv112 Lc112 X112 qc112 => ?_)
            obtain ⟨rfl, M1, AA⟩ := qc112
            have Z_c : n0 ≤ T112.heap.size := Nat.le_trans nw_da (Nat.le_of_lt AA.lt)
            show own_Go p.tables e below _ (T112.setTop (mkF m 250 (Array.mk [.val (.int aa), .val (.int bb), .val (.int cc), .val (.int dd), .val (.int md), .val (.int x0), .val (.int x1), .val (.int x2), .val (.int x3), .val (.int mm), .val (.ref da), .unset, .unset, .unset, .unset, .unset, .unset, .unset, .unset, .unset, .unset, .unset, .unset, .unset, .unset, .unset, .unset, .unset, .unset]) [.double 9218868437227405312]))
            refine own_blk dec0 seq0 hby hx hZ hown hK hF 12 [false] [.double (FP.i2d x0), .double (FP.i2d x1)] X112 rfl ?_
            show (own_at Z T112.heap da .double (0 : Int32) (.double (FP.i2d x0))) ∧ (¬ ((cmpValue (FP.dcmp (FP.i2d x0) (FP.i2d x0)) .l).toInt ≠ 0)) ∧ (own_at Z T112.heap da .double (1 : Int32) (.double (FP.i2d x1))) ∧ own_Aft X112 T112.heap _ 269 [.val (.int aa), .val (.int bb), .val (.int cc), .val (.int dd), .val (.int md), .val (.int x0), .val (.int x1), .val (.int x2), .val (.int x3), .val (.int mm), .val (.ref da), .val (.double 9218868437227405312), .second, .unset, .unset, .unset, .unset, .unset, .unset, .unset, .unset, .unset, .unset, .unset, .unset, .unset, .unset, .unset, .unset] [.int x1, .double (FP.i2d x1)]
            refine ⟨AA.at (0 : Int32) 0 rfl rfl, by rw [own_cv_eq (FP.Core.dcmp_self D0.num)]; omega, AA.at (1 : Int32) 1 rfl rfl, fun T113 X113 eh113 => ?_⟩
            refine own_blk dec0 seq0 hby hx hZ hown hK hF 12 [false, false] [.double (FP.i2d x2)] X113 eh113 ?_
            show (¬ ((cmpValue (FP.dcmp (FP.i2d x1) (FP.i2d x1)) .l).toInt ≠ 0)) ∧ (own_at Z T112.heap da .double (2 : Int32) (.double (FP.i2d x2))) ∧ (¬ ((cmpValue (FP.dcmp (FP.i2d x2) (FP.i2d x2)) .l).toInt ≠ 0)) ∧ own_Aft X113 T112.heap _ 288 [.val (.int aa), .val (.int bb), .val (.int cc), .val (.int dd), .val (.int md), .val (.int x0), .val (.int x1), .val (.int x2), .val (.int x3), .val (.int mm), .val (.ref da), .val (.double 9218868437227405312), .second, .unset, .unset, .unset, .unset, .unset, .unset, .unset, .unset, .unset, .unset, .unset, .unset, .unset, .unset, .unset, .unset] [.int (3 : Int32), .ref da]
            refine ⟨by rw [own_cv_eq (FP.Core.dcmp_self D1.num)]; omega, AA.at (2 : Int32) 2 rfl rfl, by rw [own_cv_eq (FP.Core.dcmp_self D2.num)]; omega, fun T114 X114 eh114 => ?_⟩
            refine own_blk dec0 seq0 hby hx hZ hown hK hF 8 [false] [.double (FP.i2d x3)] X114 eh114 ?_
            show (own_at Z T112.heap da .double (3 : Int32) (.double (FP.i2d x3))) ∧ (¬ ((cmpValue (FP.dcmp (FP.i2d x3) (FP.i2d x3)) .l).toInt ≠ 0)) ∧ own_Aft X114 T112.heap _ 303 [.val (.int aa), .val (.int bb), .val (.int cc), .val (.int dd), .val (.int md), .val (.int x0), .val (.int x1), .val (.int x2), .val (.int x3), .val (.int mm), .val (.ref da), .val (.double 9218868437227405312), .second, .val (.int (1 : Int32)), .unset, .unset, .unset, .unset, .unset, .unset, .unset, .unset, .unset, .unset, .unset, .unset, .unset, .unset, .unset] []
            refine ⟨AA.at (3 : Int32) 3 rfl rfl, by rw [own_cv_eq (FP.Core.dcmp_self D3.num)]; omega, fun T115 X115 eh115 => ?_⟩
            have hfst : ¬ x0.toInt = x1.toInt ∨ (x0.toInt = x1.toInt ∧ ¬ x1.toInt = x2.toInt) ∨ (x0.toInt = x1.toInt ∧ x1.toInt = x2.toInt ∧ ¬ x2.toInt = x3.toInt) := by omega
            suffices tl116 : own_Aft X115 T112.heap (own_Fin s 16 128 (fun v h L => v = some (.int 1) ∧ Fr n0 L)) 342 [.val (.int aa), .val (.int bb), .val (.int cc), .val (.int dd), .val (.int md), .val (.int x0), .val (.int x1), .val (.int x2), .val (.int x3), .val (.int mm), .val (.ref da), .val (.double 9218868437227405312), .second, .val (.int (1 : Int32)), .unset, .unset, .unset, .unset, .unset, .unset, .unset, .unset, .unset, .unset, .unset, .unset, .unset, .unset, .unset] [] by
              rcases hfst with h1 | ⟨h1, h2⟩ | ⟨h1, h2, h3⟩
              · skip
                refine own_blk dec0 seq0 hby hx hZ hown hK hF 3 [true] [] X115 eh115 ?_
                show ((x0).toInt ≠ (x1).toInt) ∧ own_Aft X115 T112.heap _ 342 [.val (.int aa), .val (.int bb), .val (.int cc), .val (.int dd), .val (.int md), .val (.int x0), .val (.int x1), .val (.int x2), .val (.int x3), .val (.int mm), .val (.ref da), .val (.double 9218868437227405312), .second, .val (.int (1 : Int32)), .unset, .unset, .unset, .unset, .unset, .unset, .unset, .unset, .unset, .unset, .unset, .unset, .unset, .unset, .unset] []
                refine ⟨by omega, fun T117 X117 eh117 => ?_⟩
                exact tl116  T117 X117 eh117
              · skip
                refine own_blk dec0 seq0 hby hx hZ hown hK hF 6 [false, true] [] X115 eh115 ?_
                show (¬ ((x0).toInt ≠ (x1).toInt)) ∧ ((x1).toInt ≠ (x2).toInt) ∧ own_Aft X115 T112.heap _ 342 [.val (.int aa), .val (.int bb), .val (.int cc), .val (.int dd), .val (.int md), .val (.int x0), .val (.int x1), .val (.int x2), .val (.int x3), .val (.int mm), .val (.ref da), .val (.double 9218868437227405312), .second, .val (.int (1 : Int32)), .unset, .unset, .unset, .unset, .unset, .unset, .unset, .unset, .unset, .unset, .unset, .unset, .unset, .unset, .unset] []
                refine ⟨by omega, by omega, fun T118 X118 eh118 => ?_⟩
                exact tl116  T118 X118 eh118
              · skip
                refine own_blk dec0 seq0 hby hx hZ hown hK hF 9 [false, false, true] [] X115 eh115 ?_
                show (¬ ((x0).toInt ≠ (x1).toInt)) ∧ (¬ ((x1).toInt ≠ (x2).toInt)) ∧ ((x2).toInt ≠ (x3).toInt) ∧ own_Aft X115 T112.heap _ 342 [.val (.int aa), .val (.int bb), .val (.int cc), .val (.int dd), .val (.int md), .val (.int x0), .val (.int x1), .val (.int x2), .val (.int x3), .val (.int mm), .val (.ref da), .val (.double 9218868437227405312), .second, .val (.int (1 : Int32)), .unset, .unset, .unset, .unset, .unset, .unset, .unset, .unset, .unset, .unset, .unset, .unset, .unset, .unset, .unset] []
                refine ⟨by omega, by omega, by omega, fun T119 X119 eh119 => ?_⟩
                exact tl116  T119 X119 eh119
            intro T116 X116 eh116
            refine own_blk dec0 seq0 hby hx hZ hown hK hF 12 [] [] X116 eh116 ?_
            show own_Aft X116 T112.heap _ 361 [.val (.int aa), .val (.int bb), .val (.int cc), .val (.int dd), .val (.int md), .val (.int x0), .val (.int x1), .val (.int x2), .val (.int x3), .val (.int mm), .val (.ref da), .val (.double 9218868437227405312), .second, .val (.int (1 : Int32)), .val (.int (((x0 + x1) + x2) + x3)), .unset, .unset, .unset, .unset, .unset, .unset, .unset, .unset, .unset, .unset, .unset, .unset, .unset, .unset] [.int (((x0 + x1) + x2) + x3), .int ((4 : Int32) * x0)]
            refine fun T120 X120 eh120 => ?_
            refine own_blk dec0 seq0 hby hx hZ hown hK hF 12 [] [] X120 eh120 ?_
            show own_Aft X120 T112.heap _ 379 [.val (.int aa), .val (.int bb), .val (.int cc), .val (.int dd), .val (.int md), .val (.int x0), .val (.int x1), .val (.int x2), .val (.int x3), .val (.int mm), .val (.ref da), .val (.double 9218868437227405312), .second, .val (.int (1 : Int32)), .val (.int (((x0 + x1) + x2) + x3)), .val (.int (((4 : Int32) * x0) - (((x0 + x1) + x2) + x3))), .val (.int (((4 : Int32) * x1) - (((x0 + x1) + x2) + x3))), .unset, .unset, .unset, .unset, .unset, .unset, .unset, .unset, .unset, .unset, .unset, .unset] [.int (((x0 + x1) + x2) + x3), .int ((4 : Int32) * x2)]
            refine fun T121 X121 eh121 => ?_
            refine own_blk dec0 seq0 hby hx hZ hown hK hF 8 [] [] X121 eh121 ?_
            show own_Aft X121 T112.heap _ 391 [.val (.int aa), .val (.int bb), .val (.int cc), .val (.int dd), .val (.int md), .val (.int x0), .val (.int x1), .val (.int x2), .val (.int x3), .val (.int mm), .val (.ref da), .val (.double 9218868437227405312), .second, .val (.int (1 : Int32)), .val (.int (((x0 + x1) + x2) + x3)), .val (.int (((4 : Int32) * x0) - (((x0 + x1) + x2) + x3))), .val (.int (((4 : Int32) * x1) - (((x0 + x1) + x2) + x3))), .val (.int (((4 : Int32) * x2) - (((x0 + x1) + x2) + x3))), .val (.int (((4 : Int32) * x3) - (((x0 + x1) + x2) + x3))), .unset, .unset, .unset, .unset, .unset, .unset, .unset, .unset, .unset, .unset] []
            refine fun T122 X122 eh122 => ?_
            rw [← hE0, ← hE1, ← hE2, ← hE3]
            show own_Go p.tables e below _ (T122.setTop (mkF m 391 (Array.mk [.val (.int aa), .val (.int bb), .val (.int cc), .val (.int dd), .val (.int md), .val (.int x0), .val (.int x1), .val (.int x2), .val (.int x3), .val (.int mm), .val (.ref da), .val (.double 9218868437227405312), .second, .val (.int (1 : Int32)), .val (.int (((x0 + x1) + x2) + x3)), .val (.int E0), .val (.int E1), .val (.int E2), .val (.int E3), .unset, .unset, .unset, .unset, .unset, .unset, .unset, .unset, .unset, .unset]) []))
            refine own_blk dec0 seq0 hby hx hZ hown hK hF 12 [] [] X122 eh122 ?_
            show own_Aft X122 T112.heap _ 410 [.val (.int aa), .val (.int bb), .val (.int cc), .val (.int dd), .val (.int md), .val (.int x0), .val (.int x1), .val (.int x2), .val (.int x3), .val (.int mm), .val (.ref da), .val (.double 9218868437227405312), .second, .val (.int (1 : Int32)), .val (.int (((x0 + x1) + x2) + x3)), .val (.int E0), .val (.int E1), .val (.int E2), .val (.int E3), .unset, .unset, .unset, .unset, .unset, .unset, .unset, .unset, .unset, .unset] [.int E3, .int (((E0 * E0) + (E1 * E1)) + (E2 * E2))]
            refine fun T123 X123 eh123 => ?_
            refine own_blk dec0 seq0 hby hx hZ hown hK hF 12 [] [] X123 eh123 ?_
            show own_Aft X123 T112.heap _ 429 [.val (.int aa), .val (.int bb), .val (.int cc), .val (.int dd), .val (.int md), .val (.int x0), .val (.int x1), .val (.int x2), .val (.int x3), .val (.int mm), .val (.ref da), .val (.double 9218868437227405312), .second, .val (.int (1 : Int32)), .val (.int (((x0 + x1) + x2) + x3)), .val (.int E0), .val (.int E1), .val (.int E2), .val (.int E3), .val (.int ((((E0 * E0) + (E1 * E1)) + (E2 * E2)) + (E3 * E3))), .unset, .unset, .unset, .unset, .unset, .unset, .unset, .unset, .unset] [.int E2, .int ((E0 * E1) + (E1 * E2))]
            refine fun T124 X124 eh124 => ?_
            refine own_blk dec0 seq0 hby hx hZ hown hK hF 12 [] [] X124 eh124 ?_
            show own_Aft X124 T112.heap _ 448 [.val (.int aa), .val (.int bb), .val (.int cc), .val (.int dd), .val (.int md), .val (.int x0), .val (.int x1), .val (.int x2), .val (.int x3), .val (.int mm), .val (.ref da), .val (.double 9218868437227405312), .second, .val (.int (1 : Int32)), .val (.int (((x0 + x1) + x2) + x3)), .val (.int E0), .val (.int E1), .val (.int E2), .val (.int E3), .val (.int ((((E0 * E0) + (E1 * E1)) + (E2 * E2)) + (E3 * E3))), .val (.int (((E0 * E1) + (E1 * E2)) + (E2 * E3))), .val (.int ((E0 * E2) + (E1 * E3))), .unset, .unset, .unset, .unset, .unset, .unset, .unset] []
            refine fun T125 X125 eh125 => ?_
            refine own_blk dec0 seq0 hby hx hZ hown hK hF 4 [] [] X125 eh125 ?_
            show own_Aft X125 T112.heap _ 455 [.val (.int aa), .val (.int bb), .val (.int cc), .val (.int dd), .val (.int md), .val (.int x0), .val (.int x1), .val (.int x2), .val (.int x3), .val (.int mm), .val (.ref da), .val (.double 9218868437227405312), .second, .val (.int (1 : Int32)), .val (.int (((x0 + x1) + x2) + x3)), .val (.int E0), .val (.int E1), .val (.int E2), .val (.int E3), .val (.int ((((E0 * E0) + (E1 * E1)) + (E2 * E2)) + (E3 * E3))), .val (.int (((E0 * E1) + (E1 * E2)) + (E2 * E3))), .val (.int ((E0 * E2) + (E1 * E3))), .val (.int (E0 * E3)), .unset, .unset, .unset, .unset, .unset, .unset] []
            refine fun T126 X126 eh126 => ?_
            rw [← hpp, ← hp1, ← hp2, ← hp3]
            show own_Go p.tables e below _ (T126.setTop (mkF m 455 (Array.mk [.val (.int aa), .val (.int bb), .val (.int cc), .val (.int dd), .val (.int md), .val (.int x0), .val (.int x1), .val (.int x2), .val (.int x3), .val (.int mm), .val (.ref da), .val (.double 9218868437227405312), .second, .val (.int (1 : Int32)), .val (.int (((x0 + x1) + x2) + x3)), .val (.int E0), .val (.int E1), .val (.int E2), .val (.int E3), .val (.int pp), .val (.int p1), .val (.int p2), .val (.int p3), .unset, .unset, .unset, .unset, .unset, .unset]) []))
            refine own_blk dec0 seq0 hby hx hZ hown hK hF 4 [] [] X126 eh126 ?_
            show own_Aft X126 T112.heap _ 462 [.val (.int aa), .val (.int bb), .val (.int cc), .val (.int dd), .val (.int md), .val (.int x0), .val (.int x1), .val (.int x2), .val (.int x3), .val (.int mm), .val (.ref da), .val (.double 9218868437227405312), .second, .val (.int (1 : Int32)), .val (.int (((x0 + x1) + x2) + x3)), .val (.int E0), .val (.int E1), .val (.int E2), .val (.int E3), .val (.int pp), .val (.int p1), .val (.int p2), .val (.int p3), .val (.int (pp + p1)), .unset, .unset, .unset, .unset, .unset] []
            refine fun T127 X127 eh127 => ?_
            rw [← hn0]
            show own_Go p.tables e below _ (T127.setTop (mkF m 462 (Array.mk [.val (.int aa), .val (.int bb), .val (.int cc), .val (.int dd), .val (.int md), .val (.int x0), .val (.int x1), .val (.int x2), .val (.int x3), .val (.int mm), .val (.ref da), .val (.double 9218868437227405312), .second, .val (.int (1 : Int32)), .val (.int (((x0 + x1) + x2) + x3)), .val (.int E0), .val (.int E1), .val (.int E2), .val (.int E3), .val (.int pp), .val (.int p1), .val (.int p2), .val (.int p3), .val (.int nu0), .unset, .unset, .unset, .unset, .unset]) []))
            obtain ⟨qf, qp, qb⟩ := own_qb (n := nu0) (p := pp) hk0 ppos
            refine own_blk dec0 seq0 hby hx hZ hown hK hF 12 [true] [] X127 eh127 ?_
            show (0 < (nu0).toInt) ∧ (Jvm.Free.Fl.NoNaN64 (FP.ddiv (FP.i2d nu0) (FP.i2d pp))) ∧ own_Aft X127 T112.heap _ 502 [.val (.int aa), .val (.int bb), .val (.int cc), .val (.int dd), .val (.int md), .val (.int x0), .val (.int x1), .val (.int x2), .val (.int x3), .val (.int mm), .val (.ref da), .val (.double 9218868437227405312), .second, .val (.int (1 : Int32)), .val (.int (((x0 + x1) + x2) + x3)), .val (.int E0), .val (.int E1), .val (.int E2), .val (.int E3), .val (.int pp), .val (.int p1), .val (.int p2), .val (.int p3), .val (.int nu0), .val (.double (FP.ddiv (FP.i2d nu0) (FP.i2d pp))), .second, .val (.int (p2 + p3)), .unset, .unset] []
            refine ⟨by omega, own_nn (own_fin_num qf), fun T128 X128 eh128 => ?_⟩
            rw [← hn1]
            show own_Go p.tables e below _ (T128.setTop (mkF m 502 (Array.mk [.val (.int aa), .val (.int bb), .val (.int cc), .val (.int dd), .val (.int md), .val (.int x0), .val (.int x1), .val (.int x2), .val (.int x3), .val (.int mm), .val (.ref da), .val (.double 9218868437227405312), .second, .val (.int (1 : Int32)), .val (.int (((x0 + x1) + x2) + x3)), .val (.int E0), .val (.int E1), .val (.int E2), .val (.int E3), .val (.int pp), .val (.int p1), .val (.int p2), .val (.int p3), .val (.int nu0), .val (.double (FP.ddiv (FP.i2d nu0) (FP.i2d pp))), .second, .val (.int nu1), .unset, .unset]) []))
            have zz := own_z00.2
            obtain ⟨nt, ft⟩ := own_tau_b qf (Int.le_of_lt qp) (by have := own_u_pos 0; omega)
            refine own_blk dec0 seq0 hby hx hZ hown hK hF 8 [true] [] X128 eh128 ?_
            show ((nu1).toInt ≤ 0) ∧ (Jvm.Free.Fl.NoNaN64 (FP.dmul 4611686018427387904 (FP.ddiv (FP.i2d nu0) (FP.i2d pp)))) ∧ (Jvm.Free.Fl.NoNaN64 (FP.dadd 13830554455654793216 (FP.dmul 4611686018427387904 (FP.ddiv (FP.i2d nu0) (FP.i2d pp))))) ∧ own_Aft X128 T112.heap _ 531 [.val (.int aa), .val (.int bb), .val (.int cc), .val (.int dd), .val (.int md), .val (.int x0), .val (.int x1), .val (.int x2), .val (.int x3), .val (.int mm), .val (.ref da), .val (.double 9218868437227405312), .second, .val (.int (1 : Int32)), .val (.int (((x0 + x1) + x2) + x3)), .val (.int E0), .val (.int E1), .val (.int E2), .val (.int E3), .val (.int pp), .val (.int p1), .val (.int p2), .val (.int p3), .val (.int nu0), .val (.double (FP.ddiv (FP.i2d nu0) (FP.i2d pp))), .second, .val (.int nu1), .val (.double (FP.dadd 13830554455654793216 (FP.dmul 4611686018427387904 (FP.ddiv (FP.i2d nu0) (FP.i2d pp))))), .second] []
            refine ⟨by omega, own_nn nt, own_nn (own_fin_num ft), fun T129 X129 eh129 => ?_⟩
            have etau : FP.dadd 13830554455654793216 (FP.dmul 4611686018427387904 (FP.ddiv (FP.i2d nu0) (FP.i2d pp))) = own_tau (FP.ddiv (FP.i2d nu0) (FP.i2d pp)) := rfl
            rw [etau]
            generalize own_tau (FP.ddiv (FP.i2d nu0) (FP.i2d pp)) = tau at ft ht ⊢
            show own_Go p.tables e below _ (T129.setTop (mkF m 531 (Array.mk [.val (.int aa), .val (.int bb), .val (.int cc), .val (.int dd), .val (.int md), .val (.int x0), .val (.int x1), .val (.int x2), .val (.int x3), .val (.int mm), .val (.ref da), .val (.double 9218868437227405312), .second, .val (.int (1 : Int32)), .val (.int (((x0 + x1) + x2) + x3)), .val (.int E0), .val (.int E1), .val (.int E2), .val (.int E3), .val (.int pp), .val (.int p1), .val (.int p2), .val (.int p3), .val (.int nu0), .val (.double (FP.ddiv (FP.i2d nu0) (FP.i2d pp))), .second, .val (.int nu1), .val (.double tau), .second]) []))
            refine own_blk dec0 seq0 hby hx hZ hown hK hF 5 [true] [] X129 eh129 ?_
            show ((cmpValue (FP.dcmp tau 0) .l).toInt ≤ 0) ∧ own_Aft X129 T112.heap _ 563 [.val (.int aa), .val (.int bb), .val (.int cc), .val (.int dd), .val (.int md), .val (.int x0), .val (.int x1), .val (.int x2), .val (.int x3), .val (.int mm), .val (.ref da), .val (.double 9218868437227405312), .second, .val (.int (1 : Int32)), .val (.int (((x0 + x1) + x2) + x3)), .val (.int E0), .val (.int E1), .val (.int E2), .val (.int E3), .val (.int pp), .val (.int p1), .val (.int p2), .val (.int p3), .val (.int nu0), .val (.double (FP.ddiv (FP.i2d nu0) (FP.i2d pp))), .second, .val (.int nu1), .val (.double tau), .second] [.double 9218868437227405312]
            refine ⟨by rcases Int.lt_or_eq_of_le ht with q | q <;> first | (rw [own_cv_lt (own_lt (own_fin_num ft) own_z00.num (by omega))]; omega) | (rw [own_cv_eq (own_eq (own_fin_num ft) own_z00.num (by omega))]; omega), fun T130 X130 eh130 => ?_⟩
            refine own_callS X130 hx hZ hown (hw _ (List.mem_of_getElem? (i := 17) rfl)) (hw _ (List.mem_of_getElem? (i := 18) rfl)) (hw _ (List.mem_of_getElem? (i := 19) rfl)) (hw _ (List.mem_of_getElem? (i := 20) rfl)) (by decide) eh130 [.double 9218868437227405312] pd4 rfl (rm := ({ frames := 0, cells := 0, slots := 0, locals := 0 } : Room)) (rm4 l Z a0 hw []  T112.heap n0 Z_c) (by rw [hml]; rfl) 0 rfl (Nat.le_of_eq rfl) (hb hby at_563) (by decide) (by decide) (by decide) (by decide) (fun T131 rv131 Lc131 X131 qc131 => ?_)
            obtain ⟨rfl, M2, hi⟩ := qc131
            show own_Go p.tables e below _ (T131.setTop (mkF m 566 (Array.mk [.val (.int aa), .val (.int bb), .val (.int cc), .val (.int dd), .val (.int md), .val (.int x0), .val (.int x1), .val (.int x2), .val (.int x3), .val (.int mm), .val (.ref da), .val (.double 9218868437227405312), .second, .val (.int (1 : Int32)), .val (.int (((x0 + x1) + x2) + x3)), .val (.int E0), .val (.int E1), .val (.int E2), .val (.int E3), .val (.int pp), .val (.int p1), .val (.int p2), .val (.int p3), .val (.int nu0), .val (.double (FP.ddiv (FP.i2d nu0) (FP.i2d pp))), .second, .val (.int nu1), .val (.double tau), .second]) [.int (1 : Int32)]))
            refine own_blk dec0 seq0 hby hx hZ hown hK hF 5 [false, false] [] X131 hi ?_
            show (¬ (((1 : Int32)).toInt = 0)) ∧ (¬ (((1 : Int32)).toInt = 0)) ∧ own_Aft X131 T112.heap _ 579 [.val (.int aa), .val (.int bb), .val (.int cc), .val (.int dd), .val (.int md), .val (.int x0), .val (.int x1), .val (.int x2), .val (.int x3), .val (.int mm), .val (.ref da), .val (.double 9218868437227405312), .second, .val (.int (1 : Int32)), .val (.int (((x0 + x1) + x2) + x3)), .val (.int E0), .val (.int E1), .val (.int E2), .val (.int E3), .val (.int pp), .val (.int p1), .val (.int p2), .val (.int p3), .val (.int nu0), .val (.double (FP.ddiv (FP.i2d nu0) (FP.i2d pp))), .second, .val (.int nu1), .val (.double tau), .second] [.int (1 : Int32)]
            refine ⟨by decide, by decide, fun T132 X132 eh132 => ?_⟩
            exact own_ret X132 hx hlk eh132 hret (by first | rfl | decide) (Or.inl ⟨rfl, by simp, _, rfl⟩) (hb hby at_579) (by decide) (by decide) (⟨rfl, Fr.app (Fr.app Nf41 M1) M2⟩)
      · skip
        refine own_callS X42 hx hZ hown (hw _ (List.mem_of_getElem? (i := 1) rfl)) (hw _ (List.mem_of_getElem? (i := 2) rfl)) (hw _ (List.mem_of_getElem? (i := 3) rfl)) (hw _ (List.mem_of_getElem? (i := 4) rfl)) (by decide) eh42 [.ref da] pd1 rfl (rm := ({ frames := 1, cells := 1, slots := 4, locals := 24 } : Room)) (rm1_4n l Z a0 hw [] da (FP.i2d x0) (FP.i2d x1) (FP.i2d x2) (FP.i2d x3) x0.toInt x1.toInt x2.toInt x3.toInt nu0 nu1 pp (9218868437227405312) hp41 n0 Z_41 nw_da Ar41' D0 D1 D2 D3 b0 b1 b2 b3 hne hp_ h0_ h1_ (Or.inl ⟨hk0, rfl⟩)) (by rw [hml]; rfl) 0 rfl (Nat.le_of_eq rfl) (hb hby at_247) (by decide) (by decide) (by decide) (by decide) (fun T133 rv133 Lc133 X133 qc133 => ?_)
        obtain ⟨rfl, M1, AA⟩ := qc133
        have Z_c : n0 ≤ T133.heap.size := Nat.le_trans nw_da (Nat.le_of_lt AA.lt)
        show own_Go p.tables e below _ (T133.setTop (mkF m 250 (Array.mk [.val (.int aa), .val (.int bb), .val (.int cc), .val (.int dd), .val (.int md), .val (.int x0), .val (.int x1), .val (.int x2), .val (.int x3), .val (.int mm), .val (.ref da), .unset, .unset, .unset, .unset, .unset, .unset, .unset, .unset, .unset, .unset, .unset, .unset, .unset, .unset, .unset, .unset, .unset, .unset]) [.double 9218868437227405312]))
        refine own_blk dec0 seq0 hby hx hZ hown hK hF 12 [false] [.double (FP.i2d x0), .double (FP.i2d x1)] X133 rfl ?_
        show (own_at Z T133.heap da .double (0 : Int32) (.double (FP.i2d x0))) ∧ (¬ ((cmpValue (FP.dcmp (FP.i2d x0) (FP.i2d x0)) .l).toInt ≠ 0)) ∧ (own_at Z T133.heap da .double (1 : Int32) (.double (FP.i2d x1))) ∧ own_Aft X133 T133.heap _ 269 [.val (.int aa), .val (.int bb), .val (.int cc), .val (.int dd), .val (.int md), .val (.int x0), .val (.int x1), .val (.int x2), .val (.int x3), .val (.int mm), .val (.ref da), .val (.double 9218868437227405312), .second, .unset, .unset, .unset, .unset, .unset, .unset, .unset, .unset, .unset, .unset, .unset, .unset, .unset, .unset, .unset, .unset] [.int x1, .double (FP.i2d x1)]
        refine ⟨AA.at (0 : Int32) 0 rfl rfl, by rw [own_cv_eq (FP.Core.dcmp_self D0.num)]; omega, AA.at (1 : Int32) 1 rfl rfl, fun T134 X134 eh134 => ?_⟩
        refine own_blk dec0 seq0 hby hx hZ hown hK hF 12 [false, false] [.double (FP.i2d x2)] X134 eh134 ?_
        show (¬ ((cmpValue (FP.dcmp (FP.i2d x1) (FP.i2d x1)) .l).toInt ≠ 0)) ∧ (own_at Z T133.heap da .double (2 : Int32) (.double (FP.i2d x2))) ∧ (¬ ((cmpValue (FP.dcmp (FP.i2d x2) (FP.i2d x2)) .l).toInt ≠ 0)) ∧ own_Aft X134 T133.heap _ 288 [.val (.int aa), .val (.int bb), .val (.int cc), .val (.int dd), .val (.int md), .val (.int x0), .val (.int x1), .val (.int x2), .val (.int x3), .val (.int mm), .val (.ref da), .val (.double 9218868437227405312), .second, .unset, .unset, .unset, .unset, .unset, .unset, .unset, .unset, .unset, .unset, .unset, .unset, .unset, .unset, .unset, .unset] [.int (3 : Int32), .ref da]
        refine ⟨by rw [own_cv_eq (FP.Core.dcmp_self D1.num)]; omega, AA.at (2 : Int32) 2 rfl rfl, by rw [own_cv_eq (FP.Core.dcmp_self D2.num)]; omega, fun T135 X135 eh135 => ?_⟩
        refine own_blk dec0 seq0 hby hx hZ hown hK hF 8 [false] [.double (FP.i2d x3)] X135 eh135 ?_
        show (own_at Z T133.heap da .double (3 : Int32) (.double (FP.i2d x3))) ∧ (¬ ((cmpValue (FP.dcmp (FP.i2d x3) (FP.i2d x3)) .l).toInt ≠ 0)) ∧ own_Aft X135 T133.heap _ 303 [.val (.int aa), .val (.int bb), .val (.int cc), .val (.int dd), .val (.int md), .val (.int x0), .val (.int x1), .val (.int x2), .val (.int x3), .val (.int mm), .val (.ref da), .val (.double 9218868437227405312), .second, .val (.int (1 : Int32)), .unset, .unset, .unset, .unset, .unset, .unset, .unset, .unset, .unset, .unset, .unset, .unset, .unset, .unset, .unset] []
        refine ⟨AA.at (3 : Int32) 3 rfl rfl, by rw [own_cv_eq (FP.Core.dcmp_self D3.num)]; omega, fun T136 X136 eh136 => ?_⟩
        have hfst : ¬ x0.toInt = x1.toInt ∨ (x0.toInt = x1.toInt ∧ ¬ x1.toInt = x2.toInt) ∨ (x0.toInt = x1.toInt ∧ x1.toInt = x2.toInt ∧ ¬ x2.toInt = x3.toInt) := by omega
        suffices tl137 : own_Aft X136 T133.heap (own_Fin s 16 128 (fun v h L => v = some (.int 1) ∧ Fr n0 L)) 342 [.val (.int aa), .val (.int bb), .val (.int cc), .val (.int dd), .val (.int md), .val (.int x0), .val (.int x1), .val (.int x2), .val (.int x3), .val (.int mm), .val (.ref da), .val (.double 9218868437227405312), .second, .val (.int (1 : Int32)), .unset, .unset, .unset, .unset, .unset, .unset, .unset, .unset, .unset, .unset, .unset, .unset, .unset, .unset, .unset] [] by
          rcases hfst with h1 | ⟨h1, h2⟩ | ⟨h1, h2, h3⟩
          · skip
            refine own_blk dec0 seq0 hby hx hZ hown hK hF 3 [true] [] X136 eh136 ?_
            show ((x0).toInt ≠ (x1).toInt) ∧ own_Aft X136 T133.heap _ 342 [.val (.int aa), .val (.int bb), .val (.int cc), .val (.int dd), .val (.int md), .val (.int x0), .val (.int x1), .val (.int x2), .val (.int x3), .val (.int mm), .val (.ref da), .val (.double 9218868437227405312), .second, .val (.int (1 : Int32)), .unset, .unset, .unset, .unset, .unset, .unset, .unset, .unset, .unset, .unset, .unset, .unset, .unset, .unset, .unset] []
            refine ⟨by omega, fun T138 X138 eh138 => ?_⟩
            exact tl137  T138 X138 eh138
          · skip
            refine own_blk dec0 seq0 hby hx hZ hown hK hF 6 [false, true] [] X136 eh136 ?_
            show (¬ ((x0).toInt ≠ (x1).toInt)) ∧ ((x1).toInt ≠ (x2).toInt) ∧ own_Aft X136 T133.heap _ 342 [.val (.int aa), .val (.int bb), .val (.int cc), .val (.int dd), .val (.int md), .val (.int x0), .val (.int x1), .val (.int x2), .val (.int x3), .val (.int mm), .val (.ref da), .val (.double 9218868437227405312), .second, .val (.int (1 : Int32)), .unset, .unset, .unset, .unset, .unset, .unset, .unset, .unset, .unset, .unset, .unset, .unset, .unset, .unset, .unset] []
            refine ⟨by omega, by omega, fun T139 X139 eh139 => ?_⟩
            exact tl137  T139 X139 eh139
          · skip
            refine own_blk dec0 seq0 hby hx hZ hown hK hF 9 [false, false, true] [] X136 eh136 ?_
            show (¬ ((x0).toInt ≠ (x1).toInt)) ∧ (¬ ((x1).toInt ≠ (x2).toInt)) ∧ ((x2).toInt ≠ (x3).toInt) ∧ own_Aft X136 T133.heap _ 342 [.val (.int aa), .val (.int bb), .val (.int cc), .val (.int dd), .val (.int md), .val (.int x0), .val (.int x1), .val (.int x2), .val (.int x3), .val (.int mm), .val (.ref da), .val (.double 9218868437227405312), .second, .val (.int (1 : Int32)), .unset, .unset, .unset, .unset, .unset, .unset, .unset, .unset, .unset, .unset, .unset, .unset, .unset, .unset, .unset] []
            refine ⟨by omega, by omega, by omega, fun T140 X140 eh140 => ?_⟩
            exact tl137  T140 X140 eh140
        intro T137 X137 eh137
        refine own_blk dec0 seq0 hby hx hZ hown hK hF 12 [] [] X137 eh137 ?_
        show own_Aft X137 T133.heap _ 361 [.val (.int aa), .val (.int bb), .val (.int cc), .val (.int dd), .val (.int md), .val (.int x0), .val (.int x1), .val (.int x2), .val (.int x3), .val (.int mm), .val (.ref da), .val (.double 9218868437227405312), .second, .val (.int (1 : Int32)), .val (.int (((x0 + x1) + x2) + x3)), .unset, .unset, .unset, .unset, .unset, .unset, .unset, .unset, .unset, .unset, .unset, .unset, .unset, .unset] [.int (((x0 + x1) + x2) + x3), .int ((4 : Int32) * x0)]
        refine fun T141 X141 eh141 => ?_
        refine own_blk dec0 seq0 hby hx hZ hown hK hF 12 [] [] X141 eh141 ?_
        show own_Aft X141 T133.heap _ 379 [.val (.int aa), .val (.int bb), .val (.int cc), .val (.int dd), .val (.int md), .val (.int x0), .val (.int x1), .val (.int x2), .val (.int x3), .val (.int mm), .val (.ref da), .val (.double 9218868437227405312), .second, .val (.int (1 : Int32)), .val (.int (((x0 + x1) + x2) + x3)), .val (.int (((4 : Int32) * x0) - (((x0 + x1) + x2) + x3))), .val (.int (((4 : Int32) * x1) - (((x0 + x1) + x2) + x3))), .unset, .unset, .unset, .unset, .unset, .unset, .unset, .unset, .unset, .unset, .unset, .unset] [.int (((x0 + x1) + x2) + x3), .int ((4 : Int32) * x2)]
        refine fun T142 X142 eh142 => ?_
        refine own_blk dec0 seq0 hby hx hZ hown hK hF 8 [] [] X142 eh142 ?_
        show own_Aft X142 T133.heap _ 391 [.val (.int aa), .val (.int bb), .val (.int cc), .val (.int dd), .val (.int md), .val (.int x0), .val (.int x1), .val (.int x2), .val (.int x3), .val (.int mm), .val (.ref da), .val (.double 9218868437227405312), .second, .val (.int (1 : Int32)), .val (.int (((x0 + x1) + x2) + x3)), .val (.int (((4 : Int32) * x0) - (((x0 + x1) + x2) + x3))), .val (.int (((4 : Int32) * x1) - (((x0 + x1) + x2) + x3))), .val (.int (((4 : Int32) * x2) - (((x0 + x1) + x2) + x3))), .val (.int (((4 : Int32) * x3) - (((x0 + x1) + x2) + x3))), .unset, .unset, .unset, .unset, .unset, .unset, .unset, .unset, .unset, .unset] []
        refine fun T143 X143 eh143 => ?_
        rw [← hE0, ← hE1, ← hE2, ← hE3]
        show own_Go p.tables e below _ (T143.setTop (mkF m 391 (Array.mk [.val (.int aa), .val (.int bb), .val (.int cc), .val (.int dd), .val (.int md), .val (.int x0), .val (.int x1), .val (.int x2), .val (.int x3), .val (.int mm), .val (.ref da), .val (.double 9218868437227405312), .second, .val (.int (1 : Int32)), .val (.int (((x0 + x1) + x2) + x3)), .val (.int E0), .val (.int E1), .val (.int E2), .val (.int E3), .unset, .unset, .unset, .unset, .unset, .unset, .unset, .unset, .unset, .unset]) []))
        refine own_blk dec0 seq0 hby hx hZ hown hK hF 12 [] [] X143 eh143 ?_
        show own_Aft X143 T133.heap _ 410 [.val (.int aa), .val (.int bb), .val (.int cc), .val (.int dd), .val (.int md), .val (.int x0), .val (.int x1), .val (.int x2), .val (.int x3), .val (.int mm), .val (.ref da), .val (.double 9218868437227405312), .second, .val (.int (1 : Int32)), .val (.int (((x0 + x1) + x2) + x3)), .val (.int E0), .val (.int E1), .val (.int E2), .val (.int E3), .unset, .unset, .unset, .unset, .unset, .unset, .unset, .unset, .unset, .unset] [.int E3, .int (((E0 * E0) + (E1 * E1)) + (E2 * E2))]
        refine fun T144 X144 eh144 => ?_
        refine own_blk dec0 seq0 hby hx hZ hown hK hF 12 [] [] X144 eh144 ?_
        show own_Aft X144 T133.heap _ 429 [.val (.int aa), .val (.int bb), .val (.int cc), .val (.int dd), .val (.int md), .val (.int x0), .val (.int x1), .val (.int x2), .val (.int x3), .val (.int mm), .val (.ref da), .val (.double 9218868437227405312), .second, .val (.int (1 : Int32)), .val (.int (((x0 + x1) + x2) + x3)), .val (.int E0), .val (.int E1), .val (.int E2), .val (.int E3), .val (.int ((((E0 * E0) + (E1 * E1)) + (E2 * E2)) + (E3 * E3))), .unset, .unset, .unset, .unset, .unset, .unset, .unset, .unset, .unset] [.int E2, .int ((E0 * E1) + (E1 * E2))]
        refine fun T145 X145 eh145 => ?_
        refine own_blk dec0 seq0 hby hx hZ hown hK hF 12 [] [] X145 eh145 ?_
        show own_Aft X145 T133.heap _ 448 [.val (.int aa), .val (.int bb), .val (.int cc), .val (.int dd), .val (.int md), .val (.int x0), .val (.int x1), .val (.int x2), .val (.int x3), .val (.int mm), .val (.ref da), .val (.double 9218868437227405312), .second, .val (.int (1 : Int32)), .val (.int (((x0 + x1) + x2) + x3)), .val (.int E0), .val (.int E1), .val (.int E2), .val (.int E3), .val (.int ((((E0 * E0) + (E1 * E1)) + (E2 * E2)) + (E3 * E3))), .val (.int (((E0 * E1) + (E1 * E2)) + (E2 * E3))), .val (.int ((E0 * E2) + (E1 * E3))), .unset, .unset, .unset, .unset, .unset, .unset, .unset] []
        refine fun T146 X146 eh146 => ?_
        refine own_blk dec0 seq0 hby hx hZ hown hK hF 4 [] [] X146 eh146 ?_
        show own_Aft X146 T133.heap _ 455 [.val (.int aa), .val (.int bb), .val (.int cc), .val (.int dd), .val (.int md), .val (.int x0), .val (.int x1), .val (.int x2), .val (.int x3), .val (.int mm), .val (.ref da), .val (.double 9218868437227405312), .second, .val (.int (1 : Int32)), .val (.int (((x0 + x1) + x2) + x3)), .val (.int E0), .val (.int E1), .val (.int E2), .val (.int E3), .val (.int ((((E0 * E0) + (E1 * E1)) + (E2 * E2)) + (E3 * E3))), .val (.int (((E0 * E1) + (E1 * E2)) + (E2 * E3))), .val (.int ((E0 * E2) + (E1 * E3))), .val (.int (E0 * E3)), .unset, .unset, .unset, .unset, .unset, .unset] []
        refine fun T147 X147 eh147 => ?_
        rw [← hpp, ← hp1, ← hp2, ← hp3]
        show own_Go p.tables e below _ (T147.setTop (mkF m 455 (Array.mk [.val (.int aa), .val (.int bb), .val (.int cc), .val (.int dd), .val (.int md), .val (.int x0), .val (.int x1), .val (.int x2), .val (.int x3), .val (.int mm), .val (.ref da), .val (.double 9218868437227405312), .second, .val (.int (1 : Int32)), .val (.int (((x0 + x1) + x2) + x3)), .val (.int E0), .val (.int E1), .val (.int E2), .val (.int E3), .val (.int pp), .val (.int p1), .val (.int p2), .val (.int p3), .unset, .unset, .unset, .unset, .unset, .unset]) []))
        refine own_blk dec0 seq0 hby hx hZ hown hK hF 4 [] [] X147 eh147 ?_
        show own_Aft X147 T133.heap _ 462 [.val (.int aa), .val (.int bb), .val (.int cc), .val (.int dd), .val (.int md), .val (.int x0), .val (.int x1), .val (.int x2), .val (.int x3), .val (.int mm), .val (.ref da), .val (.double 9218868437227405312), .second, .val (.int (1 : Int32)), .val (.int (((x0 + x1) + x2) + x3)), .val (.int E0), .val (.int E1), .val (.int E2), .val (.int E3), .val (.int pp), .val (.int p1), .val (.int p2), .val (.int p3), .val (.int (pp + p1)), .unset, .unset, .unset, .unset, .unset] []
        refine fun T148 X148 eh148 => ?_
        rw [← hn0]
        show own_Go p.tables e below _ (T148.setTop (mkF m 462 (Array.mk [.val (.int aa), .val (.int bb), .val (.int cc), .val (.int dd), .val (.int md), .val (.int x0), .val (.int x1), .val (.int x2), .val (.int x3), .val (.int mm), .val (.ref da), .val (.double 9218868437227405312), .second, .val (.int (1 : Int32)), .val (.int (((x0 + x1) + x2) + x3)), .val (.int E0), .val (.int E1), .val (.int E2), .val (.int E3), .val (.int pp), .val (.int p1), .val (.int p2), .val (.int p3), .val (.int nu0), .unset, .unset, .unset, .unset, .unset]) []))
        refine own_blk dec0 seq0 hby hx hZ hown hK hF 3 [false] [] X148 eh148 ?_
        show (¬ (0 < (nu0).toInt)) ∧ own_Aft X148 T133.heap _ 469 [.val (.int aa), .val (.int bb), .val (.int cc), .val (.int dd), .val (.int md), .val (.int x0), .val (.int x1), .val (.int x2), .val (.int x3), .val (.int mm), .val (.ref da), .val (.double 9218868437227405312), .second, .val (.int (1 : Int32)), .val (.int (((x0 + x1) + x2) + x3)), .val (.int E0), .val (.int E1), .val (.int E2), .val (.int E3), .val (.int pp), .val (.int p1), .val (.int p2), .val (.int p3), .val (.int nu0), .unset, .unset, .unset, .unset, .unset] [.double 9218868437227405312]
        refine ⟨by omega, fun T149 X149 eh149 => ?_⟩
        refine own_callS X149 hx hZ hown (hw _ (List.mem_of_getElem? (i := 17) rfl)) (hw _ (List.mem_of_getElem? (i := 18) rfl)) (hw _ (List.mem_of_getElem? (i := 19) rfl)) (hw _ (List.mem_of_getElem? (i := 20) rfl)) (by decide) eh149 [.double 9218868437227405312] pd4 rfl (rm := ({ frames := 0, cells := 0, slots := 0, locals := 0 } : Room)) (rm4 l Z a0 hw []  T133.heap n0 Z_c) (by rw [hml]; rfl) 0 rfl (Nat.le_of_eq rfl) (hb hby at_469) (by decide) (by decide) (by decide) (by decide) (fun T150 rv150 Lc150 X150 qc150 => ?_)
        obtain ⟨rfl, M2, hi⟩ := qc150
        show own_Go p.tables e below _ (T150.setTop (mkF m 472 (Array.mk [.val (.int aa), .val (.int bb), .val (.int cc), .val (.int dd), .val (.int md), .val (.int x0), .val (.int x1), .val (.int x2), .val (.int x3), .val (.int mm), .val (.ref da), .val (.double 9218868437227405312), .second, .val (.int (1 : Int32)), .val (.int (((x0 + x1) + x2) + x3)), .val (.int E0), .val (.int E1), .val (.int E2), .val (.int E3), .val (.int pp), .val (.int p1), .val (.int p2), .val (.int p3), .val (.int nu0), .unset, .unset, .unset, .unset, .unset]) [.int (1 : Int32)]))
        refine own_blk dec0 seq0 hby hx hZ hown hK hF 5 [false, false] [] X150 hi ?_
        show (¬ (((1 : Int32)).toInt = 0)) ∧ (¬ (((1 : Int32)).toInt = 0)) ∧ own_Aft X150 T133.heap _ 485 [.val (.int aa), .val (.int bb), .val (.int cc), .val (.int dd), .val (.int md), .val (.int x0), .val (.int x1), .val (.int x2), .val (.int x3), .val (.int mm), .val (.ref da), .val (.double 9218868437227405312), .second, .val (.int (1 : Int32)), .val (.int (((x0 + x1) + x2) + x3)), .val (.int E0), .val (.int E1), .val (.int E2), .val (.int E3), .val (.int pp), .val (.int p1), .val (.int p2), .val (.int p3), .val (.int nu0), .unset, .unset, .unset, .unset, .unset] [.int (1 : Int32)]
        refine ⟨by decide, by decide, fun T151 X151 eh151 => ?_⟩
        exact own_ret X151 hx hlk eh151 hret (by first | rfl | decide) (Or.inl ⟨rfl, by simp, _, rfl⟩) (hb hby at_485) (by decide) (by decide) (⟨rfl, Fr.app (Fr.app Nf41 M1) M2⟩)
set_option maxRecDepth 65536 in
set_option maxHeartbeats 40000000 in
theorem comes_1 {Post : Tables → Env → Array Value → State → Outcome → State → Prop} (hpost : ∀ tb e args s v u, (limb_1_1.after args s (.returned v) u = true ∧ limb_1_2.after args s (.returned v) u = true ∧ True) → FrameEnd s (.returned v) u (Jvm.fieldLocs frame_1_writes args s ++ Jvm.arrayLocs frame_1_arrays args s ++ Jvm.staticLocs frame_1_statics s) 16 128 → Post tb e args s (.returned v) u) :
    ArmFor flags0 classFile x code maxLocals ret World_1 tables_1 room_1 Calls_1 rest_1 Pre_1 Post := by
  intro l hfl _ _ p e ha hc hk s m args below hf hA hF happ hP
  obtain ⟨hcalls, hrest, hpre⟩ := hP
  obtain ⟨-, -, -, hnamed, -, -, -, hat⟩ := (Spec.applies_iff hf).mp happ
  obtain ⟨hg, hn⟩ := and_e (Cond.before_iff.mp (show (Jvm.Cond.and given_1 narrow_1).before args s = true from hpre))
  obtain ⟨h1, g0⟩ := and_e hg
  obtain ⟨t0, g1⟩ := and_e g0
  obtain ⟨t1, g2⟩ := and_e g1
  obtain ⟨t2, g3⟩ := and_e g2
  obtain ⟨t3, g4⟩ := and_e g3
  obtain ⟨w0, w1, w2, w3, w4, rfl⟩ : ∃ w0 w1 w2 w3 w4 : Value, args = #[w0, w1, w2, w3, w4] := by
    have hs : args.size = 5 := by simpa [Cond.value, given_1] using h1
    obtain ⟨L⟩ := args
    match L, hs with
    | [w0, w1, w2, w3, w4], _ => exact ⟨w0, w1, w2, w3, w4, rfl⟩
  have hw := fun d (hd : d ∈ tables_1) => atoms_spec (ws := Jvm.Cond.code x code maxLocals ret :: tables_1) hat d (List.mem_cons_of_mem _ hd)
  obtain ⟨i0, e0⟩ := is_v t0
  obtain rfl : w0 = (.int i0) := Option.some.inj e0
  obtain ⟨i1, e1⟩ := is_v t1
  obtain rfl : w1 = (.int i1) := Option.some.inj e1
  obtain ⟨i2, e2⟩ := is_v t2
  obtain rfl : w2 = (.int i2) := Option.some.inj e2
  obtain ⟨i3, e3⟩ := is_v t3
  obtain rfl : w3 = (.int i3) := Option.some.inj e3
  obtain ⟨i4, e4⟩ := is_v g4
  obtain rfl : w4 = (.int i4) := Option.some.inj e4
  obtain ⟨n, o, h1, h2, h3, hfin⟩ := rm0 l s _ hw tables_1 i0 i1 i2 i3 i4 s.heap s.heap.size (Nat.le_refl _)  p e ha hc hk s m _ below hf ((Spec.applies_iff_loose hf).mp happ).1 ⟨rfl, State.Warmed39.refl s, rfl⟩ trivial
  obtain ⟨_, L, rfl, ⟨rfl, N⟩, hq⟩ := hfin
  refine ⟨n, _, h1, h2, h3, hpost _ _ _ _ _ _ ⟨Cond.after_iff.mpr rfl, Cond.after_iff.mpr (eq_i res_at (Term.int_eval (1)) rfl), trivial⟩ ⟨hq.1, hq.2.1, (hq.2.2.sift fun y hy => Or.inr (N y hy)).mono (by decide) (by decide)⟩⟩
theorem main_1_1 : Claimed_1_1 := comes_1 fun _ _ _ _ _ _ h hF => ⟨h.1, hF⟩
theorem main_1_2 : Claimed_1_2 := comes_1 fun _ _ _ _ _ _ h hF => ⟨h.2.1, hF⟩
end Jvm.Pilot.@@N@@
namespace Jvm.Pilot.@@N@@
open Jvm Jvm.ClassFile Sem Op Lib Jvm.Free Jvm.Stand Jvm.Pilot.@@N@@.Jvm.D
/-! MADE BY PROGRAM (witnessworld.py) out of the Statement's table words and the real class files: 11 classes; the members and pool entries that the words name. The judged class is class 1, her method 2. -/
namespace start1
open Jvm.ClassFile
def u (s : String) : CpInfo := .utf8 (stringToUtf16 s)
/-- a pool by its gaps: so many unusable entries, then the entry; so many at the end -/
def gap : Nat → List CpInfo → List CpInfo
  | 0, r => r
  | n + 1, r => .unusable :: gap n r
def poolList (es : List (Nat × CpInfo)) (last : Nat) : List CpInfo := es.foldr (fun e r => gap e.1 (e.2 :: r)) (gap last [])
def pool (es : List (Nat × CpInfo)) (last : Nat) : Array CpInfo := ⟨poolList es last⟩
def fileOf (pool : Array CpInfo) (this : Nat) (attrs : Array Attribute := #[]) (ms : Array MethodInfo := #[]) (fl : Nat := 33) (sup : Nat := 0) (ifs : Array Nat := #[]) (fds : Array FieldInfo := #[]) : ClassFile where
  minorVersion := 0
  majorVersion := 65
  constantPool := pool
  accessFlags := fl
  thisClass := this
  superClass := sup
  interfaces := ifs
  fields := fds
  methods := ms
  attributes := attrs
def plain (name : String) (sup : Option ClassId) : Class where
  name := name
  kind := .ordinary
  loader := none
  accessFlags := 33
  super := sup
  interfaces := #[]
  cf := none
  fields := #[]
  methods := #[]
  instanceTypes := #[]
  staticTypes := #[]
  resolved := #[]
  callSites := []
  init := .initialized
  statics := none
  mirror := none

def pool0 : Array CpInfo := pool [(5, u "<init>"), (0, u "()V"), (1, .class_ 10), (1, u "java/lang/Object")] 113

def k0m0 : Method := { name := "<init>", desc := "()V", sig := { parameters := [], returnType := none }, accessFlags := 1, code := none }
/-- java/lang/Object -/
def k0 : Class := { plain "java/lang/Object" none with
  accessFlags := 33
  interfaces := #[]
  cf := some (fileOf pool0 8 #[] #[{ accessFlags := 1, nameIndex := 5, descriptorIndex := 6, attributes := #[] }] 33 0 #[] #[])
  fields := #[]
  methods := #[k0m0]
  instanceTypes := #[]
  staticTypes := #[]
  resolved := Array.replicate 124 none
  statics := none }

def pool1 : Array CpInfo := pool [(2, .class_ 4), (1, u "java/lang/Object"), (0, u "<init>"), (0, u "()V"), (0, .double 4611686018427387904), (1, .methodref 10 11), (0, .class_ 12), (0, .nameAndType 13 14), (0, u "com/example/veritree/veritree/calibration/EffectiveSampleSize"), (0, u "of"), (0, u "([D)D"), (0, .methodref 16 17), (0, .class_ 18), (0, .nameAndType 19 20), (0, u "com/example/veritree/veritree/calibration/EffectiveSampleSizeOfPinLaw"), (0, u "isPosInf"), (0, u "(D)Z"), (0, .double 13830554455654793216), (1, .double 4616189618054758400), (4, u "law"), (0, u "(IIIII)Z")] 4

def k1m0 : Method := { name := "<init>", desc := "()V", sig := { parameters := [], returnType := none }, accessFlags := 2, code := none }
def k1c1 : Code := { maxStack := 4, maxLocals := 2, code := method_2_code, exceptionTable := #[], attributes := #[] }
def k1m1 : Method := { name := "isPosInf", desc := "(D)Z", sig := { parameters := [.double], returnType := some .boolean }, accessFlags := 10, code := some k1c1 }
def k1c2 : Code := { maxStack := 6, maxLocals := 29, code := code, exceptionTable := #[], attributes := #[] }
def k1m2 : Method := { name := "law", desc := "(IIIII)Z", sig := { parameters := [.int, .int, .int, .int, .int], returnType := some .boolean }, accessFlags := 9, code := some k1c2 }
/-- com/example/veritree/veritree/calibration/EffectiveSampleSizeOfPinLaw -/
def k1 : Class := { plain "com/example/veritree/veritree/calibration/EffectiveSampleSizeOfPinLaw" (some 0) with
  accessFlags := 49
  interfaces := #[]
  cf := some (fileOf pool1 16 #[] #[{ accessFlags := 2, nameIndex := 5, descriptorIndex := 6, attributes := #[] }, { accessFlags := 10, nameIndex := 19, descriptorIndex := 20, attributes := #[] }, { accessFlags := 9, nameIndex := 28, descriptorIndex := 29, attributes := #[] }] 49 2 #[] #[])
  fields := #[]
  methods := #[k1m0, k1m1, k1m2]
  instanceTypes := #[]
  staticTypes := #[]
  resolved := Array.replicate 34 none
  statics := none }

def pool2 : Array CpInfo := pool [(2, .class_ 4), (1, u "java/lang/Object"), (0, u "<init>"), (0, u "()V"), (0, .methodref 8 9), (0, .class_ 10), (0, .nameAndType 11 12), (0, u "com/example/veritree/veritree/calibration/EffectiveSampleSize"), (0, u "allEqual"), (0, u "([D)Z"), (0, .methodref 8 14), (0, .nameAndType 15 16), (0, u "autocovariance"), (0, u "([DI)D"), (0, .double 13830554455654793216), (1, .double 4611686018427387904), (3, .double 9218868437227405312), (3, u "of"), (0, u "([D)D")] 5

def k2m0 : Method := { name := "<init>", desc := "()V", sig := { parameters := [], returnType := none }, accessFlags := 2, code := none }
def k2c1 : Code := { maxStack := 6, maxLocals := 13, code := prog_1_method_2_code, exceptionTable := #[], attributes := #[] }
def k2m1 : Method := { name := "of", desc := "([D)D", sig := { parameters := [(.array .double)], returnType := some .double }, accessFlags := 9, code := some k2c1 }
def k2c2 : Code := { maxStack := 4, maxLocals := 6, code := prog_1_method_3_code, exceptionTable := #[], attributes := #[] }
def k2m2 : Method := { name := "allEqual", desc := "([D)Z", sig := { parameters := [(.array .double)], returnType := some .boolean }, accessFlags := 10, code := some k2c2 }
def k2c3 : Code := { maxStack := 7, maxLocals := 5, code := prog_1_method_4_code, exceptionTable := #[], attributes := #[] }
def k2m3 : Method := { name := "autocovariance", desc := "([DI)D", sig := { parameters := [(.array .double), .int], returnType := some .double }, accessFlags := 10, code := some k2c3 }
/-- com/example/veritree/veritree/calibration/EffectiveSampleSize -/
def k2 : Class := { plain "com/example/veritree/veritree/calibration/EffectiveSampleSize" (some 0) with
  accessFlags := 49
  interfaces := #[]
  cf := some (fileOf pool2 8 #[] #[{ accessFlags := 2, nameIndex := 5, descriptorIndex := 6, attributes := #[] }, { accessFlags := 9, nameIndex := 27, descriptorIndex := 28, attributes := #[] }, { accessFlags := 10, nameIndex := 11, descriptorIndex := 12, attributes := #[] }, { accessFlags := 10, nameIndex := 15, descriptorIndex := 16, attributes := #[] }] 49 2 #[] #[])
  fields := #[]
  methods := #[k2m0, k2m1, k2m2, k2m3]
  instanceTypes := #[]
  staticTypes := #[]
  resolved := Array.replicate 34 none
  statics := none }

def pool3 : Array CpInfo := pool [(1, u "java/lang/Cloneable"), (0, .class_ 1), (0, u "java/lang/Object"), (0, .class_ 3)] 3

/-- java/lang/Cloneable -/
def k3 : Class := { plain "java/lang/Cloneable" (some 0) with
  accessFlags := 1537
  interfaces := #[]
  cf := some (fileOf pool3 2 #[] #[] 1537 4 #[] #[])
  fields := #[]
  methods := #[]
  instanceTypes := #[]
  staticTypes := #[]
  resolved := Array.replicate 8 none
  statics := none }

def pool4 : Array CpInfo := pool [(1, u "java/io/Serializable"), (0, .class_ 1), (0, u "java/lang/Object"), (0, .class_ 3)] 3

/-- java/io/Serializable -/
def k4 : Class := { plain "java/io/Serializable" (some 0) with
  accessFlags := 1537
  interfaces := #[]
  cf := some (fileOf pool4 2 #[] #[] 1537 4 #[] #[])
  fields := #[]
  methods := #[]
  instanceTypes := #[]
  staticTypes := #[]
  resolved := Array.replicate 8 none
  statics := none }

/-- the primitive byte -/
def k5 : Class := { plain "byte" none with kind := .primitive 'B', accessFlags := 0x411 }
/-- [B -/
def k6 : Class := { plain "[B" (some 0) with kind := .array 5 .byte, interfaces := #[3, 4], accessFlags := 1041 }

/-- the primitive double -/
def k7 : Class := { plain "double" none with kind := .primitive 'D', accessFlags := 0x411 }
/-- [D -/
def k8 : Class := { plain "[D" (some 0) with kind := .array 7 .double, interfaces := #[3, 4], accessFlags := 1041 }

/-- the primitive int -/
def k9 : Class := { plain "int" none with kind := .primitive 'I', accessFlags := 0x411 }
/-- [I -/
def k10 : Class := { plain "[I" (some 0) with kind := .array 9 .int, interfaces := #[3, 4], accessFlags := 1041 }

def heap : Heap := #[]
def classes : Array Class := #[k0, k1, k2, k3, k4, k5, k6, k7, k8, k9, k10]
def interned : List (Array UInt16 × Addr) := []
def slotsUsed : Nat := 0
def theMethod : MethodId := ⟨1, 2⟩
def args0 : Array Value := #[.int 5, .int 6, .int 7, .int 8, .int 9]
def aboutOver (below : List Frame) : State where
  vm := { classes := classes, interned := interned.toArray }
  heap := heap
  slotsUsed := slotsUsed
  threads := #[{ frames := .invoking theMethod args0 :: below }]
def below0 : List Frame := [.native { method := ⟨0, 0⟩, args := #[] }]
def about1 : State := aboutOver below0
def p0 : Program := .bare "" "" ""
def e0 : Env := launch0.env 0 0 0
theorem w_frames : about1.frames = Frame.invoking theMethod args0 :: below0 := rfl
set_option maxRecDepth 65536 in
theorem w_args : argsFit about1.vm theMethod args0 = true := by decide +kernel
set_option maxRecDepth 65536 in
theorem w_heap : heapFits about1 = true := by decide +kernel
set_option maxRecDepth 65536 in
theorem w_runnable : about1.curStatus? = some .runnable := by decide +kernel
set_option maxRecDepth 65536 in
theorem w_alone : about1.alone = true := by decide +kernel
set_option maxRecDepth 65536 in
theorem w_named : about1.methodNamed? x = some theMethod := by decide +kernel
set_option maxRecDepth 65536 in
theorem w_hears : about1.hears theMethod below0 = true := by decide +kernel
set_option maxRecDepth 65536 in
theorem w_ripe : about1.ripe theMethod args0 below0 = true := by decide +kernel
theorem w_running : about1.status = .running := rfl
set_option maxRecDepth 65536 in
theorem w_room : about1.hasRoom e0.platform room_1 = true :=
  launch0.hasRoom_least _ room_1 (by decide +kernel) (by decide +kernel) (by decide +kernel) (by decide +kernel) (by decide +kernel) (by decide +kernel)
theorem allAtoms_all (ts : List Jvm.Cond) (a : Array Jvm.Value) (st : Jvm.State) : (allAtoms ts).before a st = ts.all (fun c => c.before a st) := by
  induction ts with
  | nil => rfl
  | cons c t ih =>
    show (Jvm.Cond.and c (allAtoms t)).before a st = _
    rw [Jvm.Cond.before_and, ih, List.all_cons]
def words1 : List Jvm.Cond := Jvm.Cond.code x code maxLocals ret :: tables_1
/-- a 'code' word, met by the world's own term for the bytes: nothing is compared byte by byte -/
theorem code_word {y : MethodName} {bytes : ByteArray} {mx : Nat} {rt : Option FieldType} {a : Array Value} {s : State} {m : MethodId} {meth : Method} {c : Code} (h1 : s.methodNamed? y = some m) (h2 : s.vm.method? m = some meth) (h3 : meth.code = some c) (h4 : c.code = bytes)
    (h5 : (c.maxLocals == mx && c.exceptionTable.isEmpty && decide (c.maxStack ≤ mostOperands) && decide (meth.sig.returnType = rt) && !meth.locks && decide (parseMethodDescriptor y.desc = some meth.sig)) = true) : (Jvm.Cond.code y bytes mx rt).before a s = true := by
  simp only [Bool.and_eq_true, beq_iff_eq, Bool.not_eq_true', decide_eq_true_eq] at h5
  obtain ⟨⟨⟨⟨⟨g1, g2⟩, g3⟩, g4⟩, g5⟩, g6⟩ := h5
  simp [Cond.before, Cond.holds, Cond.value, h1, h2, h3, h4, g1, g2, g3, g4, g5, g6]
def isCode : Jvm.Cond → Bool
  | .code _ _ _ _ => true
  | _ => false
theorem all_split {L : List Jvm.Cond} {P : Jvm.Cond → Bool} (h1 : L.all (fun c => isCode c || P c) = true) (h2 : ∀ c ∈ L.filter isCode, P c = true) : L.all P = true := by
  refine List.all_eq_true.mpr fun c hc => ?_
  have h := List.all_eq_true.mp h1 c hc
  rcases Bool.eq_false_or_eq_true (isCode c) with hi | hi
  · exact h2 c (List.mem_filter.mpr ⟨hc, hi⟩)
  · simpa [hi] using h
set_option maxRecDepth 65536 in
theorem w_c0 : (Jvm.Cond.code x code maxLocals ret).before args0 about1 = true := code_word (m := ⟨1, 2⟩) (meth := k1m2) (c := k1c2) (by decide +kernel) rfl rfl rfl (by decide +kernel)
set_option maxRecDepth 65536 in
theorem w_c1 : (Jvm.Cond.code ({ cls := "com/example/veritree/veritree/calibration/EffectiveSampleSize", name := "of", desc := "([D)D" } : Jvm.MethodName) prog_1_method_2_code (13 : Nat) (Option.some Jvm.ClassFile.FieldType.double)).before args0 about1 = true := code_word (m := ⟨2, 1⟩) (meth := k2m1) (c := k2c1) (by decide +kernel) rfl rfl rfl (by decide +kernel)
set_option maxRecDepth 65536 in
theorem w_c2 : (Jvm.Cond.code ({ cls := "com/example/veritree/veritree/calibration/EffectiveSampleSize", name := "allEqual", desc := "([D)Z" } : Jvm.MethodName) prog_1_method_3_code (6 : Nat) (Option.some Jvm.ClassFile.FieldType.boolean)).before args0 about1 = true := code_word (m := ⟨2, 2⟩) (meth := k2m2) (c := k2c2) (by decide +kernel) rfl rfl rfl (by decide +kernel)
set_option maxRecDepth 65536 in
theorem w_c3 : (Jvm.Cond.code ({ cls := "com/example/veritree/veritree/calibration/EffectiveSampleSize", name := "autocovariance", desc := "([DI)D" } : Jvm.MethodName) prog_1_method_4_code (5 : Nat) (Option.some Jvm.ClassFile.FieldType.double)).before args0 about1 = true := code_word (m := ⟨2, 3⟩) (meth := k2m3) (c := k2c3) (by decide +kernel) rfl rfl rfl (by decide +kernel)
set_option maxRecDepth 65536 in
theorem w_c4 : (Jvm.Cond.code ({ cls := "com/example/veritree/veritree/calibration/EffectiveSampleSizeOfPinLaw", name := "isPosInf", desc := "(D)Z" } : Jvm.MethodName) method_2_code (2 : Nat) (Option.some Jvm.ClassFile.FieldType.boolean)).before args0 about1 = true := code_word (m := ⟨1, 1⟩) (meth := k1m1) (c := k1c1) (by decide +kernel) rfl rfl rfl (by decide +kernel)
def codes1 : List Jvm.Cond := [Jvm.Cond.code x code maxLocals ret, Jvm.Cond.code ({ cls := "com/example/veritree/veritree/calibration/EffectiveSampleSize", name := "of", desc := "([D)D" } : Jvm.MethodName) prog_1_method_2_code (13 : Nat) (Option.some Jvm.ClassFile.FieldType.double), Jvm.Cond.code ({ cls := "com/example/veritree/veritree/calibration/EffectiveSampleSize", name := "allEqual", desc := "([D)Z" } : Jvm.MethodName) prog_1_method_3_code (6 : Nat) (Option.some Jvm.ClassFile.FieldType.boolean), Jvm.Cond.code ({ cls := "com/example/veritree/veritree/calibration/EffectiveSampleSize", name := "autocovariance", desc := "([DI)D" } : Jvm.MethodName) prog_1_method_4_code (5 : Nat) (Option.some Jvm.ClassFile.FieldType.double), Jvm.Cond.code ({ cls := "com/example/veritree/veritree/calibration/EffectiveSampleSizeOfPinLaw", name := "isPosInf", desc := "(D)Z" } : Jvm.MethodName) method_2_code (2 : Nat) (Option.some Jvm.ClassFile.FieldType.boolean)]
set_option maxRecDepth 65536 in
theorem codes_eq : words1.filter isCode = codes1 := rfl
theorem w_codes : ∀ c ∈ words1.filter isCode, c.before args0 about1 = true := by
  rw [codes_eq]
  intro c hc
  simp only [codes1, List.mem_cons, List.not_mem_nil, or_false] at hc
  rcases hc with rfl | rfl | rfl | rfl | rfl
  · exact w_c0
  · exact w_c1
  · exact w_c2
  · exact w_c3
  · exact w_c4
set_option maxRecDepth 65536 in
theorem w_t1 : words1.all (fun c => isCode c || c.before args0 about1) = true := by decide +kernel
theorem w_tables : (allAtoms (Jvm.Cond.code x code maxLocals ret :: tables_1)).before args0 about1 = true := by
  rw [allAtoms_all]
  show words1.all (fun c => c.before args0 about1) = true
  refine all_split ?_ w_codes
  rw [w_t1]
set_option maxRecDepth 65536 in
theorem w_case : (Jvm.Cond.and given_1 narrow_1).before args0 about1 = true := by decide +kernel
theorem w_applies : (headSpec (Jvm.Cond.code x code maxLocals ret :: tables_1) room_1).applies x e0.platform about1 = true :=
  (Spec.applies_iff w_frames).mpr ⟨w_running, w_runnable, w_alone, w_named, w_hears, w_ripe, w_room, w_tables⟩
theorem atStart : AtStart classFile x code maxLocals ret World_1 tables_1 room_1 Calls_1 rest_1 Pre_1 launch0 p0 e0 about1 theMethod args0 below0 :=
  ⟨lists_1, trivial, launch0.admits_env _ _ _, launch0.least_env, fairChoices_fair.cas, fairChoices_fair.clock, w_frames, w_args, w_heap, w_applies, trivial, trivial, w_case⟩
end start1
theorem witness_1 : WitnessClaimed_1 := ⟨start1.p0, start1.e0, start1.about1, start1.theMethod, start1.args0, start1.below0, start1.atStart⟩
end Jvm.Pilot.@@N@@
